import PyProof.Rows.All
import Wide.All
import OpenK.AllK
import Wide.FinOn
import Lean
import PySem.Challenge.RW_ek5003_01
open PySem PySem.W PySem.W.X PyProof.Rows
set_option Elab.async false
namespace Mine
local macro_rules | `(tactic| k_head) => `(tactic| x_head)
set_option maxRecDepth 100000
set_option maxHeartbeats 8000000
open_top hdx for PySem.Challenge.rw_ek5003_01
end Mine
namespace Mine
set_option maxRecDepth 100000
set_option maxHeartbeats 0
abbrev P := PySem.Challenge.pw_ek5003_01
section
variable {α β : Type} {prog : Program} {w : World} {A : Around} {E : Value → Shared → Prop} {Q : α → Shared → Prop} {h₀ h : Heap} {chg news : List (Addr × Obj)} {g : Array GenState} {d : Drawn} {t : Nat} {os : OsState}
theorem m_load {a : Addr} {q : Option Value} {k : Obj → Sem α} {o : Obj} (ho : h.get? a = some o) (x : wpAny (model prog w) A (k o) Q E ⟨h, g, d, t, os⟩) : wpAny (model prog w) A (.load a q k) Q E ⟨h, g, d, t, os⟩ :=
  wpAny_bind (m := loadPart a q) (f := k) (wpAny_loadPart ho x)
theorem m_alloc {o : Obj} {k : Addr → Sem α} (D : Mem h₀ h chg news) (hf : o.isFreed = false)
    (x : ∀ a h', Mem h₀ h' chg ((a, o) :: news) → wpAny (model prog w) A (k a) Q E ⟨h', g, d, t, os⟩) : wpAny (model prog w) A (.alloc o k) Q E ⟨h, g, d, t, os⟩ :=
  wpAny_bind (m := alloc o) (f := k) (wpAny_alloc (x _ _ (D.alloc hf)))
theorem Mem.above {a b : Addr} {o ob : Obj} (D : Mem h₀ h chg ((a, o) :: (b, ob) :: news)) : b < a := by
  have := D.ord
  simp only [List.map_cons, List.pairwise_cons] at this
  exact this.1 b (.head _)
theorem Mem.low {a : Addr} {o : Obj} (D : Mem h₀ h chg ((a, o) :: news)) (hs : ∀ b, b < 87 → ∃ o, h₀.get? b = some o) : 87 ≤ a := by
  refine Nat.le_of_not_lt fun hl => ?_
  obtain ⟨o', e⟩ := hs a hl
  have := (D.nw _ (.head _)).2
  rw [this] at e
  cases e
theorem m_allocG {o : Obj} {k : Addr → Sem α} {b : Addr} {ob : Obj} (D : Mem h₀ h chg ((b, ob) :: news)) (hf : o.isFreed = false)
    (x : ∀ a h', Mem h₀ h' chg ((a, o) :: (b, ob) :: news) → (@LT.lt Nat _ b a) → wpAny (model prog w) A (k a) Q E ⟨h', g, d, t, os⟩) : wpAny (model prog w) A (.alloc o k) Q E ⟨h, g, d, t, os⟩ :=
  m_alloc D hf fun a h' D' => x a h' D' (Mem.above D')
theorem Mem.low' {a : Addr} {o : Obj} (D : Mem h₀ h chg ((a, o) :: news)) (N : Nat) (hN : ∀ b, b < N → ∃ o, h₀.get? b = some o) : N ≤ a := by
  refine Nat.le_of_not_lt fun hl => ?_
  obtain ⟨o', e⟩ := hN a hl
  have := (D.nw _ (.head _)).2
  rw [this] at e
  cases e
theorem m_allocF' {o : Obj} {k : Addr → Sem α} {N : Nat} (hs : ∀ b, b < N → ∃ o, h₀.get? b = some o) (D : Mem h₀ h chg []) (hf : o.isFreed = false)
    (x : ∀ a h', Mem h₀ h' chg [(a, o)] → (@LE.le Nat _ N a) → wpAny (model prog w) A (k a) Q E ⟨h', g, d, t, os⟩) : wpAny (model prog w) A (.alloc o k) Q E ⟨h, g, d, t, os⟩ :=
  m_alloc D hf fun a h' D' => x a h' D' (Mem.low' D' N hs)
theorem m_allocS {o : Obj} {k : Addr → Sem α} (D : Mem h h chg []) (hf : o.isFreed = false)
    (x : ∀ a h', Mem h h' chg [(a, o)] → (@LE.le Nat _ h.objs.size a) → wpAny (model prog w) A (k a) Q E ⟨h', g, d, t, os⟩) : wpAny (model prog w) A (.alloc o k) Q E ⟨h, g, d, t, os⟩ :=
  wpAny_bind (m := alloc o) (f := k) (wpAny_alloc (x _ _ (D.alloc hf) (Nat.le_refl _)))
theorem m_allocF {o : Obj} {k : Addr → Sem α} (hs : ∀ b, b < 87 → ∃ o, h₀.get? b = some o) (D : Mem h₀ h chg []) (hf : o.isFreed = false)
    (x : ∀ a h', Mem h₀ h' chg [(a, o)] → (@LE.le Nat _ 87 a) → wpAny (model prog w) A (k a) Q E ⟨h', g, d, t, os⟩) : wpAny (model prog w) A (.alloc o k) Q E ⟨h, g, d, t, os⟩ :=
  m_alloc D hf fun a h' D' => x a h' D' (Mem.low D' hs)
theorem m_update {a : Addr} {q : Option Value} {f : Obj → Obj} {k : Unit → Sem α} {o : Obj} (D : Mem h₀ h chg news) (i : Nat) (hi : news[i]? = some (a, o))
    (hf : (f o).isFreed = false) (x : ∀ h', Mem h₀ h' chg (news.set i (a, f o)) → wpAny (model prog w) A (k ()) Q E ⟨h', g, d, t, os⟩) : wpAny (model prog w) A (.update a q f k) Q E ⟨h, g, d, t, os⟩ :=
  wpAny_bind (m := updatePart a q f) (f := k) (wpAny_updatePart (D.at i a o hi) (x _ (D.update hi hf)))
theorem m_upd {a : Addr} {q : Option Value} {f : Obj → Obj} {k : Unit → Sem α} {o : Obj} (D : Mem h₀ h chg news) (i : Nat) (o' : Obj) (hi : news[i]? = some (a, o)) (e : f o = o')
    (hf : o'.isFreed = false) (x : ∀ h', Mem h₀ h' chg (news.set i (a, o')) → wpAny (model prog w) A (k ()) Q E ⟨h', g, d, t, os⟩) : wpAny (model prog w) A (.update a q f k) Q E ⟨h, g, d, t, os⟩ := by
  subst e
  exact m_update D i hi hf x
theorem m_fresh {k : Tok → Sem α} (x : wpAny (model prog w) A (k t) Q E ⟨h, g, d, t + 1, os⟩) : wpAny (model prog w) A (.fresh k) Q E ⟨h, g, d, t, os⟩ := fun Γ p hΓ => x Γ p hΓ
theorem m_bind {s : Shared} {m : Sem β} {f : β → Sem α} (x : wpAny (model prog w) A m (fun a s' => wpAny (model prog w) A (f a) Q E s') E s) : wpAny (model prog w) A (Sem.bind m f) Q E s := wpAny_bind x
theorem m_keep {s : Shared} {m : Sem α} {vs : List Value} (x : wpAny (model prog w) A m Q E s) : wpAny (model prog w) A (Sem.keep vs m) Q E s := Calls.wpAny_keep x
theorem m_onRaise {s : Shared} {m : Sem α} {k : Value → Sem Unit} (x : wpAny (model prog w) A m Q (fun _ _ => False) s) : wpAny (model prog w) A (Sem.onRaise m k) Q E s := wpAny_onRaise (wpAny_mono x (fun _ _ q => q) fun _ _ q => q.elim)
theorem m_try {s : Shared} {m : Sem α} {k : Value → Sem α} (x : wpAny (model prog w) A m Q (fun _ _ => False) s) : wpAny (model prog w) A (Sem.tryCatch m k) Q E s := wpAny_tryCatch (wpAny_mono x (fun _ _ q => q) fun _ _ q => q.elim)
theorem is_alloc {s : Shared} {M : Model} {o : Obj} {k : Addr → Sem α} (x : wpAny M A (.alloc o k) Q E s) : wpAny M A (.alloc o k) Q E s := x
theorem is_update {s : Shared} {M : Model} {a : Addr} {q : Option Value} {f : Obj → Obj} {k : Unit → Sem α} (x : wpAny M A (.update a q f k) Q E s) : wpAny M A (.update a q f k) Q E s := x
theorem is_call {s : Shared} {M : Model} {c : Code} {hd : Option Value} {g : Bool} {l : List Value} {k : Result → Sem α} (x : wpAny M A (.call c hd g l k) Q E s) : wpAny M A (.call c hd g l k) Q E s := x
theorem is_load {s : Shared} {M : Model} {a : Addr} {q : Option Value} {k : Obj → Sem α} (x : wpAny M A (.load a q k) Q E s) : wpAny M A (.load a q k) Q E s := x
theorem m_eq {s : Shared} {t t' : Sem α} (e : t = t') (x : wpAny (model prog w) A t' Q E s) : wpAny (model prog w) A t Q E s := by rw [e]; exact x
theorem m_stack {s : Shared} {k : List (Code × Pos) → Sem α}
   (x : ∀ st, Lies A st → wpAny (model prog w) A (k st) Q E s) : wpAny (model prog w) A (.stack k) Q E s := fun Γ p hΓ => x _ (lies_of hΓ) Γ p hΓ
theorem rec_yes {s : Shared} {p : Prop} {d : Decidable p} {f : ¬ p → Sem α} {t : p → Sem α} (hp : p) (x : wpAny (model prog w) A (t hp) Q E s) : wpAny (model prog w) A (@Decidable.rec p (fun _ => Sem α) f t d) Q E s := by
  cases d with
  | isTrue _ => exact x
  | isFalse h => exact absurd hp h
theorem rec_no {s : Shared} {p : Prop} {d : Decidable p} {f : ¬ p → Sem α} {t : p → Sem α} (hp : ¬ p) (x : wpAny (model prog w) A (f hp) Q E s) : wpAny (model prog w) A (@Decidable.rec p (fun _ => Sem α) f t d) Q E s := by
  cases d with
  | isTrue h => exact absurd h hp
  | isFalse _ => exact x
end
theorem m_entry {prog : Program} {w : World} {A : Around} {E : Value → Shared → Prop} {Q : Fin → Shared → Prop} {s : Shared} {id : String} {b : Builtin} {args : Args} (he : entryFor table id = some b)
    (x : wpAny (model prog w) A (b args) Q E s) : wpAny (model prog w) A (denote table (.builtin id args)) Q E s := by
  show wpAny _ _ (match entryFor table id with | some b => b args | none => _) Q E s
  rw [he]; exact x
section
variable {α : Type} {prog : Program} {w : World} {A A' : Around} {E : Value → Shared → Prop} {Q : α → Shared → Prop} {s : Shared}
theorem m_code {R : Result → Shared → Prop} {c : Code} (x : wpAny (model prog w) (A.under c) (denote table c) (postC prog w A R) (postE R) s) : codeAny (model prog w) A c R s :=
  x_code (wpAny_mono x (fun fin _ h => by cases fin <;> exact h) fun _ _ h => h)
theorem m_call {c : Code} {hd : Option Value} {g : Bool} {l : List Value} {k : Result → Sem α} (hnb : hd ≠ some byPass) (x : codeAny (model prog w) (A.mark hd) c (postA prog w A Q E k) s) : wpAny (model prog w) A (.call c hd g l k) Q E s := x_call x hnb
theorem m_again {R : Result → Shared → Prop} {c : Code} (hq : c.quiet = true) (x : wpAny (model prog w) (A.under c) (denote table c) (postC prog w A R) (postE R) s) : postC prog w A R (.again c) s := ⟨hq, m_code x⟩
theorem m_done {f : Flow} {k : Result → Sem α} (x : wpAny (model prog w) A (k (.ok f)) Q E s) : postC prog w A' (postA prog w A Q E k) (.done f) s := x
end
structure Bar (p : Prop) : Prop where
  out : p
theorem m_bindB {α β : Type} {M : Model} {A : Around} {E : Value → Shared → Prop} {Q : α → Shared → Prop} {s : Shared} {m : Sem β} {f : β → Sem α} (x : wpAny M A m (fun a s' => Bar (wpAny M A (f a) Q E s')) E s) : wpAny M A (Sem.bind m f) Q E s := wpAny_bind (wpAny_mono x (fun _ _ h => h.out) fun _ _ h => h)
structure Ent (id : String) (b : Builtin) : Prop where
  entry : entryFor table id = some b
  quiet : id.startsWith "lifetime." = false
theorem Ent.again {prog : Program} {w : World} {A : Around} {R : Result → Shared → Prop} {s : Shared} {id : String} {b : Builtin} {args : Args} (e : Ent id b)
    (x : wpAny (model prog w) (A.under (.builtin id args)) (b args) (postC prog w A R) (postE R) s) : postC prog w A R (.again (.builtin id args)) s :=
  m_again (Code.quiet_builtin args e.quiet) (m_entry (Q := _) e.entry x)
theorem Ent.call {α : Type} {prog : Program} {w : World} {A : Around} {Q : α → Shared → Prop} {E : Value → Shared → Prop} {s : Shared} {id : String} {b : Builtin} {args : Args} {hd : Option Value} {g : Bool} {l : List Value} {k : Result → Sem α} (e : Ent id b) (hnb : hd ≠ some byPass)
    (x : wpAny (model prog w) ((A.mark hd).under (.builtin id args)) (b args) (postC prog w (A.mark hd) (postA prog w A Q E k)) (postE (postA prog w A Q E k)) s) : wpAny (model prog w) A (.call (.builtin id args) hd g l k) Q E s :=
  m_call hnb (m_code (m_entry e.entry x))
theorem m_callf {α : Type} {prog : Program} {w : World} {A : Around} {Q : α → Shared → Prop} {E : Value → Shared → Prop} {s : Shared} {f : Value} {args : Args} {hd : Option Value} {g : Bool} {l : List Value} {k : Result → Sem α} (hnb : hd ≠ some byPass)
    (x : wpAny (model prog w) ((A.mark hd).under (.call f args)) (denote table (.call f args)) (postC prog w (A.mark hd) (postA prog w A Q E k)) (postE (postA prog w A Q E k)) s) : wpAny (model prog w) A (.call (.call f args) hd g l k) Q E s :=
  m_call hnb (m_code x)
/-- the written part without the three tables that grow -/
noncomputable def K2 (p : Params) : Frag := (Mine.hdx.heap_39 p).filter fun x => !([37, 59, 73] : List Nat).contains x.1
theorem kin {w : World} {h : Heap} (KX : Frag.In (K2 w.params) h) (a : Nat) (o : Obj) (e : (K2 w.params).lookup a = some o) : h.get? a = some o := KX a o e
theorem size87 {w : World} {h : Heap} (KX : Frag.In (K2 w.params) h) : @LE.le Nat _ 87 h.objs.size := Heap.lt_size (kin KX 86 _ rfl)
theorem mold {h₀ h : Heap} {chg news : List (Addr × Obj)} {a : Addr} {o : Obj} (D : Mem h₀ h chg news) (e : h₀.get? a = some o) (q : (hasCls o || away chg a) = true) : h.get? a = some o := D.old a o e q
end Mine
namespace Mine
set_option maxRecDepth 100000
set_option maxHeartbeats 0
def A0 : Around := ⟨none, 800, none, none, 6000⟩
theorem wp_at {α : Type} {M : Model} {A : Around} {t : Sem α} {Q : α → Shared → Prop} {E : Value → Shared → Prop} {s : Shared} (hh : A.handled = none) (hd : A.depth ≤ 800) (hu : A.units ≤ 6000)
    (h : wpAny M A0 t Q E s) : wpAny M A t Q E s := fun Γ p hΓ =>
  h Γ p (by
    obtain ⟨h1, h2, h3, h4, h5⟩ := hΓ
    refine ⟨h1.trans hh, Nat.le_trans h2 hd, ?_, ?_, Nat.le_trans h5 hu⟩
    · intro l e; cases e
    · intro l e; cases e)
/-- all old objects stay -/
def Keeps (h h' : Heap) : Prop := ∀ a o, h.get? a = some o → h'.get? a = some o
theorem keeps_of {h h' : Heap} {news : List (Addr × Obj)} (D : Mem h h' [] news) : Keeps h h' := fun a o e => D.keep a o e (by simp [away])
set_option hygiene false in
local macro_rules | `(tactic| x_close) => `(tactic| (refine x _ _ _ ?_ ?_; exact keeps_of (by assumption); exact Mem.at (by assumption) 0 _ _ rfl))
theorem m_sub {α : Type} {prog : Program} {w : World} {A : Around} {Q : α → Shared → Prop} {E : Value → Shared → Prop} {s : Shared} {c : Code} {hd : Option Value} {g g' : Bool} {l l' : List Value} {k : Result → Sem α} {Qr : Result → Shared → Prop}
   (h : wpAny (model prog w) A (.call c hd g l Sem.pure) Qr (fun _ _ => False) s) (hk : ∀ r s', Qr r s' → wpAny (model prog w) A (k r) Q E s') : wpAny (model prog w) A (.call c hd g' l' k) Q E s := fun Γ p hΓ => by
  have q := h Γ p hΓ
  rw [Sem.wp_call] at q ⊢
  exact wpCode_mono (fun r s' z => hk r s' z Γ p hΓ) q
def Rt (h : Heap) (gg : Array GenState) (dd : Drawn) (os : OsState) (P : Value → Heap → Prop) : Result → Shared → Prop := fun r s' => ∃ v h' tt', r = .ok (.ret v) ∧ s' = ⟨h', gg, dd, tt', os⟩ ∧ Keeps h h' ∧ P v h'
/-- a call that keeps all old objects and hands back a value of which P holds -/
def Does (w : World) (c : Code) (h : Heap) (P : Value → Heap → Prop) : Prop :=
  ∀ gg dd tt os, wpAny (model Mine.P w) A0 (.call c none true [] Sem.pure) (Rt h gg dd os P) (fun _ _ => False) ⟨h, gg, dd, tt, os⟩
theorem Does.use {α : Type} {w : World} {A : Around} {Q : α → Shared → Prop} {E : Value → Shared → Prop} {h : Heap} {gg : Array GenState} {dd : Drawn} {tt : Nat} {os : OsState} {c : Code} {g : Bool} {l : List Value} {k : Result → Sem α} {P : Value → Heap → Prop}
   (d : Does w c h P) (hh : A.handled = none) (hd : A.depth ≤ 800) (hu : A.units ≤ 6000)
   (x : ∀ v h' tt', Keeps h h' → P v h' → wpAny (model Mine.P w) A (k (.ok (.ret v))) Q E ⟨h', gg, dd, tt', os⟩) : wpAny (model Mine.P w) A (.call c none g l k) Q E ⟨h, gg, dd, tt, os⟩ :=
  m_sub (wp_at hh hd hu (d gg dd tt os)) (by rintro _ _ ⟨v, h', tt', rfl, rfl, hk, hp⟩; exact x v h' tt' hk hp)
set_option hygiene false in
local macro_rules | `(tactic| x_close) => `(tactic| (refine ⟨_, _, _, rfl, rfl, (by first | exact keeps_of (by assumption) | exact fun _ _ e => e), ?_⟩; first | exact ⟨_, rfl, Mem.at (by assumption) 0 _ _ rfl⟩ | exact rfl))
theorem collect_x (w : World) (h : Heap) (so : Addr) (t1 n : Nat)
   (hso : h.get? so = some ⟨.type "list", none, .seq #[.str "obj" t1] n, #[]⟩) :
   Does w (.builtin "proto.collect" ⟨[.ref so], []⟩) h (fun v h' => ∃ a, v = .ref a ∧ h'.get? a = some ⟨.type "list", none, .seq #[.str "obj" t1] 1, #[]⟩) := by
  intro gg dd tt os
  x_run
def supObj (K : Addr) : Obj := ⟨.type "super", none, .fields #[.ref K, .ref K, .ref K], #[]⟩
def clsObj (K nsA b : Addr) (t0 t2 : Nat) : Obj := ⟨.type "type", none, .cls { name := "K", bases := [.type "object"], mro := [.ref K, .type "object"], ns := nsA, qualname := "cmp_to_key.<locals>.K", hasDict := false, slotNames := ["obj"] }, #[some (.ref b), none, some (.str "K" t0), some (.str "cmp_to_key.<locals>.K" t2), some (.builtin "object.__new__"), some (.bool false)]⟩
theorem super_x (w : World) (h : Heap) (K nsA b : Addr) (t0 t2 : Nat)
   (KX : Frag.In (K2 w.params) h)
   (hK : h.get? K = some (clsObj K nsA b t0 t2)) :
   Does w (.call (.type "super") ⟨[.ref K, .ref K], []⟩) h (fun v h' => ∃ a, v = .ref a ∧ h'.get? a = some (supObj K)) := by
  unfold clsObj at hK
  intro gg dd tt os
  x_run
def bmObj (K : Addr) : Obj := ⟨.type "builtin_function_or_method", none, .fields #[.builtin "object.__init_subclass__", .ref K], #[]⟩
theorem cget_x (w : World) (h : Heap) (K nsA b : Addr) (t0 t2 : Nat)
   (hK : h.get? K = some (clsObj K nsA b t0 t2)) :
   Does w (.call (.builtin "classmethod_descriptor.__get__") ⟨[.builtin "object.__init_subclass__", .none, .ref K], []⟩) h (fun v h' => ∃ a, v = .ref a ∧ h'.get? a = some (bmObj K)) := by
  unfold clsObj at hK
  intro gg dd tt os
  x_run
theorem init_x (w : World) (h : Heap) (K nsA b bm : Addr) (t0 t2 : Nat)
   (KX : Frag.In (K2 w.params) h)
   (hK : h.get? K = some (clsObj K nsA b t0 t2)) (hbm : h.get? bm = some (bmObj K)) :
   Does w (.call (.ref bm) ⟨[], []⟩) h (fun v h' => v = .none) := by
  unfold clsObj at hK
  unfold bmObj at hbm
  intro gg dd tt os
  x_run
theorem m_codeEq {α : Type} {prog : Program} {w : World} {A : Around} {Q : α → Shared → Prop} {E : Value → Shared → Prop} {s : Shared} {c : Code} {hd : Option Value} {g : Bool} {l : List Value} {k : Result → Sem α} (c' : Code) (e : c = c')
   (x : wpAny (model prog w) A (.call c' hd g l k) Q E s) : wpAny (model prog w) A (.call c hd g l k) Q E s := by rw [e]; exact x
theorem codeEq2 {f f' : String} {a : Args} (h : f = f') : Code.call (.builtin f) a = Code.call (.builtin f') a := by rw [h]
theorem codeEq3 {f f' x x' : String} {y y' z : Value} (h : f = f') (h2 : x = x') (h3 : y = y') : Code.call (.builtin f) ⟨[.builtin x, y, z], []⟩ = Code.call (.builtin f') ⟨[.builtin x', y', z], []⟩ := by rw [h, h2, h3]
end Mine
namespace Mine
local macro_rules | `(tactic| walk_at "my hnf") => `(tactic| (conv => arg 3; whnf))
set_option maxRecDepth 100000
set_option maxHeartbeats 0
set_option pp.deepTerms false
set_option pp.proofs false
set_option pp.maxSteps 3000
set_option hygiene false in
local macro_rules | `(tactic| walk_at "my ldm") => `(tactic| first
  | (exact Mem.at D 0 _ _ rfl) | (exact Mem.at D 1 _ _ rfl) | (exact Mem.at D 2 _ _ rfl) | (exact Mem.at D 3 _ _ rfl) | (exact Mem.at D 4 _ _ rfl)| (exact Mem.at D 5 _ _ rfl)| (exact Mem.at D 6 _ _ rfl)| (exact Mem.at D 7 _ _ rfl)| (exact Mem.at D 8 _ _ rfl)| (exact Mem.at D 9 _ _ rfl)
  | (exact mold D (by assumption) rfl)
  | (exact mold D (kin KX _ _ rfl) rfl))
theorem fx1 : Builtin.Slots.isIdentifier (Str.ofString "obj") = some true := by decide +kernel
theorem fx2 : Builtin.Slots.mangle (Str.ofString "K") (Str.ofString "obj") = Str.ofString "obj" := by decide +kernel
local macro_rules | `(tactic| walk_at "my ldstep") => `(tactic| (with_reducible refine' m_load ?a ?b; (case a => (walk_at "my ldm"; done))))
local macro_rules | `(tactic| walk_at "my dec") => `(tactic| first
  | (refine rec_no ?kk ?_; (case kk => (decide +kernel; done)))
  | (refine rec_yes ?kk ?_; (case kk => (decide +kernel; done)))
  | (refine rec_no ?kk ?_; (case kk => (intro hx; have hx' : @Eq Nat _ 1 := of_decide_eq_true hx; omega)))
  | (refine rec_no ?kk ?_; (case kk => (intro hx; have hx' : @Eq Nat _ _ := of_decide_eq_true hx; omega)))
  | (refine rec_no ?kk ?_; (case kk => (intro hx; have hx' : @Eq Nat _ _ := hx; omega)))
  | (refine rec_yes ?kk ?_; (case kk => (exact rfl; done)))
  | (refine rec_yes ?kk ?_; (case kk => (simp; done)))
  | (refine rec_no ?kk ?_; (case kk => (simp [fx2, Value.isStr]; done)))
  | (refine rec_no ?kk ?_; (case kk => (simp [fx2, Value.isStr]; decide)))
  | (refine rec_no ?kk ?_; (case kk => (simp; omega))))
theorem m_anyM {prog : Program} {w : World} {A : Around} {Q : Bool → Shared → Prop} {E : Value → Shared → Prop} {s : Shared} {p : Value → Sem Bool} {l : List Value} (l' : List Value) (e : l = l')
   (x : wpAny (model prog w) A (List.anyM p l') Q E s) : wpAny (model prog w) A (List.anyM p l) Q E s := by rw [e]; exact x
theorem fx3 : Bind.madeBy (Value.type "object") = Sem.pure (some "object.__new__") := by kernel_rfl
local macro_rules | `(tactic| walk_at "my pre") => `(tactic| with_reducible refine m_eq fx3 ?_)
local macro_rules | `(tactic| walk_at "my fixes") => `(tactic| first
  | rw [fx1]
  | rw [fx2]
  | (refine m_anyM [Value.type "object"] ?kk ?_; (case kk => (simp; done))))
local macro_rules | `(tactic| walk_at "my ent_call") => `(tactic| fail "no")
local macro_rules | `(tactic| walk_at "my ent_again") => `(tactic| fail "no")
local macro_rules | `(tactic| walk_at "my norm_at_D") => `(tactic| skip)
set_option hygiene false in
local macro_rules | `(tactic| walk_at "my nD") => `(tactic| (simp only [List.set, Obj.mapSeq, Obj.mapCls, Obj.mapDict, Obj.mapFields, Obj.dropName, Obj.putName] at D))
set_option hygiene false in
local macro_rules | `(tactic| walk_at "my go1") => `(tactic| first
  | walk_at "my pre"
  | (walk_at "my hnf"; first
  | with_reducible refine x_rule ?_ | with_reducible refine x_at ?_ | with_reducible refine x_point ?_ | with_reducible refine x_ask ?_ | with_reducible refine m_fresh ?_ | with_reducible refine x_handled ?_ | with_reducible refine x_pure ?_
  | walk_at "my ldstep"
  | (with_reducible refine m_stack ?_; intro st l)
  | with_reducible refine m_bind ?_ | with_reducible refine m_keep ?_ | with_reducible refine m_onRaise ?_ | with_reducible refine m_try ?_
  | ((fail_if_success (with_reducible refine' is_alloc ?_)); (fail_if_success (with_reducible refine' is_update ?_)); (fail_if_success (with_reducible refine' is_call ?_)); (fail_if_success (with_reducible refine' is_load ?_)); (first | walk_at "my dec" | walk_at "my fixes"))
  )
  | (with_reducible refine m_done ?_) | walk_at "my ent_again")
theorem m_forIn {α β : Type} {prog : Program} {w : World} {A : Around} {Q : β → Shared → Prop} {E : Value → Shared → Prop} {s : Shared} {l : List α} {b : β} {f : α → β → Sem (ForInStep β)} (l' : List α) (e : l = l')
   (x : wpAny (model prog w) A (forIn l' b f) Q E s) : wpAny (model prog w) A (forIn l b f) Q E s := by rw [e]; exact x
theorem ent_sg : Ent "super.__getattribute__" Builtin.«super.__getattribute__» := ⟨entryFor_of_fast (by kernel_rfl), by decide +kernel⟩
theorem w_call (f : Value) (args : Args) : (Code.call f args).weight = 0 := rfl
theorem u_call (f : Value) (args : Args) : (Code.call f args).cUnits = 1 := rfl
theorem none_before {a b : Heap} {n : Addr} (k : Keeps a b) (l : @LE.le Nat _ b.objs.size n) : a.get? n = none := by
  cases q : a.get? n with
  | none => rfl
  | some o => exact absurd (Heap.lt_size (k _ _ q)) (Nat.not_lt.mpr l)
theorem superget_c {α : Type} {A : Around} {Q : α → Shared → Prop} {E : Value → Shared → Prop} {g : Bool} {l : List Value} {k : Result → Sem α} (w : World) (h : Heap) (gg : Array GenState) (dd tt os) (K nsA b sup : Addr) (t0 t2 tn : Nat)
   (hh : A.handled = none) (hd : A.depth ≤ 700) (hu : A.units ≤ 5000)
   (KX : Frag.In (K2 w.params) h) (hK : h.get? K = some (clsObj K nsA b t0 t2)) (hsup : h.get? sup = some (supObj K))
   (x : ∀ bm h' tt', Keeps h h' → h'.get? bm = some (bmObj K) → wpAny (model P w) A (k (.ok (.ret (.ref bm)))) Q E ⟨h', gg, dd, tt', os⟩) :
   wpAny (model P w) A (.call (.call (.builtin "super.__getattribute__") ⟨[.ref sup, .str "__init_subclass__" tn], []⟩) none g l k) Q E ⟨h, gg, dd, tt, os⟩ := by
  have hK0 := hK
  unfold clsObj at hK
  unfold supObj at hsup
  have D := Mem.start h
  refine m_callf (fun hx => nomatch hx) ?_
  repeat walk_at "my go1"
  refine Ent.again ent_sg ?_
  repeat walk_at "my go1"
  refine m_forIn [Value.type "object"] (by simp) ?_
  repeat walk_at "my go1"
  walk_at "my hnf"
  refine m_codeEq (Code.call (.builtin "classmethod_descriptor.__get__") ⟨[.builtin "object.__init_subclass__", .none, .ref K], []⟩) (codeEq3 (by decide +kernel) (by decide +kernel) (by simp)) ?_
  have hke := keeps_of D
  have hK' := hke _ _ hK0
  refine Does.use (cget_x w _ K nsA b t0 t2 hK') hh ?_ ?_ ?_
  · show A.depth + Code.weight (Code.builtin "super.__getattribute__" _) ≤ 800
    rw [plainId_weight (by decide +kernel)]; omega
  · show A.units + Code.cUnits (Code.builtin "super.__getattribute__" _) ≤ 6000
    rw [plainId_units (by decide +kernel)]; omega
  rintro _ h1 tt1 hke1 ⟨bm, rfl, hbm⟩
  have D := Mem.start h1
  repeat walk_at "my go1"
  exact x bm h1 tt1 (fun a o e => hke1 _ _ (hke _ _ e)) hbm
def mdObj (K : Addr) (t : Nat) : Obj := ⟨.type "member_descriptor", none, .fields #[.str "obj" t, .ref K, .builtin "proto.slot", .builtin "proto.slot#set", .int 0 0], #[]⟩
def nsObj (so st md f1 f2 f3 f4 f5 f6 : Addr) (h1 h3 h4 h5 h6 h7 h8 h9 h10 h11 h12 h13 h14 : Int) (k1 k3 k4 k5 k6 k7 k8 k9 k10 k11 k12 k13 k14 t1 t3 : Nat) : Obj :=
  ⟨.type "dict", none, .dict #[⟨h1, .str "__module__" k1, .str "cpy313.functools" t1⟩, ⟨h3, .str "__firstlineno__" k3, .int 19 t3⟩,
      ⟨h4, .str "__slots__" k4, .ref so⟩, ⟨h5, .str "__init__" k5, .ref f1⟩, ⟨h6, .str "__lt__" k6, .ref f2⟩, ⟨h7, .str "__gt__" k7, .ref f3⟩, ⟨h8, .str "__eq__" k8, .ref f4⟩, ⟨h9, .str "__le__" k9, .ref f5⟩, ⟨h10, .str "__ge__" k10, .ref f6⟩, ⟨h11, .str "__hash__" k11, .none⟩, ⟨h12, .str "__static_attributes__" k12, .ref st⟩, ⟨h13, .str "obj" k13, .ref md⟩, ⟨h14, .str "__doc__" k14, .none⟩] 3, #[]⟩
theorem tnew_c (w : World) (h : Heap) (gg dd tt os) (b n so st f1 f2 f3 f4 f5 f6 : Addr) (d1 d2 d3 d4 d5 d6 : FuncData) (vst : Array Value)
   (h1 h2 h3 h4 h5 h6 h7 h8 h9 h10 h11 h12 : Int) (k1 k2 k3 k4 k5 k6 k7 k8 k9 k10 k11 k12 t0 t1 t2 t3 ts : Nat) (A : Around) (hh : A.handled = none) (hdp : A.depth ≤ 700) (hun : A.units ≤ 5000) (Q : Fin → Shared → Prop) (E) 
   (KX : Frag.In (K2 w.params) h) 
   (hb : h.get? b = some ⟨.type "tuple", none, .seq #[.type "object"] 0, #[]⟩)
   (hso : h.get? so = some ⟨.type "list", none, .seq #[.str "obj" ts] 0, #[]⟩)
   (hst : h.get? st = some ⟨.type "tuple", none, .seq vst 0, #[]⟩)
   (hf1 : h.get? f1 = some ⟨.type "function", none, .func d1, #[]⟩)
   (hf2 : h.get? f2 = some ⟨.type "function", none, .func d2, #[]⟩)
   (hf3 : h.get? f3 = some ⟨.type "function", none, .func d3, #[]⟩)
   (hf4 : h.get? f4 = some ⟨.type "function", none, .func d4, #[]⟩)
   (hf5 : h.get? f5 = some ⟨.type "function", none, .func d5, #[]⟩)
   (hf6 : h.get? f6 = some ⟨.type "function", none, .func d6, #[]⟩)
   (hn : h.get? n = some ⟨.type "dict", none, .dict #[⟨h1, .str "__module__" k1, .str "cpy313.functools" t1⟩, ⟨h2, .str "__qualname__" k2, .str "cmp_to_key.<locals>.K" t2⟩, ⟨h3, .str "__firstlineno__" k3, .int 19 t3⟩,
      ⟨h4, .str "__slots__" k4, .ref so⟩, ⟨h5, .str "__init__" k5, .ref f1⟩, ⟨h6, .str "__lt__" k6, .ref f2⟩, ⟨h7, .str "__gt__" k7, .ref f3⟩, ⟨h8, .str "__eq__" k8, .ref f4⟩, ⟨h9, .str "__le__" k9, .ref f5⟩, ⟨h10, .str "__ge__" k10, .ref f6⟩, ⟨h11, .str "__hash__" k11, .none⟩, ⟨h12, .str "__static_attributes__" k12, .ref st⟩] 12, #[]⟩) (hnn : @Ne Nat n 1)
   (x : ∀ K ns md h' tt' h13 h14 k13 k14 tm, Keeps h h' → h.get? ns = none → h'.get? K = some (clsObj K ns b t0 t2) → h'.get? ns = some (nsObj so st md f1 f2 f3 f4 f5 f6 h1 h3 h4 h5 h6 h7 h8 h9 h10 h11 h12 h13 h14 k1 k3 k4 k5 k6 k7 k8 k9 k10 k11 k12 k13 k14 t1 t3) → h'.get? md = some (mdObj K tm) →
      Q (.done (.ret (.ref K))) ⟨h', gg, dd, tt', os⟩) :
   wpAny (model P w) A (Builtin.«type.__new__» ⟨[.type "type", .str "K" t0, .ref b, .ref n], []⟩) Q E ⟨h, gg, dd, tt, os⟩ := by
  have D := Mem.start h
  repeat walk_at "my go1"
  walk_at "my hnf"
  refine Does.use (collect_x w h so ts 0 hso) hh (Nat.le_trans hdp (by decide)) (Nat.le_trans hun (by decide)) ?_
  rintro _ h' tt' hke ⟨li, rfl, hli⟩
  clear D
  replace hb := hke _ _ hb
  replace hso := hke _ _ hso
  replace hst := hke _ _ hst
  replace hf1 := hke _ _ hf1
  replace hf2 := hke _ _ hf2
  replace hf3 := hke _ _ hf3
  replace hf4 := hke _ _ hf4
  replace hf5 := hke _ _ hf5
  replace hf6 := hke _ _ hf6
  replace hn := hke _ _ hn
  have KX0 := KX
  replace KX : Frag.In (K2 w.params) h' := fun a o e => hke _ _ (KX a o e)
  have hN := size87 KX
  have hsoN : @LT.lt Nat _ so h'.objs.size := Heap.lt_size hso
  have hnN : @LT.lt Nat _ n h'.objs.size := Heap.lt_size hn
  have hbN : @LT.lt Nat _ b h'.objs.size := Heap.lt_size hb
  have D := Mem.start h'
  repeat walk_at "my go1"
  walk_at "my hnf"
  refine m_allocS D rfl ?_
  intro ns h D hltns
  repeat walk_at "my go1"
  walk_at "my hnf"
  refine m_allocG D rfl ?_
  intro K h D hltK
  repeat walk_at "my go1"
  walk_at "my hnf"
  refine m_upd D 0 ⟨.type "type", none, .cls { name := "K", bases := [.type "object"], mro := [], ns := ns, qualname := "cmp_to_key.<locals>.K", hasDict := true, slotNames := [] }, #[some (.ref b)]⟩ rfl rfl rfl ?_
  intro h D
  dsimp only [List.set] at D
  repeat walk_at "my go1"
  walk_at "my hnf"
  refine m_upd D 0 ⟨.type "type", none, .cls { name := "K", bases := [.type "object"], mro := [], ns := ns, qualname := "cmp_to_key.<locals>.K", hasDict := true, slotNames := [] }, #[some (.ref b), none, some (.str "K" t0)]⟩ rfl rfl rfl ?_
  intro h D
  dsimp only [List.set] at D
  repeat walk_at "my go1"
  walk_at "my hnf"
  refine m_upd D 0 ⟨.type "type", none, .cls { name := "K", bases := [.type "object"], mro := [], ns := ns, qualname := "cmp_to_key.<locals>.K", hasDict := true, slotNames := [] }, #[some (.ref b), none, some (.str "K" t0), some (.str "cmp_to_key.<locals>.K" t2)]⟩ rfl rfl rfl ?_
  intro h D
  dsimp only [List.set] at D
  repeat walk_at "my go1"
  walk_at "my hnf"
  refine m_upd D 1 ⟨.type "dict", none, .dict #[⟨h1, .str "__module__" k1, .str "cpy313.functools" t1⟩, ⟨h3, .str "__firstlineno__" k3, .int 19 t3⟩, ⟨h4, .str "__slots__" k4, .ref so⟩, ⟨h5, .str "__init__" k5, .ref f1⟩, ⟨h6, .str "__lt__" k6, .ref f2⟩, ⟨h7, .str "__gt__" k7, .ref f3⟩, ⟨h8, .str "__eq__" k8, .ref f4⟩, ⟨h9, .str "__le__" k9, .ref f5⟩, ⟨h10, .str "__ge__" k10, .ref f6⟩, ⟨h11, .str "__hash__" k11, .none⟩, ⟨h12, .str "__static_attributes__" k12, .ref st⟩] 1, #[]⟩ rfl rfl rfl ?_
  intro h D
  dsimp only [List.set] at D
  repeat walk_at "my go1"
  walk_at "my hnf"
  refine m_upd D 0 ⟨.type "type", none, .cls { name := "K", bases := [.type "object"], mro := [.ref K, .type "object"], ns := ns, qualname := "cmp_to_key.<locals>.K", hasDict := true, slotNames := [] }, #[some (.ref b), none, some (.str "K" t0), some (.str "cmp_to_key.<locals>.K" t2)]⟩ rfl (by kernel_rfl) rfl ?_
  intro h D
  dsimp only [List.set] at D
  repeat walk_at "my go1"
  walk_at "my hnf"
  refine m_upd D 0 ⟨.type "type", none, .cls { name := "K", bases := [.type "object"], mro := [.ref K, .type "object"], ns := ns, qualname := "cmp_to_key.<locals>.K", hasDict := true, slotNames := [] }, #[some (.ref b), none, some (.str "K" t0), some (.str "cmp_to_key.<locals>.K" t2), some (.builtin "object.__new__")]⟩ rfl rfl rfl ?_
  intro h D
  dsimp only [List.set] at D
  repeat walk_at "my go1"
  walk_at "my hnf"
  refine m_allocG D rfl ?_
  intro md h D hltmd
  repeat walk_at "my go1"
  walk_at "my hnf"
  refine m_upd D 2 ⟨.type "dict", none, .dict #[⟨h1, .str "__module__" k1, .str "cpy313.functools" t1⟩, ⟨h3, .str "__firstlineno__" k3, .int 19 t3⟩, ⟨h4, .str "__slots__" k4, .ref so⟩, ⟨h5, .str "__init__" k5, .ref f1⟩, ⟨h6, .str "__lt__" k6, .ref f2⟩, ⟨h7, .str "__gt__" k7, .ref f3⟩, ⟨h8, .str "__eq__" k8, .ref f4⟩, ⟨h9, .str "__le__" k9, .ref f5⟩, ⟨h10, .str "__ge__" k10, .ref f6⟩, ⟨h11, .str "__hash__" k11, .none⟩, ⟨h12, .str "__static_attributes__" k12, .ref st⟩, ⟨_, .str "obj" _, .ref md⟩] 2, #[]⟩ rfl rfl rfl ?_
  intro h D
  dsimp only [List.set] at D
  repeat walk_at "my go1"
  walk_at "my hnf"
  refine m_upd D 1 ⟨.type "type", none, .cls { name := "K", bases := [.type "object"], mro := [.ref K, .type "object"], ns := ns, qualname := "cmp_to_key.<locals>.K", hasDict := false, slotNames := ["obj"] }, #[some (.ref b), none, some (.str "K" t0), some (.str "cmp_to_key.<locals>.K" t2), some (.builtin "object.__new__")]⟩ rfl rfl rfl ?_
  intro h D
  dsimp only [List.set] at D
  repeat walk_at "my go1"
  walk_at "my hnf"
  refine m_upd D 1 ⟨.type "type", none, .cls { name := "K", bases := [.type "object"], mro := [.ref K, .type "object"], ns := ns, qualname := "cmp_to_key.<locals>.K", hasDict := false, slotNames := ["obj"] }, #[some (.ref b), none, some (.str "K" t0), some (.str "cmp_to_key.<locals>.K" t2), some (.builtin "object.__new__"), some (.bool false)]⟩ rfl rfl rfl ?_
  intro h D
  dsimp only [List.set] at D
  repeat walk_at "my go1"
  walk_at "my hnf"
  refine m_upd D 2 ⟨.type "dict", none, .dict #[⟨h1, .str "__module__" k1, .str "cpy313.functools" t1⟩, ⟨h3, .str "__firstlineno__" k3, .int 19 t3⟩, ⟨h4, .str "__slots__" k4, .ref so⟩, ⟨h5, .str "__init__" k5, .ref f1⟩, ⟨h6, .str "__lt__" k6, .ref f2⟩, ⟨h7, .str "__gt__" k7, .ref f3⟩, ⟨h8, .str "__eq__" k8, .ref f4⟩, ⟨h9, .str "__le__" k9, .ref f5⟩, ⟨h10, .str "__ge__" k10, .ref f6⟩, ⟨h11, .str "__hash__" k11, .none⟩, ⟨h12, .str "__static_attributes__" k12, .ref st⟩, ⟨_, .str "obj" _, .ref md⟩, ⟨_, .str "__doc__" _, .none⟩] 3, #[]⟩ rfl rfl rfl ?_
  intro h D
  dsimp only [List.set] at D
  repeat walk_at "my go1"
  walk_at "my hnf"
  have hK := Mem.at D 1 _ _ rfl
  have KX1 : Frag.In (K2 w.params) h := fun a o e => keeps_of D _ _ (KX a o e)
  refine Does.use (super_x w h K ns b t0 t2 KX1 hK) hh (Nat.le_trans hdp (by decide)) (Nat.le_trans hun (by decide)) ?_
  rintro _ h2 tt2 hke2 ⟨sup, rfl, hsup⟩
  have hK2 := hke2 _ _ hK
  have hns2 := hke2 _ _ (Mem.at D 2 _ _ rfl)
  have hmd2 := hke2 _ _ (Mem.at D 0 _ _ rfl)
  have hke' := keeps_of D
  clear D hK
  replace KX : Frag.In (K2 w.params) h2 := fun a o e => hke2 _ _ (KX1 a o e)
  have hsup0 := hsup
  unfold supObj at hsup
  have D := Mem.start h2
  repeat walk_at "my go1"
  walk_at "my hnf"
  refine m_codeEq (Code.call (.builtin "super.__getattribute__") ⟨[.ref sup, .str "__init_subclass__" _], []⟩) (codeEq2 (by decide +kernel)) ?_
  refine superget_c w h2 gg dd _ os K ns b sup t0 t2 _ hh hdp hun KX hK2 hsup0 ?_
  intro bm h3 tt3 hke3 hbm
  clear D
  have hK3 := hke3 _ _ hK2
  replace KX : Frag.In (K2 w.params) h3 := fun a o e => hke3 _ _ (KX a o e)
  have D := Mem.start h3
  repeat walk_at "my go1"
  walk_at "my hnf"
  refine Does.use (init_x w h3 K ns b bm t0 t2 KX hK3 hbm) hh (Nat.le_trans hdp (by decide)) (Nat.le_trans hun (by decide)) ?_
  rintro _ h4 tt4 hke4 rfl
  clear D
  have D := Mem.start h4
  repeat walk_at "my go1"
  have kk : Keeps h2 h4 := fun a o e => hke4 _ _ (hke3 _ _ e)
  exact x K ns _ h4 tt4 _ _ _ _ _ (fun a o e => kk _ _ (hke2 _ _ (hke' _ _ (hke _ _ e)))) (none_before hke hltns) (kk _ _ hK2) (kk _ _ hns2) (kk _ _ hmd2)
end Mine
namespace Mine
local macro_rules | `(tactic| walk_at "my hnf") => `(tactic| (conv => arg 3; whnf))
set_option maxRecDepth 100000
set_option maxHeartbeats 0
set_option pp.deepTerms false
set_option pp.proofs false
set_option pp.maxSteps 3000
set_option hygiene false in
local macro_rules | `(tactic| walk_at "my ldm") => `(tactic| first
  | (exact Mem.at D 0 _ _ rfl) | (exact Mem.at D 1 _ _ rfl) | (exact Mem.at D 2 _ _ rfl) | (exact Mem.at D 3 _ _ rfl) | (exact Mem.at D 4 _ _ rfl)| (exact Mem.at D 5 _ _ rfl)| (exact Mem.at D 6 _ _ rfl)| (exact Mem.at D 7 _ _ rfl)| (exact Mem.at D 8 _ _ rfl)| (exact Mem.at D 9 _ _ rfl)
  | (exact mold D (by assumption) rfl)
  | (exact mold D (kin KX _ _ rfl) rfl))
theorem fx1' : Builtin.Slots.isIdentifier (Str.ofString "obj") = some true := by decide +kernel
theorem fx2' : Builtin.Slots.mangle (Str.ofString "K") (Str.ofString "obj") = Str.ofString "obj" := by decide +kernel
local macro_rules | `(tactic| walk_at "my ldstep") => `(tactic| (with_reducible refine' m_load ?a ?b; (case a => (walk_at "my ldm"; done))))
local macro_rules | `(tactic| walk_at "my dec") => `(tactic| first
  | (refine rec_no ?kk ?_; (case kk => (decide +kernel; done)))
  | (refine rec_yes ?kk ?_; (case kk => (decide +kernel; done)))
  | (refine rec_no ?kk ?_; (case kk => (intro hx; have hx' : @Eq Nat _ 1 := of_decide_eq_true hx; omega)))
  | (refine rec_no ?kk ?_; (case kk => (intro hx; have hx' : @Eq Nat _ _ := of_decide_eq_true hx; omega)))
  | (refine rec_no ?kk ?_; (case kk => (intro hx; have hx' : @Eq Nat _ _ := hx; omega)))
  | (refine rec_yes ?kk ?_; (case kk => (exact rfl; done)))
  | (refine rec_yes ?kk ?_; (case kk => (simp; done)))
  | (refine rec_no ?kk ?_; (case kk => (simp [fx2, Value.isStr]; done)))
  | (refine rec_no ?kk ?_; (case kk => (simp [fx2, Value.isStr]; decide)))
  | (refine rec_no ?kk ?_; (case kk => (simp; omega))))
theorem m_anyM' {prog : Program} {w : World} {A : Around} {Q : Bool → Shared → Prop} {E : Value → Shared → Prop} {s : Shared} {p : Value → Sem Bool} {l : List Value} (l' : List Value) (e : l = l')
   (x : wpAny (model prog w) A (List.anyM p l') Q E s) : wpAny (model prog w) A (List.anyM p l) Q E s := by rw [e]; exact x
theorem fx3' : Bind.madeBy (Value.type "object") = Sem.pure (some "object.__new__") := by kernel_rfl
local macro_rules | `(tactic| walk_at "my pre") => `(tactic| with_reducible refine m_eq fx3 ?_)
local macro_rules | `(tactic| walk_at "my fixes") => `(tactic| first
  | rw [fx1]
  | rw [fx2]
  | (refine m_anyM [Value.type "object"] ?kk ?_; (case kk => (simp; done))))
local macro_rules | `(tactic| walk_at "my ent_call") => `(tactic| fail "no")
local macro_rules | `(tactic| walk_at "my ent_again") => `(tactic| fail "no")
local macro_rules | `(tactic| walk_at "my norm_at_D") => `(tactic| skip)
set_option hygiene false in
local macro_rules | `(tactic| walk_at "my nD") => `(tactic| (simp only [List.set, Obj.mapSeq, Obj.mapCls, Obj.mapDict, Obj.mapFields, Obj.dropName, Obj.putName] at D))
set_option hygiene false in
local macro_rules | `(tactic| walk_at "my go1") => `(tactic| first
  | walk_at "my pre"
  | (walk_at "my hnf"; first
  | with_reducible refine x_rule ?_ | with_reducible refine x_at ?_ | with_reducible refine x_point ?_ | with_reducible refine x_ask ?_ | with_reducible refine m_fresh ?_ | with_reducible refine x_handled ?_ | with_reducible refine x_pure ?_
  | walk_at "my ldstep"
  | (with_reducible refine m_stack ?_; intro st l)
  | with_reducible refine m_bind ?_ | with_reducible refine m_keep ?_ | with_reducible refine m_onRaise ?_ | with_reducible refine m_try ?_
  | ((fail_if_success (with_reducible refine' is_alloc ?_)); (fail_if_success (with_reducible refine' is_update ?_)); (fail_if_success (with_reducible refine' is_call ?_)); (fail_if_success (with_reducible refine' is_load ?_)); (first | walk_at "my dec" | walk_at "my fixes"))
  )
  | (with_reducible refine m_done ?_) | walk_at "my ent_again")

theorem ent_tc : Ent "type.__call__" Builtin.«type.__call__» := ⟨entryFor_of_fast (by kernel_rfl), by decide +kernel⟩
theorem ent_tn : Ent "type.__new__" Builtin.«type.__new__» := ⟨entryFor_of_fast (by kernel_rfl), by decide +kernel⟩
set_option hygiene false in
local macro_rules | `(tactic| x_close) => `(tactic| (refine ⟨_, _, _, rfl, rfl, (by first | exact keeps_of (by assumption) | exact fun _ _ e => e), ?_⟩; first | exact ⟨_, rfl, Mem.at (by assumption) 0 _ _ rfl⟩ | exact rfl))
theorem tinit_x (w : World) (h : Heap) (K nsA b n : Addr) (t0 t2 : Nat)
   (hK : h.get? K = some (clsObj K nsA b t0 t2)) :
   Does w (.call (.builtin "type.__init__") ⟨[.ref K, .str "K" t0, .ref b, .ref n], []⟩) h (fun v h' => v = .none) := by
  unfold clsObj at hK
  intro gg dd tt os
  x_run
theorem tcall_c {α : Type} {A : Around} {Q : α → Shared → Prop} {E : Value → Shared → Prop} {g : Bool} {l : List Value} {k : Result → Sem α} (w : World) (h : Heap) (gg : Array GenState) (dd tt os) (b n so st f1 f2 f3 f4 f5 f6 : Addr) (d1 d2 d3 d4 d5 d6 : FuncData) (vst : Array Value)
   (h1 h2 h3 h4 h5 h6 h7 h8 h9 h10 h11 h12 : Int) (k1 k2 k3 k4 k5 k6 k7 k8 k9 k10 k11 k12 t0 t1 t2 t3 ts : Nat) (hh : A.handled = none) (hdp : A.depth ≤ 690) (hun : A.units ≤ 4900)
   (KX : Frag.In (K2 w.params) h) 
   (hb : h.get? b = some ⟨.type "tuple", none, .seq #[.type "object"] 0, #[]⟩)
   (hso : h.get? so = some ⟨.type "list", none, .seq #[.str "obj" ts] 0, #[]⟩)
   (hst : h.get? st = some ⟨.type "tuple", none, .seq vst 0, #[]⟩)
   (hf1 : h.get? f1 = some ⟨.type "function", none, .func d1, #[]⟩)
   (hf2 : h.get? f2 = some ⟨.type "function", none, .func d2, #[]⟩)
   (hf3 : h.get? f3 = some ⟨.type "function", none, .func d3, #[]⟩)
   (hf4 : h.get? f4 = some ⟨.type "function", none, .func d4, #[]⟩)
   (hf5 : h.get? f5 = some ⟨.type "function", none, .func d5, #[]⟩)
   (hf6 : h.get? f6 = some ⟨.type "function", none, .func d6, #[]⟩)
   (hn : h.get? n = some ⟨.type "dict", none, .dict #[⟨h1, .str "__module__" k1, .str "cpy313.functools" t1⟩, ⟨h2, .str "__qualname__" k2, .str "cmp_to_key.<locals>.K" t2⟩, ⟨h3, .str "__firstlineno__" k3, .int 19 t3⟩,
      ⟨h4, .str "__slots__" k4, .ref so⟩, ⟨h5, .str "__init__" k5, .ref f1⟩, ⟨h6, .str "__lt__" k6, .ref f2⟩, ⟨h7, .str "__gt__" k7, .ref f3⟩, ⟨h8, .str "__eq__" k8, .ref f4⟩, ⟨h9, .str "__le__" k9, .ref f5⟩, ⟨h10, .str "__ge__" k10, .ref f6⟩, ⟨h11, .str "__hash__" k11, .none⟩, ⟨h12, .str "__static_attributes__" k12, .ref st⟩] 12, #[]⟩) (hnn : @Ne Nat n 1)
   (x : ∀ K ns md h' tt' h13 h14 k13 k14 tm, Keeps h h' → h.get? ns = none → h'.get? K = some (clsObj K ns b t0 t2) → h'.get? ns = some (nsObj so st md f1 f2 f3 f4 f5 f6 h1 h3 h4 h5 h6 h7 h8 h9 h10 h11 h12 h13 h14 k1 k3 k4 k5 k6 k7 k8 k9 k10 k11 k12 k13 k14 t1 t3) → h'.get? md = some (mdObj K tm) →
      wpAny (model P w) A (k (.ok (.ret (.ref K)))) Q E ⟨h', gg, dd, tt', os⟩) :
   wpAny (model P w) A (.call (.call (.type "type") ⟨[.str "K" t0, .ref b, .ref n], []⟩) none g l k) Q E ⟨h, gg, dd, tt, os⟩ := by
  have D := Mem.start h
  refine m_callf (fun hx => nomatch hx) ?_
  repeat walk_at "my go1"
  refine Ent.again ent_tc ?_
  repeat walk_at "my go1"
  walk_at "my hnf"
  refine m_codeEq (Code.call (.builtin "type.__new__") ⟨[.type "type", .str "K" t0, .ref b, .ref n], []⟩) (codeEq2 (by decide +kernel)) ?_
  refine m_callf (fun hx => nomatch hx) ?_
  repeat walk_at "my go1"
  refine Ent.again ent_tn ?_
  refine tnew_c w h gg dd _ os b n so st f1 f2 f3 f4 f5 f6 d1 d2 d3 d4 d5 d6 vst h1 h2 h3 h4 h5 h6 h7 h8 h9 h10 h11 h12 k1 k2 k3 k4 k5 k6 k7 k8 k9 k10 k11 k12 t0 t1 t2 t3 ts _ (by exact hh) ?_ ?_ _ _ KX hb hso hst hf1 hf2 hf3 hf4 hf5 hf6 hn hnn ?_
  · show A.depth + Code.weight (Code.builtin "type.__call__" _) + Code.weight (Code.builtin "type.__new__" _) ≤ 700
    rw [plainId_weight (id := "type.__new__") (by decide +kernel)]
    rw [show Code.weight (Code.builtin "type.__call__" _) = 0 from by rfl]
    omega
  · show A.units + Code.cUnits (Code.builtin "type.__call__" _) + Code.cUnits (Code.builtin "type.__new__" _) ≤ 5000
    rw [plainId_units (id := "type.__new__") (by decide +kernel)]
    rw [show Code.cUnits (Code.builtin "type.__call__" _) = 1 from by rfl]
    omega
  intro K ns md h' tt' h13 h14 k13 k14 tm hke hnsN hK hns hmd
  clear D
  have KX' : Frag.In (K2 w.params) h' := fun a o e => hke _ _ (KX a o e)
  have D := Mem.start h'
  have hK0 := hK
  unfold clsObj at hK
  repeat walk_at "my go1"
  walk_at "my hnf"
  refine m_codeEq (Code.call (.builtin "type.__init__") ⟨[.ref K, .str "K" t0, .ref b, .ref n], []⟩) (codeEq2 (by decide +kernel)) ?_
  refine Does.use (tinit_x w h' K ns b n t0 t2 hK0) (by exact hh) ?_ ?_ ?_
  · show A.depth + Code.weight (Code.builtin "type.__call__" _) ≤ 800
    rw [show Code.weight (Code.builtin "type.__call__" _) = 0 from by rfl]
    omega
  · show A.units + Code.cUnits (Code.builtin "type.__call__" _) ≤ 6000
    rw [show Code.cUnits (Code.builtin "type.__call__" _) = 1 from by rfl]
    omega
  rintro _ h2 tt2 hke2 rfl
  clear D
  have D := Mem.start h2
  repeat walk_at "my go1"
  exact x K ns md h2 tt2 _ _ _ _ _ (fun a o e => hke2 _ _ (hke _ _ e)) hnsN (hke2 _ _ hK0) (hke2 _ _ hns) (hke2 _ _ hmd)
end Mine
namespace Mine
set_option maxRecDepth 100000
set_option maxHeartbeats 0
theorem Mem.newAt {h₀ h : Heap} {chg news : List (Addr × Obj)} {a : Addr} {o : Obj} (D : Mem h₀ h chg ((a, o) :: news)) : h₀.get? a = none := (D.nw _ (.head _)).2
set_option hygiene false in
local macro_rules | `(tactic| x_close) => `(tactic| (refine ⟨_, _, _, rfl, rfl, (by first | exact keeps_of (by assumption) | exact fun _ _ e => e), ?_⟩; first | exact ⟨_, rfl, Mem.at (by assumption) 0 _ _ rfl, Mem.newAt (by assumption)⟩ | exact ⟨_, rfl, Mem.at (by assumption) 0 _ _ rfl⟩ | exact rfl | (trace_state; exact ⟨_, rfl⟩)))
theorem prep1_x (w : World) (h : Heap) (t : Nat) (KX : Frag.In (K2 w.params) h)  :
   Does w (.call (.builtin "type.__getattribute__") ⟨[.type "type", .str "__prepare__" t], []⟩) h (fun v h' => ∃ a, v = .ref a ∧ h'.get? a = some ⟨.type "builtin_function_or_method", none, .fields #[.builtin "type.__prepare__", .type "type"], #[]⟩) := by
  intro gg dd tt os
  x_run
theorem prep2_x (w : World) (h : Heap) (bm b : Addr) (t : Nat) (KX : Frag.In (K2 w.params) h) (hbm : h.get? bm = some ⟨.type "builtin_function_or_method", none, .fields #[.builtin "type.__prepare__", .type "type"], #[]⟩)
   (hb : h.get? b = some ⟨.type "tuple", none, .seq #[.type "object"] 0, #[]⟩) :
   Does w (.call (.ref bm) ⟨[.str "K" t, .ref b], []⟩) h (fun v h' => ∃ a, v = .ref a ∧ h'.get? a = some ⟨.type "dict", none, .dict #[] , #[]⟩ ∧ h.get? a = none) := by
  intro gg dd tt os
  x_run
theorem codeEq4 {f f' x x' : String} {l : List Value} (h : f = f') (h2 : x = x') : Code.call (.builtin f) ⟨.type x :: l, []⟩ = Code.call (.builtin f') ⟨.type x' :: l, []⟩ := by rw [h, h2]
end Mine
namespace Mine
set_option maxRecDepth 100000
set_option maxHeartbeats 0
/-- all objects stay, but those of which X says so -/
structure Kp (X : Addr → Prop) (h h' : Heap) : Prop where
  at' : ∀ a o, ¬ X a → h.get? a = some o → h'.get? a = some o
def XN : Addr → Prop := fun _ => False
theorem Kp.refl {X} (h : Heap) : Kp X h h := ⟨fun _ _ _ e => e⟩
theorem Kp.push {X} (h : Heap) (o : Obj) : Kp X h (h.push o) := ⟨fun _ _ _ e => Heap.get?_push_of_some o e⟩
theorem Kp.trans {X} {h h' h'' : Heap} (a : Kp X h h') (b : Kp X h' h'') : Kp X h h'' := ⟨fun x o n e => b.at' x o n (a.at' x o n e)⟩
theorem Kp.mono {X Y : Addr → Prop} {h h' : Heap} (a : Kp X h h') (m : ∀ x o, h.get? x = some o → X x → Y x) : Kp Y h h' := ⟨fun x o n e => a.at' x o (fun hx => n (m x o e hx)) e⟩
theorem Kp.none {X} {h h' : Heap} {b : Addr} (a : Kp X h h') (n : ¬ X b) (e : h'.get? b = none) : h.get? b = none := by
  cases q : h.get? b with
  | none => rfl
  | some o => rw [a.at' b o n q] at e; cases e
theorem none_of_le {h : Heap} {b : Addr} (l : h.objs.size ≤ b) : h.get? b = none := by
  cases q : h.get? b with
  | none => rfl
  | some o => exact absurd (Heap.lt_size q) (Nat.not_lt.mpr l)
theorem ne_new {h : Heap} {a b : Addr} {o : Obj} (e : h.get? a = some o) (n : h.get? b = none) : a ≠ b := by
  rintro rfl
  rw [n] at e; cases e
theorem Kp.upd {X : Addr → Prop} {h : Heap} {a : Addr} {f : Obj → Obj} (n : X a) : Kp X h (h.update a f) := ⟨fun x _ nx e => (Heap.SameBut.update ..).extBut x _ (fun ex => nx (ex ▸ n)) e⟩
theorem Kp.all {h h' : Heap} (a : Kp XN h h') : ∀ b o, h.get? b = some o → h'.get? b = some o := fun b o e => a.at' b o (fun x => x) e
structure Tab (h : Heap) (c P : Addr) (ps : Array Value) : Prop where
  code : h.IsCode c P ps
  tab : h.TableAt c P ps
theorem Tab.kp {X} {h h' : Heap} {c P ps} (t : Tab h c P ps) (k : Kp X h h') (hc : ¬ X c) (hP : ¬ X P) : Tab h' c P ps := by
  obtain ⟨⟨o, vs, file, tf, flags, tg, inF, text, tt, op, a, r1, r2, r3, r4, r5, r6, b, r⟩, ⟨⟨o2, vs2, a2, b2⟩, c2⟩⟩ := t
  exact ⟨⟨o, vs, file, tf, flags, tg, inF, text, tt, op, k.at' _ _ hc a, r1, r2, r3, r4, r5, r6, k.at' _ _ hP b, r⟩, ⟨⟨o2, vs2, k.at' _ _ hc a2, b2⟩, k.at' _ _ hP c2⟩⟩
theorem Tab.triples {h : Heap} {c P ps} (t : Tab h c P ps) : TriplesOk ps.toList := by
  obtain ⟨o, vs, file, tf, flags, tg, inF, text, tt, op, a, r1, r2, r3, r4, r5, r6, b, r7, r8, r9⟩ := t.code
  exact r8
theorem Tab.lt {h : Heap} {c P ps} (t : Tab h c P ps) : c < h.objs.size ∧ P < h.objs.size := t.code.lt
theorem codeAmong_app {pos : Pos} {c : Value} (l r : List Value) (h : codeAmong pos l = some c) : codeAmong pos (l ++ r) = some c := by
  fun_induction codeAmong pos l with
  | case1 a t b u x rest hc => simp only [List.cons_append, codeAmong, hc, if_true]; exact h
  | case2 a t b u x rest hc ih => simp only [List.cons_append, codeAmong, hc]; exact ih h
  | case3 => cases h
section
variable {M : Model} {A : Around} {E : Value → Shared → Prop}
/-- what a look for a code, found or made, leaves behind -/
structure Coded (h h' : Heap) (c P : Addr) (ps ps' : Array Value) (pos : Pos) (q : Str) (c' : Addr) : Prop where
  kp : Kp (fun a => a = P ∧ codeAmong pos ps.toList = none) h h'
  tab : Tab h' c P ps'
  hit : codeAmong pos ps'.toList = some (.ref c')
  crec : h'.CodeRec (.ref c') q
  mono : ∀ p v, codeAmong p ps.toList = some v → codeAmong p ps'.toList = some v
  old : codeAmong pos ps.toList = some (.ref c') ∧ h' = h ∧ ps' = ps ∨ codeAmong pos ps.toList = none ∧ (∃ P', h.objs.size ≤ P' ∧ Tab h' c' P' #[]) ∧ h.get? c' = none ∧ ps' = ps ++ #[rawInt pos.line, rawInt pos.col, .ref c']
theorem m_fcode {env : Env} {h : Heap} {gg : Array GenState} {dd : Drawn} {tt : Nat} {os : OsState} {c P : Addr} {ps : Array Value} {pos : Pos} {firstLine : Nat} {name q : Str} {p : Arguments} {scope : Scope} {body : FuncBody} {Q : Value → Shared → Prop}
   (hc : env.code = .ref c) (T : Tab h c P ps) (hh : ∀ v, codeAmong pos ps.toList = some v → ∃ c', v = .ref c' ∧ h.CodeRec (.ref c') q)
   (x : ∀ c' h' tk ps', Coded h h' c P ps ps' pos q c' → Q (.ref c') ⟨h', gg, dd, tk, os⟩) : wpAny M A (functionCode env pos firstLine name q p scope body) Q E ⟨h, gg, dd, tt, os⟩ := by
  cases hn : codeAmong pos ps.toList with
  | some v =>
    obtain ⟨c', rfl, hr⟩ := hh v hn
    exact wpAny_functionCode_hit hc T.code hn (x c' h tt ps ⟨Kp.refl h, T, hn, hr, fun _ _ e => e, .inl ⟨hn, rfl, rfl⟩⟩)
  | none =>
    refine wpAny_functionCodeX hc T.code T.tab hn fun c' h' tk hx hc' hs hok hr htab hP' => ?_
    refine x c' h' tk _ ⟨⟨fun a o n e => hx a o (fun ea => n ⟨ea, hn⟩) e⟩, ⟨hok, htab⟩, ?_, hr, ?_, ?_⟩
    · rw [Array.toList_append]; exact codeAmong_snoc _ T.triples hn
    · intro p v e; rw [Array.toList_append]; exact codeAmong_app _ _ e
    · obtain ⟨P', a, b, d⟩ := hP'
      exact .inr ⟨hn, ⟨P', a, b, d⟩, none_of_le hc', rfl⟩
theorem m_ccode {env : Env} {h : Heap} {gg : Array GenState} {dd : Drawn} {tt : Nat} {os : OsState} {c P : Addr} {ps : Array Value} {pos : Pos} {firstLine : Nat} {name q : Str} {scope : Scope} {Q : Value → Shared → Prop}
   (hc : env.code = .ref c) (T : Tab h c P ps) (hh : ∀ v, codeAmong pos ps.toList = some v → ∃ c', v = .ref c' ∧ h.CodeRec (.ref c') q)
   (x : ∀ c' h' tk ps', Coded h h' c P ps ps' pos q c' → Q (.ref c') ⟨h', gg, dd, tk, os⟩) : wpAny M A (classCode env pos firstLine name q scope) Q E ⟨h, gg, dd, tt, os⟩ := by
  cases hn : codeAmong pos ps.toList with
  | some v =>
    obtain ⟨c', rfl, hr⟩ := hh v hn
    exact wpAny_codeAt_hit hc T.code hn (x c' h tt ps ⟨Kp.refl h, T, hn, hr, fun _ _ e => e, .inl ⟨hn, rfl, rfl⟩⟩)
  | none =>
    obtain ⟨o, vs, file, tf, flags, tg, inF, text, tt, op, ho, hd, h11, h2, h7, h9, h10, hop, hpd, htr, hne⟩ := id T.code
    unfold classCode codeAt
    rw [hc, if_neg (show ¬ ((Value.ref c == Value.none) = true) from Bool.false_ne_true)]
    refine wpAny_bind (wpAny_fieldsOf ho hd ?_)
    rw [h11]
    refine wpAny_bind (wpAny_fieldsOf hop hpd ?_)
    rw [hn, h2, h7, h9, h10]
    refine wpAny_bind (wpAny_newCodeX fun c' P' h' tk hk hc' hP' hcode' htab' hrec' => ?_)
    have hop' := hk _ _ hop
    refine wpAny_bind (wpAny_updateFieldsOfTheText hop' hpd ?_)
    have hnew : (Obj.mapFields (fun vs => if (codeAmong pos vs.toList).isSome = true then vs else vs ++ #[rawInt pos.line, rawInt pos.col, .ref c']) op).data =
        .fields (ps ++ #[rawInt pos.line, rawInt pos.col, .ref c']) := by
      rw [Obj.data_mapFields hpd, hn]; rfl
    have hget := Heap.get?_update_self (h := h') (fun o => Obj.mapFields (fun vs => if (codeAmong pos vs.toList).isSome = true then vs else
      vs ++ #[rawInt pos.line, rawInt pos.col, .ref c']) o) hop' (Obj.isFreed_of_fields hnew)
    refine wpAny_bind (wpAny_fieldsOf hget hnew ?_)
    have hl : (ps ++ #[rawInt pos.line, rawInt pos.col, Value.ref c']).toList = ps.toList ++ [rawInt pos.line, rawInt pos.col, .ref c'] := by simp
    rw [hl, codeAmong_snoc _ htr hn]
    have hcP' : c' ≠ P := Nat.ne_of_gt (Nat.lt_of_lt_of_le (Heap.lt_size hop) hc')
    have hP'P : P' ≠ P := Nat.ne_of_gt (Nat.lt_of_lt_of_le (Heap.lt_size hop) hP')
    obtain ⟨⟨oc, vc, hoc, hcc, hdc, h11c⟩, htP⟩ := T.tab
    obtain ⟨⟨oc', vc', hoc', hcc', hdc', h11c'⟩, htP'⟩ := htab'
    have e1 : op = { cls := .none, data := .fields ps } := Option.some.inj (hop.symm.trans htP)
    have tab2 : Tab (h'.update P fun o => Obj.mapFields (fun vs => if (codeAmong pos vs.toList).isSome = true then vs else vs ++ #[rawInt pos.line, rawInt pos.col, .ref c']) o) c P (ps ++ #[rawInt pos.line, rawInt pos.col, .ref c']) := by
      refine ⟨⟨o, vs, file, tf, flags, tg, inF, text, tt, _, (Heap.SameBut.update ..).extBut _ _ hne (hk _ _ ho), hd, h11, h2, h7, h9, h10, hget, hnew,
        by rw [hl]; exact TriplesOk_snoc _ _ _ _ htr, hne⟩, ⟨⟨oc, vc, (Heap.SameBut.update ..).extBut _ _ hne (hk _ _ hoc), hcc, hdc, h11c⟩, ?_⟩⟩
      rw [hget, e1]
      simp only [Obj.mapFields, hn]
      rfl
    refine wpAny_pure (x _ _ _ (ps ++ #[rawInt pos.line, rawInt pos.col, Value.ref c']) ⟨⟨fun a o' n e => (Heap.SameBut.update ..).extBut a o' (fun ea => n ⟨ea, hn⟩) (hk a o' e)⟩, tab2, ?_, ?_, ?_, ?_⟩)
    · rw [hl]; exact codeAmong_snoc _ htr hn
    · obtain ⟨c₂, o₂, vs₂, t₂, e₂, g₂, r₂⟩ := hrec'
      cases e₂
      exact ⟨_, o₂, vs₂, t₂, rfl, (Heap.SameBut.update ..).extBut _ _ hcP' g₂, r₂⟩
    · intro p v e; rw [Array.toList_append]; exact codeAmong_app _ _ e
    · exact .inr ⟨hn, ⟨P', hP', hcode'.extBut (Heap.SameBut.update ..).extBut hcP' hP'P, ⟨oc', vc', (Heap.SameBut.update ..).extBut _ _ hcP' hoc', hcc', hdc', h11c'⟩, (Heap.SameBut.update ..).extBut _ _ hP'P htP'⟩, none_of_le hc', rfl⟩
/-- a function object of the text -/
def fnObj (name q : Str) (params : Arguments) (body : List Stmt) (scope : Scope) (clo : List (Str × Addr)) (ct pm : Value) (c : Addr) : Obj :=
  ⟨.type "function", none, .func { name, qualname := q, params, body := .stmts body, scope, globals := 3, closure := clo, closureTuple := ct, code := .ref c, builtins := 0, defaults := .none, kwdefaults := .none, annotations := none, pyModule := pm, doc := .none }, #[]⟩
theorem m_fdef {env : Env} {h : Heap} {gg : Array GenState} {dd : Drawn} {tt : Nat} {os : OsState} {c P : Addr} {ps : Array Value} {pos : Pos} {name q : Str} {args : Arguments} {scope : Scope} {body : List Stmt} {clo : List (Str × Addr)} {pm : Value} {Q : Flow → Shared → Prop}
   (hc : env.code = .ref c) (T : Tab h c P ps) (hh : ∀ v, codeAmong pos ps.toList = some v → ∃ c', v = .ref c' ∧ h.CodeRec (.ref c') q)
   (hq : qualnameIn env name name = q) (hd : args.defaults = []) (hkd : args.kw_defaults = []) (hkw : args.kwonlyargs = []) (hann : annTrees args none env = []) (hdoc : docOf body = none)
   (hclo : closureFor scope env = pure clo) (hg : env.globals = 3)
   (hb : ∀ h' tk Q', Kp (fun a => a = P ∧ codeAmong pos ps.toList = none) h h' → Q' 0 ⟨h', gg, dd, tk, os⟩ → wpAny M A (builtinsFor 3 env.builtins) Q' E ⟨h', gg, dd, tk, os⟩)
   (hn : ∀ h' tk Q', Kp (fun a => a = P ∧ codeAmong pos ps.toList = none) h h' → Q' (some pm) ⟨h', gg, dd, tk, os⟩ → wpAny M A (nsGet 3 "__name__") Q' E ⟨h', gg, dd, tk, os⟩)
   (x : ∀ f ct c' h1 h' tk ps', Coded h1 h' c P ps ps' pos q c' → Kp XN h h1 → f = h'.objs.size → (∀ v, ct = .ref v → h.get? v = none) → 
       wpAny M A (bindName env name (.ref f)) (fun _ s' => Q .next s') E ⟨h'.push (fnObj name q args body scope clo ct pm c'), gg, dd, tk, os⟩) :
   wpAny M A (exec (.FunctionDef name args body [] none [] scope none name pos) env) Q E ⟨h, gg, dd, tt, os⟩ := by
  rw [exec_def, hq, defaultsOf_eq, hd, hkd, hann]
  refine wpAny_bind (wpAny_standAt (wpAny_bind (wpAny_holding ?_)))
  refine wpAny_bind (wpAny_pure ?_)
  refine wpAny_bind (wpAny_holding (wpAny_pure ?_))
  refine wpAny_holding ?_
  refine wpAny_bind (wpAny_pure ?_)
  rw [makeFunction_eq, hkw]
  refine wpAny_bind (wpAny_pure (wpAny_bind (wpAny_pure (wpAny_bind (wpAny_pure ?_)))))
  unfold makeTail
  rw [hclo]
  refine wpAny_bind (wpAny_pure ?_)
  have fin : ∀ (ct : Value) (h1 : Heap), Kp XN h h1 → (∀ v, ct = .ref v → h.get? v = none) → wpAny M A (do
      let fd : FuncData := { name, qualname := q, params := args, body := .stmts body, scope, globals := env.globals, closure := clo, closureTuple := ct,
                             code := ← functionCode env pos pos.line name q args scope (.stmts body), builtins := ← builtinsFor env.globals env.builtins,
                             defaults := .none, kwdefaults := .none, annotations := none, pyModule := (← nsGet env.globals "__name__").getD .none,
                             doc := ← match FuncBody.stmts body with
                               | .stmts b => (match docOf b with | some s => mkText s | none => pure .none)
                               | .expr _ => pure .none }
      newObj (.type "function") (.func fd)) (fun f s1 => wpAny M A (do
        standAt pos
        bindName env name f
        pure Flow.next) Q E s1) E ⟨h1, gg, dd, tt, os⟩ := by
    intro ct h1 k1 hct
    have T1 := T.kp k1 (fun x => x) (fun x => x)
    refine wpAny_bind (m_fcode (q := q) hc T1 (fun v e => ?_) fun c' h2 tk ps' C => ?_)
    · obtain ⟨c', e', r⟩ := hh v e
      exact ⟨c', e', r.keeps k1.all⟩
    have k2 : Kp (fun a => a = P ∧ codeAmong pos ps.toList = none) h h2 := ⟨fun a o n e => C.kp.at' a o n (k1.all a o e)⟩
    rw [hg]
    refine wpAny_bind (hb h2 tk _ k2 ?_)
    refine wpAny_bind (hn h2 tk _ k2 ?_)
    simp only [hdoc]
    refine wpAny_bind (wpAny_pure ?_)
    refine wpAny_newObj_type ?_ (by size_fits)
    refine wpAny_bind (wpAny_standAt ?_)
    refine wpAny_bind (wpAny_mono (x _ ct c' h1 h2 tk ps' C k1 rfl hct) (fun _ _ z => wpAny_pure z) fun _ _ z => z)
  cases hcl : clo.isEmpty with
  | true =>
    simp only [if_true]
    exact wpAny_bind (wpAny_pure (fin .none h (Kp.refl h) (fun v e => by cases e)))
  | false =>
    simp only [Bool.false_eq_true, if_false]
    refine wpAny_bind (wpAny_newTextTuple (fin _ _ (Kp.push h _) (fun v e => by cases e; exact none_of_le (Nat.le_refl _))))
end
end Mine
namespace Mine
set_option maxRecDepth 100000
set_option maxHeartbeats 0
theorem putIn_new (name : Str) (f : Option DictEntry → DictEntry) : ∀ es : List DictEntry, (es.all fun e => !e.key.isStr name && !e.refKey) = true → nsPutIn name.cps.size name.cps.toList f es = (es ++ [f none], true)
  | [], _ => rfl
  | e :: r, h => by
    simp only [List.all_cons, Bool.and_eq_true, Bool.not_eq_true'] at h
    rw [nsPutIn, Value.isStrByCps_eq, h.1.1, putIn_new name f r h.2]
    rfl
theorem nameIn_new (name : Str) : ∀ es : List DictEntry, (es.all fun e => !e.key.isStr name && !e.refKey) = true → nsNameIn name.cps.size name.cps.toList es false = (none, false)
  | [], _ => rfl
  | e :: r, h => by
    simp only [List.all_cons, Bool.and_eq_true, Bool.not_eq_true'] at h
    rw [nsNameIn, Value.isStrByCps_eq, h.1.1, h.1.2]
    exact nameIn_new name r h.2
section
variable {prog : Program} {w : World} {A : Around} {E : Value → Shared → Prop} {h : Heap} {gg : Array GenState} {dd : Drawn} {tt : Nat} {os : OsState}
theorem m_nsput {ns : Addr} {name : Str} {v : Value} {es : List DictEntry} {u : Nat} {cls : Value} {dct : Option Addr} {sl : Array (Option Value)} {Q : Unit → Shared → Prop}
   (ho : h.get? ns = some ⟨cls, dct, .dict ⟨es⟩ u, sl⟩) (hno : (es.all fun e => !e.key.isStr name && !e.refKey) = true)
   (x : ∀ h' tk, Kp (· = ns) h h' → h'.get? ns = some ⟨cls, dct, .dict ⟨es ++ [⟨PyData.keyHash w.params name, .str name tk, v⟩]⟩ (u + 1), sl⟩ → Q () ⟨h', gg, dd, tt + 1, os⟩) :
   wpAny (model prog w) A (nsSet ns name v) Q E ⟨h, gg, dd, tt, os⟩ := by
  unfold nsSet strHash
  refine wpAny_bind (wpAny_bind (wpAny_askSetting (wpAny_pure ?_)))
  refine wpAny_bind (wpAny_mkText ?_)
  refine wpAny_bind (wpAny_loadPart ho ?_)
  dsimp only
  have e1 : aRefKeyMayBeTheName name ⟨es⟩ = false := by
    unfold aRefKeyMayBeTheName
    dsimp only
    rw [nameIn_new name es hno]
  rw [e1]
  simp only [Bool.false_eq_true, if_false]
  refine wpAny_bind (wpAny_pure ?_)
  refine wpAny_updatePart ho ?_
  have e2 : Obj.putName name (PyData.keyHash w.params name) (.str name tt) v ⟨cls, dct, .dict ⟨es⟩ u, sl⟩ = ⟨cls, dct, .dict ⟨es ++ [⟨PyData.keyHash w.params name, .str name tt, v⟩]⟩ (u + 1), sl⟩ := by
    unfold Obj.putName
    dsimp only
    rw [putIn_new name _ es hno]
  refine x _ tt (Kp.upd rfl) ?_
  refine (Heap.get?_update_self _ ho ?_).trans (congrArg some e2)
  exact (congrArg Obj.isFreed e2).trans rfl
theorem m_nsover {ns : Addr} {name : Str} {v v0 : Value} {es : List DictEntry} {hs : Int} {k u : Nat} {cls : Value} {dct : Option Addr} {sl : Array (Option Value)} {Q : Unit → Shared → Prop}
   (ho : h.get? ns = some ⟨cls, dct, .dict ⟨⟨hs, .str name k, v0⟩ :: es⟩ u, sl⟩)
   (x : ∀ h', Kp (· = ns) h h' → h'.get? ns = some ⟨cls, dct, .dict ⟨⟨hs, .str name k, v⟩ :: es⟩ u, sl⟩ → Q () ⟨h', gg, dd, tt + 1, os⟩) :
   wpAny (model prog w) A (nsSet ns name v) Q E ⟨h, gg, dd, tt, os⟩ := by
  unfold nsSet strHash
  refine wpAny_bind (wpAny_bind (wpAny_askSetting (wpAny_pure ?_)))
  refine wpAny_bind (wpAny_mkText ?_)
  refine wpAny_bind (wpAny_loadPart ho ?_)
  dsimp only
  have hs1 : (Value.str name k).isStr name = true := by show (name == name) = true; exact beq_self_eq_true _
  have e1 : aRefKeyMayBeTheName name ⟨⟨hs, .str name k, v0⟩ :: es⟩ = false := by
    unfold aRefKeyMayBeTheName
    dsimp only
    rw [nsNameIn, Value.isStrByCps_eq, hs1]
    rfl
  rw [e1]
  simp only [Bool.false_eq_true, if_false]
  refine wpAny_bind (wpAny_pure ?_)
  refine wpAny_updatePart ho ?_
  have e2 : Obj.putName name (if name.cps.isEmpty = true then 0 else reduceHash ((model prog w).w.params.strHash name.cps)) (.str name tt) v ⟨cls, dct, .dict ⟨⟨hs, .str name k, v0⟩ :: es⟩ u, sl⟩ = ⟨cls, dct, .dict ⟨⟨hs, .str name k, v⟩ :: es⟩ u, sl⟩ := by
    unfold Obj.putName
    dsimp only
    rw [nsPutIn, Value.isStrByCps_eq, hs1]
    rfl
  refine x _ (Kp.upd rfl) ?_
  refine (Heap.get?_update_self _ ho ?_).trans (congrArg some e2)
  exact (congrArg Obj.isFreed e2).trans rfl
theorem m_cstore_over {env : Env} {name : Str} {v v0 : Value} {es : List DictEntry} {hs : Int} {k u : Nat} {dct : Option Addr} {sl : Array (Option Value)} {Q : Unit → Shared → Prop}
   (he : storeName env name v = localSet env name v) (ho : h.get? env.locals = some ⟨.type "dict", dct, .dict ⟨⟨hs, .str name k, v0⟩ :: es⟩ u, sl⟩)
   (x : ∀ h', Kp (· = env.locals) h h' → h'.get? env.locals = some ⟨.type "dict", dct, .dict ⟨⟨hs, .str name k, v⟩ :: es⟩ u, sl⟩ → Q () ⟨h', gg, dd, tt + 1, os⟩) :
   wpAny (model prog w) A (storeName env name v) Q E ⟨h, gg, dd, tt, os⟩ := by
  rw [he]
  unfold localSet
  refine wpAny_bind (wpAny_load ho ?_)
  simp only [beq_self_eq_true, if_true]
  exact m_nsover ho x
theorem m_cstore {env : Env} {name : Str} {v : Value} {es : List DictEntry} {u : Nat} {dct : Option Addr} {sl : Array (Option Value)} {Q : Unit → Shared → Prop}
   (he : storeName env name v = localSet env name v) (ho : h.get? env.locals = some ⟨.type "dict", dct, .dict ⟨es⟩ u, sl⟩) (hno : (es.all fun e => !e.key.isStr name && !e.refKey) = true)
   (x : ∀ h' tk, Kp (· = env.locals) h h' → h'.get? env.locals = some ⟨.type "dict", dct, .dict ⟨es ++ [⟨PyData.keyHash w.params name, .str name tk, v⟩]⟩ (u + 1), sl⟩ → Q () ⟨h', gg, dd, tt + 1, os⟩) :
   wpAny (model prog w) A (storeName env name v) Q E ⟨h, gg, dd, tt, os⟩ := by
  rw [he]
  unfold localSet
  refine wpAny_bind (wpAny_load ho ?_)
  simp only [beq_self_eq_true, if_true]
  exact m_nsput ho hno x
theorem m_cbind {env : Env} {name : Str} {v : Value} {es : List DictEntry} {u : Nat} {dct : Option Addr} {sl : Array (Option Value)} {Q : Unit → Shared → Prop}
   (he : storeName env name v = localSet env name v) (ho : h.get? env.locals = some ⟨.type "dict", dct, .dict ⟨es⟩ u, sl⟩) (hno : (es.all fun e => !e.key.isStr name && !e.refKey) = true)
   (x : ∀ h' tk, Kp (· = env.locals) h h' → h'.get? env.locals = some ⟨.type "dict", dct, .dict ⟨es ++ [⟨PyData.keyHash w.params name, .str name tk, v⟩]⟩ (u + 1), sl⟩ → Q () ⟨h', gg, dd, tt + 1, os⟩) :
   wpAny (model prog w) A (bindName env name v) Q E ⟨h, gg, dd, tt, os⟩ := by
  unfold bindName
  refine wpAny_bind (wpAny_holding (wpAny_point ?_))
  exact wpAny_bind (m_cstore he ho hno fun h' tk k e => wpAny_point (x h' tk k e))
end
end Mine
namespace Mine
local macro_rules | `(tactic| walk_at "my hnf") => `(tactic| (conv => arg 3; whnf))
set_option maxRecDepth 100000
set_option maxHeartbeats 0
set_option pp.deepTerms false
set_option pp.proofs false
set_option pp.maxSteps 3000
theorem noLimit {w : World} {h : Heap} (KX : Frag.In (K2 w.params) h) : h.NoLimit :=
  ⟨nsFind #[], ⟨_, _, _, kin KX 2 _ rfl, rfl, (by intro e he; simp at he), fun _ => rfl⟩, rfl⟩
noncomputable def fdAt (a : Nat) (p : Params) : FuncData := match (K2 p).lookup a with | some ⟨_, _, .func fd, _⟩ => fd | _ => default
noncomputable def bodyAt (a : Nat) (p : Params) : List Stmt := match (fdAt a p).body with | .stmts b => b | _ => []
set_option hygiene false in
local macro_rules | `(tactic| walk_at "my ldm") => `(tactic| first
  | (exact Mem.at D 0 _ _ rfl) | (exact Mem.at D 1 _ _ rfl) | (exact Mem.at D 2 _ _ rfl) | (exact Mem.at D 3 _ _ rfl) | (exact Mem.at D 4 _ _ rfl)| (exact Mem.at D 5 _ _ rfl)| (exact Mem.at D 6 _ _ rfl)| (exact Mem.at D 7 _ _ rfl)| (exact Mem.at D 8 _ _ rfl)| (exact Mem.at D 9 _ _ rfl)
  | (exact mold D (by assumption) rfl)
  | (exact mold D (kin KX _ _ rfl) rfl)| (exact mold D (kin KX4 _ _ rfl) rfl))
theorem fx1'' : Builtin.Slots.isIdentifier (Str.ofString "obj") = some true := by decide +kernel
theorem fx2'' : Builtin.Slots.mangle (Str.ofString "K") (Str.ofString "obj") = Str.ofString "obj" := by decide +kernel
local macro_rules | `(tactic| walk_at "my ldstep") => `(tactic| (with_reducible refine' m_load ?a ?b; (case a => (walk_at "my ldm"; done))))
local macro_rules | `(tactic| walk_at "my dec") => `(tactic| first
  | (refine rec_no ?kk ?_; (case kk => (decide +kernel; done)))
  | (refine rec_yes ?kk ?_; (case kk => (decide +kernel; done)))
  | (refine rec_no ?kk ?_; (case kk => (intro hx; have hx' : @Eq Nat _ 1 := of_decide_eq_true hx; omega)))
  | (refine rec_no ?kk ?_; (case kk => (intro hx; have hx' : @Eq Nat _ _ := of_decide_eq_true hx; omega)))
  | (refine rec_no ?kk ?_; (case kk => (intro hx; have hx' : @Eq Nat _ _ := hx; omega)))
  | (refine rec_yes ?kk ?_; (case kk => (exact rfl; done)))
  | (refine rec_yes ?kk ?_; (case kk => (simp; done)))
  | (refine rec_no ?kk ?_; (case kk => (simp [fx2, Value.isStr]; done)))
  | (refine rec_no ?kk ?_; (case kk => (simp [fx2, Value.isStr]; decide)))
  | (refine rec_no ?kk ?_; (case kk => (simp; omega))))
theorem m_anyM'' {prog : Program} {w : World} {A : Around} {Q : Bool → Shared → Prop} {E : Value → Shared → Prop} {s : Shared} {p : Value → Sem Bool} {l : List Value} (l' : List Value) (e : l = l')
   (x : wpAny (model prog w) A (List.anyM p l') Q E s) : wpAny (model prog w) A (List.anyM p l) Q E s := by rw [e]; exact x
theorem fx3'' : Bind.madeBy (Value.type "object") = Sem.pure (some "object.__new__") := by kernel_rfl
local macro_rules | `(tactic| walk_at "my pre") => `(tactic| with_reducible refine m_eq fx3 ?_)
local macro_rules | `(tactic| walk_at "my fixes") => `(tactic| first
  | rw [fx1]
  | rw [fx2]
  | (refine m_anyM [Value.type "object"] ?kk ?_; (case kk => (simp; done))))
local macro_rules | `(tactic| walk_at "my ent_call") => `(tactic| fail "no")
local macro_rules | `(tactic| walk_at "my ent_again") => `(tactic| fail "no")
local macro_rules | `(tactic| walk_at "my norm_at_D") => `(tactic| skip)
set_option hygiene false in
local macro_rules | `(tactic| walk_at "my nD") => `(tactic| (simp only [List.set, Obj.mapSeq, Obj.mapCls, Obj.mapDict, Obj.mapFields, Obj.dropName, Obj.putName] at D))
set_option hygiene false in
local macro_rules | `(tactic| walk_at "my go1") => `(tactic| first
  | walk_at "my pre"
  | (walk_at "my hnf"; first
  | with_reducible refine x_rule ?_ | with_reducible refine x_at ?_ | with_reducible refine x_point ?_ | with_reducible refine x_ask ?_ | with_reducible refine m_fresh ?_ | with_reducible refine x_handled ?_ | with_reducible refine x_pure ?_
  | walk_at "my ldstep"
  | (with_reducible refine m_stack ?_; intro st l)
  | with_reducible refine m_bind ?_ | with_reducible refine m_keep ?_ | with_reducible refine m_onRaise ?_ | with_reducible refine m_try ?_
  | ((fail_if_success (with_reducible refine' is_alloc ?_)); (fail_if_success (with_reducible refine' is_update ?_)); (fail_if_success (with_reducible refine' is_call ?_)); (fail_if_success (with_reducible refine' is_load ?_)); (first | walk_at "my dec" | walk_at "my fixes"))
  )
  | (with_reducible refine m_done ?_) | walk_at "my ent_again")


set_option hygiene false in
local macro_rules | `(tactic| walk_at "my go2") => `(tactic| first
  | walk_at "my go1"
  | (walk_at "my hnf"; first
    | (with_reducible refine m_allocG D rfl ?_; intro a h D hlt)
    | (with_reducible refine m_allocF' hs D rfl ?_; intro a h D hlt)
    | (with_reducible refine m_update D 0 rfl rfl ?_; intro h D; dsimp only [List.set] at D)
    | (with_reducible refine m_update D 1 rfl rfl ?_; intro h D; dsimp only [List.set] at D)
    | (with_reducible refine m_update D 2 rfl rfl ?_; intro h D; dsimp only [List.set] at D)
    | (with_reducible refine m_update D 3 rfl rfl ?_; intro h D; dsimp only [List.set] at D)
    | (with_reducible refine m_update D 4 rfl rfl ?_; intro h D; dsimp only [List.set] at D)
    | (with_reducible refine m_update D 5 rfl rfl ?_; intro h D; dsimp only [List.set] at D)))
theorem m_allocE {α : Type} {prog : Program} {w : World} {A : Around} {E : Value → Shared → Prop} {Q : α → Shared → Prop} {h₀ h : Heap} {chg news : List (Addr × Obj)} {g : Array GenState} {d : Drawn} {t : Nat} {os : OsState} {o : Obj} {k : Addr → Sem α} {b : Addr} {ob : Obj} (o' : Obj) (D : Mem h₀ h chg ((b, ob) :: news)) (e : o = o') (hf : o'.isFreed = false)
    (x : ∀ a h', Mem h₀ h' chg ((a, o') :: (b, ob) :: news) → (@LT.lt Nat _ b a) → wpAny (model prog w) A (k a) Q E ⟨h', g, d, t, os⟩) : wpAny (model prog w) A (.alloc o k) Q E ⟨h, g, d, t, os⟩ := by
  subst e
  exact m_allocG D hf x
theorem m_mapM {β γ : Type} {prog : Program} {w : World} {A : Around} {Q : List γ → Shared → Prop} {E : Value → Shared → Prop} {s : Shared} {f : β → Sem γ} {l : List β} {acc : List γ} (l' : List β) (e : l = l')
   (x : wpAny (model prog w) A (List.mapM.loop f l' acc) Q E s) : wpAny (model prog w) A (List.mapM.loop f l acc) Q E s := by rw [e]; exact x
theorem near_no {A : Around} {st : List (Code × Pos)} (l : Lies A st) (hd : A.depth < recursionLimit) (own : Nat) : ¬ (nearTheLimitUnderAClaim (st.map (·.1)) ((((st.map (·.1)).map (·.frames)).sum - own) + ((st.map (·.1)).filter Code.isCreation).length) recursionLimit = true) := by
  rw [l.near hd own]; exact Bool.false_ne_true
theorem over_no {A : Around} {st : List (Code × Pos)} (l : Lies A st) (hd : A.depth < recursionLimit) (own : Nat) : ¬ (((st.map (·.1)).map (·.frames)).sum - own ≥ recursionLimit) := by
  have := l.sum hd
  omega
theorem warm_no {A : Around} {st : List (Code × Pos)} (l : Lies A st) (hd : A.depth < recursionLimit) (own : Nat) : ¬ ((((st.map (·.1)).map (·.frames)).sum - own) + ((st.map (·.1)).filter Code.isCreation).length ≥ recursionLimit) := by
  have := l.sum hd
  omega
noncomputable def envC (p : Params) (F cl : Addr) : Env := newEnv (fdAt 42 p).scope F 3 [("mycmp", cl)] ("cmp_to_key" ++ ".<locals>.") (some 42) (.ref 41) none 0
def cellObj (v : Value) : Obj := ⟨.type "cell", none, .cell (some v), #[]⟩
theorem cmp1 {A : Around} {R : Result → Shared → Prop} (w : World) (h : Heap) (gg : Array GenState) (dd tt os) (f : Addr)
   (hdp : A.depth ≤ 680) (KX : Frag.In (K2 w.params) h)
   (x : ∀ h1 tk F cl, Kp XN h h1 → h.get? F = none → h.get? cl = none → F ≠ cl → h1.get? F = some ⟨.type "frame", none, .dict ⟨[]⟩ 0, #[]⟩ → h1.get? cl = some (cellObj (.ref f)) →
     wpAny (model P w) (A.deeper (envC w.params F cl)) (execs (bodyAt 42 w.params) (envC w.params F cl)) (fun f s' => R (.ok (.ret (match f with | .ret v => v | _ => .none))) s') (fun _ _ => False) ⟨h1, gg, dd, tk, os⟩) :
   codeAny (model P w) A (.call (.ref 42) ⟨[.ref f], []⟩) R ⟨h, gg, dd, tt, os⟩ := by
  refine codeAny_call_function (fd := fdAt 42 w.params) (body := bodyAt 42 w.params) ?_ (kin KX 42 _ rfl) rfl rfl rfl rfl ?_ ?_
  · exact Nat.lt_of_le_of_lt hdp (by decide)
  · exact ⟨41, _, _, _, rfl, kin KX 41 _ rfl, rfl, rfl⟩
  have D := Mem.start h
  repeat walk_at "my go1"
  walk_at "my hnf"
  refine m_allocS D rfl ?_
  intro F h1 D hF
  repeat walk_at "my go1"
  walk_at "my hnf"
  refine m_allocG D rfl ?_
  intro cl h2 D hcl
  repeat walk_at "my go1"
  walk_at "my hnf"
  refine m_upd D 0 (cellObj (.ref f)) rfl rfl rfl ?_
  intro h3 D
  dsimp only [List.set] at D
  repeat walk_at "my go1"
  have K3 : Kp XN h h3 := ⟨fun a o _ e => keeps_of D a o e⟩
  have KX3 : Frag.In (K2 w.params) h3 := fun a o e => K3.all _ _ (KX a o e)

  refine ⟨noLimit KX3, codeAny_func ?_⟩
  refine wpAny_mono (x h3 _ F cl K3 (none_of_le hF) (none_of_le (Nat.le_of_lt (Nat.lt_of_le_of_lt hF hcl))) (Nat.ne_of_lt hcl) (Mem.at D 1 _ _ rfl) (Mem.at D 0 _ _ rfl)) ?_ ?_
  · intro f s hx; cases f <;> exact hx
  · intro _ _ hx; exact hx.elim
end Mine
set_option profiler true
set_option profiler.threshold 1000
namespace Mine
local macro_rules | `(tactic| walk_at "my hnf") => `(tactic| (conv => arg 3; whnf))
set_option maxRecDepth 100000
set_option maxHeartbeats 0
set_option pp.deepTerms false
set_option pp.proofs false
set_option pp.maxSteps 100000
set_option hygiene false in
local macro_rules | `(tactic| walk_at "my ldm") => `(tactic| first
  | (exact Mem.at D 0 _ _ rfl) | (exact Mem.at D 1 _ _ rfl) | (exact Mem.at D 2 _ _ rfl) | (exact Mem.at D 3 _ _ rfl) | (exact Mem.at D 4 _ _ rfl)| (exact Mem.at D 5 _ _ rfl)| (exact Mem.at D 6 _ _ rfl)| (exact Mem.at D 7 _ _ rfl)| (exact Mem.at D 8 _ _ rfl)| (exact Mem.at D 9 _ _ rfl)
  | (exact mold D (by assumption) rfl)
  | (exact mold D (kin KX _ _ rfl) rfl)| (exact mold D (kin KX1 _ _ rfl) rfl))
theorem fx1c : Builtin.Slots.isIdentifier (Str.ofString "obj") = some true := by decide +kernel
theorem fx2c : Builtin.Slots.mangle (Str.ofString "K") (Str.ofString "obj") = Str.ofString "obj" := by decide +kernel
local macro_rules | `(tactic| walk_at "my ldstep") => `(tactic| (with_reducible refine' m_load ?a ?b; (case a => (walk_at "my ldm"; done))))
local macro_rules | `(tactic| walk_at "my dec") => `(tactic| first
  | (refine rec_no ?kk ?_; (case kk => (decide +kernel; done)))
  | (refine rec_yes ?kk ?_; (case kk => (decide +kernel; done)))
  | (refine rec_no ?kk ?_; (case kk => (intro hx; have hx' : @Eq Nat _ 1 := of_decide_eq_true hx; omega)))
  | (refine rec_no ?kk ?_; (case kk => (intro hx; have hx' : @Eq Nat _ _ := of_decide_eq_true hx; omega)))
  | (refine rec_no ?kk ?_; (case kk => (intro hx; have hx' : @Eq Nat _ _ := hx; omega)))
  | (refine rec_yes ?kk ?_; (case kk => (exact rfl; done)))
  | (refine rec_yes ?kk ?_; (case kk => (simp; done)))
  | (refine rec_no ?kk ?_; (case kk => (simp [fx2, Value.isStr]; done)))
  | (refine rec_no ?kk ?_; (case kk => (simp [fx2, Value.isStr]; decide)))
  | (refine rec_no ?kk ?_; (case kk => (simp; omega))))
theorem m_anyMc {prog : Program} {w : World} {A : Around} {Q : Bool → Shared → Prop} {E : Value → Shared → Prop} {s : Shared} {p : Value → Sem Bool} {l : List Value} (l' : List Value) (e : l = l')
   (x : wpAny (model prog w) A (List.anyM p l') Q E s) : wpAny (model prog w) A (List.anyM p l) Q E s := by rw [e]; exact x
theorem fx3c : Bind.madeBy (Value.type "object") = Sem.pure (some "object.__new__") := by kernel_rfl
local macro_rules | `(tactic| walk_at "my pre") => `(tactic| with_reducible refine m_eq fx3 ?_)
local macro_rules | `(tactic| walk_at "my fixes") => `(tactic| first
  | rw [fx1]
  | rw [fx2]
  | (refine m_anyM [Value.type "object"] ?kk ?_; (case kk => (simp; done))))
local macro_rules | `(tactic| walk_at "my ent_call") => `(tactic| fail "no")
local macro_rules | `(tactic| walk_at "my ent_again") => `(tactic| fail "no")
local macro_rules | `(tactic| walk_at "my norm_at_D") => `(tactic| skip)
set_option hygiene false in
local macro_rules | `(tactic| walk_at "my nD") => `(tactic| (simp only [List.set, Obj.mapSeq, Obj.mapCls, Obj.mapDict, Obj.mapFields, Obj.dropName, Obj.putName] at D))
set_option hygiene false in
local macro_rules | `(tactic| walk_at "my go1") => `(tactic| first
  | walk_at "my pre"
  | (walk_at "my hnf"; first
  | with_reducible refine x_rule ?_ | with_reducible refine x_at ?_ | with_reducible refine x_point ?_ | with_reducible refine x_ask ?_ | with_reducible refine m_fresh ?_ | with_reducible refine x_handled ?_ | with_reducible refine x_pure ?_
  | walk_at "my ldstep"
  | (with_reducible refine m_stack ?_; intro st l)
  | with_reducible refine m_bind ?_ | with_reducible refine m_keep ?_ | with_reducible refine m_onRaise ?_ | with_reducible refine m_try ?_
  | ((fail_if_success (with_reducible refine' is_alloc ?_)); (fail_if_success (with_reducible refine' is_update ?_)); (fail_if_success (with_reducible refine' is_call ?_)); (fail_if_success (with_reducible refine' is_load ?_)); (first | walk_at "my dec" | walk_at "my fixes"))
  )
  | (with_reducible refine m_done ?_) | walk_at "my ent_again")


set_option hygiene false in
local macro_rules | `(tactic| walk_at "my go1k") => `(tactic| first
  | walk_at "my pre"
  | (walk_at "my hnf"; first
  | with_reducible refine x_rule ?_ | with_reducible refine x_at ?_ | with_reducible refine x_point ?_ | with_reducible refine x_ask ?_ | with_reducible refine m_fresh ?_ | with_reducible refine x_handled ?_ | with_reducible refine x_pure ?_
  | walk_at "my ldstep"
  | (with_reducible refine m_stack ?_; intro st l)
  | with_reducible refine m_bind ?_ | with_reducible refine m_onRaise ?_ | with_reducible refine m_try ?_
  | ((fail_if_success (with_reducible refine' is_alloc ?_)); (fail_if_success (with_reducible refine' is_update ?_)); (fail_if_success (with_reducible refine' is_call ?_)); (fail_if_success (with_reducible refine' is_load ?_)); (first | walk_at "my dec" | walk_at "my fixes"))
  )
  | (with_reducible refine m_done ?_) | walk_at "my ent_again")


set_option hygiene false in
local macro_rules | `(tactic| walk_at "my go2") => `(tactic| first
  | walk_at "my go1"
  | (walk_at "my hnf"; first
    | (with_reducible refine m_allocG D rfl ?_; intro a h D hlt)
    | (with_reducible refine m_allocF' hs D rfl ?_; intro a h D hlt)
    | (with_reducible refine m_update D 0 rfl rfl ?_; intro h D; dsimp only [List.set] at D)
    | (with_reducible refine m_update D 1 rfl rfl ?_; intro h D; dsimp only [List.set] at D)
    | (with_reducible refine m_update D 2 rfl rfl ?_; intro h D; dsimp only [List.set] at D)
    | (with_reducible refine m_update D 3 rfl rfl ?_; intro h D; dsimp only [List.set] at D)
    | (with_reducible refine m_update D 4 rfl rfl ?_; intro h D; dsimp only [List.set] at D)
    | (with_reducible refine m_update D 5 rfl rfl ?_; intro h D; dsimp only [List.set] at D)))
noncomputable def clsStmt (p : Params) : Stmt := (bodyAt 42 p).headD (.Pass default)
noncomputable def clsBody (p : Params) : List Stmt := match clsStmt p with | .ClassDef _ _ _ b .. => b | _ => []
noncomputable def clsScope (p : Params) : Scope := match clsStmt p with | .ClassDef _ _ _ _ _ _ sc .. => sc | _ => default
noncomputable def clsPos (p : Params) : Pos := match clsStmt p with | .ClassDef _ _ _ _ _ _ _ _ _ _ pos => pos | _ => default
noncomputable def clsStatics (p : Params) : List Str := match clsStmt p with | .ClassDef _ _ _ _ _ _ _ _ _ st _ => st | _ => default
noncomputable def clsBase (p : Params) : Pos := match clsStmt p with | .ClassDef _ [.Name _ q] .. => q | _ => default
theorem clsStmt_eq (p : Params) : clsStmt p = .ClassDef "K" [.Name "object" (clsBase p)] [] (clsBody p) [] [] (clsScope p) none "K" (clsStatics p) (clsPos p) := by kernel_rfl
theorem class1 {A : Around} {Q : Flow → Shared → Prop} (w : World) (h : Heap) (gg : Array GenState) (dd tt os) (f F cl : Addr)
   (hh : A.handled = none) (hdp : A.depth ≤ 690) (hun : A.units ≤ 4900) (KX : Frag.In (K2 w.params) h) (hF : h.get? F = some ⟨.type "frame", none, .dict ⟨[]⟩ 0, #[]⟩) (hcl : h.get? cl = some (cellObj (.ref f)))
   (x : wpAny (model P w) A (buildClass "K" (qualnameIn (envC w.params F cl) "K" "K") [.type "object"] [] (clsBody w.params) (clsScope w.params) (clsStatics w.params) (clsPos w.params).line (envC w.params F cl) (clsPos w.params) none)
     (fun c s' => wpAny (model P w) A (bindName (envC w.params F cl) "K" c) (fun _ s2 => Q .next s2) (fun _ _ => False) s') (fun _ _ => False) ⟨h, gg, dd, tt, os⟩) :
   wpAny (model P w) A (exec (clsStmt w.params) (envC w.params F cl)) Q (fun _ _ => False) ⟨h, gg, dd, tt, os⟩ := by
  have D := Mem.start h
  (rw [clsStmt_eq, arm_exec_ClassDef])
  refine wpAny_bind (wpAny_pure ?_)
  refine wpAny_bind (wpAny_standAt ?_)
  refine wpAny_bind ?_
  unfold buildClassGuard
  refine wpAny_bind ?_
  repeat walk_at "my go1"
  refine m_bind ?_
  refine m_bind (wpAny_pure ?_)
  refine wpAny_holding ?_
  refine wpAny_mono x ?_ ?_
  · intro c s' hx
    refine wpAny_bind (wpAny_pure ?_)
    refine wpAny_bind (wpAny_standAt ?_)
    refine wpAny_bind (wpAny_mono hx ?_ ?_)
    · intro _ s2 hy; exact wpAny_pure hy
    · intro _ _ hy; exact hy
  · intro _ _ hx; exact hx
theorem cls_q (p : Params) (F cl : Addr) : qualnameIn (envC p F cl) "K" "K" = Str.ofString "cmp_to_key.<locals>.K" := by kernel_rfl
theorem cls_line (p : Params) : (clsPos p).line = 19 := by kernel_rfl
end Mine
namespace Mine
local macro_rules | `(tactic| walk_at "my hnf") => `(tactic| (conv => arg 3; whnf))
set_option maxRecDepth 100000
set_option maxHeartbeats 0
set_option pp.deepTerms false
set_option pp.proofs false
set_option pp.maxSteps 3000
set_option hygiene false in
local macro_rules | `(tactic| walk_at "my ldm") => `(tactic| first
  | (exact Mem.at D 0 _ _ rfl) | (exact Mem.at D 1 _ _ rfl) | (exact Mem.at D 2 _ _ rfl) | (exact Mem.at D 3 _ _ rfl) | (exact Mem.at D 4 _ _ rfl)| (exact Mem.at D 5 _ _ rfl)| (exact Mem.at D 6 _ _ rfl)| (exact Mem.at D 7 _ _ rfl)| (exact Mem.at D 8 _ _ rfl)| (exact Mem.at D 9 _ _ rfl)
  | (exact mold D (by assumption) rfl)
  | (exact mold D (kin KX _ _ rfl) rfl)| (exact mold D (kin KX1 _ _ rfl) rfl))
theorem fx1d : Builtin.Slots.isIdentifier (Str.ofString "obj") = some true := by decide +kernel
theorem fx2d : Builtin.Slots.mangle (Str.ofString "K") (Str.ofString "obj") = Str.ofString "obj" := by decide +kernel
local macro_rules | `(tactic| walk_at "my ldstep") => `(tactic| (with_reducible refine' m_load ?a ?b; (case a => (walk_at "my ldm"; done))))
local macro_rules | `(tactic| walk_at "my dec") => `(tactic| first
  | (refine rec_no ?kk ?_; (case kk => (decide +kernel; done)))
  | (refine rec_yes ?kk ?_; (case kk => (decide +kernel; done)))
  | (refine rec_no ?kk ?_; (case kk => (intro hx; have hx' : @Eq Nat _ 1 := of_decide_eq_true hx; omega)))
  | (refine rec_no ?kk ?_; (case kk => (intro hx; have hx' : @Eq Nat _ _ := of_decide_eq_true hx; omega)))
  | (refine rec_no ?kk ?_; (case kk => (intro hx; have hx' : @Eq Nat _ _ := hx; omega)))
  | (refine rec_yes ?kk ?_; (case kk => (exact rfl; done)))
  | (refine rec_yes ?kk ?_; (case kk => (simp; done)))
  | (refine rec_no ?kk ?_; (case kk => (simp [fx2, Value.isStr]; done)))
  | (refine rec_no ?kk ?_; (case kk => (simp [fx2, Value.isStr]; decide)))
  | (refine rec_no ?kk ?_; (case kk => (simp; omega))))
theorem m_anyMd {prog : Program} {w : World} {A : Around} {Q : Bool → Shared → Prop} {E : Value → Shared → Prop} {s : Shared} {p : Value → Sem Bool} {l : List Value} (l' : List Value) (e : l = l')
   (x : wpAny (model prog w) A (List.anyM p l') Q E s) : wpAny (model prog w) A (List.anyM p l) Q E s := by rw [e]; exact x
theorem fx3d : Bind.madeBy (Value.type "object") = Sem.pure (some "object.__new__") := by kernel_rfl
local macro_rules | `(tactic| walk_at "my pre") => `(tactic| with_reducible refine m_eq fx3 ?_)
local macro_rules | `(tactic| walk_at "my fixes") => `(tactic| first
  | rw [fx1]
  | rw [fx2]
  | (refine m_anyM [Value.type "object"] ?kk ?_; (case kk => (simp; done))))
local macro_rules | `(tactic| walk_at "my ent_call") => `(tactic| fail "no")
local macro_rules | `(tactic| walk_at "my ent_again") => `(tactic| fail "no")
local macro_rules | `(tactic| walk_at "my norm_at_D") => `(tactic| skip)
set_option hygiene false in
local macro_rules | `(tactic| walk_at "my nD") => `(tactic| (simp only [List.set, Obj.mapSeq, Obj.mapCls, Obj.mapDict, Obj.mapFields, Obj.dropName, Obj.putName] at D))
set_option hygiene false in
local macro_rules | `(tactic| walk_at "my go1") => `(tactic| first
  | walk_at "my pre"
  | (walk_at "my hnf"; first
  | with_reducible refine x_rule ?_ | with_reducible refine x_at ?_ | with_reducible refine x_point ?_ | with_reducible refine x_ask ?_ | with_reducible refine m_fresh ?_ | with_reducible refine x_handled ?_ | with_reducible refine x_pure ?_
  | walk_at "my ldstep"
  | (with_reducible refine m_stack ?_; intro st l)
  | with_reducible refine m_bind ?_ | with_reducible refine m_keep ?_ | with_reducible refine m_onRaise ?_ | with_reducible refine m_try ?_
  | ((fail_if_success (with_reducible refine' is_alloc ?_)); (fail_if_success (with_reducible refine' is_update ?_)); (fail_if_success (with_reducible refine' is_call ?_)); (fail_if_success (with_reducible refine' is_load ?_)); (first | walk_at "my dec" | walk_at "my fixes"))
  )
  | (with_reducible refine m_done ?_) | walk_at "my ent_again")


set_option hygiene false in
local macro_rules | `(tactic| walk_at "my go1k") => `(tactic| first
  | walk_at "my pre"
  | (walk_at "my hnf"; first
  | with_reducible refine x_rule ?_ | with_reducible refine x_at ?_ | with_reducible refine x_point ?_ | with_reducible refine x_ask ?_ | with_reducible refine m_fresh ?_ | with_reducible refine x_handled ?_ | with_reducible refine x_pure ?_
  | walk_at "my ldstep"
  | (with_reducible refine m_stack ?_; intro st l)
  | with_reducible refine m_bind ?_ | with_reducible refine m_onRaise ?_ | with_reducible refine m_try ?_
  | ((fail_if_success (with_reducible refine' is_alloc ?_)); (fail_if_success (with_reducible refine' is_update ?_)); (fail_if_success (with_reducible refine' is_call ?_)); (fail_if_success (with_reducible refine' is_load ?_)); (first | walk_at "my dec" | walk_at "my fixes"))
  )
  | (with_reducible refine m_done ?_) | walk_at "my ent_again")


set_option hygiene false in
local macro_rules | `(tactic| walk_at "my go2") => `(tactic| first
  | walk_at "my go1"
  | (walk_at "my hnf"; first
    | (with_reducible refine m_allocG D rfl ?_; intro a h D hlt)
    | (with_reducible refine m_allocF' hs D rfl ?_; intro a h D hlt)
    | (with_reducible refine m_update D 0 rfl rfl ?_; intro h D; dsimp only [List.set] at D)
    | (with_reducible refine m_update D 1 rfl rfl ?_; intro h D; dsimp only [List.set] at D)
    | (with_reducible refine m_update D 2 rfl rfl ?_; intro h D; dsimp only [List.set] at D)
    | (with_reducible refine m_update D 3 rfl rfl ?_; intro h D; dsimp only [List.set] at D)
    | (with_reducible refine m_update D 4 rfl rfl ?_; intro h D; dsimp only [List.set] at D)
    | (with_reducible refine m_update D 5 rfl rfl ?_; intro h D; dsimp only [List.set] at D)))

theorem m_bf {A : Around} {E : Value → Shared → Prop} {w : World} {h : Heap} {gg : Array GenState} {dd tt os} {Q : Addr → Shared → Prop} (KX : Frag.In (K2 w.params) h) (x : Q 0 ⟨h, gg, dd, tt, os⟩) : wpAny (model P w) A (builtinsFor 3 0) Q E ⟨h, gg, dd, tt, os⟩ := by
  have D := Mem.start h
  unfold builtinsFor
  refine wpAny_bind ?_
  repeat walk_at "my go1"
  exact x
theorem m_nm {A : Around} {E : Value → Shared → Prop} {w : World} {h : Heap} {gg : Array GenState} {dd tt os} {Q : Option Value → Shared → Prop} (KX : Frag.In (K2 w.params) h) (x : Q (some (.str "law_ek5003_01" 238)) ⟨h, gg, dd, tt, os⟩) : wpAny (model P w) A (nsGet 3 "__name__") Q E ⟨h, gg, dd, tt, os⟩ := by
  have D := Mem.start h
  unfold nsGet
  refine wpAny_bind ?_
  repeat walk_at "my go1"
  exact x
def pmV : Value := .str "law_ek5003_01" 238
structure NZ (w : World) (Z : Addr → Prop) : Prop where
  k2 : ∀ a o, (K2 w.params).lookup a = some o → ¬ Z a
theorem NZ.in {w : World} {Z : Addr → Prop} {h h' : Heap} (n : NZ w Z) (k : Kp Z h h') (KX : Frag.In (K2 w.params) h) : Frag.In (K2 w.params) h' := fun a o e => k.at' _ _ (n.k2 a o e) (KX a o e)
def HJ (Z : Addr → Prop) (h : Heap) (ps : Array Value) (pos : Pos) (q : Str) : Prop := ∀ v, codeAmong pos ps.toList = some v → ∃ c', v = .ref c' ∧ h.CodeRec (.ref c') q ∧ ¬ Z c'
theorem CodeRec_kp {X} {h h' : Heap} {c : Addr} {q : Str} (r : h.CodeRec (.ref c) q) (k : Kp X h h') (n : ¬ X c) : h'.CodeRec (.ref c) q := by
  obtain ⟨c2, o2, vs2, t2, e2, g2, r2⟩ := r
  cases e2
  exact ⟨_, o2, vs2, t2, rfl, k.at' _ _ n g2, r2⟩
theorem codeAmong_other {pi pj : Pos} {c : Value} (hl : pi.line ≠ pj.line) (l : List Value) (h : TriplesOk l) : codeAmong pj (l ++ [rawInt pi.line, rawInt pi.col, c]) = codeAmong pj l := by
  fun_induction TriplesOk l with
  | case1 =>
    have : ((pi.line : Int) == (pj.line : Int)) = false := by
      rw [beq_eq_false_iff_ne]; intro e; exact hl (Int.ofNat.inj e)
    simp [codeAmong, rawInt, this]
  | case2 a t b u x rest ih =>
    simp only [List.cons_append, codeAmong]
    split
    · rfl
    · exact ih h
  | case3 l h1 h2 => exact h.elim
theorem HJ.next {Z : Addr → Prop} {h h' : Heap} {ps ps' : Array Value} {pi pj : Pos} {q : Str} {c : Value} (H : HJ Z h ps pj q) (k : Kp Z h h') (t : TriplesOk ps.toList) (hl : pi.line ≠ pj.line)
   (e : ps' = ps ∨ ps' = ps ++ #[rawInt pi.line, rawInt pi.col, c]) : HJ Z h' ps' pj q := by
  intro v hv
  have hv' : codeAmong pj ps.toList = some v := by
    rcases e with rfl | rfl
    · exact hv
    · rw [Array.toList_append, codeAmong_other hl _ t] at hv; exact hv
  obtain ⟨c', e', r, n⟩ := H v hv'
  exact ⟨c', e', CodeRec_kp r k n, n⟩
theorem m_cdef {A : Around} {E : Value → Shared → Prop} {w : World} {env : Env} {h : Heap} {gg : Array GenState} {dd : Drawn} {tt : Nat} {os : OsState} {c P' ns : Addr} {ps : Array Value} {pos : Pos} {name q : Str} {args : Arguments} {scope : Scope} {body : List Stmt} {clo : List (Str × Addr)} {Q : Flow → Shared → Prop} {Z : Addr → Prop} {es : List DictEntry} {u : Nat}
   (hc : env.code = .ref c) (T : Tab h c P' ps) (hh : HJ Z h ps pos q) (hZp : ∀ a, Z a → ∃ o, h.get? a = some o)
   (hq : qualnameIn env name name = q) (hd : args.defaults = []) (hkd : args.kw_defaults = []) (hkw : args.kwonlyargs = []) (hann : annTrees args none env = []) (hdoc : docOf body = none)
   (hclo : closureFor scope env = pure clo) (hg : env.globals = 3) (hbi : env.builtins = 0) (hns : env.locals = ns) (hst : ∀ v, storeName env name v = localSet env name v)
   (KX : Frag.In (K2 w.params) h) (hz : NZ w Z) (hZns : Z ns) (hZP : codeAmong pos ps.toList = none → Z P') (hcZ : ¬ Z c) (hPns : P' ≠ ns)
   (ho : h.get? ns = some ⟨.type "dict", none, .dict ⟨es⟩ u, #[]⟩) (hno : (es.all fun e => !e.key.isStr name && !e.refKey) = true)
   (x : ∀ f ct c' h' tk tn ps', Kp Z h h' → h.get? f = none → h'.get? f = some (fnObj name q args body scope clo ct pmV c') → h'.CodeRec (.ref c') q → Tab h' c P' ps' → codeAmong pos ps'.toList = some (.ref c') → (∀ p v, codeAmong p ps.toList = some v → codeAmong p ps'.toList = some v) →
      (ps' = ps ∨ ps' = ps ++ #[rawInt pos.line, rawInt pos.col, .ref c']) → ¬ Z f → ¬ Z c' → 
      h'.get? ns = some ⟨.type "dict", none, .dict ⟨es ++ [⟨PyData.keyHash w.params name, .str name tn, .ref f⟩]⟩ (u + 1), #[]⟩ → Q .next ⟨h', gg, dd, tk, os⟩) :
   wpAny (model P w) A (exec (.FunctionDef name args body [] none [] scope none name pos) env) Q E ⟨h, gg, dd, tt, os⟩ := by
  have kz : ∀ h', Kp (fun a => a = P' ∧ codeAmong pos ps.toList = none) h h' → Kp Z h h' := fun h' k => k.mono fun a o _ e => e.1 ▸ hZP e.2
  refine m_fdef (pm := pmV) hc T (fun v e => (hh v e).imp fun _ z => ⟨z.1, z.2.1⟩) hq hd hkd hkw hann hdoc hclo hg (fun h' tk Q' k e => ?_) (fun h' tk Q' k e => ?_) ?_
  · rw [hbi]; exact m_bf (hz.in (kz _ k) KX) e
  · exact m_nm (hz.in (kz _ k) KX) e
  intro f ct c' h1 h2 tk ps' C k1 hf hct
  subst hns
  have n1 : env.locals ≠ P' := Ne.symm hPns
  have ho2 := C.kp.at' _ _ (fun e => n1 e.1) (k1.all _ _ ho)
  have hpush : ∀ b o, h2.get? b = some o → (h2.push (fnObj name q args body scope clo ct pmV c')).get? b = some o := fun b o e => Heap.get?_push_of_some _ e
  refine m_cbind (hst _) (hpush _ _ ho2) hno fun h3 tn k3 e3 => ?_
  have k02 : Kp Z h h2 := ⟨fun a o n e => C.kp.at' a o (fun z => n (z.1 ▸ hZP z.2)) (k1.all a o e)⟩
  have k3' : Kp Z (h2.push (fnObj name q args body scope clo ct pmV c')) h3 := k3.mono fun a o _ e => e ▸ hZns
  have kAll : Kp Z h h3 := (k02.trans (Kp.push h2 _)).trans k3'
  have hf2 : f ≠ env.locals := by
    rintro e
    have := Heap.lt_size ho2
    rw [← e, hf] at this
    exact Nat.lt_irrefl _ this
  have hcns : c ≠ env.locals := fun e => hcZ (e ▸ hZns)
  have T3 : Tab h3 c P' ps' := (C.tab.kp (Kp.push (X := XN) h2 _) (fun x => x) (fun x => x)).kp k3 hcns hPns
  have hc'ns : c' ≠ env.locals := by
    rintro rfl
    obtain ⟨c2, o2, vs2, t2, e2, g2, d2, r2⟩ := C.crec
    cases e2
    rw [ho2] at g2
    cases g2
    cases d2
  have hfn : h.get? f = none := by
    have : h2.get? f = none := by rw [hf]; exact none_of_le (Nat.le_refl _)
    cases qf : h.get? f with
    | none => rfl
    | some o =>
      exfalso
      have hlt : f < h2.objs.size := by
        by_cases hfP : f = P'
        · rw [hfP]; exact C.tab.lt.2
        · exact Heap.lt_size (C.kp.at' f o (fun z => hfP z.1) (k1.all f o qf))
      rw [hf] at hlt
      exact Nat.lt_irrefl _ hlt
  have nzf : ¬ Z f := fun z => by
    obtain ⟨o, e⟩ := hZp f z
    rw [hfn] at e; cases e
  refine x f ct c' h3 _ tn ps' kAll hfn ?_ ?_ T3 C.hit C.mono ?_ nzf ?_ e3
  · refine k3.at' _ _ hf2 ?_
    rw [hf]; exact Heap.get?_push_size _ rfl
  · obtain ⟨c2, o2, vs2, t2, e2, g2, r2⟩ := C.crec
    cases e2
    exact ⟨_, o2, vs2, t2, rfl, k3.at' _ _ hc'ns (hpush _ _ g2), r2⟩
  · rcases C.old with ⟨e, _, e3⟩ | ⟨e, _, e2, e3⟩
    · exact .inl e3
    · exact .inr e3
  · rcases C.old with ⟨e, _, e3⟩ | ⟨e, _, e2, e3⟩
    · obtain ⟨c2, e4, _, n⟩ := hh _ e
      cases e4; exact n
    · intro z
      obtain ⟨o, e5⟩ := hZp c' z
      have := k1.none (fun x => x) e2
      rw [this] at e5; cases e5
end Mine
namespace Mine
local macro_rules | `(tactic| walk_at "my hnf") => `(tactic| (conv => arg 3; whnf))
set_option maxRecDepth 100000
set_option maxHeartbeats 0
set_option pp.deepTerms false
set_option pp.proofs false
set_option pp.maxSteps 3000
set_option hygiene false in
local macro_rules | `(tactic| walk_at "my ldm") => `(tactic| first
  | (exact Mem.at D 0 _ _ rfl) | (exact Mem.at D 1 _ _ rfl) | (exact Mem.at D 2 _ _ rfl) | (exact Mem.at D 3 _ _ rfl) | (exact Mem.at D 4 _ _ rfl)| (exact Mem.at D 5 _ _ rfl)| (exact Mem.at D 6 _ _ rfl)| (exact Mem.at D 7 _ _ rfl)| (exact Mem.at D 8 _ _ rfl)| (exact Mem.at D 9 _ _ rfl)
  | (exact mold D (by assumption) rfl)
  | (exact mold D (kin KX _ _ rfl) rfl)| (exact mold D (kin KX1 _ _ rfl) rfl))
theorem fx1e : Builtin.Slots.isIdentifier (Str.ofString "obj") = some true := by decide +kernel
theorem fx2e : Builtin.Slots.mangle (Str.ofString "K") (Str.ofString "obj") = Str.ofString "obj" := by decide +kernel
local macro_rules | `(tactic| walk_at "my ldstep") => `(tactic| (with_reducible refine' m_load ?a ?b; (case a => (walk_at "my ldm"; done))))
local macro_rules | `(tactic| walk_at "my dec") => `(tactic| first
  | (refine rec_no ?kk ?_; (case kk => (decide +kernel; done)))
  | (refine rec_yes ?kk ?_; (case kk => (decide +kernel; done)))
  | (refine rec_no ?kk ?_; (case kk => (intro hx; have hx' : @Eq Nat _ 1 := of_decide_eq_true hx; omega)))
  | (refine rec_no ?kk ?_; (case kk => (intro hx; have hx' : @Eq Nat _ _ := of_decide_eq_true hx; omega)))
  | (refine rec_no ?kk ?_; (case kk => (intro hx; have hx' : @Eq Nat _ _ := hx; omega)))
  | (refine rec_yes ?kk ?_; (case kk => (exact rfl; done)))
  | (refine rec_yes ?kk ?_; (case kk => (simp; done)))
  | (refine rec_no ?kk ?_; (case kk => (simp [fx2, Value.isStr]; done)))
  | (refine rec_no ?kk ?_; (case kk => (simp [fx2, Value.isStr]; decide)))
  | (refine rec_no ?kk ?_; (case kk => (simp; omega))))
theorem m_anyMe {prog : Program} {w : World} {A : Around} {Q : Bool → Shared → Prop} {E : Value → Shared → Prop} {s : Shared} {p : Value → Sem Bool} {l : List Value} (l' : List Value) (e : l = l')
   (x : wpAny (model prog w) A (List.anyM p l') Q E s) : wpAny (model prog w) A (List.anyM p l) Q E s := by rw [e]; exact x
theorem fx3e : Bind.madeBy (Value.type "object") = Sem.pure (some "object.__new__") := by kernel_rfl
local macro_rules | `(tactic| walk_at "my pre") => `(tactic| with_reducible refine m_eq fx3 ?_)
local macro_rules | `(tactic| walk_at "my fixes") => `(tactic| first
  | rw [fx1]
  | rw [fx2]
  | (refine m_anyM [Value.type "object"] ?kk ?_; (case kk => (simp; done))))
local macro_rules | `(tactic| walk_at "my ent_call") => `(tactic| fail "no")
local macro_rules | `(tactic| walk_at "my ent_again") => `(tactic| fail "no")
local macro_rules | `(tactic| walk_at "my norm_at_D") => `(tactic| skip)
set_option hygiene false in
local macro_rules | `(tactic| walk_at "my nD") => `(tactic| (simp only [List.set, Obj.mapSeq, Obj.mapCls, Obj.mapDict, Obj.mapFields, Obj.dropName, Obj.putName] at D))
set_option hygiene false in
local macro_rules | `(tactic| walk_at "my go1") => `(tactic| first
  | walk_at "my pre"
  | (walk_at "my hnf"; first
  | with_reducible refine x_rule ?_ | with_reducible refine x_at ?_ | with_reducible refine x_point ?_ | with_reducible refine x_ask ?_ | with_reducible refine m_fresh ?_ | with_reducible refine x_handled ?_ | with_reducible refine x_pure ?_
  | walk_at "my ldstep"
  | (with_reducible refine m_stack ?_; intro st l)
  | with_reducible refine m_bind ?_ | with_reducible refine m_keep ?_ | with_reducible refine m_onRaise ?_ | with_reducible refine m_try ?_
  | ((fail_if_success (with_reducible refine' is_alloc ?_)); (fail_if_success (with_reducible refine' is_update ?_)); (fail_if_success (with_reducible refine' is_call ?_)); (fail_if_success (with_reducible refine' is_load ?_)); (first | walk_at "my dec" | walk_at "my fixes"))
  )
  | (with_reducible refine m_done ?_) | walk_at "my ent_again")


set_option hygiene false in
local macro_rules | `(tactic| walk_at "my go1k") => `(tactic| first
  | walk_at "my pre"
  | (walk_at "my hnf"; first
  | with_reducible refine x_rule ?_ | with_reducible refine x_at ?_ | with_reducible refine x_point ?_ | with_reducible refine x_ask ?_ | with_reducible refine m_fresh ?_ | with_reducible refine x_handled ?_ | with_reducible refine x_pure ?_
  | walk_at "my ldstep"
  | (with_reducible refine m_stack ?_; intro st l)
  | with_reducible refine m_bind ?_ | with_reducible refine m_onRaise ?_ | with_reducible refine m_try ?_
  | ((fail_if_success (with_reducible refine' is_alloc ?_)); (fail_if_success (with_reducible refine' is_update ?_)); (fail_if_success (with_reducible refine' is_call ?_)); (fail_if_success (with_reducible refine' is_load ?_)); (first | walk_at "my dec" | walk_at "my fixes"))
  )
  | (with_reducible refine m_done ?_) | walk_at "my ent_again")


set_option hygiene false in
local macro_rules | `(tactic| walk_at "my go2") => `(tactic| first
  | walk_at "my go1"
  | (walk_at "my hnf"; first
    | (with_reducible refine m_allocG D rfl ?_; intro a h D hlt)
    | (with_reducible refine m_allocF' hs D rfl ?_; intro a h D hlt)
    | (with_reducible refine m_update D 0 rfl rfl ?_; intro h D; dsimp only [List.set] at D)
    | (with_reducible refine m_update D 1 rfl rfl ?_; intro h D; dsimp only [List.set] at D)
    | (with_reducible refine m_update D 2 rfl rfl ?_; intro h D; dsimp only [List.set] at D)
    | (with_reducible refine m_update D 3 rfl rfl ?_; intro h D; dsimp only [List.set] at D)
    | (with_reducible refine m_update D 4 rfl rfl ?_; intro h D; dsimp only [List.set] at D)
    | (with_reducible refine m_update D 5 rfl rfl ?_; intro h D; dsimp only [List.set] at D)))

structure DefP where
  args : Arguments
  body : List Stmt
  scope : Scope
  pos : Pos
noncomputable def dp (p : Params) (i : Nat) : DefP := match (clsBody p)[i]? with | some (.FunctionDef _ a b _ _ _ s _ _ pos) => ⟨a, b, s, pos⟩ | _ => ⟨default, default, default, default⟩
noncomputable def cs (p : Params) (i : Nat) : Stmt := ((clsBody p)[i]?).getD (.Pass default)
theorem clsBody_eq (p : Params) : clsBody p = [cs p 0, cs p 1,
   .FunctionDef "__init__" (dp p 2).args (dp p 2).body [] none [] (dp p 2).scope none "__init__" (dp p 2).pos,
   .FunctionDef "__lt__" (dp p 3).args (dp p 3).body [] none [] (dp p 3).scope none "__lt__" (dp p 3).pos,
   .FunctionDef "__gt__" (dp p 4).args (dp p 4).body [] none [] (dp p 4).scope none "__gt__" (dp p 4).pos,
   .FunctionDef "__eq__" (dp p 5).args (dp p 5).body [] none [] (dp p 5).scope none "__eq__" (dp p 5).pos,
   .FunctionDef "__le__" (dp p 6).args (dp p 6).body [] none [] (dp p 6).scope none "__le__" (dp p 6).pos,
   .FunctionDef "__ge__" (dp p 7).args (dp p 7).body [] none [] (dp p 7).scope none "__ge__" (dp p 7).pos,
   cs p 8] := by kernel_rfl
noncomputable def kEnv (p : Params) (ns cl kc fr : Addr) : Env := { scope := clsScope p, locals := ns, globals := 3, cells := [("mycmp", cl)], qual := "cmp_to_key.<locals>.K.", code := .ref kc, frame := some fr, builtins := 0 }
theorem cs0_ex (p : Params) : ∃ a b c, cs p 0 = .Assign [.Name "__module__" a] (.Constant (.str "cpy313.functools") 0 b) c := ⟨_, _, _, rfl⟩
theorem cs1_ex (p : Params) : ∃ a b c d, cs p 1 = .Assign [.Name "__slots__" a] (.List [.Constant (.str "obj") 0 b] c) d := ⟨_, _, _, _, rfl⟩
theorem cs8_ex (p : Params) : ∃ a b c, cs p 8 = .Assign [.Name "__hash__" a] (.Constant .none 0 b) c := ⟨_, _, _, rfl⟩
def ZK (ns kt : Addr) (M : Prop) : Addr → Prop := fun a => a = ns ∨ a = kt ∧ M
structure Fn (Z : Addr → Prop) (h : Heap) (f : Addr) (name q : Str) (d : DefP) (clo : List (Str × Addr)) : Prop where
  ex : ∃ ct c', h.get? f = some (fnObj name q d.args d.body d.scope clo ct pmV c') ∧ h.CodeRec (.ref c') q ∧ ¬ Z f ∧ ¬ Z c'
theorem Fn.kp {Z : Addr → Prop} {h h' : Heap} {f : Addr} {name q : Str} {d : DefP} {clo : List (Str × Addr)} (F : Fn Z h f name q d clo) (k : Kp Z h h') : Fn Z h' f name q d clo := by
  obtain ⟨ct, c', a, b, c, d⟩ := F.ex
  exact ⟨ct, c', k.at' _ _ c a, CodeRec_kp b k d, c, d⟩
theorem kst {p : Params} {ns cl kc fr : Addr} {name : Str} {v : Value} (hk : (clsScope p).names.lookup name = some .local) : storeName (kEnv p ns cl kc fr) name v = localSet (kEnv p ns cl kc fr) name v := by
  have hk' : (kEnv p ns cl kc fr).kindOf name = some .local := hk
  have hc : (kEnv p ns cl kc fr).scope.kind = .class := by show (clsScope p).kind = .class; kernel_rfl
  unfold storeName
  rw [hk', hc]
  rfl
theorem kln_at (p : Params) : (dp p 2).pos.line = 23 ∧ (dp p 3).pos.line = 26 ∧ (dp p 4).pos.line = 29 ∧ (dp p 5).pos.line = 32 ∧ (dp p 6).pos.line = 35 ∧ (dp p 7).pos.line = 38 := ⟨by kernel_rfl, by kernel_rfl, by kernel_rfl, by kernel_rfl, by kernel_rfl, by kernel_rfl⟩
def kq : Nat → Str | 2 => "cmp_to_key.<locals>.K.__init__" | 3 => "cmp_to_key.<locals>.K.__lt__" | 4 => "cmp_to_key.<locals>.K.__gt__" | 5 => "cmp_to_key.<locals>.K.__eq__" | 6 => "cmp_to_key.<locals>.K.__le__" | _ => "cmp_to_key.<locals>.K.__ge__"
/-- the class's code table, filled -/
def KT (p : Params) (h : Heap) (ps : Array Value) : Prop := ∀ i, 2 ≤ i → i < 8 → ∃ c', codeAmong (dp p i).pos ps.toList = some (.ref c') ∧ h.CodeRec (.ref c') (kq i)
theorem kbody {A : Around} {R : Result → Shared → Prop} {w : World} {h : Heap} {gg : Array GenState} {dd : Drawn} {tt : Nat} {os : OsState} {ns cl kc kt fr : Addr} {ps : Array Value} {M : Prop} {g1 g2 g3 : Int} {k1 k2 k3 t2 t3 : Nat} {vm : Value}
   (KX : Frag.In (K2 w.params) h) (T : Tab h kc kt ps) (hz : NZ w (ZK ns kt M)) (hcZ : ¬ ZK ns kt M kc) (hPns : kt ≠ ns)
   (hM : ∀ i, 2 ≤ i → i < 8 → codeAmong (dp w.params i).pos ps.toList = none → M)
   (J : ∀ i, 2 ≤ i → i < 8 → HJ (ZK ns kt M) h ps (dp w.params i).pos (kq i))
   (ho : h.get? ns = some ⟨.type "dict", none, .dict ⟨[⟨g1, .str "__module__" k1, vm⟩, ⟨g2, .str "__qualname__" k2, .str "cmp_to_key.<locals>.K" t2⟩, ⟨g3, .str "__firstlineno__" k3, .int 19 t3⟩]⟩ 3, #[]⟩)
   (x : ∀ so f1 f2 f3 f4 f5 f6 h' tk ps' (h4 h5 h6 h7 h8 h9 h10 h11 : Int) (k4 k5 k6 k7 k8 k9 k10 k11 t1 ts : Nat), Kp (ZK ns kt M) h h' → 
      h'.get? so = some ⟨.type "list", none, .seq #[.str "obj" ts] 0, #[]⟩ → h.get? so = none →
      Fn (ZK ns kt M) h' f1 "__init__" (kq 2) (dp w.params 2) [] →
      Fn (ZK ns kt M) h' f2 "__lt__" (kq 3) (dp w.params 3) [("mycmp", cl)] →
      Fn (ZK ns kt M) h' f3 "__gt__" (kq 4) (dp w.params 4) [("mycmp", cl)] →
      Fn (ZK ns kt M) h' f4 "__eq__" (kq 5) (dp w.params 5) [("mycmp", cl)] →
      Fn (ZK ns kt M) h' f5 "__le__" (kq 6) (dp w.params 6) [("mycmp", cl)] →
      Fn (ZK ns kt M) h' f6 "__ge__" (kq 7) (dp w.params 7) [("mycmp", cl)] →
      Tab h' kc kt ps' → KT w.params h' ps' →
      h'.get? ns = some ⟨.type "dict", none, .dict ⟨[⟨g1, .str "__module__" k1, .str "cpy313.functools" t1⟩, ⟨g2, .str "__qualname__" k2, .str "cmp_to_key.<locals>.K" t2⟩, ⟨g3, .str "__firstlineno__" k3, .int 19 t3⟩,
      ⟨h4, .str "__slots__" k4, .ref so⟩, ⟨h5, .str "__init__" k5, .ref f1⟩, ⟨h6, .str "__lt__" k6, .ref f2⟩, ⟨h7, .str "__gt__" k7, .ref f3⟩, ⟨h8, .str "__eq__" k8, .ref f4⟩, ⟨h9, .str "__le__" k9, .ref f5⟩, ⟨h10, .str "__ge__" k10, .ref f6⟩, ⟨h11, .str "__hash__" k11, .none⟩]⟩ 11, #[]⟩ →
      R (.ok .next) ⟨h', gg, dd, tk, os⟩) :
   codeAny (model P w) A (.body (clsBody w.params) (kEnv w.params ns cl kc fr)) R ⟨h, gg, dd, tt, os⟩ := by
  refine codeAny_body (by rw [clsBody_eq]; kernel_rfl) (by rw [clsBody_eq]; kernel_rfl) ?_
  rw [clsBody_eq]
  obtain ⟨a0, b0, c0, e0⟩ := cs0_ex w.params
  obtain ⟨a1, b1, c1, d1, e1⟩ := cs1_ex w.params
  obtain ⟨a8, b8, c8, e8⟩ := cs8_ex w.params
  rw [e0, e1, e8]
  have hst : ∀ {name : Str} (v : Value), (clsScope w.params).names.lookup name = some .local → storeName (kEnv w.params ns cl kc fr) name v = localSet (kEnv w.params ns cl kc fr) name v := fun v hk => kst hk
  have kns : ∀ {h1 h2 : Heap}, Kp (· = ns) h1 h2 → Kp (ZK ns kt M) h1 h2 := fun k => k.mono fun a o _ e => .inl e
  -- __module__
  refine wpAny_execs_cons (wpAny_Assign_Name ?_ (by kernel_rfl))
  refine wpAny_eval_const rfl fun v tk hv => ?_
  obtain ⟨t1, rfl⟩ := hv
  refine m_cstore_over (hst _ (by kernel_rfl)) ho fun h1 kp1 ho1 => ?_
  dsimp only
  -- __slots__
  refine wpAny_execs_cons (wpAny_Assign_Name ?_ (by kernel_rfl))
  refine wpAny_List ?_
  have D := Mem.start h1
  repeat walk_at "my go1"
  refine ⟨show (1 : Nat) ≤ sizeLine by decide, ?_⟩
  have hson : h.get? h1.objs.size = none := by
    cases q : h.get? h1.objs.size with
    | none => rfl
    | some o =>
      by_cases e : h1.objs.size = ns
      · exact absurd (Heap.lt_size ho1) (by rw [← e]; exact Nat.lt_irrefl _)
      · exact absurd (Heap.lt_size (kp1.at' _ _ e q)) (Nat.lt_irrefl _)
  clear D
  generalize hL : (⟨.type "list", none, .seq #[.str "obj" (tk + 1)] 0, #[]⟩ : Obj) = Lo
  have hso : (h1.push Lo).get? h1.objs.size = some ⟨.type "list", none, .seq #[.str "obj" (tk + 1)] 0, #[]⟩ := by rw [← hL]; exact Heap.get?_push_size _ rfl
  have kp1' : Kp (ZK ns kt M) h h1 := kns kp1
  have kp2 := kp1'.trans (Kp.push (X := ZK ns kt M) h1 Lo)
  have T1 : Tab h1 kc kt ps := T.kp kp1 (fun e => hcZ (.inl e)) hPns
  have T2 := T1.kp (Kp.push (X := XN) h1 Lo) (fun x => x) (fun x => x)
  have ho2 := Heap.get?_push_of_some Lo ho1
  show wpAny (model P w) (A.deeper (kEnv w.params ns cl kc fr)) (storeName (kEnv w.params ns cl kc fr) "__slots__" (.ref h1.objs.size)) _ _ ⟨h1.push (⟨.type "list", none, .seq #[.str "obj" (tk + 1)] 0, #[]⟩ : Obj), gg, dd, tk + 1 + 1, os⟩
  rw [hL]
  generalize hh2 : h1.push Lo = h2 at hso kp2 T2 ho2
  refine m_cstore (hst _ (by kernel_rfl)) ho2 (by kernel_rfl) fun h3 tn0 kp3 ho3 => ?_
  dsimp only
  have nzso : ¬ ZK ns kt M h1.objs.size := by
    rintro (e | ⟨e, _⟩)
    · exact absurd (Heap.lt_size ho1) (by rw [← e]; exact Nat.lt_irrefl _)
    · exact absurd T1.lt.2 (by rw [← e]; exact Nat.lt_irrefl _)
  have kz3 : Kp (ZK ns kt M) h h3 := kp2.trans (kns kp3)
  replace hso := (kns kp3).at' _ _ nzso hso
  have T3 := T2.kp kp3 (fun e => hcZ (.inl e)) hPns
  have KX3 := hz.in kz3 KX
  have hZp : ∀ {hh : Heap} {pp : Array Value} {es : List DictEntry} {u : Nat}, Tab hh kc kt pp → hh.get? ns = some ⟨.type "dict", none, .dict ⟨es⟩ u, #[]⟩ → ∀ a, ZK ns kt M a → ∃ o, hh.get? a = some o := by
    rintro hh pp es u tt oo a (rfl | ⟨rfl, _⟩)
    · exact ⟨_, oo⟩
    · exact ⟨_, tt.tab.2⟩
  have pe0 : ∀ i, i < 8 → 2 ≤ i → HJ (ZK ns kt M) h3 ps (dp w.params i).pos (kq i) := by
    intro i hi hi2 v e
    obtain ⟨c', e', r, n⟩ := J i hi2 hi v e
    exact ⟨c', e', CodeRec_kp r kz3 n, n⟩
  clear J
  generalize hps : ps = ps3 at T3 pe0
  have hM3 : ∀ i, 2 ≤ i → i < 8 → codeAmong (dp w.params i).pos ps3.toList = none → M := by rw [← hps]; exact hM
  clear hM
  -- __init__
  refine wpAny_execs_cons (m_cdef (c := kc) (P' := kt) (ns := ns) (Z := ZK ns kt M) (q := kq 2) (clo := []) rfl T3 (pe0 2 (by decide) (by decide)) (hZp T3 ho3) (by kernel_rfl) (by kernel_rfl) (by kernel_rfl) (by kernel_rfl) (by kernel_rfl) (by kernel_rfl) (by kernel_rfl) rfl rfl rfl (fun v => hst v (by kernel_rfl)) KX3 hz (.inl rfl) (fun e => .inr ⟨rfl, hM3 2 (by decide) (by decide) e⟩) hcZ hPns ho3 (by kernel_rfl) ?_)
  intro f2 ct2 c2 h4 tk2 tn2 ps4 kp4 fn2 fo2 cr2 T4 hit2 mono2 pe2 nzf2 nzc2 ho4
  dsimp only
  have F2 : Fn (ZK ns kt M) h4 f2 "__init__" (kq 2) (dp w.params 2) [] := ⟨ct2, c2, fo2, cr2, nzf2, nzc2⟩
  have KX4 := hz.in kp4 KX3
  have kz4 := kz3.trans kp4
  replace hso := kp4.at' _ _ nzso hso
  have hM4 : ∀ i, 2 ≤ i → i < 8 → codeAmong (dp w.params i).pos ps4.toList = none → M := fun i a b e => hM3 i a b (by
    cases q : codeAmong (dp w.params i).pos ps3.toList with
    | none => rfl
    | some v => rw [mono2 _ _ q] at e; cases e)
  replace pe0 : ∀ i, i < 8 → 2 < i → HJ (ZK ns kt M) h4 ps4 (dp w.params i).pos (kq i) := fun i a b => (pe0 i a (by omega)).next kp4 T3.triples (by
    have : i = 3 ∨ i = 4 ∨ i = 5 ∨ i = 6 ∨ i = 7 := by omega
    obtain ⟨z2, z3, z4, z5, z6, z7⟩ := kln_at w.params
    rcases this with rfl | rfl | rfl | rfl | rfl <;> (simp only [z2, z3, z4, z5, z6, z7]; decide)) pe2
  -- __lt__
  refine wpAny_execs_cons (m_cdef (c := kc) (P' := kt) (ns := ns) (Z := ZK ns kt M) (q := kq 3) (clo := [("mycmp", cl)]) rfl T4 (pe0 3 (by decide) (by decide)) (hZp T4 ho4) (by kernel_rfl) (by kernel_rfl) (by kernel_rfl) (by kernel_rfl) (by kernel_rfl) (by kernel_rfl) (by kernel_rfl) rfl rfl rfl (fun v => hst v (by kernel_rfl)) KX4 hz (.inl rfl) (fun e => .inr ⟨rfl, hM4 3 (by decide) (by decide) e⟩) hcZ hPns ho4 (by kernel_rfl) ?_)
  intro f3 ct3 c3 h5 tk3 tn3 ps5 kp5 fn3 fo3 cr3 T5 hit3 mono3 pe3 nzf3 nzc3 ho5
  dsimp only
  have F3 : Fn (ZK ns kt M) h5 f3 "__lt__" (kq 3) (dp w.params 3) [("mycmp", cl)] := ⟨ct3, c3, fo3, cr3, nzf3, nzc3⟩
  have KX5 := hz.in kp5 KX4
  have kz5 := kz4.trans kp5
  replace hso := kp5.at' _ _ nzso hso
  replace F2 := F2.kp kp5
  replace cr2 := CodeRec_kp cr2 kp5 nzc2
  replace hit2 := mono3 _ _ hit2
  have hM5 : ∀ i, 2 ≤ i → i < 8 → codeAmong (dp w.params i).pos ps5.toList = none → M := fun i a b e => hM4 i a b (by
    cases q : codeAmong (dp w.params i).pos ps4.toList with
    | none => rfl
    | some v => rw [mono3 _ _ q] at e; cases e)
  replace pe0 : ∀ i, i < 8 → 3 < i → HJ (ZK ns kt M) h5 ps5 (dp w.params i).pos (kq i) := fun i a b => (pe0 i a (by omega)).next kp5 T4.triples (by
    have : i = 4 ∨ i = 5 ∨ i = 6 ∨ i = 7 := by omega
    obtain ⟨z2, z3, z4, z5, z6, z7⟩ := kln_at w.params
    rcases this with rfl | rfl | rfl | rfl <;> (simp only [z2, z3, z4, z5, z6, z7]; decide)) pe3
  -- __gt__
  refine wpAny_execs_cons (m_cdef (c := kc) (P' := kt) (ns := ns) (Z := ZK ns kt M) (q := kq 4) (clo := [("mycmp", cl)]) rfl T5 (pe0 4 (by decide) (by decide)) (hZp T5 ho5) (by kernel_rfl) (by kernel_rfl) (by kernel_rfl) (by kernel_rfl) (by kernel_rfl) (by kernel_rfl) (by kernel_rfl) rfl rfl rfl (fun v => hst v (by kernel_rfl)) KX5 hz (.inl rfl) (fun e => .inr ⟨rfl, hM5 4 (by decide) (by decide) e⟩) hcZ hPns ho5 (by kernel_rfl) ?_)
  intro f4 ct4 c4 h6 tk4 tn4 ps6 kp6 fn4 fo4 cr4 T6 hit4 mono4 pe4 nzf4 nzc4 ho6
  dsimp only
  have F4 : Fn (ZK ns kt M) h6 f4 "__gt__" (kq 4) (dp w.params 4) [("mycmp", cl)] := ⟨ct4, c4, fo4, cr4, nzf4, nzc4⟩
  have KX6 := hz.in kp6 KX5
  have kz6 := kz5.trans kp6
  replace hso := kp6.at' _ _ nzso hso
  replace F2 := F2.kp kp6
  replace cr2 := CodeRec_kp cr2 kp6 nzc2
  replace hit2 := mono4 _ _ hit2
  replace F3 := F3.kp kp6
  replace cr3 := CodeRec_kp cr3 kp6 nzc3
  replace hit3 := mono4 _ _ hit3
  have hM6 : ∀ i, 2 ≤ i → i < 8 → codeAmong (dp w.params i).pos ps6.toList = none → M := fun i a b e => hM5 i a b (by
    cases q : codeAmong (dp w.params i).pos ps5.toList with
    | none => rfl
    | some v => rw [mono4 _ _ q] at e; cases e)
  replace pe0 : ∀ i, i < 8 → 4 < i → HJ (ZK ns kt M) h6 ps6 (dp w.params i).pos (kq i) := fun i a b => (pe0 i a (by omega)).next kp6 T5.triples (by
    have : i = 5 ∨ i = 6 ∨ i = 7 := by omega
    obtain ⟨z2, z3, z4, z5, z6, z7⟩ := kln_at w.params
    rcases this with rfl | rfl | rfl <;> (simp only [z2, z3, z4, z5, z6, z7]; decide)) pe4
  -- __eq__
  refine wpAny_execs_cons (m_cdef (c := kc) (P' := kt) (ns := ns) (Z := ZK ns kt M) (q := kq 5) (clo := [("mycmp", cl)]) rfl T6 (pe0 5 (by decide) (by decide)) (hZp T6 ho6) (by kernel_rfl) (by kernel_rfl) (by kernel_rfl) (by kernel_rfl) (by kernel_rfl) (by kernel_rfl) (by kernel_rfl) rfl rfl rfl (fun v => hst v (by kernel_rfl)) KX6 hz (.inl rfl) (fun e => .inr ⟨rfl, hM6 5 (by decide) (by decide) e⟩) hcZ hPns ho6 (by kernel_rfl) ?_)
  intro f5 ct5 c5 h7 tk5 tn5 ps7 kp7 fn5 fo5 cr5 T7 hit5 mono5 pe5 nzf5 nzc5 ho7
  dsimp only
  have F5 : Fn (ZK ns kt M) h7 f5 "__eq__" (kq 5) (dp w.params 5) [("mycmp", cl)] := ⟨ct5, c5, fo5, cr5, nzf5, nzc5⟩
  have KX7 := hz.in kp7 KX6
  have kz7 := kz6.trans kp7
  replace hso := kp7.at' _ _ nzso hso
  replace F2 := F2.kp kp7
  replace cr2 := CodeRec_kp cr2 kp7 nzc2
  replace hit2 := mono5 _ _ hit2
  replace F3 := F3.kp kp7
  replace cr3 := CodeRec_kp cr3 kp7 nzc3
  replace hit3 := mono5 _ _ hit3
  replace F4 := F4.kp kp7
  replace cr4 := CodeRec_kp cr4 kp7 nzc4
  replace hit4 := mono5 _ _ hit4
  have hM7 : ∀ i, 2 ≤ i → i < 8 → codeAmong (dp w.params i).pos ps7.toList = none → M := fun i a b e => hM6 i a b (by
    cases q : codeAmong (dp w.params i).pos ps6.toList with
    | none => rfl
    | some v => rw [mono5 _ _ q] at e; cases e)
  replace pe0 : ∀ i, i < 8 → 5 < i → HJ (ZK ns kt M) h7 ps7 (dp w.params i).pos (kq i) := fun i a b => (pe0 i a (by omega)).next kp7 T6.triples (by
    have : i = 6 ∨ i = 7 := by omega
    obtain ⟨z2, z3, z4, z5, z6, z7⟩ := kln_at w.params
    rcases this with rfl | rfl <;> (simp only [z2, z3, z4, z5, z6, z7]; decide)) pe5
  -- __le__
  refine wpAny_execs_cons (m_cdef (c := kc) (P' := kt) (ns := ns) (Z := ZK ns kt M) (q := kq 6) (clo := [("mycmp", cl)]) rfl T7 (pe0 6 (by decide) (by decide)) (hZp T7 ho7) (by kernel_rfl) (by kernel_rfl) (by kernel_rfl) (by kernel_rfl) (by kernel_rfl) (by kernel_rfl) (by kernel_rfl) rfl rfl rfl (fun v => hst v (by kernel_rfl)) KX7 hz (.inl rfl) (fun e => .inr ⟨rfl, hM7 6 (by decide) (by decide) e⟩) hcZ hPns ho7 (by kernel_rfl) ?_)
  intro f6 ct6 c6 h8 tk6 tn6 ps8 kp8 fn6 fo6 cr6 T8 hit6 mono6 pe6 nzf6 nzc6 ho8
  dsimp only
  have F6 : Fn (ZK ns kt M) h8 f6 "__le__" (kq 6) (dp w.params 6) [("mycmp", cl)] := ⟨ct6, c6, fo6, cr6, nzf6, nzc6⟩
  have KX8 := hz.in kp8 KX7
  have kz8 := kz7.trans kp8
  replace hso := kp8.at' _ _ nzso hso
  replace F2 := F2.kp kp8
  replace cr2 := CodeRec_kp cr2 kp8 nzc2
  replace hit2 := mono6 _ _ hit2
  replace F3 := F3.kp kp8
  replace cr3 := CodeRec_kp cr3 kp8 nzc3
  replace hit3 := mono6 _ _ hit3
  replace F4 := F4.kp kp8
  replace cr4 := CodeRec_kp cr4 kp8 nzc4
  replace hit4 := mono6 _ _ hit4
  replace F5 := F5.kp kp8
  replace cr5 := CodeRec_kp cr5 kp8 nzc5
  replace hit5 := mono6 _ _ hit5
  have hM8 : ∀ i, 2 ≤ i → i < 8 → codeAmong (dp w.params i).pos ps8.toList = none → M := fun i a b e => hM7 i a b (by
    cases q : codeAmong (dp w.params i).pos ps7.toList with
    | none => rfl
    | some v => rw [mono6 _ _ q] at e; cases e)
  replace pe0 : ∀ i, i < 8 → 6 < i → HJ (ZK ns kt M) h8 ps8 (dp w.params i).pos (kq i) := fun i a b => (pe0 i a (by omega)).next kp8 T7.triples (by
    have : i = 7 := by omega
    obtain ⟨z2, z3, z4, z5, z6, z7⟩ := kln_at w.params
    rcases this with rfl <;> (simp only [z2, z3, z4, z5, z6, z7]; decide)) pe6
  -- __ge__
  refine wpAny_execs_cons (m_cdef (c := kc) (P' := kt) (ns := ns) (Z := ZK ns kt M) (q := kq 7) (clo := [("mycmp", cl)]) rfl T8 (pe0 7 (by decide) (by decide)) (hZp T8 ho8) (by kernel_rfl) (by kernel_rfl) (by kernel_rfl) (by kernel_rfl) (by kernel_rfl) (by kernel_rfl) (by kernel_rfl) rfl rfl rfl (fun v => hst v (by kernel_rfl)) KX8 hz (.inl rfl) (fun e => .inr ⟨rfl, hM8 7 (by decide) (by decide) e⟩) hcZ hPns ho8 (by kernel_rfl) ?_)
  intro f7 ct7 c7 h9 tk7 tn7 ps9 kp9 fn7 fo7 cr7 T9 hit7 mono7 pe7 nzf7 nzc7 ho9
  dsimp only
  have F7 : Fn (ZK ns kt M) h9 f7 "__ge__" (kq 7) (dp w.params 7) [("mycmp", cl)] := ⟨ct7, c7, fo7, cr7, nzf7, nzc7⟩
  have KX9 := hz.in kp9 KX8
  have kz9 := kz8.trans kp9
  replace hso := kp9.at' _ _ nzso hso
  replace F2 := F2.kp kp9
  replace cr2 := CodeRec_kp cr2 kp9 nzc2
  replace hit2 := mono7 _ _ hit2
  replace F3 := F3.kp kp9
  replace cr3 := CodeRec_kp cr3 kp9 nzc3
  replace hit3 := mono7 _ _ hit3
  replace F4 := F4.kp kp9
  replace cr4 := CodeRec_kp cr4 kp9 nzc4
  replace hit4 := mono7 _ _ hit4
  replace F5 := F5.kp kp9
  replace cr5 := CodeRec_kp cr5 kp9 nzc5
  replace hit5 := mono7 _ _ hit5
  replace F6 := F6.kp kp9
  replace cr6 := CodeRec_kp cr6 kp9 nzc6
  replace hit6 := mono7 _ _ hit6
  -- __hash__
  refine wpAny_execs_cons (wpAny_Assign_Name ?_ (by kernel_rfl))
  refine wpAny_eval_const rfl fun v tk9 hv => ?_
  cases hv
  refine m_cstore (hst _ (by kernel_rfl)) ho9 (by kernel_rfl) fun h10 tn9 kp10 ho10 => ?_
  dsimp only
  refine wpAny_execs_nil ?_
  have k10 := kns kp10
  refine x h1.objs.size f2 f3 f4 f5 f6 f7 h10 _ ps9 _ _ _ _ _ _ _ _ _ _ _ _ _ _ _ _ _ _ (kz9.trans k10) (k10.at' _ _ nzso hso) hson (F2.kp k10) (F3.kp k10) (F4.kp k10) (F5.kp k10) (F6.kp k10) (F7.kp k10) (T9.kp kp10 (fun e => hcZ (.inl e)) hPns) ?_ ho10
  intro i a b
  have : i = 2 ∨ i = 3 ∨ i = 4 ∨ i = 5 ∨ i = 6 ∨ i = 7 := by omega
  rcases this with rfl | rfl | rfl | rfl | rfl | rfl
  · exact ⟨c2, hit2, CodeRec_kp cr2 k10 nzc2⟩
  · exact ⟨c3, hit3, CodeRec_kp cr3 k10 nzc3⟩
  · exact ⟨c4, hit4, CodeRec_kp cr4 k10 nzc4⟩
  · exact ⟨c5, hit5, CodeRec_kp cr5 k10 nzc5⟩
  · exact ⟨c6, hit6, CodeRec_kp cr6 k10 nzc6⟩
  · exact ⟨c7, hit7, CodeRec_kp cr7 k10 nzc7⟩
end Mine
namespace Mine
local macro_rules | `(tactic| walk_at "my hnf") => `(tactic| (conv => arg 3; whnf))
set_option maxRecDepth 100000
set_option maxHeartbeats 0
set_option pp.deepTerms false
set_option pp.proofs false
set_option pp.maxSteps 3000
set_option hygiene false in
local macro_rules | `(tactic| walk_at "my ldm") => `(tactic| first
  | (exact Mem.at D 0 _ _ rfl) | (exact Mem.at D 1 _ _ rfl) | (exact Mem.at D 2 _ _ rfl) | (exact Mem.at D 3 _ _ rfl) | (exact Mem.at D 4 _ _ rfl)| (exact Mem.at D 5 _ _ rfl)| (exact Mem.at D 6 _ _ rfl)| (exact Mem.at D 7 _ _ rfl)| (exact Mem.at D 8 _ _ rfl)| (exact Mem.at D 9 _ _ rfl)
  | (exact mold D (by assumption) rfl)
  | (exact mold D (kin KX _ _ rfl) rfl)| (exact mold D (kin KX1 _ _ rfl) rfl))
theorem fx1g : Builtin.Slots.isIdentifier (Str.ofString "obj") = some true := by decide +kernel
theorem fx2g : Builtin.Slots.mangle (Str.ofString "K") (Str.ofString "obj") = Str.ofString "obj" := by decide +kernel
local macro_rules | `(tactic| walk_at "my ldstep") => `(tactic| (with_reducible refine' m_load ?a ?b; (case a => (walk_at "my ldm"; done))))
local macro_rules | `(tactic| walk_at "my dec") => `(tactic| first
  | (refine rec_no ?kk ?_; (case kk => (decide +kernel; done)))
  | (refine rec_yes ?kk ?_; (case kk => (decide +kernel; done)))
  | (refine rec_no ?kk ?_; (case kk => (intro hx; have hx' : @Eq Nat _ 1 := of_decide_eq_true hx; omega)))
  | (refine rec_no ?kk ?_; (case kk => (intro hx; have hx' : @Eq Nat _ _ := of_decide_eq_true hx; omega)))
  | (refine rec_no ?kk ?_; (case kk => (intro hx; have hx' : @Eq Nat _ _ := hx; omega)))
  | (refine rec_yes ?kk ?_; (case kk => (exact rfl; done)))
  | (refine rec_yes ?kk ?_; (case kk => (simp; done)))
  | (refine rec_no ?kk ?_; (case kk => (simp [fx2, Value.isStr]; done)))
  | (refine rec_no ?kk ?_; (case kk => (simp [fx2, Value.isStr]; decide)))
  | (refine rec_no ?kk ?_; (case kk => (simp; omega))))
theorem m_anyMg {prog : Program} {w : World} {A : Around} {Q : Bool → Shared → Prop} {E : Value → Shared → Prop} {s : Shared} {p : Value → Sem Bool} {l : List Value} (l' : List Value) (e : l = l')
   (x : wpAny (model prog w) A (List.anyM p l') Q E s) : wpAny (model prog w) A (List.anyM p l) Q E s := by rw [e]; exact x
theorem fx3g : Bind.madeBy (Value.type "object") = Sem.pure (some "object.__new__") := by kernel_rfl
local macro_rules | `(tactic| walk_at "my pre") => `(tactic| with_reducible refine m_eq fx3 ?_)
local macro_rules | `(tactic| walk_at "my fixes") => `(tactic| first
  | rw [fx1]
  | rw [fx2]
  | (refine m_anyM [Value.type "object"] ?kk ?_; (case kk => (simp; done))))
local macro_rules | `(tactic| walk_at "my ent_call") => `(tactic| fail "no")
local macro_rules | `(tactic| walk_at "my ent_again") => `(tactic| fail "no")
local macro_rules | `(tactic| walk_at "my norm_at_D") => `(tactic| skip)
set_option hygiene false in
local macro_rules | `(tactic| walk_at "my nD") => `(tactic| (simp only [List.set, Obj.mapSeq, Obj.mapCls, Obj.mapDict, Obj.mapFields, Obj.dropName, Obj.putName] at D))
set_option hygiene false in
local macro_rules | `(tactic| walk_at "my go1") => `(tactic| first
  | walk_at "my pre"
  | (walk_at "my hnf"; first
  | with_reducible refine x_rule ?_ | with_reducible refine x_at ?_ | with_reducible refine x_point ?_ | with_reducible refine x_ask ?_ | with_reducible refine m_fresh ?_ | with_reducible refine x_handled ?_ | with_reducible refine x_pure ?_
  | walk_at "my ldstep"
  | (with_reducible refine m_stack ?_; intro st l)
  | with_reducible refine m_bind ?_ | with_reducible refine m_keep ?_ | with_reducible refine m_onRaise ?_ | with_reducible refine m_try ?_
  | ((fail_if_success (with_reducible refine' is_alloc ?_)); (fail_if_success (with_reducible refine' is_update ?_)); (fail_if_success (with_reducible refine' is_call ?_)); (fail_if_success (with_reducible refine' is_load ?_)); (first | walk_at "my dec" | walk_at "my fixes"))
  )
  | (with_reducible refine m_done ?_) | walk_at "my ent_again")


set_option hygiene false in
local macro_rules | `(tactic| walk_at "my go1k") => `(tactic| first
  | walk_at "my pre"
  | (walk_at "my hnf"; first
  | with_reducible refine x_rule ?_ | with_reducible refine x_at ?_ | with_reducible refine x_point ?_ | with_reducible refine x_ask ?_ | with_reducible refine m_fresh ?_ | with_reducible refine x_handled ?_ | with_reducible refine x_pure ?_
  | walk_at "my ldstep"
  | (with_reducible refine m_stack ?_; intro st l)
  | with_reducible refine m_bind ?_ | with_reducible refine m_onRaise ?_ | with_reducible refine m_try ?_
  | ((fail_if_success (with_reducible refine' is_alloc ?_)); (fail_if_success (with_reducible refine' is_update ?_)); (fail_if_success (with_reducible refine' is_call ?_)); (fail_if_success (with_reducible refine' is_load ?_)); (first | walk_at "my dec" | walk_at "my fixes"))
  )
  | (with_reducible refine m_done ?_) | walk_at "my ent_again")


set_option hygiene false in
local macro_rules | `(tactic| walk_at "my go2") => `(tactic| first
  | walk_at "my go1"
  | (walk_at "my hnf"; first
    | (with_reducible refine m_allocG D rfl ?_; intro a h D hlt)
    | (with_reducible refine m_allocF' hs D rfl ?_; intro a h D hlt)
    | (with_reducible refine m_update D 0 rfl rfl ?_; intro h D; dsimp only [List.set] at D)
    | (with_reducible refine m_update D 1 rfl rfl ?_; intro h D; dsimp only [List.set] at D)
    | (with_reducible refine m_update D 2 rfl rfl ?_; intro h D; dsimp only [List.set] at D)
    | (with_reducible refine m_update D 3 rfl rfl ?_; intro h D; dsimp only [List.set] at D)
    | (with_reducible refine m_update D 4 rfl rfl ?_; intro h D; dsimp only [List.set] at D)
    | (with_reducible refine m_update D 5 rfl rfl ?_; intro h D; dsimp only [List.set] at D)))
structure KCls (w : World) (h : Heap) (K f ns cl : Addr) : Prop where
  ex : ∃ (b so st md f1 f2 f3 f4 f5 f6 : Addr) (h1 h3 h4 h5 h6 h7 h8 h9 h10 h11 h12 h13 h14 : Int) (k1 k3 k4 k5 k6 k7 k8 k9 k10 k11 k12 k13 k14 t0 t1 t2 t3 tm : Nat),
    h.get? K = some (clsObj K ns b t0 t2) ∧ h.get? ns = some (nsObj so st md f1 f2 f3 f4 f5 f6 h1 h3 h4 h5 h6 h7 h8 h9 h10 h11 h12 h13 h14 k1 k3 k4 k5 k6 k7 k8 k9 k10 k11 k12 k13 k14 t1 t3) ∧
    h.get? md = some (mdObj K tm) ∧ h.get? cl = some (cellObj (.ref f)) ∧
    Fn XN h f1 "__init__" (kq 2) (dp w.params 2) [] ∧ Fn XN h f2 "__lt__" (kq 3) (dp w.params 3) [("mycmp", cl)] ∧ Fn XN h f4 "__eq__" (kq 5) (dp w.params 5) [("mycmp", cl)] ∧
    Fn XN h f5 "__le__" (kq 6) (dp w.params 6) [("mycmp", cl)] ∧ Fn XN h f6 "__ge__" (kq 7) (dp w.params 7) [("mycmp", cl)]
def KDone (w : World) (h : Heap) : Prop := ∃ ps kc kt pk, Tab h 41 37 ps ∧ codeAmong (clsPos w.params) ps.toList = some (.ref kc) ∧ h.CodeRec (.ref kc) "cmp_to_key.<locals>.K" ∧ Tab h kc kt pk ∧ KT w.params h pk ∧ 87 ≤ kt
theorem Fn.toXN {Z : Addr → Prop} {h h' : Heap} {f : Addr} {name q : Str} {d : DefP} {clo : List (Str × Addr)} (F : Fn Z h f name q d clo) (k : Keeps h h') : Fn XN h' f name q d clo := by
  obtain ⟨ct, c', a, b, c, d⟩ := F.ex
  exact ⟨ct, c', k _ _ a, b.keeps k, fun x => x, fun x => x⟩
theorem class2 {A : Around} {Q : Value → Shared → Prop} (w : World) (h : Heap) (gg : Array GenState) (dd tt os) (f F cl : Addr) (ps : Array Value)
   (hh : A.handled = none) (hdp : A.depth ≤ 690) (hun : A.units ≤ 4900) (KX : Frag.In (K2 w.params) h) (hF : h.get? F = some ⟨.type "frame", none, .dict ⟨[]⟩ 0, #[]⟩) (hcl : h.get? cl = some (cellObj (.ref f)))
   (T : Tab h 41 37 ps) (HK : ∀ v, codeAmong (clsPos w.params) ps.toList = some v → ∃ kc kt pk, v = .ref kc ∧ h.CodeRec (.ref kc) "cmp_to_key.<locals>.K" ∧ Tab h kc kt pk ∧ KT w.params h pk ∧ 87 ≤ kt)
   (x : ∀ K ns2 h' tk, Kp (fun a => a = 37 ∧ codeAmong (clsPos w.params) ps.toList = none) h h' → KDone w h' → KCls w h' K f ns2 cl → h.get? ns2 = none → Q (.ref K) ⟨h', gg, dd, tk, os⟩) :
   wpAny (model P w) A (buildClass "K" "cmp_to_key.<locals>.K" [.type "object"] [] (clsBody w.params) (clsScope w.params) (clsStatics w.params) 19 (envC w.params F cl) (clsPos w.params) none) Q (fun _ _ => False) ⟨h, gg, dd, tt, os⟩ := by
  unfold buildClass
  refine wpAny_bind (wpAny_newTuple ?_)
  have k1 : Kp XN h (h.push ⟨.type "tuple", none, .seq #[.type "object"] 0, #[]⟩) := Kp.push h _
  generalize hh1 : h.push ⟨.type "tuple", none, .seq #[.type "object"] 0, #[]⟩ = h1 at k1
  have hb : h1.get? h.objs.size = some ⟨.type "tuple", none, .seq #[.type "object"] 0, #[]⟩ := by rw [← hh1]; exact Heap.get?_push_size _ rfl
  have D := Mem.start h1
  have KX1 : Frag.In (K2 w.params) h1 := fun a o e => k1.all _ _ (KX a o e)
  repeat walk_at "my go1k"
  walk_at "my hnf"
  refine m_codeEq (Code.call (.builtin "type.__getattribute__") ⟨[.type "type", .str "__prepare__" (tt+1)], []⟩) (codeEq4 (by decide +kernel) (by decide +kernel)) ?_
  refine Does.use (prep1_x w h1 (tt+1) KX1) ?kh ?kd ?ku ?kn
  case kh => exact hh
  case kd => omega
  case ku => omega
  rintro _ h3 tt3 hke ⟨bm, rfl, hbm⟩
  repeat walk_at "my go1k"
  walk_at "my hnf"
  refine m_codeEq (Code.call (.ref bm) ⟨[.str "K" tt, .ref h.objs.size], []⟩) rfl ?_
  refine Does.use (prep2_x w h3 bm h.objs.size tt (fun a o e => hke _ _ (KX1 a o e)) hbm (hke _ _ hb)) ?kh2 ?kd2 ?ku2 ?kn2
  case kh2 => exact hh
  case kd2 => omega
  case ku2 => omega
  rintro _ h4 tt4 hke4 ⟨ns, rfl, hns, hnsn⟩
  have hke2 : Keeps h h4 := fun a o e => hke4 _ _ (hke _ _ (k1.all _ _ e))
  replace hb := hke4 _ _ (hke _ _ hb)
  clear D KX1
  have KX1 : Frag.In (K2 w.params) h4 := fun a o e => hke2 _ _ (KX a o e)
  have D := Mem.start h4
  have T4 : Tab h4 41 37 ps := T.kp (X := XN) ⟨fun a o _ e => hke2 a o e⟩ (fun x => x) (fun x => x)
  have N1 : @Ne Nat ns 1 := by
    intro e
    have e1 : h3.get? 1 = _ := hke _ _ (k1.all _ _ (kin KX 1 _ rfl))
    have e2 : h3.get? 1 = none := (congrArg h3.get? e) ▸ hnsn
    rw [e2] at e1
    cases e1
  refine m_keep ?_
  refine m_bindB ?_
  repeat walk_at "my go1"
  refine Bar.mk ?_
  dsimp only
  refine m_bindB ?_
  repeat walk_at "my go1"
  refine Bar.mk ?_
  refine m_bindB ?_
  repeat walk_at "my go1"
  refine Bar.mk ?_
  have e1 : ((clsScope w.params).names.lookup ("__class__" : Str) == some NameKind.cell) = false := by kernel_rfl
  have e2 : ((clsScope w.params).names.lookup ("__classdict__" : Str) == some NameKind.cell) = false := by kernel_rfl
  simp only [Option.isNone_some, Bool.false_eq_true, if_false, e1, e2]
  refine wpAny_holding ?_
  refine wpAny_bind (wpAny_pure ?_)
  refine wpAny_bind (wpAny_pure ?_)
  refine wpAny_bind (m_ccode (env := envC w.params F cl) (q := "cmp_to_key.<locals>.K") rfl T4 ?hh ?x)
  case hh =>
    intro v e
    obtain ⟨c', _, _, e', r, _⟩ := HK v e
    exact ⟨c', e', r.keeps hke2⟩
  intro kc h5 tk5 ps5 C5
  clear D KX1
  have k5 : Kp (fun a => a = 37 ∧ codeAmong (clsPos w.params) ps.toList = none) h4 h5 := C5.kp
  have KX4 : Frag.In (K2 w.params) h4 := fun a o e => hke2 _ _ (KX a o e)
  have KX3 : Frag.In (K2 w.params) h3 := fun a o e => hke _ _ (k1.all _ _ (KX a o e))
  have KX1 : Frag.In (K2 w.params) h5 := fun a o e => k5.at' _ _ (by rintro ⟨rfl, _⟩; exact nomatch e) (hke2 _ _ (KX a o e))
  have KX5 := KX1
  have n37 : ns ≠ 37 := by
    rintro rfl
    have := hke _ _ (k1.all _ _ T.tab.2)
    rw [hnsn] at this; cases this
  have hns5 := k5.at' _ _ (fun e => n37 e.1) hns
  obtain ⟨kt, pk, Tk, hKT, ktn, k87⟩ : ∃ kt pk, Tab h5 kc kt pk ∧ (codeAmong (clsPos w.params) ps.toList ≠ none ∧ KT w.params h5 pk ∧ KT w.params h3 pk ∨ codeAmong (clsPos w.params) ps.toList = none ∧ pk = #[]) ∧ (codeAmong (clsPos w.params) ps.toList = none → h4.get? kt = none) ∧ 87 ≤ kt := by
    rcases C5.old with ⟨e, e2, _⟩ | ⟨e, ⟨P', z, z2⟩, _⟩
    · obtain ⟨kc', kt, pk, e3, r, tk, q, nk⟩ := HK _ e
      cases e3
      subst e2
      refine ⟨kt, pk, tk.kp (X := XN) ⟨fun a o _ e => hke2 a o e⟩ (fun x => x) (fun x => x), .inl ⟨by rw [e]; exact nofun, fun i a b => ?_, fun i a b => ?_⟩, (fun e' => by rw [e] at e'; cases e'), nk⟩
      · obtain ⟨c', e4, r4⟩ := q i a b
        exact ⟨c', e4, r4.keeps hke2⟩
      · obtain ⟨c', e4, r4⟩ := q i a b
        exact ⟨c', e4, r4.keeps fun a o e => hke _ _ (k1.all _ _ e)⟩
    · exact ⟨P', #[], z2, .inr ⟨e, rfl⟩, (fun _ => none_of_le z), Nat.le_trans (size87 KX4) z⟩
  have k37 : (37 : Addr) ≠ kt := Nat.ne_of_lt (Nat.lt_of_lt_of_le (by decide) k87)
  have kckt : kc ≠ kt := by
    obtain ⟨o, vs, file, tf, flags, tg, inF, text, t9, op, a, r1, r2, r3, r4, r5, r6, b, r7, r8, r9⟩ := Tk.code
    exact r9
  have ktns : kt ≠ ns := by
    rintro rfl
    have := Tk.tab.2
    rw [hns5] at this; cases this
  have kcns : kc ≠ ns := by
    rintro rfl
    obtain ⟨c2, o2, vs2, t2, e2, g2, d2, r2⟩ := C5.crec
    cases e2
    rw [hns5] at g2; cases g2; cases d2
  have nz : NZ w (ZK ns kt (codeAmong (clsPos w.params) ps.toList = none)) := ⟨by
    rintro a o e (rfl | ⟨rfl, m⟩)
    · rw [KX3 _ _ e] at hnsn; cases hnsn
    · have := ktn m; rw [KX4 _ _ e] at this; cases this⟩
  have D := Mem.start h5
  refine m_bindB ?_
  repeat walk_at "my go1"
  refine Bar.mk ?_
  unfold newBodyFrame
  refine wpAny_bind ?_
  refine wpAny_bind ?_
  repeat walk_at "my go1"
  walk_at "my hnf"
  refine m_allocS D rfl ?_
  intro fr h6 D2 hfr
  refine x_pure ?_
  have k6 : Kp XN h5 h6 := ⟨fun a o _ e => keeps_of D2 _ _ e⟩
  clear D D2
  have KX6 : Frag.In (K2 w.params) h6 := fun a o e => k6.all _ _ (KX1 a o e)
  have D := Mem.start h6
  refine m_bindB ?_
  repeat walk_at "my go1"
  refine Bar.mk ?_
  clear D
  refine wpAny_holding ?_
  refine wpAny_bind (wpAny_enterFrame (noLimit KX6) (Nat.lt_of_le_of_lt hdp (by decide)) ?_)
  refine wpAny_bind (m_onRaise ?_)
  have hns6 := k6.all _ _ hns5
  clear KX1
  have KX1 := KX6
  have D := Mem.start h6
  refine m_bindB ?_
  repeat walk_at "my go1"
  refine Bar.mk ?_
  clear D
  have kEst : ∀ {name : Str} (v : Value), (clsScope w.params).names.lookup name = some .local ∨ (clsScope w.params).names.lookup name = none ∧ compilersOwnNames.contains name = true → storeName (kEnv w.params ns cl kc fr) name v = localSet (kEnv w.params ns cl kc fr) name v := by
    intro name v hk
    rcases hk with hk | ⟨hk, hc⟩
    · exact kst hk
    · have hk' : (kEnv w.params ns cl kc fr).kindOf name = none := hk
      have hcl' : (kEnv w.params ns cl kc fr).scope.kind = .class := by show (clsScope w.params).kind = .class; kernel_rfl
      unfold storeName
      rw [hk', hcl']
      have hb' : (kEnv w.params ns cl kc fr).blockKind = .class := by unfold Env.blockKind; rw [hcl']; rfl
      rw [hb', hc]
      rfl
  refine wpAny_bind (m_cstore (env := kEnv w.params ns cl kc fr) (kEst _ (.inl (by kernel_rfl))) hns6 (by kernel_rfl) fun h7 k1n kp7 hns7 => ?_)
  refine wpAny_bind (wpAny_mkText ?_)
  refine wpAny_bind (m_cstore (env := kEnv w.params ns cl kc fr) (kEst _ (.inr ⟨by kernel_rfl, by kernel_rfl⟩)) hns7 (by kernel_rfl) fun h8 k2n kp8 hns8 => ?_)
  refine wpAny_bind (wpAny_mkInt ?_)
  refine wpAny_bind (m_cstore (env := kEnv w.params ns cl kc fr) (kEst _ (.inr ⟨by kernel_rfl, by kernel_rfl⟩)) hns8 (by kernel_rfl) fun h9 k3n kp9 hns9 => ?_)
  refine wpAny_pure ?_
  have Z6 : Kp (ZK ns kt (codeAmong (clsPos w.params) ps.toList = none)) h6 h9 := ((kp7.trans kp8).trans kp9).mono fun a o _ e => .inl e
  have T9 : Tab h9 kc kt pk := ((((Tk.kp k6 (fun x => x) (fun x => x)).kp kp7 kcns ktns).kp kp8 kcns ktns).kp kp9 kcns ktns)
  have KX9 := nz.in Z6 KX6
  have k46 : Kp (fun a => a = 37 ∧ codeAmong (clsPos w.params) ps.toList = none) h4 h6 := ⟨fun a o n e => k6.all _ _ (k5.at' _ _ n e)⟩
  refine wpAny_bind (wpAny_run (h := none) ?_ (fun hx => nomatch hx))
  refine kbody (kt := kt) (M := codeAmong (clsPos w.params) ps.toList = none) KX9 T9 nz ?_ ktns ?_ ?_ hns9 ?_
  · rintro (e | ⟨e, _⟩)
    · exact kcns e
    · exact kckt e
  · intro i a b e
    rcases hKT with ⟨_, q, _⟩ | ⟨q, _⟩
    · obtain ⟨c', e2, _⟩ := q i a b
      rw [e2] at e; cases e
    · exact q
  · intro i a b v e
    rcases hKT with ⟨q0, q, q3⟩ | ⟨_, q⟩
    · obtain ⟨c', e2, r⟩ := q i a b
      obtain ⟨c3, e3, r3⟩ := q3 i a b
      rw [e2] at e3; cases e3
      rw [e2] at e; cases e
      have nzc : ¬ ZK ns kt (codeAmong (clsPos w.params) ps.toList = none) c' := by
        rintro (rfl | ⟨_, m⟩)
        · obtain ⟨c2, o2, vs2, t2, e2, g2, r2⟩ := r3
          cases e2
          rw [hnsn] at g2; cases g2
        · exact q0 m
      exact ⟨c', rfl, CodeRec_kp (r.keeps k6.all) Z6 nzc, nzc⟩
    · subst q; cases e
  intro so f1 f2 f3 f4 f5 f6 h10 tk10 ps10 g4 g5 g6 g7 g8 g9 g10 g11 j4 j5 j6 j7 j8 j9 j10 j11 t1 ts kz10 hso hson F1 F2 F3 F4 F5 F6 T10 KT10 hns10
  dsimp only
  refine wpAny_bind (m_onRaise ?_)
  refine wpAny_bind (wpAny_mkStrs fun vst => ?_)
  refine wpAny_bind (wpAny_newTextTuple ?_)
  have hst : (h10.push ⟨.type "tuple", none, .seq vst.toArray 0, #[]⟩).get? h10.objs.size = some ⟨.type "tuple", none, .seq vst.toArray 0, #[]⟩ := Heap.get?_push_size _ rfl
  have kpu := Kp.push (X := ZK ns kt (codeAmong (clsPos w.params) ps.toList = none)) h10 (⟨.type "tuple", none, .seq vst.toArray 0, #[]⟩ : Obj)
  have hns11 := Heap.get?_push_of_some (⟨.type "tuple", none, .seq vst.toArray 0, #[]⟩ : Obj) hns10
  have stns : h10.objs.size ≠ ns := fun e => absurd (Heap.lt_size hns10) (by rw [← e]; exact Nat.lt_irrefl _)
  refine wpAny_bind (m_cstore (env := kEnv w.params ns cl kc fr) (kEst _ (.inr ⟨by kernel_rfl, by kernel_rfl⟩)) hns11 (by kernel_rfl) fun h12 k12n kp12 hns12 => ?_)
  refine wpAny_pure ?_
  replace hst := kp12.at' _ _ stns hst
  have kz12 := kpu.trans (kp12.mono (Y := ZK ns kt (codeAmong (clsPos w.params) ps.toList = none)) fun a o _ e => .inl e)
  have nzb : ¬ ZK ns kt (codeAmong (clsPos w.params) ps.toList = none) h.objs.size := by
    rintro (e | ⟨e, m⟩)
    · rw [e, hns] at hb; exact absurd (congrArg Obj.cls (Option.some.inj hb)) (by decide)
    · have := ktn m; rw [← e, hb] at this; cases this
  have nzso : ¬ ZK ns kt (codeAmong (clsPos w.params) ps.toList = none) so := by
    rintro (e | ⟨e, m⟩)
    · rw [e] at hson; exact absurd hns9 (by intro z; exact Option.some_ne_none _ (z.symm.trans hson))
    · rw [e, T9.tab.2] at hson; cases hson
  have n37b : h.objs.size ≠ 37 := fun e => absurd (Heap.lt_size T.tab.2) (by rw [← e]; exact Nat.lt_irrefl _)
  have hb12 := kz12.at' _ _ nzb (kz10.at' _ _ nzb (Z6.at' _ _ nzb (k46.at' _ _ (fun e => n37b e.1) hb)))
  have hso12 := kz12.at' _ _ nzso hso
  replace F1 := F1.kp kz12
  replace F2 := F2.kp kz12
  replace F3 := F3.kp kz12
  replace F4 := F4.kp kz12
  replace F5 := F5.kp kz12
  replace F6 := F6.kp kz12
  have T12 := (T10.kp (Kp.push (X := XN) h10 (⟨.type "tuple", none, .seq vst.toArray 0, #[]⟩ : Obj)) (fun x => x) (fun x => x)).kp kp12 kcns ktns
  have KX12 := nz.in kz12 (nz.in kz10 KX9)
  obtain ⟨ct1, c1, hf1, _, _, _⟩ := F1.ex
  obtain ⟨ct2, c2, hf2, _, _, _⟩ := F2.ex
  obtain ⟨ct3, c3, hf3, _, _, _⟩ := F3.ex
  obtain ⟨ct4, c4, hf4, _, _, _⟩ := F4.ex
  obtain ⟨ct5, c5, hf5, _, _, _⟩ := F5.ex
  obtain ⟨ct6, c6, hf6, _, _, _⟩ := F6.ex
  refine wpAny_bind ?_
  walk_at "my hnf"
  refine m_codeEq (Code.call (.type "type") ⟨[.str "K" tt, .ref h.objs.size, .ref ns], []⟩) rfl ?_
  refine tcall_c w h12 gg _ _ os h.objs.size ns so h10.objs.size f1 f2 f3 f4 f5 f6 _ _ _ _ _ _ vst.toArray _ _ _ _ _ _ _ _ _ _ _ _ _ _ _ _ _ _ _ _ _ _ _ _ _ _ _ _ _ hh hdp hun KX12 hb12 hso12 hst hf1 hf2 hf3 hf4 hf5 hf6 hns12 N1 ?_
  intro K ns2 md h13 tk13 h13' h14' k13' k14' tm kk13 hns12n hK hns2 hmd
  have fin : ∀ a o, h4.get? a = some o → ¬ (a = 37 ∧ codeAmong (clsPos w.params) ps.toList = none) → a ≠ ns → h13.get? a = some o := by
    intro a o e n1 n2
    have nz : ¬ ZK ns kt (codeAmong (clsPos w.params) ps.toList = none) a := by
      rintro (e1 | ⟨e1, m⟩)
      · exact n2 e1
      · have := ktn m; rw [← e1, e] at this; cases this
    exact kk13 _ _ (kz12.at' _ _ nz (kz10.at' _ _ nz (Z6.at' _ _ nz (k46.at' _ _ n1 e))))
  have old : ∀ a o, h.get? a = some o → ¬ (a = 37 ∧ codeAmong (clsPos w.params) ps.toList = none) → h13.get? a = some o := fun a o e n => fin a o (hke2 _ _ e) n (by
    rintro rfl
    rw [hke _ _ (k1.all _ _ e)] at hnsn; cases hnsn)
  have nz5 : ∀ a o, h5.get? a = some o → a ≠ ns → a ≠ kt → h13.get? a = some o := by
    intro a o e n2 n3
    have nz : ¬ ZK ns kt (codeAmong (clsPos w.params) ps.toList = none) a := by
      rintro (e1 | ⟨e1, m⟩)
      · exact n2 e1
      · exact n3 e1
    exact kk13 _ _ (kz12.at' _ _ nz (kz10.at' _ _ nz (Z6.at' _ _ nz (k6.all _ _ e))))
  have n41 : (41 : Addr) ≠ ns := by
    rintro rfl
    rw [KX3 41 _ rfl] at hnsn; cases hnsn
  have k41 : (41 : Addr) ≠ kt := by
    intro e
    have a1 := KX5 41 _ rfl
    have a2 := Tk.tab.2
    rw [← e, a1] at a2
    cases a2
  have TF : Tab h13 41 37 ps5 := by
    obtain ⟨⟨o, vs, file, tf, flags, tg, inF, text, tt', op, a, r1, r2, r3, r4, r5, r6, b, r⟩, ⟨⟨o2, vs2, a2, b2⟩, c2⟩⟩ := C5.tab
    exact ⟨⟨o, vs, file, tf, flags, tg, inF, text, tt', op, nz5 _ _ a n41 k41, r1, r2, r3, r4, r5, r6, nz5 _ _ b (Ne.symm n37) k37, r⟩, ⟨⟨o2, vs2, nz5 _ _ a2 n41 k41, b2⟩, nz5 _ _ c2 (Ne.symm n37) k37⟩⟩
  refine m_bind ?_
  refine x_pure ?_
  refine x_pure ?_
  refine wpAny_pure ?_
  have f12 : h.get? ns2 = none := by
    cases q : h.get? ns2 with
    | none => rfl
    | some o =>
      exfalso
      by_cases n37' : ns2 = 37
      · subst n37'
        have := TF.tab.2
        rw [hns2] at this; cases this
      · have n1 : ¬ (ns2 = 37 ∧ codeAmong (clsPos w.params) ps.toList = none) := fun z => n37' z.1
        have n2 : ns2 ≠ ns := by
          rintro rfl
          rw [hke _ _ (k1.all _ _ q)] at hnsn; cases hnsn
        have nz : ¬ ZK ns kt (codeAmong (clsPos w.params) ps.toList = none) ns2 := by
          rintro (e1 | ⟨e1, m⟩)
          · exact n2 e1
          · have := ktn m; rw [← e1, hke2 _ _ q] at this; cases this
        have := kz12.at' _ _ nz (kz10.at' _ _ nz (Z6.at' _ _ nz (k46.at' _ _ n1 (hke2 _ _ q))))
        rw [this] at hns12n; cases hns12n
  refine x K ns2 h13 tk13 ⟨fun a o n e => old a o e n⟩ ⟨ps5, kc, kt, ps10, TF, C5.hit, ?_, ?_, ?_, k87⟩ ⟨h.objs.size, so, h10.objs.size, md, f1, f2, f3, f4, f5, f6, _, _, _, _, _, _, _, _, _, _, _, _, _, _, _, _, _, _, _, _, _, _, _, _, _, _, _, _, _, _, _, hK, hns2, hmd, ?_, F1.toXN kk13, F2.toXN kk13, F4.toXN kk13, F5.toXN kk13, F6.toXN kk13⟩ f12
  · obtain ⟨c2, o2, vs2, t2, e2, g2, r2⟩ := C5.crec
    cases e2
    exact ⟨_, o2, vs2, t2, rfl, nz5 _ _ g2 kcns kckt, r2⟩
  · exact T12.kp (X := XN) ⟨fun a o _ e => kk13 a o e⟩ (fun x => x) (fun x => x)
  · intro i a b
    obtain ⟨c', e2, r⟩ := KT10 i a b
    refine ⟨c', e2, ?_⟩
    obtain ⟨c2, o2, vs2, t2, e2, g2, d2, r2⟩ := r
    cases e2
    refine ⟨_, o2, vs2, t2, rfl, kk13 _ _ (kp12.at' _ _ ?_ (Heap.get?_push_of_some _ g2)), d2, r2⟩
    rintro rfl
    rw [hns10] at g2; cases g2; cases d2
  · exact old _ _ hcl (by
      rintro ⟨rfl, _⟩
      have := T.tab.2
      rw [hcl] at this; cases this)
end Mine
namespace Mine
set_option maxRecDepth 100000
/-- things that are no plain data -/
inductive Opq where
  | blt (s : String)
  | rng (n : Nat)
  | fn (a : Addr)
  | cmp (row : List Int)
  | cls (row : List Int)
  | inst (row : List Int) (x : Int)
  | ask (which : Int) (turned : Bool) (wants ranks : List (List Int))
  deriving DecidableEq
inductive D where
  | none
  | bool (b : Bool)
  | int (i : Int)
  | list (xs : List D)
  | tuple (xs : List D)
  | opq (k : Opq)
abbrev AP := Addr → Prop
abbrev OP := AP → Heap → Value → Opq → Prop
mutual
inductive Rep (O : OP) (Y : AP) (h : Heap) : Value → D → Prop
  | none : Rep O Y h .none .none
  | bool (b : Bool) : Rep O Y h (.bool b) (.bool b)
  | int (i : Int) (t : Tok) : Rep O Y h (.int i t) (.int i)
  | list {a : Addr} {vs : Array Value} {xs : List D} : h.PlainList a vs → ¬ Y a → Reps O Y h vs.toList xs → Rep O Y h (.ref a) (.list xs)
  | tuple {a : Addr} {vs : Array Value} {xs : List D} : h.IsTuple a vs → ¬ Y a → Reps O Y h vs.toList xs → Rep O Y h (.ref a) (.tuple xs)
  | opq {v : Value} {k : Opq} : O Y h v k → Rep O Y h v (.opq k)
inductive Reps (O : OP) (Y : AP) (h : Heap) : List Value → List D → Prop
  | nil : Reps O Y h [] []
  | cons {v : Value} {d : D} {vs : List Value} {ds : List D} : Rep O Y h v d → Reps O Y h vs ds → Reps O Y h (v :: vs) (d :: ds)
end
/-- the kinds of things that may still be written: frames' dicts, cells, lists under way, iterators -/
def kindY (o : Obj) : Prop := (∃ es n, o.data = .dict es n) ∨ (∃ v, o.data = .cell v) ∨ (∃ vs n, o.data = .seq vs n) ∨ (o.cls ≠ .none ∧ ∃ vs n t, o.data = .fields vs ∧ vs[1]? = some (.int n t))
def YW (Y : AP) (h : Heap) : Prop := ∀ a, Y a → 87 ≤ a ∧ ∀ o, h.get? a = some o → kindY o
def YOK (Y : AP) (h : Heap) : Prop := ∀ a, Y a → 87 ≤ a ∧ ∃ o, h.get? a = some o ∧ kindY o
theorem YOK.w {Y : AP} {h : Heap} (y : YOK Y h) : YW Y h := fun a m => by
  obtain ⟨l, o, e, k⟩ := y a m
  exact ⟨l, fun o' e' => by rw [e] at e'; cases e'; exact k⟩
theorem YOK.lt {Y : AP} {h : Heap} (y : YOK Y h) {a : Addr} (m : Y a) : a < h.objs.size := let ⟨_, _, e, _⟩ := y a m; Heap.lt_size e
structure Cfg where
  G : Str → Option D
  call : Opq → List D → Option D
structure Th (w : World) where
  Inv : Heap → Prop
  O : OP
  XT : AP
  G : Str → Option D
  inv_y : ∀ {Y h h'}, Inv h → YW Y h → Kp Y h h' → Inv h'
  o_kp : ∀ {Y h h' v k}, O Y h v k → YW Y h → Inv h → Kp (fun a => XT a ∨ Y a) h h' → O Y h' v k
  o_y : ∀ {Y Y' : AP} {h v k}, O Y h v k → (∀ a, Y' a → Y a ∨ h.get? a = none) → O Y' h v k
  xt : ∀ {h a}, Inv h → XT a → a < 87 ∧ ∃ o ps, h.get? a = some o ∧ o.data = .fields ps
  o_rng : ∀ {Y h v n}, O Y h v (.rng n) → n ≤ 1000 ∧ ∃ r t u x, v = .ref r ∧ IsRange h r 0 n 1 t u x
  big : ∀ {h}, Inv h → 87 ≤ h.objs.size
  lim : ∀ {h}, Inv h → h.NoLimit
  attr : ∀ {Y h v row x}, O Y h v (.inst row x) → Inv h → ∀ {gg dd tt os} {A : Around} {Q : Value → Shared → Prop}, A.handled = none → A.depth ≤ 800 → A.units ≤ 6000 →
    (∀ t h' tk, (∀ b o, h.get? b = some o → h'.get? b = some o) → Q (.int x t) ⟨h', gg, dd, tk, os⟩) → wpAny (model P w) A (getAttr v "obj" true) Q (fun _ _ => False) ⟨h, gg, dd, tt, os⟩
  glob : ∀ {Y h}, Inv h → YOK Y h → ∃ mg mb, h.Ns 3 mg ∧ h.Ns 0 mb ∧ ∀ x d, G x = some d → ∃ v, (mg x = some v ∨ mg x = none ∧ mb x = some v) ∧ Rep O Y h v d
variable {w : World}
section
variable (T : Th w)
theorem Kp.isList {X : AP} {h h' : Heap} {a : Addr} {vs : Array Value} (k : Kp X h h') (n : ¬ X a) (x : h.IsList a vs) : h'.IsList a vs := let ⟨o, e, r⟩ := x; ⟨o, k.at' _ _ n e, r⟩
theorem Kp.plain {X : AP} {h h' : Heap} {a : Addr} {vs : Array Value} (k : Kp X h h') (n : ¬ X a) (x : h.PlainList a vs) : h'.PlainList a vs := let ⟨m, e⟩ := x; ⟨m, k.at' _ _ n e⟩
theorem Kp.isTuple {X : AP} {h h' : Heap} {a : Addr} {vs : Array Value} (k : Kp X h h') (n : ¬ X a) (x : h.IsTuple a vs) : h'.IsTuple a vs := let ⟨o, e, r⟩ := x; ⟨o, k.at' _ _ n e, r⟩
theorem Th.plain_out {T : Th w} {h : Heap} {a : Addr} {vs : Array Value} (hi : T.Inv h) (x : h.PlainList a vs) : ¬ T.XT a := fun y => by
  obtain ⟨n, e⟩ := x
  obtain ⟨_, o', ps, e', q⟩ := T.xt hi y
  rw [e] at e'; cases e'; cases q
theorem Th.tuple_out {T : Th w} {h : Heap} {a : Addr} {vs : Array Value} (hi : T.Inv h) (x : h.IsTuple a vs) : ¬ T.XT a := fun y => by
  obtain ⟨o, e, _, n, q⟩ := x
  obtain ⟨_, o', ps, e', q'⟩ := T.xt hi y
  rw [e] at e'; cases e'; rw [q] at q'; cases q'
mutual
theorem Rep.kp {T : Th w} {Y : AP} {h h' : Heap} (hi : T.Inv h) (hy : YW Y h) (k : Kp (fun a => T.XT a ∨ Y a) h h') : ∀ {v d}, Rep T.O Y h v d → Rep T.O Y h' v d
  | _, _, .none => .none
  | _, _, .bool b => .bool b
  | _, _, .int i t => .int i t
  | _, _, .list a n r => .list (k.plain (fun z => z.elim (T.plain_out hi a) n) a) n (Reps.kp hi hy k r)
  | _, _, .tuple a n r => .tuple (k.isTuple (fun z => z.elim (T.tuple_out hi a) n) a) n (Reps.kp hi hy k r)
  | _, _, .opq o => .opq (T.o_kp o hy hi k)
theorem Reps.kp {T : Th w} {Y : AP} {h h' : Heap} (hi : T.Inv h) (hy : YW Y h) (k : Kp (fun a => T.XT a ∨ Y a) h h') : ∀ {vs ds}, Reps T.O Y h vs ds → Reps T.O Y h' vs ds
  | _, _, .nil => .nil
  | _, _, .cons a r => .cons (Rep.kp hi hy k a) (Reps.kp hi hy k r)
end
mutual
theorem Rep.y {T : Th w} {Y Y' : AP} {h : Heap} (s : ∀ a, Y' a → Y a ∨ h.get? a = none) : ∀ {v d}, Rep T.O Y h v d → Rep T.O Y' h v d
  | _, _, .none => .none
  | _, _, .bool b => .bool b
  | _, _, .int i t => .int i t
  | _, _, .list a n r => .list a (fun z => (s _ z).elim n fun e => by obtain ⟨_, q⟩ := a; rw [e] at q; cases q) (Reps.y s r)
  | _, _, .tuple a n r => .tuple a (fun z => (s _ z).elim n fun e => by obtain ⟨_, q, _⟩ := a; rw [e] at q; cases q) (Reps.y s r)
  | _, _, .opq o => .opq (T.o_y o s)
theorem Reps.y {T : Th w} {Y Y' : AP} {h : Heap} (s : ∀ a, Y' a → Y a ∨ h.get? a = none) : ∀ {vs ds}, Reps T.O Y h vs ds → Reps T.O Y' h vs ds
  | _, _, .nil => .nil
  | _, _, .cons a r => .cons (Rep.y s a) (Reps.y s r)
end
theorem Reps.length {O : OP} {Y : AP} {h : Heap} : ∀ {vs ds}, Reps O Y h vs ds → vs.length = ds.length
  | _, _, .nil => rfl
  | _, _, .cons _ r => by simp [Reps.length r]
theorem Reps.snoc {O : OP} {Y : AP} {h : Heap} {v d} : ∀ {vs ds}, Reps O Y h vs ds → Rep O Y h v d → Reps O Y h (vs ++ [v]) (ds ++ [d])
  | _, _, .nil, x => .cons x .nil
  | _, _, .cons a r, x => .cons a (Reps.snoc r x)
theorem Reps.app {O : OP} {Y : AP} {h : Heap} : ∀ {vs ds us es}, Reps O Y h vs ds → Reps O Y h us es → Reps O Y h (vs ++ us) (ds ++ es)
  | _, _, _, _, .nil, x => x
  | _, _, _, _, .cons a r, x => .cons a (Reps.app r x)
theorem Reps.get {O : OP} {Y : AP} {h : Heap} : ∀ {vs ds} (i : Nat) {d}, Reps O Y h vs ds → ds[i]? = some d → ∃ v, vs[i]? = some v ∧ Rep O Y h v d
  | _, _, _, _, .nil, e => by simp at e
  | _, _, 0, _, .cons a r, e => by simp at e; subst e; exact ⟨_, rfl, a⟩
  | _, _, i + 1, _, .cons a r, e => by
    obtain ⟨v, q, x⟩ := Reps.get i r (by simpa using e)
    exact ⟨v, by simpa using q, x⟩
theorem Reps.get' {O : OP} {Y : AP} {h : Heap} : ∀ {vs ds} (i : Nat) {v}, Reps O Y h vs ds → vs[i]? = some v → ∃ d, ds[i]? = some d ∧ Rep O Y h v d
  | _, _, _, _, .nil, e => by simp at e
  | _, _, 0, _, .cons a r, e => by simp at e; subst e; exact ⟨_, rfl, a⟩
  | _, _, i + 1, _, .cons a r, e => by
    obtain ⟨v, q, x⟩ := Reps.get' i r (by simpa using e)
    exact ⟨v, by simpa using q, x⟩
theorem Reps.take {O : OP} {Y : AP} {h : Heap} : ∀ {vs ds} (i : Nat), Reps O Y h vs ds → Reps O Y h (vs.take i) (ds.take i)
  | _, _, _, .nil => by simp; exact .nil
  | _, _, 0, .cons _ _ => by simp; exact .nil
  | _, _, i + 1, .cons a r => by simp; exact .cons a (Reps.take i r)
theorem Reps.drop {O : OP} {Y : AP} {h : Heap} : ∀ {vs ds} (i : Nat), Reps O Y h vs ds → Reps O Y h (vs.drop i) (ds.drop i)
  | _, _, _, .nil => by simp; exact .nil
  | _, _, 0, .cons a r => by simp; exact .cons a r
  | _, _, i + 1, .cons a r => by simp; exact Reps.drop i r
end
theorem YOK.kp {T : Th w} {Y : AP} {h h' : Heap} (hi : T.Inv h) (hy : YOK Y h) (k : Kp T.XT h h') : YOK Y h' := fun a y => by
  obtain ⟨lo, o, e, q⟩ := hy a y
  refine ⟨lo, o, k.at' _ _ (fun x => ?_) e, q⟩
  obtain ⟨l, _⟩ := T.xt hi x
  exact absurd lo (Nat.not_le.mpr l)
theorem Kp.wide {X Z : AP} {h h' : Heap} (k : Kp X h h') (s : ∀ a, X a → Z a) : Kp Z h h' := ⟨fun a o n e => k.at' a o (fun x => n (s a x)) e⟩
theorem Kp.xn {X : AP} {h h' : Heap} (k : Kp XN h h') : Kp X h h' := k.wide fun _ x => x.elim
theorem Kp.ofKeeps {X : AP} {h h' : Heap} (k : ∀ b o, h.get? b = some o → h'.get? b = some o) : Kp X h h' := ⟨fun a o _ e => k a o e⟩
/-- how an environment bears its names -/
structure EnvOK (T : Th w) (Y : AP) (env : Env) (k : List (Str × NameKind)) (ρ : List (Str × D)) (h : Heap) : Prop where
  kind : env.scope.kind = .function
  names : env.scope.names = k
  glob : env.globals = 3
  blt : env.builtins = 0
  ns : ∃ m, h.Ns env.locals m ∧ ∀ x d, k.lookup x = some .local → ρ.lookup x = some d → ∃ v, m x = some v ∧ Rep T.O Y h v d
  cell : ∀ x, k.lookup x = some .cell ∨ k.lookup x = some .free → ∃ c u, env.cells.lookup x = some c ∧ h.IsCell c u ∧ ∀ d, ρ.lookup x = some d → ∃ v, u = some v ∧ Rep T.O Y h v d
theorem Kp.ns {X : AP} {h h' : Heap} {a : Addr} {m} (k : Kp X h h') (n : ¬ X a) (x : h.Ns a m) : h'.Ns a m := let ⟨o, es, ep, e, r⟩ := x; ⟨o, es, ep, k.at' _ _ n e, r⟩
theorem Kp.isCell {X : AP} {h h' : Heap} {a : Addr} {u} (k : Kp X h h') (n : ¬ X a) (x : h.IsCell a u) : h'.IsCell a u := let ⟨o, e, r⟩ := x; ⟨o, k.at' _ _ n e, r⟩
theorem Th.xt_ns {T : Th w} {h : Heap} {a : Addr} {m} (hi : T.Inv h) (x : h.Ns a m) : ¬ T.XT a := fun y => by
  obtain ⟨o, es, ep, e, q, _⟩ := x
  obtain ⟨_, o', ps, e', q'⟩ := T.xt hi y
  rw [e] at e'; cases e'; rw [q] at q'; cases q'
theorem Th.xt_cell {T : Th w} {h : Heap} {a : Addr} {u} (hi : T.Inv h) (x : h.IsCell a u) : ¬ T.XT a := fun y => by
  obtain ⟨o, e, q⟩ := x
  obtain ⟨_, o', ps, e', q'⟩ := T.xt hi y
  rw [e] at e'; cases e'; rw [q] at q'; cases q'
theorem EnvOK.kp {T : Th w} {Y : AP} {env k ρ} {h h' : Heap} (E : EnvOK T Y env k ρ h) (hi : T.Inv h) (hy : YW Y h) (kp : Kp T.XT h h') : EnvOK T Y env k ρ h' := by
  have kw : Kp (fun a => T.XT a ∨ Y a) h h' := kp.wide fun _ x => .inl x
  refine ⟨E.kind, E.names, E.glob, E.blt, ?_, fun x hx => ?_⟩
  · obtain ⟨m, n, r⟩ := E.ns
    refine ⟨m, kp.ns (T.xt_ns hi n) n, fun x d a b => ?_⟩
    obtain ⟨v, q, z⟩ := r x d a b
    exact ⟨v, q, z.kp hi hy kw⟩
  · obtain ⟨c, u, a, b, r⟩ := E.cell x hx
    refine ⟨c, u, a, kp.isCell (T.xt_cell hi b) b, fun d q => ?_⟩
    obtain ⟨v, z, y⟩ := r d q
    exact ⟨v, z, y.kp hi hy kw⟩
end Mine
namespace Mine
set_option maxRecDepth 100000
set_option maxHeartbeats 0
/-! what outlasts a change at tables, frames, cells, lists under way -/
def Kd (X : AP) (h : Heap) : Prop := ∀ a o, X a → h.get? a = some o → kindY o ∨ (a < 87 ∧ o.cls = .none ∧ ∃ ps, o.data = .fields ps ∧ TriplesOk ps.toList)
theorem triples_1 {ps : Array Value} {s : Str} {t : Tok} (h : TriplesOk ps.toList) (e : ps[1]? = some (.str s t)) : False := by
  have e' : ps.toList[1]? = some (.str s t) := by simpa using e
  generalize ps.toList = l at h e'
  match l, h with
  | [], _ => simp at e'
  | .int _ _ :: .int _ _ :: _ :: _, _ => simp at e'
theorem Kd.code {X : AP} {h h' : Heap} {c : Addr} {q : Str} (d : Kd X h) (k : Kp X h h') (r : h.CodeRec (.ref c) q) : h'.CodeRec (.ref c) q := by
  obtain ⟨c2, o, vs, t, e, g, dd, z⟩ := r
  cases e
  refine ⟨_, o, vs, t, rfl, k.at' _ _ (fun x => ?_) g, dd, z⟩
  rcases d _ _ x g with (⟨_, _, q⟩ | ⟨_, q⟩ | ⟨_, _, q⟩ | ⟨_, vs', n, t', q, e⟩) | ⟨_, _, ps, q, e⟩
  · rw [dd] at q; cases q
  · rw [dd] at q; cases q
  · rw [dd] at q; cases q
  · rw [dd] at q; cases q; rw [z] at e; cases e
  · rw [dd] at q; cases q; exact triples_1 e z
theorem code_out {X : AP} {h : Heap} {c : Addr} {q : Str} (d : Kd X h) (r : h.CodeRec (.ref c) q) : ¬ X c := fun x => by
  obtain ⟨c2, o, vs, t, e, g, dd, z⟩ := r
  cases e
  rcases d _ _ x g with (⟨_, _, q⟩ | ⟨_, q⟩ | ⟨_, _, q⟩ | ⟨_, vs', n, t', q, e⟩) | ⟨_, _, ps, q, e⟩
  · rw [dd] at q; cases q
  · rw [dd] at q; cases q
  · rw [dd] at q; cases q
  · rw [dd] at q; cases q; rw [z] at e; cases e
  · rw [dd] at q; cases q; exact triples_1 e z
theorem Kd.other {X : AP} {h : Heap} {a : Addr} {o : Obj} (d : Kd X h) (e : h.get? a = some o) (n1 : ∀ es n, o.data ≠ .dict es n) (n2 : ∀ v, o.data ≠ .cell v) (n3 : ∀ es n, o.data ≠ .seq es n) (n4 : ∀ vs, o.data ≠ .fields vs) : ¬ X a := fun x => by
  rcases d _ _ x e with (⟨_, _, q⟩ | ⟨_, q⟩ | ⟨_, _, q⟩ | ⟨_, vs', n, t', q, e⟩) | ⟨_, _, ps, q, e⟩
  · exact n1 _ _ q
  · exact n2 _ q
  · exact n3 _ _ q
  · exact n4 _ q
  · exact n4 _ q
theorem Kd.table {X : AP} {h : Heap} {P : Addr} {ps : Array Value} (d : Kd X h) (e : h.get? P = some { cls := .none, data := .fields ps }) (l : 87 ≤ P) : ¬ X P := fun x => by
  rcases d _ _ x e with (⟨_, _, q⟩ | ⟨_, q⟩ | ⟨_, _, q⟩ | ⟨z, _⟩) | ⟨z, _⟩
  · cases q
  · cases q
  · cases q
  · exact z rfl
  · exact absurd l (Nat.not_le.mpr z)
theorem Kd.sub {X Z : AP} {h : Heap} (d : Kd X h) (s : ∀ a, Z a → X a) : Kd Z h := fun a o x e => d a o (s a x) e
def HKp (w : World) (h : Heap) (ps : Array Value) : Prop := ∀ v, codeAmong (clsPos w.params) ps.toList = some v → ∃ kc kt pk, v = .ref kc ∧ h.CodeRec (.ref kc) "cmp_to_key.<locals>.K" ∧ Tab h kc kt pk ∧ KT w.params h pk ∧ 87 ≤ kt
theorem KT.kd {p : Params} {X : AP} {h h' : Heap} {ps} (d : Kd X h) (k : Kp X h h') (t : KT p h ps) : KT p h' ps := fun i a b => by
  obtain ⟨c', e, r⟩ := t i a b
  exact ⟨c', e, d.code k r⟩
theorem HKp.kd {w : World} {X : AP} {h h' : Heap} {ps} (d : Kd X h) (k : Kp X h h') (t : HKp w h ps) : HKp w h' ps := fun v e => by
  obtain ⟨kc, kt, pk, e1, r, tk, q, l⟩ := t v e
  exact ⟨kc, kt, pk, e1, d.code k r, tk.kp k (code_out d r) (d.table tk.tab.2 l), q.kd d k, l⟩
theorem kdx {X : AP} {h : Heap} : Kd XN h := fun _ _ x => x.elim
theorem Fn.kd {X : AP} {h h' : Heap} {f : Addr} {name q : Str} {d : DefP} {clo : List (Str × Addr)} (kd : Kd X h) (k : Kp X h h') (F : Fn XN h f name q d clo) : Fn XN h' f name q d clo := by
  obtain ⟨ct, c', a, b, c, d⟩ := F.ex
  exact ⟨ct, c', k.at' _ _ (kd.other a nofun nofun nofun nofun) a, kd.code k b, fun x => x, fun x => x⟩
theorem KCls.kd {w : World} {X : AP} {h h' : Heap} {K f ns cl : Addr} (d : Kd X h) (k : Kp X h h') (n1 : ¬ X ns) (n2 : ¬ X cl) (c : KCls w h K f ns cl) : KCls w h' K f ns cl := by
  obtain ⟨b, so, st, md, f1, f2, f3, f4, f5, f6, g1, g3, g4, g5, g6, g7, g8, g9, g10, g11, g12, g13, g14, k1, k3, k4, k5, k6, k7, k8, k9, k10, k11, k12, k13, k14, t0, t1, t2, t3, tm, e1, e2, e3, e4, F1, F2, F4, F5, F6⟩ := c.ex
  refine ⟨b, so, st, md, f1, f2, f3, f4, f5, f6, g1, g3, g4, g5, g6, g7, g8, g9, g10, g11, g12, g13, g14, k1, k3, k4, k5, k6, k7, k8, k9, k10, k11, k12, k13, k14, t0, t1, t2, t3, tm,
    k.at' _ _ (d.other e1 nofun nofun nofun nofun) e1, k.at' _ _ n1 e2, k.at' _ _ (fun x => ?_) e3, k.at' _ _ n2 e4, F1.kd d k, F2.kd d k, F4.kd d k, F5.kd d k, F6.kd d k⟩
  rcases d _ _ x e3 with (⟨_, _, q⟩ | ⟨_, q⟩ | ⟨_, _, q⟩ | ⟨_, vs', n, t', q, e⟩) | ⟨_, z, _⟩
  · cases q
  · cases q
  · cases q
  · cases q; cases e
  · cases z
theorem body42 (p : Params) : ∃ a b, bodyAt 42 p = [clsStmt p, .Return (some (.Name "K" a)) b] := ⟨_, _, rfl⟩
theorem ns_empty {h : Heap} {F : Addr} {c : Value} (e : h.get? F = some ⟨c, none, .dict ⟨[]⟩ 0, #[]⟩) : h.Ns F (fun _ => none) := ⟨_, _, _, e, rfl, (by intro e he; simp at he), fun _ => rfl⟩
theorem Tab.keeps {h h' : Heap} {c P ps} (t : Tab h c P ps) (k : ∀ b o, h.get? b = some o → h'.get? b = some o) : Tab h' c P ps := t.kp (X := XN) ⟨fun a o _ e => k a o e⟩ (fun x => x) (fun x => x)
theorem cmpkey {A : Around} {Q : Value → Shared → Prop} (w : World) (h : Heap) (gg : Array GenState) (dd tt os) (f : Addr) (ps : Array Value)
   (hh : A.handled = none) (hdp : A.depth ≤ 680) (hun : A.units ≤ 4890) (KX : Frag.In (K2 w.params) h) (T : Tab h 41 37 ps) (HK : HKp w h ps)
   (x : ∀ K ns cl h' tk ps', Kp (fun a => a = 37) h h' → Tab h' 41 37 ps' → HKp w h' ps' → KCls w h' K f ns cl → h.get? ns = none → h.get? cl = none → Q (.ref K) ⟨h', gg, dd, tk, os⟩) :
   wpAny (model P w) A (PySem.call (.ref 42) [.ref f]) Q (fun _ _ => False) ⟨h, gg, dd, tt, os⟩ := by
  refine wpAny_call (codeAny_mono (cmp1 (R := fun r s' => match r with | .ok (.ret v) => Q v s' | _ => False) w h gg dd tt os f hdp KX fun h1 tk F cl k1 nF ncl nFc eF ecl => ?_) ?_)
  · obtain ⟨pa, pb, eb⟩ := body42 w.params
    rw [eb]
    have KX1 : Frag.In (K2 w.params) h1 := fun a o e => k1.all _ _ (KX a o e)
    refine wpAny_execs_cons (class1 w h1 gg dd tk os f F cl hh ?_ ?_ KX1 eF ecl ?_)
    · show A.depth + 1 ≤ 690; omega
    · show A.units + 3 ≤ 4900; omega
    rw [cls_q, cls_line]
    refine class2 w h1 gg dd tk os f F cl ps hh ?_ ?_ KX1 eF ecl (T.keeps k1.all) (HK.kd (X := XN) (fun _ _ x => x.elim) k1) fun K ns h2 tk2 k2 kd kc nns => ?_
    · show A.depth + 1 ≤ 690; omega
    · show A.units + 3 ≤ 4900; omega
    have nF37 : F ≠ 37 := by rintro rfl; rw [T.tab.2] at nF; cases nF
    have nF41 : F ≠ 41 := by
      rintro rfl
      obtain ⟨⟨o, vs, e, _⟩, _⟩ := T.tab
      rw [e] at nF; cases nF
    have eF2 := k2.at' _ _ (fun z => nF37 z.1) eF
    refine wpAny_bindName (wpAny_storeName_local (env := envC w.params F cl) (by kernel_rfl) (ns_empty eF2) (fun h3 hn3 hs3 => ?_) (by kernel_rfl))
    refine wpAny_execs_cons (wpAny_Return_some (wpAny_Name (wpAny_loadName_local (env := envC w.params F cl) (by kernel_rfl) (by kernel_rfl) hn3 (if_pos rfl) ?_)))
    have k23 : Kp (fun a => a = F) h2 h3 := ⟨fun b o n e => hs3.extBut b o n e⟩
    have kdF : Kd (fun a => a = F) h2 := by
      rintro a o rfl e
      rw [eF2] at e; cases e
      exact .inl (.inl ⟨_, _, rfl⟩)
    have kA : Kp (fun a => a = 37) h h3 := ⟨fun b o n e => k23.at' b o (fun z => by rw [z, nF] at e; cases e) (k2.at' b o (fun z => n z.1) (k1.all b o e))⟩
    obtain ⟨ps', kc', kt, pk, T2, hit, r, tk', q, l⟩ := kd
    refine x K ns cl h3 _ ps' kA (T2.kp k23 (Ne.symm nF41) (Ne.symm nF37)) (HKp.kd kdF k23 fun v e => ?_) (kc.kd kdF k23 (fun z => ?_) (fun z => nFc z.symm)) ?_ ncl
    · rw [hit] at e; cases e
      exact ⟨kc', kt, pk, rfl, r, tk', q, l⟩
    · rw [z, eF] at nns; cases nns
    · cases q : h.get? ns with
      | none => rfl
      | some o => rw [k1.all _ _ q] at nns; cases nns
  · intro r s hr
    cases r with
    | ok f => cases f <;> first | exact hr | exact hr.elim
    | error e => exact hr.elim
end Mine
namespace Mine
local macro_rules | `(tactic| walk_at "my hnf") => `(tactic| (conv => arg 3; whnf))
set_option maxRecDepth 100000
set_option maxHeartbeats 0
set_option pp.deepTerms false
set_option pp.proofs false
set_option pp.maxSteps 3000
set_option hygiene false in
local macro_rules | `(tactic| walk_at "my ldm") => `(tactic| first
  | (exact Mem.at D 0 _ _ rfl) | (exact Mem.at D 1 _ _ rfl) | (exact Mem.at D 2 _ _ rfl) | (exact Mem.at D 3 _ _ rfl) | (exact Mem.at D 4 _ _ rfl)| (exact Mem.at D 5 _ _ rfl)| (exact Mem.at D 6 _ _ rfl)| (exact Mem.at D 7 _ _ rfl)| (exact Mem.at D 8 _ _ rfl)| (exact Mem.at D 9 _ _ rfl)
  | (exact mold D (by assumption) rfl)
  | (exact mold D (kin KX _ _ rfl) rfl)| (exact mold D (kin KX1 _ _ rfl) rfl))
theorem fx1i : Builtin.Slots.isIdentifier (Str.ofString "obj") = some true := by decide +kernel
theorem fx2i : Builtin.Slots.mangle (Str.ofString "K") (Str.ofString "obj") = Str.ofString "obj" := by decide +kernel
local macro_rules | `(tactic| walk_at "my ldstep") => `(tactic| (with_reducible refine' m_load ?a ?b; (case a => (walk_at "my ldm"; done))))
local macro_rules | `(tactic| walk_at "my dec") => `(tactic| first
  | (refine rec_no ?kk ?_; (case kk => (decide +kernel; done)))
  | (refine rec_yes ?kk ?_; (case kk => (decide +kernel; done)))
  | (refine rec_no ?kk ?_; (case kk => (intro hx; have hx' : @Eq Nat _ 1 := of_decide_eq_true hx; omega)))
  | (refine rec_no ?kk ?_; (case kk => (intro hx; have hx' : @Eq Nat _ _ := of_decide_eq_true hx; omega)))
  | (refine rec_no ?kk ?_; (case kk => (intro hx; have hx' : @Eq Nat _ _ := hx; omega)))
  | (refine rec_yes ?kk ?_; (case kk => (exact rfl; done)))
  | (refine rec_yes ?kk ?_; (case kk => (simp; done)))
  | (refine rec_no ?kk ?_; (case kk => (simp [fx2, Value.isStr]; done)))
  | (refine rec_no ?kk ?_; (case kk => (simp [fx2, Value.isStr]; decide)))
  | (refine rec_no ?kk ?_; (case kk => (simp; omega))))
theorem m_anyMi {prog : Program} {w : World} {A : Around} {Q : Bool → Shared → Prop} {E : Value → Shared → Prop} {s : Shared} {p : Value → Sem Bool} {l : List Value} (l' : List Value) (e : l = l')
   (x : wpAny (model prog w) A (List.anyM p l') Q E s) : wpAny (model prog w) A (List.anyM p l) Q E s := by rw [e]; exact x
theorem fx3i : Bind.madeBy (Value.type "object") = Sem.pure (some "object.__new__") := by kernel_rfl
local macro_rules | `(tactic| walk_at "my pre") => `(tactic| with_reducible refine m_eq fx3 ?_)
local macro_rules | `(tactic| walk_at "my fixes") => `(tactic| first
  | rw [fx1]
  | rw [fx2]
  | (refine m_anyM [Value.type "object"] ?kk ?_; (case kk => (simp; done))))
local macro_rules | `(tactic| walk_at "my ent_call") => `(tactic| fail "no")
local macro_rules | `(tactic| walk_at "my ent_again") => `(tactic| fail "no")
local macro_rules | `(tactic| walk_at "my norm_at_D") => `(tactic| skip)
set_option hygiene false in
local macro_rules | `(tactic| walk_at "my nD") => `(tactic| (simp only [List.set, Obj.mapSeq, Obj.mapCls, Obj.mapDict, Obj.mapFields, Obj.dropName, Obj.putName] at D))
set_option hygiene false in
local macro_rules | `(tactic| walk_at "my go1") => `(tactic| first
  | walk_at "my pre"
  | (walk_at "my hnf"; first
  | with_reducible refine x_rule ?_ | with_reducible refine x_at ?_ | with_reducible refine x_point ?_ | with_reducible refine x_ask ?_ | with_reducible refine m_fresh ?_ | with_reducible refine x_handled ?_ | with_reducible refine x_pure ?_
  | walk_at "my ldstep"
  | (with_reducible refine m_stack ?_; intro st l)
  | with_reducible refine m_bind ?_ | with_reducible refine m_keep ?_ | with_reducible refine m_onRaise ?_ | with_reducible refine m_try ?_
  | ((fail_if_success (with_reducible refine' is_alloc ?_)); (fail_if_success (with_reducible refine' is_update ?_)); (fail_if_success (with_reducible refine' is_call ?_)); (fail_if_success (with_reducible refine' is_load ?_)); (first | walk_at "my dec" | walk_at "my fixes"))
  )
  | (with_reducible refine m_done ?_) | walk_at "my ent_again")


set_option hygiene false in
local macro_rules | `(tactic| walk_at "my go1k") => `(tactic| first
  | walk_at "my pre"
  | (walk_at "my hnf"; first
  | with_reducible refine x_rule ?_ | with_reducible refine x_at ?_ | with_reducible refine x_point ?_ | with_reducible refine x_ask ?_ | with_reducible refine m_fresh ?_ | with_reducible refine x_handled ?_ | with_reducible refine x_pure ?_
  | walk_at "my ldstep"
  | (with_reducible refine m_stack ?_; intro st l)
  | with_reducible refine m_bind ?_ | with_reducible refine m_onRaise ?_ | with_reducible refine m_try ?_
  | ((fail_if_success (with_reducible refine' is_alloc ?_)); (fail_if_success (with_reducible refine' is_update ?_)); (fail_if_success (with_reducible refine' is_call ?_)); (fail_if_success (with_reducible refine' is_load ?_)); (first | walk_at "my dec" | walk_at "my fixes"))
  )
  | (with_reducible refine m_done ?_) | walk_at "my ent_again")


set_option hygiene false in
local macro_rules | `(tactic| walk_at "my go2") => `(tactic| first
  | walk_at "my go1"
  | (walk_at "my hnf"; first
    | (with_reducible refine m_allocG D rfl ?_; intro a h D hlt)
    | (with_reducible refine m_allocF' hs D rfl ?_; intro a h D hlt)
    | (with_reducible refine m_update D 0 rfl rfl ?_; intro h D; dsimp only [List.set] at D)
    | (with_reducible refine m_update D 1 rfl rfl ?_; intro h D; dsimp only [List.set] at D)
    | (with_reducible refine m_update D 2 rfl rfl ?_; intro h D; dsimp only [List.set] at D)
    | (with_reducible refine m_update D 3 rfl rfl ?_; intro h D; dsimp only [List.set] at D)
    | (with_reducible refine m_update D 4 rfl rfl ?_; intro h D; dsimp only [List.set] at D)
    | (with_reducible refine m_update D 5 rfl rfl ?_; intro h D; dsimp only [List.set] at D)))


theorem m_updB {α : Type} {prog : Program} {w : World} {A : Around} {E : Value → Shared → Prop} {Q : α → Shared → Prop} {h : Heap} {g : Array GenState} {d : Drawn} {t : Nat} {os : OsState} {a : Addr} {q : Option Value} {f : Obj → Obj} {k : Unit → Sem α} {o : Obj} (o' : Obj) (ho : h.get? a = some o) (e : f o = o') (hf : o'.isFreed = false)
    (x : ∀ h', h'.get? a = some o' → (∀ b ob, b ≠ a → h.get? b = some ob → h'.get? b = some ob) → wpAny (model prog w) A (k ()) Q E ⟨h', g, d, t, os⟩) : wpAny (model prog w) A (.update a q f k) Q E ⟨h, g, d, t, os⟩ := by
  subst e
  refine wpAny_bind (m := updatePart a q f) (f := k) (wpAny_updatePart ho (x _ (Heap.get?_update_self _ ho hf) fun b ob n e => (Heap.SameBut.update ..).extBut b ob n e))
section
set_option hygiene false in
local macro_rules | `(tactic| x_close) => `(tactic| (refine ⟨_, _, _, rfl, rfl, (by first | exact keeps_of (by assumption) | exact fun _ _ e => e), ?_⟩; first | exact rfl | (trace_state; exact ⟨_, rfl⟩)))
theorem getobj_x (w : World) (h : Heap) (K b ns so st md f1 f2 f3 f4 f5 f6 i da : Addr) (g1 g3 g4 g5 g6 g7 g8 g9 g10 g11 g12 g13 g14 : Int) (k1 k3 k4 k5 k6 k7 k8 k9 k10 k11 k12 k13 k14 t0 t1 t2 t3 tm : Nat) (x : Int) (t tn : Tok)
   (KX : Frag.In (K2 w.params) h)
   (hK : h.get? K = some (clsObj K ns b t0 t2)) 
   (hns : h.get? ns = some (nsObj so st md f1 f2 f3 f4 f5 f6 g1 g3 g4 g5 g6 g7 g8 g9 g10 g11 g12 g13 g14 k1 k3 k4 k5 k6 k7 k8 k9 k10 k11 k12 k13 k14 t1 t3))
   (hmd : h.get? md = some (mdObj K tm)) (hi : h.get? i = some ⟨.ref K, some da, .plain, #[some (.int x t)]⟩) :
   Does w (.builtin "proto.getattr_hooked" ⟨[.ref i, .str "obj" tn], []⟩) h (fun v h' => v = .int x t) := by
  unfold clsObj at hK
  unfold nsObj at hns
  unfold mdObj at hmd
  intro gg dd tt os
  x_run
theorem clslt_x (w : World) (h : Heap) (K b ns so st md f1 f2 f3 f4 f5 f6 i da : Addr) (g1 g3 g4 g5 g6 g7 g8 g9 g10 g11 g12 g13 g14 : Int) (k1 k3 k4 k5 k6 k7 k8 k9 k10 k11 k12 k13 k14 t0 t1 t2 t3 tm : Nat) (tn : Tok) (d2 : FuncData)
   (KX : Frag.In (K2 w.params) h)
   (hK : h.get? K = some (clsObj K ns b t0 t2)) 
   (hns : h.get? ns = some (nsObj so st md f1 f2 f3 f4 f5 f6 g1 g3 g4 g5 g6 g7 g8 g9 g10 g11 g12 g13 g14 k1 k3 k4 k5 k6 k7 k8 k9 k10 k11 k12 k13 k14 t1 t3))
   (hf : h.get? f2 = some ⟨.type "function", none, .func d2, #[]⟩) :
   Does w (.call (.builtin "type.__getattribute__") ⟨[.ref K, .str "__lt__" tn], []⟩) h (fun v h' => v = .ref f2) := by
  unfold clsObj at hK
  unfold nsObj at hns
  intro gg dd tt os
  x_run
theorem clsle_x (w : World) (h : Heap) (K b ns so st md f1 f2 f3 f4 f5 f6 i da : Addr) (g1 g3 g4 g5 g6 g7 g8 g9 g10 g11 g12 g13 g14 : Int) (k1 k3 k4 k5 k6 k7 k8 k9 k10 k11 k12 k13 k14 t0 t1 t2 t3 tm : Nat) (tn : Tok) (d2 : FuncData)
   (KX : Frag.In (K2 w.params) h)
   (hK : h.get? K = some (clsObj K ns b t0 t2)) 
   (hns : h.get? ns = some (nsObj so st md f1 f2 f3 f4 f5 f6 g1 g3 g4 g5 g6 g7 g8 g9 g10 g11 g12 g13 g14 k1 k3 k4 k5 k6 k7 k8 k9 k10 k11 k12 k13 k14 t1 t3))
   (hf : h.get? f5 = some ⟨.type "function", none, .func d2, #[]⟩) :
   Does w (.call (.builtin "type.__getattribute__") ⟨[.ref K, .str "__le__" tn], []⟩) h (fun v h' => v = .ref f5) := by
  unfold clsObj at hK
  unfold nsObj at hns
  intro gg dd tt os
  x_run
theorem clsge_x (w : World) (h : Heap) (K b ns so st md f1 f2 f3 f4 f5 f6 i da : Addr) (g1 g3 g4 g5 g6 g7 g8 g9 g10 g11 g12 g13 g14 : Int) (k1 k3 k4 k5 k6 k7 k8 k9 k10 k11 k12 k13 k14 t0 t1 t2 t3 tm : Nat) (tn : Tok) (d2 : FuncData)
   (KX : Frag.In (K2 w.params) h)
   (hK : h.get? K = some (clsObj K ns b t0 t2)) 
   (hns : h.get? ns = some (nsObj so st md f1 f2 f3 f4 f5 f6 g1 g3 g4 g5 g6 g7 g8 g9 g10 g11 g12 g13 g14 k1 k3 k4 k5 k6 k7 k8 k9 k10 k11 k12 k13 k14 t1 t3))
   (hf : h.get? f6 = some ⟨.type "function", none, .func d2, #[]⟩) :
   Does w (.call (.builtin "type.__getattribute__") ⟨[.ref K, .str "__ge__" tn], []⟩) h (fun v h' => v = .ref f6) := by
  unfold clsObj at hK
  unfold nsObj at hns
  intro gg dd tt os
  x_run
end
theorem ent_oset : Ent "object.__setattr__" Builtin.«object.__setattr__» := ⟨entryFor_of_fast (by kernel_rfl), by decide +kernel⟩
theorem ent_mset : Ent "member_descriptor.__set__" Builtin.«member_descriptor.__set__» := ⟨entryFor_of_fast (by kernel_rfl), by decide +kernel⟩
theorem ent_pset : Ent "proto.slot#set" Builtin.«proto.slot#set» := ⟨entryFor_of_fast (by kernel_rfl), by decide +kernel⟩
theorem get_c {A : Around} {Q : Value → Shared → Prop} {E : Value → Shared → Prop} (w : World) (h : Heap) (gg : Array GenState) (dd tt os) (K b ns so st md f1 f2 f3 f4 f5 f6 i da : Addr) (g1 g3 g4 g5 g6 g7 g8 g9 g10 g11 g12 g13 g14 : Int) (k1 k3 k4 k5 k6 k7 k8 k9 k10 k11 k12 k13 k14 t0 t1 t2 t3 tm : Nat) (x : Int) (t : Tok)
   (KX : Frag.In (K2 w.params) h)
   (hK : h.get? K = some (clsObj K ns b t0 t2)) 
   (hns : h.get? ns = some (nsObj so st md f1 f2 f3 f4 f5 f6 g1 g3 g4 g5 g6 g7 g8 g9 g10 g11 g12 g13 g14 k1 k3 k4 k5 k6 k7 k8 k9 k10 k11 k12 k13 k14 t1 t3))
   (hmd : h.get? md = some (mdObj K tm)) (hi : h.get? i = some ⟨.ref K, some da, .plain, #[some (.int x t)]⟩)
   (hh : A.handled = none) (hdp : A.depth ≤ 800) (hun : A.units ≤ 6000) (q : ∀ h' tk, Keeps h h' → Q (.int x t) ⟨h', gg, dd, tk, os⟩) :
   wpAny (model P w) A (getAttr (.ref i) "obj" true) Q E ⟨h, gg, dd, tt, os⟩ := by
  have hK0 := hK
  have hns0 := hns
  have hmd0 := hmd
  unfold clsObj at hK
  unfold nsObj at hns
  unfold mdObj at hmd
  have D := Mem.start h
  repeat walk_at "my go1"
  walk_at "my hnf"
  refine Does.use (getobj_x w h K b ns so st md f1 f2 f3 f4 f5 f6 i da g1 g3 g4 g5 g6 g7 g8 g9 g10 g11 g12 g13 g14 k1 k3 k4 k5 k6 k7 k8 k9 k10 k11 k12 k13 k14 t0 t1 t2 t3 tm x t tt KX hK0 hns0 hmd0 hi) hh hdp hun ?_
  rintro _ h' tk hke rfl
  clear D
  have D := Mem.start h'
  repeat walk_at "my go1"
  exact q h' tk hke
theorem set_c {A : Around} {Q : Unit → Shared → Prop} {E : Value → Shared → Prop} (w : World) (h : Heap) (gg : Array GenState) (dd tt os) (K b ns so st md f1 f2 f3 f4 f5 f6 i da : Addr) (g1 g3 g4 g5 g6 g7 g8 g9 g10 g11 g12 g13 g14 : Int) (k1 k3 k4 k5 k6 k7 k8 k9 k10 k11 k12 k13 k14 t0 t1 t2 t3 tm : Nat) (x : Int) (t : Tok)
   (KX : Frag.In (K2 w.params) h)
   (hK : h.get? K = some (clsObj K ns b t0 t2)) 
   (hns : h.get? ns = some (nsObj so st md f1 f2 f3 f4 f5 f6 g1 g3 g4 g5 g6 g7 g8 g9 g10 g11 g12 g13 g14 k1 k3 k4 k5 k6 k7 k8 k9 k10 k11 k12 k13 k14 t1 t3))
   (hmd : h.get? md = some (mdObj K tm)) (hi : h.get? i = some ⟨.ref K, some da, .plain, #[]⟩)
   (q : ∀ h' tk, h'.get? i = some ⟨.ref K, some da, .plain, #[some (.int x t)]⟩ → (∀ b ob, b ≠ i → h.get? b = some ob → h'.get? b = some ob) → Q () ⟨h', gg, dd, tk, os⟩) :
   wpAny (model P w) A (setAttr (.ref i) "obj" (.int x t)) Q E ⟨h, gg, dd, tt, os⟩ := by
  unfold clsObj at hK
  unfold nsObj at hns
  unfold mdObj at hmd
  have D := Mem.start h
  repeat walk_at "my go1"
  walk_at "my hnf"
  refine m_codeEq (Code.call (.builtin "object.__setattr__") ⟨[.ref i, .str "obj" tt, .int x t], []⟩) (codeEq2 (by decide +kernel)) ?_
  refine m_callf (fun hx => nomatch hx) ?_
  repeat walk_at "my go1"
  refine Ent.again ent_oset ?_
  repeat walk_at "my go1"
  walk_at "my hnf"
  refine m_codeEq (Code.call (.builtin "member_descriptor.__set__") ⟨[.ref md, .ref i, .int x t], []⟩) (codeEq2 (by decide +kernel)) ?_
  refine m_callf (fun hx => nomatch hx) ?_
  repeat walk_at "my go1"
  refine Ent.again ent_mset ?_
  repeat walk_at "my go1"
  refine Ent.again ent_pset ?_
  repeat walk_at "my go1"
  walk_at "my hnf"
  refine m_updB ⟨.ref K, some da, .plain, #[some (.int x t)]⟩ hi (by kernel_rfl) rfl ?_
  intro h' hi' hk
  clear D
  have D := Mem.start h'
  repeat walk_at "my go1"
  exact q h' _ hi' hk
theorem clslt_c {A : Around} {Q : Value → Shared → Prop} {E : Value → Shared → Prop} (w : World) (h : Heap) (gg : Array GenState) (dd tt os) (K b ns so st md f1 f2 f3 f4 f5 f6 i da : Addr) (g1 g3 g4 g5 g6 g7 g8 g9 g10 g11 g12 g13 g14 : Int) (k1 k3 k4 k5 k6 k7 k8 k9 k10 k11 k12 k13 k14 t0 t1 t2 t3 tm : Nat) 
   (KX : Frag.In (K2 w.params) h) (d2 : FuncData)
   (hK : h.get? K = some (clsObj K ns b t0 t2)) 
   (hns : h.get? ns = some (nsObj so st md f1 f2 f3 f4 f5 f6 g1 g3 g4 g5 g6 g7 g8 g9 g10 g11 g12 g13 g14 k1 k3 k4 k5 k6 k7 k8 k9 k10 k11 k12 k13 k14 t1 t3))
   (hf2 : h.get? f2 = some ⟨.type "function", none, .func d2, #[]⟩)
   (hh : A.handled = none) (hdp : A.depth ≤ 800) (hun : A.units ≤ 6000) (q : ∀ h' tk, Keeps h h' → Q (.ref f2) ⟨h', gg, dd, tk, os⟩) :
   wpAny (model P w) A (getAttr (.ref K) "__lt__") Q E ⟨h, gg, dd, tt, os⟩ := by
  have hK0 := hK
  have hns0 := hns
  unfold clsObj at hK
  unfold nsObj at hns
  have D := Mem.start h
  repeat walk_at "my go1"
  walk_at "my hnf"
  refine m_codeEq (Code.call (.builtin "type.__getattribute__") ⟨[.ref K, .str "__lt__" tt], []⟩) (codeEq2 (by decide +kernel)) ?_
  refine Does.use (clslt_x w h K b ns so st md f1 f2 f3 f4 f5 f6 i da g1 g3 g4 g5 g6 g7 g8 g9 g10 g11 g12 g13 g14 k1 k3 k4 k5 k6 k7 k8 k9 k10 k11 k12 k13 k14 t0 t1 t2 t3 tm tt d2 KX hK0 hns0 hf2) hh hdp hun ?_
  rintro _ h' tk hke rfl
  clear D
  have D := Mem.start h'
  repeat walk_at "my go1"
  exact q h' tk hke
theorem clsle_c {A : Around} {Q : Value → Shared → Prop} {E : Value → Shared → Prop} (w : World) (h : Heap) (gg : Array GenState) (dd tt os) (K b ns so st md f1 f2 f3 f4 f5 f6 i da : Addr) (g1 g3 g4 g5 g6 g7 g8 g9 g10 g11 g12 g13 g14 : Int) (k1 k3 k4 k5 k6 k7 k8 k9 k10 k11 k12 k13 k14 t0 t1 t2 t3 tm : Nat) 
   (KX : Frag.In (K2 w.params) h) (d2 : FuncData)
   (hK : h.get? K = some (clsObj K ns b t0 t2)) 
   (hns : h.get? ns = some (nsObj so st md f1 f2 f3 f4 f5 f6 g1 g3 g4 g5 g6 g7 g8 g9 g10 g11 g12 g13 g14 k1 k3 k4 k5 k6 k7 k8 k9 k10 k11 k12 k13 k14 t1 t3))
   (hf2 : h.get? f5 = some ⟨.type "function", none, .func d2, #[]⟩)
   (hh : A.handled = none) (hdp : A.depth ≤ 800) (hun : A.units ≤ 6000) (q : ∀ h' tk, Keeps h h' → Q (.ref f5) ⟨h', gg, dd, tk, os⟩) :
   wpAny (model P w) A (getAttr (.ref K) "__le__") Q E ⟨h, gg, dd, tt, os⟩ := by
  have hK0 := hK
  have hns0 := hns
  unfold clsObj at hK
  unfold nsObj at hns
  have D := Mem.start h
  repeat walk_at "my go1"
  walk_at "my hnf"
  refine m_codeEq (Code.call (.builtin "type.__getattribute__") ⟨[.ref K, .str "__le__" tt], []⟩) (codeEq2 (by decide +kernel)) ?_
  refine Does.use (clsle_x w h K b ns so st md f1 f2 f3 f4 f5 f6 i da g1 g3 g4 g5 g6 g7 g8 g9 g10 g11 g12 g13 g14 k1 k3 k4 k5 k6 k7 k8 k9 k10 k11 k12 k13 k14 t0 t1 t2 t3 tm tt d2 KX hK0 hns0 hf2) hh hdp hun ?_
  rintro _ h' tk hke rfl
  clear D
  have D := Mem.start h'
  repeat walk_at "my go1"
  exact q h' tk hke
theorem clsge_c {A : Around} {Q : Value → Shared → Prop} {E : Value → Shared → Prop} (w : World) (h : Heap) (gg : Array GenState) (dd tt os) (K b ns so st md f1 f2 f3 f4 f5 f6 i da : Addr) (g1 g3 g4 g5 g6 g7 g8 g9 g10 g11 g12 g13 g14 : Int) (k1 k3 k4 k5 k6 k7 k8 k9 k10 k11 k12 k13 k14 t0 t1 t2 t3 tm : Nat) 
   (KX : Frag.In (K2 w.params) h) (d2 : FuncData)
   (hK : h.get? K = some (clsObj K ns b t0 t2)) 
   (hns : h.get? ns = some (nsObj so st md f1 f2 f3 f4 f5 f6 g1 g3 g4 g5 g6 g7 g8 g9 g10 g11 g12 g13 g14 k1 k3 k4 k5 k6 k7 k8 k9 k10 k11 k12 k13 k14 t1 t3))
   (hf2 : h.get? f6 = some ⟨.type "function", none, .func d2, #[]⟩)
   (hh : A.handled = none) (hdp : A.depth ≤ 800) (hun : A.units ≤ 6000) (q : ∀ h' tk, Keeps h h' → Q (.ref f6) ⟨h', gg, dd, tk, os⟩) :
   wpAny (model P w) A (getAttr (.ref K) "__ge__") Q E ⟨h, gg, dd, tt, os⟩ := by
  have hK0 := hK
  have hns0 := hns
  unfold clsObj at hK
  unfold nsObj at hns
  have D := Mem.start h
  repeat walk_at "my go1"
  walk_at "my hnf"
  refine m_codeEq (Code.call (.builtin "type.__getattribute__") ⟨[.ref K, .str "__ge__" tt], []⟩) (codeEq2 (by decide +kernel)) ?_
  refine Does.use (clsge_x w h K b ns so st md f1 f2 f3 f4 f5 f6 i da g1 g3 g4 g5 g6 g7 g8 g9 g10 g11 g12 g13 g14 k1 k3 k4 k5 k6 k7 k8 k9 k10 k11 k12 k13 k14 t0 t1 t2 t3 tm tt d2 KX hK0 hns0 hf2) hh hdp hun ?_
  rintro _ h' tk hke rfl
  clear D
  have D := Mem.start h'
  repeat walk_at "my go1"
  exact q h' tk hke
end Mine
namespace Mine
local macro_rules | `(tactic| walk_at "my hnf") => `(tactic| (conv => arg 3; whnf))
set_option maxRecDepth 100000
set_option maxHeartbeats 0
set_option pp.deepTerms false
set_option pp.proofs false
set_option pp.maxSteps 3000
set_option hygiene false in
local macro_rules | `(tactic| walk_at "my ldm") => `(tactic| first
  | (exact Mem.at D 0 _ _ rfl) | (exact Mem.at D 1 _ _ rfl) | (exact Mem.at D 2 _ _ rfl) | (exact Mem.at D 3 _ _ rfl) | (exact Mem.at D 4 _ _ rfl)| (exact Mem.at D 5 _ _ rfl)| (exact Mem.at D 6 _ _ rfl)| (exact Mem.at D 7 _ _ rfl)| (exact Mem.at D 8 _ _ rfl)| (exact Mem.at D 9 _ _ rfl)
  | (exact mold D (by assumption) rfl)
  | (exact mold D (kin KX _ _ rfl) rfl)| (exact mold D (kin KX1 _ _ rfl) rfl))
theorem fx1j : Builtin.Slots.isIdentifier (Str.ofString "obj") = some true := by decide +kernel
theorem fx2j : Builtin.Slots.mangle (Str.ofString "K") (Str.ofString "obj") = Str.ofString "obj" := by decide +kernel
local macro_rules | `(tactic| walk_at "my ldstep") => `(tactic| (with_reducible refine' m_load ?a ?b; (case a => (walk_at "my ldm"; done))))
local macro_rules | `(tactic| walk_at "my dec") => `(tactic| first
  | (refine rec_no ?kk ?_; (case kk => (decide +kernel; done)))
  | (refine rec_yes ?kk ?_; (case kk => (decide +kernel; done)))
  | (refine rec_no ?kk ?_; (case kk => (intro hx; have hx' : @Eq Nat _ 1 := of_decide_eq_true hx; omega)))
  | (refine rec_no ?kk ?_; (case kk => (intro hx; have hx' : @Eq Nat _ _ := of_decide_eq_true hx; omega)))
  | (refine rec_no ?kk ?_; (case kk => (intro hx; have hx' : @Eq Nat _ _ := hx; omega)))
  | (refine rec_yes ?kk ?_; (case kk => (exact rfl; done)))
  | (refine rec_yes ?kk ?_; (case kk => (simp; done)))
  | (refine rec_no ?kk ?_; (case kk => (simp [fx2, Value.isStr]; done)))
  | (refine rec_no ?kk ?_; (case kk => (simp [fx2, Value.isStr]; decide)))
  | (refine rec_no ?kk ?_; (case kk => (simp; omega))))
theorem m_anyMj {prog : Program} {w : World} {A : Around} {Q : Bool → Shared → Prop} {E : Value → Shared → Prop} {s : Shared} {p : Value → Sem Bool} {l : List Value} (l' : List Value) (e : l = l')
   (x : wpAny (model prog w) A (List.anyM p l') Q E s) : wpAny (model prog w) A (List.anyM p l) Q E s := by rw [e]; exact x
theorem fx3j : Bind.madeBy (Value.type "object") = Sem.pure (some "object.__new__") := by kernel_rfl
local macro_rules | `(tactic| walk_at "my pre") => `(tactic| with_reducible refine m_eq fx3 ?_)
local macro_rules | `(tactic| walk_at "my fixes") => `(tactic| first
  | rw [fx1]
  | rw [fx2]
  | (refine m_anyM [Value.type "object"] ?kk ?_; (case kk => (simp; done))))
local macro_rules | `(tactic| walk_at "my ent_call") => `(tactic| fail "no")
local macro_rules | `(tactic| walk_at "my ent_again") => `(tactic| fail "no")
local macro_rules | `(tactic| walk_at "my norm_at_D") => `(tactic| skip)
set_option hygiene false in
local macro_rules | `(tactic| walk_at "my nD") => `(tactic| (simp only [List.set, Obj.mapSeq, Obj.mapCls, Obj.mapDict, Obj.mapFields, Obj.dropName, Obj.putName] at D))
set_option hygiene false in
local macro_rules | `(tactic| walk_at "my go1") => `(tactic| first
  | walk_at "my pre"
  | (walk_at "my hnf"; first
  | with_reducible refine x_rule ?_ | with_reducible refine x_at ?_ | with_reducible refine x_point ?_ | with_reducible refine x_ask ?_ | with_reducible refine m_fresh ?_ | with_reducible refine x_handled ?_ | with_reducible refine x_pure ?_
  | walk_at "my ldstep"
  | (with_reducible refine m_stack ?_; intro st l)
  | with_reducible refine m_bind ?_ | with_reducible refine m_keep ?_ | with_reducible refine m_onRaise ?_ | with_reducible refine m_try ?_
  | ((fail_if_success (with_reducible refine' is_alloc ?_)); (fail_if_success (with_reducible refine' is_update ?_)); (fail_if_success (with_reducible refine' is_call ?_)); (fail_if_success (with_reducible refine' is_load ?_)); (first | walk_at "my dec" | walk_at "my fixes"))
  )
  | (with_reducible refine m_done ?_) | walk_at "my ent_again")


set_option hygiene false in
local macro_rules | `(tactic| walk_at "my go1k") => `(tactic| first
  | walk_at "my pre"
  | (walk_at "my hnf"; first
  | with_reducible refine x_rule ?_ | with_reducible refine x_at ?_ | with_reducible refine x_point ?_ | with_reducible refine x_ask ?_ | with_reducible refine m_fresh ?_ | with_reducible refine x_handled ?_ | with_reducible refine x_pure ?_
  | walk_at "my ldstep"
  | (with_reducible refine m_stack ?_; intro st l)
  | with_reducible refine m_bind ?_ | with_reducible refine m_onRaise ?_ | with_reducible refine m_try ?_
  | ((fail_if_success (with_reducible refine' is_alloc ?_)); (fail_if_success (with_reducible refine' is_update ?_)); (fail_if_success (with_reducible refine' is_call ?_)); (fail_if_success (with_reducible refine' is_load ?_)); (first | walk_at "my dec" | walk_at "my fixes"))
  )
  | (with_reducible refine m_done ?_) | walk_at "my ent_again")


set_option hygiene false in
local macro_rules | `(tactic| walk_at "my go2") => `(tactic| first
  | walk_at "my go1"
  | (walk_at "my hnf"; first
    | (with_reducible refine m_allocG D rfl ?_; intro a h D hlt)
    | (with_reducible refine m_allocF' hs D rfl ?_; intro a h D hlt)
    | (with_reducible refine m_update D 0 rfl rfl ?_; intro h D; dsimp only [List.set] at D)
    | (with_reducible refine m_update D 1 rfl rfl ?_; intro h D; dsimp only [List.set] at D)
    | (with_reducible refine m_update D 2 rfl rfl ?_; intro h D; dsimp only [List.set] at D)
    | (with_reducible refine m_update D 3 rfl rfl ?_; intro h D; dsimp only [List.set] at D)
    | (with_reducible refine m_update D 4 rfl rfl ?_; intro h D; dsimp only [List.set] at D)
    | (with_reducible refine m_update D 5 rfl rfl ?_; intro h D; dsimp only [List.set] at D)))



theorem initBody (p : Params) : ∃ a b c d, (dp p 2).body = [.Assign [.Attribute (.Name "self" a) "obj" b] (.Name "obj" c) d] := ⟨_, _, _, _, rfl⟩
theorem initNames (p : Params) : ((dp p 2).scope.names.all fun x => x.2 != .cell) = true := by kernel_rfl
def clsFacts (w : World) (h : Heap) (K f ns cl : Addr) : Prop := Frag.In (K2 w.params) h ∧ KCls w h K f ns cl
theorem init_c {A : Around} {R : Result → Shared → Prop} (w : World) (h : Heap) (gg : Array GenState) (dd tt os) (K f ns cl f1 i da : Addr) (x : Int) (t : Tok)
   (KX : Frag.In (K2 w.params) h) (c : KCls w h K f ns cl) (F1 : Fn XN h f1 "__init__" (kq 2) (dp w.params 2) []) (hi : h.get? i = some ⟨.ref K, some da, .plain, #[]⟩) (hroom : A.depth < recursionLimit)
   (hR : ∀ h' tk, h'.get? i = some ⟨.ref K, some da, .plain, #[some (.int x t)]⟩ → (∀ b ob, b ≠ i → h.get? b = some ob → h'.get? b = some ob) → R (.ok (.ret .none)) ⟨h', gg, dd, tk, os⟩) :
   codeAny (model P w) A (.call (.ref f1) ⟨[.ref i, .int x t], []⟩) R ⟨h, gg, dd, tt, os⟩ := by
  obtain ⟨ct, c', e1, r1, _, _⟩ := F1.ex
  obtain ⟨pa, pb, pc, pd, eb⟩ := initBody w.params
  refine codeAny_call_def (binds := [("self", .ref i), ("obj", .int x t)]) (body := (dp w.params 2).body) hroom e1 rfl (noLimit KX) r1 rfl ?_ ?_ ?_ ?_ (by kernel_rfl) (by kernel_rfl) (by kernel_rfl)
  · refine BindsTo.of_eq ?_
    kernel_rfl
  · intro y hy
    have := List.all_eq_true.mp (initNames w.params) y hy
    intro z; rw [z] at this; cases this
  · intro y hy
    simp only [List.mem_cons, List.not_mem_nil, or_false] at hy
    rcases hy with rfl | rfl <;> kernel_rfl
  intro h0 hn0 k0
  dsimp only at hn0 k0 ⊢
  rw [eb]
  refine wpAny_execs_cons (plainObj_wpAny_Assign_Attribute (wpAny_Name (wpAny_loadName_local (v := .int x t) (by kernel_rfl) (by kernel_rfl) hn0 (by kernel_rfl) ?_)))
  refine wpAny_Name (wpAny_loadName_local (v := .ref i) (by kernel_rfl) (by kernel_rfl) hn0 (by kernel_rfl) ?_)
  obtain ⟨b, so, st, md, f1', f2, f3, f4, f5, f6, g1, g3, g4, g5, g6, g7, g8, g9, g10, g11, g12, g13, g14, k1, k3, k4, k5, k6, k7, k8, k9, k10, k11, k12, k13, k14, t0, t1, t2, t3, tm, q1, q2, q3, q4, _⟩ := c.ex
  refine set_c w h0 gg dd _ os K b ns so st md f1' f2 f3 f4 f5 f6 i da g1 g3 g4 g5 g6 g7 g8 g9 g10 g11 g12 g13 g14 k1 k3 k4 k5 k6 k7 k8 k9 k10 k11 k12 k13 k14 t0 t1 t2 t3 tm x t (fun a o e => k0 _ _ (KX a o e)) (k0 _ _ q1) (k0 _ _ q2) (k0 _ _ q3) (k0 _ _ hi) fun h' tk e k => ?_
  refine wpAny_execs_nil ?_
  dsimp only
  apply hR h' tk e
  intro b ob n e
  exact k b ob n (k0 b ob e)
theorem m_codeEq2 {α : Type} {prog : Program} {w : World} {A : Around} {Q : α → Shared → Prop} {E : Value → Shared → Prop} {s : Shared} {c : Code} {hd : Option Value} {g : Bool} {l : List Value} {k : Result → Sem α} (c' : Code) (e : c = c')
   (x : wpAny (model prog w) A (.call c' hd g l k) Q E s) : wpAny (model prog w) A (.call c hd g l k) Q E s := by rw [e]; exact x
end Mine
namespace Mine
local macro_rules | `(tactic| walk_at "my hnf") => `(tactic| (conv => arg 3; whnf))
set_option maxRecDepth 100000
set_option maxHeartbeats 0
set_option pp.deepTerms false
set_option pp.proofs false
set_option pp.maxSteps 3000
set_option hygiene false in
local macro_rules | `(tactic| walk_at "my ldm") => `(tactic| first
  | (exact Mem.at D 0 _ _ rfl) | (exact Mem.at D 1 _ _ rfl) | (exact Mem.at D 2 _ _ rfl) | (exact Mem.at D 3 _ _ rfl) | (exact Mem.at D 4 _ _ rfl)| (exact Mem.at D 5 _ _ rfl)| (exact Mem.at D 6 _ _ rfl)| (exact Mem.at D 7 _ _ rfl)| (exact Mem.at D 8 _ _ rfl)| (exact Mem.at D 9 _ _ rfl)
  | (exact mold D (by assumption) rfl)
  | (exact mold D (kin KX _ _ rfl) rfl)| (exact mold D (kin KX1 _ _ rfl) rfl))
theorem fx1k : Builtin.Slots.isIdentifier (Str.ofString "obj") = some true := by decide +kernel
theorem fx2k : Builtin.Slots.mangle (Str.ofString "K") (Str.ofString "obj") = Str.ofString "obj" := by decide +kernel
local macro_rules | `(tactic| walk_at "my ldstep") => `(tactic| (with_reducible refine' m_load ?a ?b; (case a => (walk_at "my ldm"; done))))
local macro_rules | `(tactic| walk_at "my dec") => `(tactic| first
  | (refine rec_no ?kk ?_; (case kk => (decide +kernel; done)))
  | (refine rec_yes ?kk ?_; (case kk => (decide +kernel; done)))
  | (refine rec_no ?kk ?_; (case kk => (intro hx; have hx' : @Eq Nat _ 1 := of_decide_eq_true hx; omega)))
  | (refine rec_no ?kk ?_; (case kk => (intro hx; have hx' : @Eq Nat _ _ := of_decide_eq_true hx; omega)))
  | (refine rec_no ?kk ?_; (case kk => (intro hx; have hx' : @Eq Nat _ _ := hx; omega)))
  | (refine rec_yes ?kk ?_; (case kk => (exact rfl; done)))
  | (refine rec_yes ?kk ?_; (case kk => (simp; done)))
  | (refine rec_no ?kk ?_; (case kk => (simp [fx2, Value.isStr]; done)))
  | (refine rec_no ?kk ?_; (case kk => (simp [fx2, Value.isStr]; decide)))
  | (refine rec_no ?kk ?_; (case kk => (simp; omega))))
theorem m_anyMk {prog : Program} {w : World} {A : Around} {Q : Bool → Shared → Prop} {E : Value → Shared → Prop} {s : Shared} {p : Value → Sem Bool} {l : List Value} (l' : List Value) (e : l = l')
   (x : wpAny (model prog w) A (List.anyM p l') Q E s) : wpAny (model prog w) A (List.anyM p l) Q E s := by rw [e]; exact x
theorem fx3k : Bind.madeBy (Value.type "object") = Sem.pure (some "object.__new__") := by kernel_rfl
local macro_rules | `(tactic| walk_at "my pre") => `(tactic| with_reducible refine m_eq fx3 ?_)
local macro_rules | `(tactic| walk_at "my fixes") => `(tactic| first
  | rw [fx1]
  | rw [fx2]
  | (refine m_anyM [Value.type "object"] ?kk ?_; (case kk => (simp; done))))
local macro_rules | `(tactic| walk_at "my ent_call") => `(tactic| fail "no")
local macro_rules | `(tactic| walk_at "my ent_again") => `(tactic| fail "no")
local macro_rules | `(tactic| walk_at "my norm_at_D") => `(tactic| skip)
set_option hygiene false in
local macro_rules | `(tactic| walk_at "my nD") => `(tactic| (simp only [List.set, Obj.mapSeq, Obj.mapCls, Obj.mapDict, Obj.mapFields, Obj.dropName, Obj.putName] at D))
set_option hygiene false in
local macro_rules | `(tactic| walk_at "my go1") => `(tactic| first
  | walk_at "my pre"
  | (walk_at "my hnf"; first
  | with_reducible refine x_rule ?_ | with_reducible refine x_at ?_ | with_reducible refine x_point ?_ | with_reducible refine x_ask ?_ | with_reducible refine m_fresh ?_ | with_reducible refine x_handled ?_ | with_reducible refine x_pure ?_
  | walk_at "my ldstep"
  | (with_reducible refine m_stack ?_; intro st l)
  | with_reducible refine m_bind ?_ | with_reducible refine m_keep ?_ | with_reducible refine m_onRaise ?_ | with_reducible refine m_try ?_
  | ((fail_if_success (with_reducible refine' is_alloc ?_)); (fail_if_success (with_reducible refine' is_update ?_)); (fail_if_success (with_reducible refine' is_call ?_)); (fail_if_success (with_reducible refine' is_load ?_)); (first | walk_at "my dec" | walk_at "my fixes"))
  )
  | (with_reducible refine m_done ?_) | walk_at "my ent_again")


set_option hygiene false in
local macro_rules | `(tactic| walk_at "my go1k") => `(tactic| first
  | walk_at "my pre"
  | (walk_at "my hnf"; first
  | with_reducible refine x_rule ?_ | with_reducible refine x_at ?_ | with_reducible refine x_point ?_ | with_reducible refine x_ask ?_ | with_reducible refine m_fresh ?_ | with_reducible refine x_handled ?_ | with_reducible refine x_pure ?_
  | walk_at "my ldstep"
  | (with_reducible refine m_stack ?_; intro st l)
  | with_reducible refine m_bind ?_ | with_reducible refine m_onRaise ?_ | with_reducible refine m_try ?_
  | ((fail_if_success (with_reducible refine' is_alloc ?_)); (fail_if_success (with_reducible refine' is_update ?_)); (fail_if_success (with_reducible refine' is_call ?_)); (fail_if_success (with_reducible refine' is_load ?_)); (first | walk_at "my dec" | walk_at "my fixes"))
  )
  | (with_reducible refine m_done ?_) | walk_at "my ent_again")


set_option hygiene false in
local macro_rules | `(tactic| walk_at "my go2") => `(tactic| first
  | walk_at "my go1"
  | (walk_at "my hnf"; first
    | (with_reducible refine m_allocG D rfl ?_; intro a h D hlt)
    | (with_reducible refine m_allocF' hs D rfl ?_; intro a h D hlt)
    | (with_reducible refine m_update D 0 rfl rfl ?_; intro h D; dsimp only [List.set] at D)
    | (with_reducible refine m_update D 1 rfl rfl ?_; intro h D; dsimp only [List.set] at D)
    | (with_reducible refine m_update D 2 rfl rfl ?_; intro h D; dsimp only [List.set] at D)
    | (with_reducible refine m_update D 3 rfl rfl ?_; intro h D; dsimp only [List.set] at D)
    | (with_reducible refine m_update D 4 rfl rfl ?_; intro h D; dsimp only [List.set] at D)
    | (with_reducible refine m_update D 5 rfl rfl ?_; intro h D; dsimp only [List.set] at D)))


theorem m_againC {prog : Program} {w : World} {A : Around} {R : Result → Shared → Prop} {s : Shared} {c c' : Code} (e : c = c') (x : postC prog w A R (.again c') s) : postC prog w A R (.again c) s := by rw [e]; exact x
theorem m_againf {prog : Program} {w : World} {A : Around} {R : Result → Shared → Prop} {s : Shared} {f : Value} {args : Args}
    (x : wpAny (model prog w) (A.under (.call f args)) (denote table (.call f args)) (postC prog w A R) (postE R) s) : postC prog w A R (.again (.call f args)) s :=
  m_again rfl x
section
set_option hygiene false in
local macro_rules | `(tactic| x_close) => `(tactic| (refine ⟨_, _, _, rfl, rfl, (by first | exact keeps_of (by assumption) | exact fun _ _ e => e), ?_⟩; first | exact ⟨_, rfl, _, Mem.at (by assumption) 0 _ _ rfl, Mem.newAt (by assumption)⟩ | (trace_state; exact ⟨_, rfl⟩)))
theorem new_x (w : World) (h : Heap) (K b ns so st md f1 f2 f3 f4 f5 f6 : Addr) (g1 g3 g4 g5 g6 g7 g8 g9 g10 g11 g12 g13 g14 : Int) (k1 k3 k4 k5 k6 k7 k8 k9 k10 k11 k12 k13 k14 t0 t1 t2 t3 tm : Nat) (x : Int) (t : Tok)
   (d1 : FuncData)
   (KX : Frag.In (K2 w.params) h)
   (hK : h.get? K = some (clsObj K ns b t0 t2)) 
   (hns : h.get? ns = some (nsObj so st md f1 f2 f3 f4 f5 f6 g1 g3 g4 g5 g6 g7 g8 g9 g10 g11 g12 g13 g14 k1 k3 k4 k5 k6 k7 k8 k9 k10 k11 k12 k13 k14 t1 t3))
   (hmd : h.get? md = some (mdObj K tm))
   (hf1 : h.get? f1 = some ⟨.type "function", none, .func d1, #[]⟩) :
   Does w (.call (.builtin "object.__new__") ⟨[.ref K, .int x t], []⟩) h (fun v h' => ∃ a, v = .ref a ∧ ∃ da, h'.get? a = some ⟨.ref K, some da, .plain, #[]⟩ ∧ h.get? a = none) := by
  unfold clsObj at hK
  unfold nsObj at hns
  unfold mdObj at hmd
  intro gg dd tt os
  x_run
end

theorem inst_c {A : Around} {Q : Value → Shared → Prop} (w : World) (h : Heap) (gg : Array GenState) (dd tt os) (K f ns cl : Addr) (x : Int) (t : Tok)
   (KX : Frag.In (K2 w.params) h) (c : KCls w h K f ns cl) (hh : A.handled = none) (hdp : A.depth ≤ 790) (hun : A.units ≤ 5900)
   (q : ∀ i da h' tk, Keeps h h' → h.get? i = none → h'.get? i = some ⟨.ref K, some da, .plain, #[some (.int x t)]⟩ → Q (.ref i) ⟨h', gg, dd, tk, os⟩) :
   wpAny (model P w) A (PySem.call (.ref K) [.int x t]) Q (fun _ _ => False) ⟨h, gg, dd, tt, os⟩ := by
  have c0 := c
  obtain ⟨b, so, st, md, f1, f2, f3, f4, f5, f6, g1, g3, g4, g5, g6, g7, g8, g9, g10, g11, g12, g13, g14, k1, k3, k4, k5, k6, k7, k8, k9, k10, k11, k12, k13, k14, t0, t1, t2, t3, tm, hK, hns, hmd, hcl, F1, _⟩ := c.ex
  have hK0 := hK
  have hns0 := hns
  have hmd0 := hmd
  obtain ⟨ct1, c1, hf1, r1, _, _⟩ := F1.ex
  unfold fnObj at hf1
  unfold clsObj at hK
  unfold nsObj at hns
  unfold mdObj at hmd
  have D := Mem.start h
  walk_at "my hnf"
  refine m_callf (fun hx => nomatch hx) ?_
  repeat walk_at "my go1"
  refine m_againC (c' := Code.call (.builtin "type.__call__") ⟨[.ref K, .int x t], []⟩) (codeEq2 (by decide +kernel)) ?_
  refine m_againf ?_
  repeat walk_at "my go1"
  refine Ent.again ent_tc ?_
  repeat walk_at "my go1"
  walk_at "my hnf"
  refine m_codeEq (Code.call (.builtin "object.__new__") ⟨[.ref K, .int x t], []⟩) (codeEq2 (by decide +kernel)) ?_
  refine Does.use (new_x w h K b ns so st md f1 f2 f3 f4 f5 f6 g1 g3 g4 g5 g6 g7 g8 g9 g10 g11 g12 g13 g14 k1 k3 k4 k5 k6 k7 k8 k9 k10 k11 k12 k13 k14 t0 t1 t2 t3 tm x t _ KX hK0 hns0 hmd0 hf1) hh ?_ ?_ ?_
  · show A.depth + Code.weight (Code.builtin "type.__call__" ⟨[.ref K, .int x t], []⟩) ≤ 800
    rw [show Code.weight (Code.builtin "type.__call__" ⟨[.ref K, .int x t], []⟩) = 1 from by rfl]
    omega
  · show A.units + Code.cUnits (Code.builtin "type.__call__" ⟨[.ref K, .int x t], []⟩) ≤ 6000
    rw [show Code.cUnits (Code.builtin "type.__call__" ⟨[.ref K, .int x t], []⟩) = 1 from by rfl]
    omega
  rintro _ h2 tt2 hke2 ⟨i, rfl, da, hi, hin⟩
  replace KX : Frag.In (K2 w.params) h2 := fun a o e => hke2 _ _ (KX a o e)
  have c2 : KCls w h2 K f ns cl := c0.kd (X := XN) (fun _ _ z => z.elim) ⟨fun a o _ e => hke2 a o e⟩ (fun z => z) (fun z => z)
  replace F1 : Fn XN h2 f1 "__init__" (kq 2) (dp w.params 2) [] := F1.kd (X := XN) (fun _ _ z => z.elim) ⟨fun a o _ e => hke2 a o e⟩
  replace hK := hke2 _ _ hK
  replace hns := hke2 _ _ hns
  replace hmd := hke2 _ _ hmd
  replace hf1 := hke2 _ _ hf1
  clear D
  have D := Mem.start h2
  repeat walk_at "my go1"
  walk_at "my hnf"
  refine m_codeEq (Code.call (.ref f1) ⟨[.ref i, .int x t], []⟩) rfl ?_
  refine m_call (fun hx => nomatch hx) ?_
  refine init_c w h2 gg dd _ os K f ns cl f1 i da x t KX c2 F1 hi ?_ fun h' tk e k => ?_
  · show A.depth + Code.weight (Code.builtin "type.__call__" ⟨[.ref K, .int x t], []⟩) < 1000
    rw [show Code.weight (Code.builtin "type.__call__" ⟨[.ref K, .int x t], []⟩) = 1 from by rfl]
    omega
  clear D
  have D := Mem.start h'
  show wpAny (model P w) _ _ _ _ _
  repeat walk_at "my go1"
  exact q i da h' _ (fun a o e' => k _ _ (fun z => by rw [z, hin] at e'; cases e') (hke2 _ _ e')) hin e
end Mine
namespace Mine
set_option maxRecDepth 100000
/-! the plain reading of expressions -/
mutual
def pyD : D → PyData
  | .none => .none
  | .bool b => .bool b
  | .int i => .int i
  | .list xs => .list (pyDs xs)
  | .tuple xs => .tuple (pyDs xs)
  | .opq _ => .none
def pyDs : List D → List PyData
  | [] => []
  | x :: xs => pyD x :: pyDs xs
end
mutual
def pureD : D → Bool
  | .none => true
  | .bool _ => true
  | .int _ => true
  | .list xs => pureDs xs
  | .tuple xs => pureDs xs
  | .opq _ => false
def pureDs : List D → Bool
  | [] => true
  | x :: xs => pureD x && pureDs xs
end
def okD (d : D) : Bool := pureD d && SeqAt.shaped (pyD d)
def eqD (a b : D) : Bool := PyData.eqv (pyD a) (pyD b)
def inD (x : D) (xs : List D) : Bool := (pyDs xs).any fun y => PyData.eqv y (pyD x)
def cmpD : CmpOp → D → D → Option Bool
  | .Lt, .int a, .int b => some (decide (a < b))
  | .Gt, .int a, .int b => some (decide (b < a))
  | .LtE, .int a, .int b => some (decide (a ≤ b))
  | .GtE, .int a, .int b => some (decide (a ≥ b))
  | .Is, .none, .none => some true
  | .Is, .int _, .none => some false
  | .IsNot, .none, .none => some false
  | .IsNot, .int _, .none => some true
  | .Eq, a, b => if okD a && okD b then some (eqD a b) else none
  | .NotEq, a, b => if okD a && okD b then some (!eqD a b) else none
  | .In, a, .list xs => if okD a && okD (.list xs) then some (inD a xs) else none
  | .NotIn, a, .list xs => if okD a && okD (.list xs) then some (!inD a xs) else none
  | _, _, _ => none
def binD : Operator → D → D → Option D
  | .Add, .int a, .int b => some (.int (a + b))
  | .Sub, .int a, .int b => some (.int (a - b))
  | .FloorDiv, .int a, .int b => if 0 < b ∧ b < 100 then some (.int (a.fdiv b)) else none
  | .Mod, .int a, .int b => if 0 < b ∧ b < 100 then some (.int (a.fmod b)) else none
  | .Add, .list xs, .list ys => if xs.length + ys.length ≤ 1000 then some (.list (xs ++ ys)) else none
  | _, _, _ => none
def intD : D → Option Int
  | .int i => some i
  | _ => none
def indexD : D → D → Option D
  | .list xs, .int k => do
    let ns ← xs.mapM intD
    if ns.length ≤ 100 ∧ (ns.all fun n => decide (0 ≤ n ∧ n < 1000)) = true ∧ k ∈ ns then some (.int (ns.idxOf k : Nat)) else none
  | _, _ => none
def itemsD : D → Option (List D)
  | .list xs => some xs
  | .tuple xs => some xs
  | _ => none
def itemD : D → D → Option D
  | d, .int k => do
    let xs ← itemsD d
    if xs.length ≤ 1000 then (if 0 ≤ k then xs[k.toNat]? else if 0 ≤ k + xs.length then xs[(k + xs.length).toNat]? else none) else none
  | _, _ => none
def slcD (xs : List D) (lo hi st : Option Int) : List D :=
  (sliceRange (sliceBounds lo hi st xs.length).1 (sliceBounds lo hi st xs.length).2.1 (sliceBounds lo hi st xs.length).2.2).filterMap (xs[·]?)
/-- what an iteration goes over -/
def iterL : D → Option (List D)
  | .list xs => some xs
  | .tuple xs => some xs
  | .opq (.rng n) => some ((List.range n).map fun i => .int (i : Nat))
  | _ => none
def truthD : D → Option Bool
  | .bool b => some b
  | _ => none
def allD (t : Expr → Option Bool) : BoolOp → List Expr → Option Bool
  | op, [] => some (op == .And)
  | .And, x :: r => do if ← t x then allD t .And r else some false
  | .Or, x :: r => do if ← t x then some true else allD t .Or r
def trW (f : Expr → Option D) : Nat → Expr → Option Bool
  | 0, _ => none
  | n + 1, .UnaryOp .Not x _ => (trW f n x).map (!·)
  | n + 1, .BoolOp op vs _ => allD (trW f n) op vs
  | _ + 1, .Compare l [op] [r] _ => do cmpD op (← f l) (← f r)
  | _ + 1, .Name x p => (f (.Name x p)).bind truthD
  | _ + 1, .Call g as ks p => (f (.Call g as ks p)).bind truthD
  | _ + 1, _ => none
abbrev Ks := List (Str × NameKind)
abbrev Bs := List (Str × D)
def lookN (G : Str → Option D) (k : Ks) (ρ : Bs) (x : Str) : Option D :=
  if x == ("__debug__" : Str) || x == ("__classdict__" : Str) then none else
  match k.lookup x with
  | some .local => ρ.lookup x
  | some .cell => ρ.lookup x
  | some .free => ρ.lookup x
  | some .globalImplicit => G x
  | _ => none
/-- the names of a comprehension's own table -/
def relab (k : Ks) (names : Ks) : Ks := names.map fun (n, kk) => if kk == .free && k.lookup n == some .cell then (n, .cell) else (n, kk)
def freeOf (names : Ks) (ρ : Bs) : Bs := ρ.filter fun p => names.lookup p.1 == some .free
def okComp (k : Ks) (sc : Scope) (x : Str) : Bool :=
  sc.kind == .function && (sc.names.lookup x == some .local || sc.names.lookup x == some .cell) &&
  sc.names.all fun (n, kk) => sc.names.lookup n == some kk && (kk == .local || kk == .cell && n == x || kk == .globalImplicit || kk == .free && (k.lookup n == some .cell || k.lookup n == some .free))
def compD (t : D → Option Bool) (f : D → Option D) : List D → Option (List D)
  | [] => some []
  | d :: ds => do
    if ← t d then do
      let y ← f d
      let r ← compD t f ds
      some (y :: r)
    else compD t f ds
def ifsD (t : Expr → Option Bool) : List Expr → Option Bool
  | [] => some true
  | c :: r => do if ← t c then ifsD t r else none
def optD (f : Expr → Option D) : Option Expr → Option (Option Int)
  | none => some none
  | some e => do
    let i ← intD (← f e)
    if -1000 < i ∧ i < 1000 then some (some i) else none
def testD (t : Expr → Option Bool) : List Expr → Option Bool
  | [] => some true
  | [c] => t c
  | _ => none
def allM (f : Expr → Option D) : List Expr → Option (List D)
  | [] => some []
  | e :: r => do
    let d ← f e
    let ds ← allM f r
    some (d :: ds)
def ev (C : Cfg) : Nat → Ks → Bs → Expr → Option D
  | 0, _, _, _ => none
  | _ + 1, _, _, .Constant (.int i) _ _ => some (.int i)
  | _ + 1, _, _, .Constant .none _ _ => some .none
  | _ + 1, _, _, .Constant (.bool b) _ _ => some (.bool b)
  | _ + 1, k, ρ, .Name x _ => lookN C.G k ρ x
  | n + 1, k, ρ, .BinOp l op r _ => do binD op (← ev C n k ρ l) (← ev C n k ρ r)
  | n + 1, k, ρ, .UnaryOp .USub x _ => do some (.int (-(← intD (← ev C n k ρ x))))
  | n + 1, k, ρ, .Attribute (.Name x p1) nm _ => if nm == ("obj" : Str) then do
      match ← ev C n k ρ (.Name x p1) with
      | .opq (.inst _ i) => some (.int i)
      | _ => none
    else none
  | n + 1, k, ρ, .IfExp t b o _ => do if ← trW (ev C n k ρ) n t then ev C n k ρ b else ev C n k ρ o
  | n + 1, k, ρ, .Compare l [op] [r] _ => do some (.bool (← cmpD op (← ev C n k ρ l) (← ev C n k ρ r)))
  | n + 1, k, ρ, .Call (.Attribute (.Name x p1) nm p2) [a] [] p3 => if nm == ("index" : Str) && p2.endLine == p3.line then do indexD (← ev C n k ρ (.Name x p1)) (← ev C n k ρ a) else none
  | n + 1, k, ρ, .Call (.Attribute (.Subscript v i p1) nm p2) [a] [] p3 => if nm == ("index" : Str) && p2.endLine == p3.line then do indexD (← ev C n k ρ (.Subscript v i p1)) (← ev C n k ρ a) else none
  | n + 1, k, ρ, .Call (.Name f p1) (a :: as) [] _ => do
    match ← ev C n k ρ (.Name f p1) with
    | .opq q => C.call q (← allM (ev C n k ρ) (a :: as))
    | _ => none
  | n + 1, k, ρ, .Call (.Subscript v i p1) (a :: as) [] _ => do
    match ← ev C n k ρ (.Subscript v i p1) with
    | .opq q => C.call q (← allM (ev C n k ρ) (a :: as))
    | _ => none
  | n + 1, k, ρ, .Subscript (.Name v p1) (.Slice l u s _) _ => do
    match ← ev C n k ρ (.Name v p1) with
    | .list xs => do
      let lo ← optD (ev C n k ρ) l
      let hi ← optD (ev C n k ρ) u
      let st ← optD (ev C n k ρ) s
      if xs.length ≤ 1000 ∧ (st.all fun c => decide (0 < c)) = true then some (.list (slcD xs lo hi st)) else none
    | _ => none
  | n + 1, k, ρ, .Subscript v i _ => do itemD (← ev C n k ρ v) (← ev C n k ρ i)
  | n + 1, k, ρ, .List es _ => do if es.length ≤ 1000 then some (.list (← allM (ev C n k ρ) es)) else none
  | n + 1, k, ρ, .Tuple es _ _ => do if es.length ≤ 1000 then some (.tuple (← allM (ev C n k ρ) es)) else none
  | n + 1, k, ρ, .ListComp elt [⟨.Name x _, iter, ifs, 0⟩] sc _ => do
    let xs ← iterL (← ev C n k ρ iter)
    if xs.length ≤ 1000 ∧ okComp k sc x = true then do
      let k' := relab k sc.names
      let ρ' := freeOf sc.names ρ
      let ys ← compD (fun d => testD (trW (ev C n k' ((x, d) :: ρ')) n) ifs) (fun d => ev C n k' ((x, d) :: ρ') elt) xs
      some (.list ys)
    else none
  | _, _, _, _ => none
end Mine
namespace Mine
set_option maxRecDepth 100000
variable {w : World}
/-! the operations on data -/
def Post (T : Th w) (Y : AP) (h : Heap) (gg : Array GenState) (dd : Drawn) (os : OsState) (d : D) : Value → Shared → Prop :=
  fun v s' => ∃ h' tk, s' = ⟨h', gg, dd, tk, os⟩ ∧ Kp T.XT h h' ∧ T.Inv h' ∧ Rep T.O Y h' v d
section
variable {prog : Program} {A : Around} {E : Value → Shared → Prop} {T : Th w} {Y : AP} {h : Heap} {gg : Array GenState} {dd : Drawn} {tt : Nat} {os : OsState}
theorem Post.same {v : Value} {d : D} {tk : Nat} (hi : T.Inv h) (r : Rep T.O Y h v d) : Post T Y h gg dd os d v ⟨h, gg, dd, tk, os⟩ := ⟨h, tk, rfl, Kp.refl h, hi, r⟩
theorem Post.push {d : D} {tk : Nat} {o : Obj} (hi : T.Inv h) (hy : YOK Y h) (r : Rep T.O Y (h.push o) (.ref h.objs.size) d) : Post T Y h gg dd os d (.ref h.objs.size) ⟨h.push o, gg, dd, tk, os⟩ :=
  ⟨_, tk, rfl, Kp.push h o, T.inv_y hi hy.w (Kp.push h o), r⟩
mutual
theorem Rep.reads {Y : AP} {h : Heap} {O : OP} : ∀ {v d}, Rep O Y h v d → pureD d = true → ∃ as, Reads h v (pyD d) as
  | _, _, .none, _ => ⟨_, Reads.none⟩
  | _, _, .bool b, _ => ⟨_, Reads.bool b⟩
  | _, _, .int i t, _ => ⟨_, Reads.int i t⟩
  | _, _, .list a _ r, p => by
    obtain ⟨as, q⟩ := Reps.reads r (by simpa [pureD] using p)
    obtain ⟨n, e⟩ := a
    rw [pyD]
    exact ⟨_, reads_list_at e rfl rfl q⟩
  | _, _, .tuple a _ r, p => by
    obtain ⟨as, q⟩ := Reps.reads r (by simpa [pureD] using p)
    obtain ⟨o, e, c, n, d⟩ := a
    rw [pyD]
    exact ⟨_, reads_tuple_at e c d q⟩
  | _, _, .opq _, p => by simp [pureD] at p
theorem Reps.reads {Y : AP} {h : Heap} {O : OP} : ∀ {vs ds}, Reps O Y h vs ds → pureDs ds = true → ∃ as, ReadsAll h vs (pyDs ds) as
  | _, _, .nil, _ => ⟨_, ReadsAll.nil⟩
  | _, _, .cons a r, p => by
    simp only [pureDs, Bool.and_eq_true] at p
    obtain ⟨as, q⟩ := Rep.reads a p.1
    obtain ⟨bs, q2⟩ := Reps.reads r p.2
    rw [pyDs]
    exact ⟨_, ReadsAll.cons q q2⟩
end
theorem s_bin {op : Operator} {a b d : D} {va vb : Value} (e : binD op a b = some d) (ra : Rep T.O Y h va a) (rb : Rep T.O Y h vb b) (hi : T.Inv h) (hy : YOK Y h) :
    wpAny (model prog w) A (binaryOp op va vb) (Post T Y h gg dd os d) E ⟨h, gg, dd, tt, os⟩ := by
  unfold binD at e
  split at e
  · cases e; cases ra; cases rb
    exact add_int (Post.same hi (.int _ _))
  · cases e; cases ra; cases rb
    exact sub_int (Post.same hi (.int _ _))
  · split at e
    · rename_i hb
      cases e; cases ra; cases rb
      exact floordiv_int (by omega) (Post.same hi (.int _ _)) (.inl (PyProof.noPylong_small (by omega)))
    · cases e
  · split at e
    · cases e; cases ra; cases rb
      exact mod_int' (by omega) (Post.same hi (.int _ _))
    · cases e
  · split at e
    · rename_i hz
      cases e
      cases ra with | list la n1 r1 =>
      cases rb with | list lb n2 r2 =>
      rename_i a1 vs a2 ws
      obtain ⟨⟨cls, d1, data, sl⟩, ho, hc, n, hd⟩ := id la.isList
      obtain ⟨⟨cls2, d2, data2, sl2⟩, ho2, hc2, m2, hd2⟩ := id lb.isList
      simp only at hc hd hc2 hd2
      subst hc hd hc2 hd2
      have l1 := r1.length
      have l2 := r2.length
      simp at l1 l2
      refine concat_meets ⟨_, ho, rfl⟩ ⟨_, ho2, rfl⟩ noFill_list_add seq_list_add PySem.F.slot_list_add PySem.F.entry_list_add (PySem.F.args_list_add_2 _ _) (list_addW a1 a2 vs ws n m2 d1 d2 sl sl2 (by rw [sizeLine_eq]; omega)) ⟨ho, ho2, ?_⟩
      have kp : Kp (fun a => T.XT a ∨ Y a) h (h.push { cls := .type "list", data := .seq (vs ++ ws) }) := Kp.push h _
      exact Post.push hi hy (.list ⟨_, Heap.get?_push_size _ rfl⟩ (fun y => Nat.lt_irrefl _ (hy.lt y)) (by rw [Array.toList_append]; exact (r1.kp hi hy.w kp).app (r2.kp hi hy.w kp)))
    · cases e
  · cases e
theorem okD_use {d : D} (e : okD d = true) : pureD d = true ∧ SeqAt.shaped (pyD d) = true := by simpa [okD] using e
theorem s_cmp {op : CmpOp} {a b : D} {r : Bool} {va vb : Value} {Q : Value → Shared → Prop} (e : cmpD op a b = some r) (ra : Rep T.O Y h va a) (rb : Rep T.O Y h vb b) (hu : A.units + 70 < cLine)
    (x : Q (.bool r) ⟨h, gg, dd, tt, os⟩) :
    wpAny (model prog w) A (compareOp op va vb) Q E ⟨h, gg, dd, tt, os⟩ := by
  unfold cmpD at e
  split at e
  · cases e; cases ra; cases rb
    exact lt_int x
  · cases e; cases ra; cases rb
    exact gt_int x
  · cases e; cases ra; cases rb
    exact PySem.P.le_int x
  · cases e; cases ra; cases rb
    exact PySem.P.ge_int x
  · cases e; cases ra; cases rb
    exact wpAny_is_plain rfl x
  · cases e; cases ra; cases rb
    exact wpAny_is_plain rfl x
  · cases e; cases ra; cases rb
    exact wpAny_isNot_plain rfl x
  · cases e; cases ra; cases rb
    exact wpAny_isNot_plain rfl x
  · split at e
    · rename_i hk
      simp only [Bool.and_eq_true] at hk
      cases e
      obtain ⟨as, q1⟩ := ra.reads (okD_use hk.1).1
      obtain ⟨bs, q2⟩ := rb.reads (okD_use hk.2).1
      exact eq_dataH q1 q2 (okD_use hk.1).2 (okD_use hk.2).2 (by omega) x
    · cases e
  · split at e
    · rename_i hk
      simp only [Bool.and_eq_true] at hk
      cases e
      obtain ⟨as, q1⟩ := ra.reads (okD_use hk.1).1
      obtain ⟨bs, q2⟩ := rb.reads (okD_use hk.2).1
      exact ne_dataH q1 q2 (okD_use hk.1).2 (okD_use hk.2).2 (by omega) x
    · cases e
  · split at e
    · rename_i hk
      simp only [Bool.and_eq_true] at hk
      cases e
      obtain ⟨as, q1⟩ := ra.reads (okD_use hk.1).1
      obtain ⟨bs, q2⟩ := rb.reads (okD_use hk.2).1
      rw [pyD] at q2
      have s1 := (okD_use hk.1).2
      have s2 := (okD_use hk.2).2
      rw [pyD] at s2
      have l1 := SeqAt.canLay_of_shaped s1
      have l2 := SeqAt.canLay_of_shaped s2
      have l3 := SeqAt.depth_of_shaped s1
      have l4 := SeqAt.depth_of_shaped s2
      simp only [PyData.canLay0, PyData.depth] at l2 l4
      exact SeqAt.in_list_reads q2 q1 l2 l1 (by omega) x
    · cases e
  · split at e
    · rename_i hk
      simp only [Bool.and_eq_true] at hk
      cases e
      obtain ⟨as, q1⟩ := ra.reads (okD_use hk.1).1
      obtain ⟨bs, q2⟩ := rb.reads (okD_use hk.2).1
      rw [pyD] at q2
      have s1 := (okD_use hk.1).2
      have s2 := (okD_use hk.2).2
      rw [pyD] at s2
      have l1 := SeqAt.canLay_of_shaped s1
      have l2 := SeqAt.canLay_of_shaped s2
      have l3 := SeqAt.depth_of_shaped s1
      have l4 := SeqAt.depth_of_shaped s2
      simp only [PyData.canLay0, PyData.depth] at l2 l4
      exact SeqAt.notIn_list_reads q2 q1 l2 l1 (by omega) x
    · cases e
  · cases e
theorem nonslice (i : PySem.Expr) (hi : ∀ l u s p, i ≠ .Slice l u s p) (o v : Value) : subscripted i false o v = operate [o, v] (getItem o v) := by
  cases i <;> first | rfl | (rename_i l u s p; exact absurd rfl (hi l u s p))
theorem seqIx (k : Int) (n : Nat) (h0 : 0 ≤ k) (h : k < n) : seqIndex? k n = some k.toNat := by
  have h1 : ¬ k < 0 := by omega
  simp [seqIndex?, h1, h0, h]
theorem seqIxN (k : Int) (n : Nat) (h0 : k < 0) (h : 0 ≤ k + n) : seqIndex? k n = some (k + n).toNat := by
  have h1 : k + n < n := by omega
  simp [seqIndex?, h0, h]
  exact h1
theorem s_item {value i : PySem.Expr} {a b d : D} {va vb : Value} (e : itemD a b = some d) (ra : Rep T.O Y h va a) (rb : Rep T.O Y h vb b) (hi : T.Inv h) (hs : ∀ l u s p, i ≠ .Slice l u s p) :
    wpAny (model prog w) A (subscriptTail value i va vb) (Post T Y h gg dd os d) E ⟨h, gg, dd, tt, os⟩ := by
  unfold itemD at e
  split at e
  · rename_i d0 k
    cases rb with | int _ t =>
    cases hx : itemsD a with
    | none => rw [hx] at e; cases e
    | some xs =>
      rw [hx] at e
      dsimp only [Option.bind_eq_bind, Option.bind_some] at e
      split at e
      · rename_i hlen
        cases ra with
        | list la nl r =>
          cases hx
          have l1 := r.length
          simp at l1
          split at e
          · rename_i hk
            obtain ⟨v, q, z⟩ := r.get _ e
            have : k.toNat < xs.length := (List.getElem?_eq_some_iff.mp e).1
            exact tail_any la.isList.typeIs slot_list_getitem.lookup (wpAny_getItem_list la.isList hk (by omega) (by simpa using q) (Post.same hi z)) (nonslice i hs _ _)
          · split at e
            · rename_i hk hk2
              obtain ⟨v, q, z⟩ := r.get _ e
              have : (k + xs.length).toNat < xs.length := (List.getElem?_eq_some_iff.mp e).1
              exact tail_any la.isList.typeIs slot_list_getitem.lookup (wpAny_getItem_list_neg la.isList (by omega) (by omega) (by omega) (by rw [l1]; simpa using q) (Post.same hi z)) (nonslice i hs _ _)
            · cases e
        | tuple la nl r =>
          cases hx
          have l1 := r.length
          simp at l1
          split at e
          · rename_i hk
            obtain ⟨v, q, z⟩ := r.get _ e
            have hlt : k.toNat < xs.length := (List.getElem?_eq_some_iff.mp e).1
            refine tail_any la.typeIs slot_tuple_getitem.lookup (PyProof.Rows.getItem_tuple la (j := k.toNat) (by omega) (by omega) (seqIx _ _ hk (by omega)) (by simpa using q) (Post.same hi z)) (nonslice i hs _ _)
          · split at e
            · rename_i hk hk2
              obtain ⟨v, q, z⟩ := r.get _ e
              have hlt : (k + xs.length).toNat < xs.length := (List.getElem?_eq_some_iff.mp e).1
              refine tail_any la.typeIs slot_tuple_getitem.lookup (PyProof.Rows.getItem_tuple la (j := (k + xs.length).toNat) (by omega) (by omega) (by rw [l1]; exact seqIxN _ _ (by omega) hk2) (by simpa using q) (Post.same hi z)) (nonslice i hs _ _)
            · cases e
        | _ => cases hx
      · cases e
  · cases e
theorem Reps.pick {Y : AP} {h : Heap} {O : OP} {vs : List Value} {ds : List D} (r : Reps O Y h vs ds) : ∀ is : List Nat, Reps O Y h (is.filterMap (vs[·]?)) (is.filterMap (ds[·]?))
  | [] => .nil
  | i :: is => by
    have ih := Reps.pick r is
    cases e : ds[i]? with
    | some d =>
      obtain ⟨v, q, z⟩ := r.get i e
      simp only [List.filterMap_cons, e, q]
      exact .cons z ih
    | none =>
      have l := r.length
      have e2 : vs[i]? = none := List.getElem?_eq_none (by have := List.getElem?_eq_none_iff.mp e; omega)
      simp only [List.filterMap_cons, e, e2]
      exact ih
theorem ints_of {Y : AP} {h : Heap} {O : OP} : ∀ {vs : List Value} {xs : List D} {ns : List Int}, Reps O Y h vs xs → xs.mapM intD = some ns → IntsAre vs ns
  | _, _, _, .nil, e => by cases e; exact .nil
  | _, _, _, .cons a r, e => by
    simp only [List.mapM_cons, Option.bind_eq_bind, Option.pure_def] at e
    obtain ⟨n, e1, e⟩ := Option.bind_eq_some_iff.mp e
    obtain ⟨ms, e2, e⟩ := Option.bind_eq_some_iff.mp e
    cases e
    cases a <;> cases e1
    exact .cons _ _ (ints_of r e2)
theorem lay_small (ns : List Int) (hn : (ns.all fun n => decide (0 ≤ n ∧ n < 1000)) = true) (hl : ns.length ≤ 100) : PyData.layable0 (.list (ns.map .int)) = true := by
  have key : ∀ ns : List Int, (ns.all fun n => decide (0 ≤ n ∧ n < 1000)) = true → PyData.canLayAll0 (ns.map .int) = true ∧ PyData.depthAll (ns.map .int) ≤ 1 ∧ PyData.weightAll (ns.map .int) ≤ 11 * ns.length := by
    intro ns
    induction ns with
    | nil => intro _; simp [PyData.canLayAll0, PyData.depthAll, PyData.weightAll]
    | cons n r ih =>
      intro h
      simp only [List.all_cons, Bool.and_eq_true, decide_eq_true_eq] at h
      obtain ⟨⟨h0, h1⟩, h2⟩ := h
      obtain ⟨a, b, c⟩ := ih h2
      have wl : PyData.weight (.int n) ≤ 10 := by
        unfold PyData.weight
        split
        · omega
        · rename_i hz
          have : n.natAbs.log2 < 10 := (Nat.log2_lt (by simpa using hz)).mpr (by omega)
          omega
      refine ⟨by simp [PyData.canLayAll0, PyData.canLay0, a], ?_, ?_⟩
      · simp only [List.map_cons, PyData.depthAll, PyData.depth]; omega
      · simp only [List.map_cons, PyData.weightAll, List.length_cons]; omega
  obtain ⟨a, b, c⟩ := key ns hn
  unfold PyData.layable0
  simp only [PyData.canLay0, PyData.depth, PyData.weight, a, Bool.true_and, Bool.and_eq_true]
  exact ⟨decide_eq_true (by omega), decide_eq_true (by omega)⟩
theorem s_index {a b d : D} {va vb : Value} (e : indexD a b = some d) (ra : Rep T.O Y h va a) (rb : Rep T.O Y h vb b) (hi : T.Inv h) :
    wpAny (model prog w) A (call (.builtin "list.index") [va, vb]) (Post T Y h gg dd os d) E ⟨h, gg, dd, tt, os⟩ ∧ ∃ l its, va = .ref l ∧ h.PlainList l its := by
  unfold indexD at e
  split at e
  · rename_i xs k
    obtain ⟨ns, e1, e⟩ := Option.bind_eq_some_iff.mp e
    split at e
    · rename_i hc
      cases e
      cases rb with | int _ t =>
      cases ra with | list la nl r =>
      refine ⟨?_, _, _, rfl, la⟩
      exact index_list_ints (by simpa using la.isList) (ints_of r e1) (lay_small ns hc.2.1 hc.1) hc.2.2 (Post.same hi (.int _ _))
    · cases e
  · cases e
end
end Mine
namespace Mine
set_option maxRecDepth 100000
variable {w : World}
abbrev FF : Value → Shared → Prop := fun _ _ => False
structure plainE (e : PySem.Expr) : Prop where
  set : ∀ op, behindInMarks op e = false
  star : ∀ rest env, starEach (e :: rest) env = (false, eval e env) :: starEach rest env
  fold : ∀ env x, foldedSetIterable e env x = pure x
  slice : ∀ l u s p, e ≠ .Slice l u s p
structure CallsOK (T : Th w) (C : Cfg) (dp un : Nat) : Prop where
  g : C.G = T.G
  room : un + 70 < cLine
  deep : dp ≤ 800 ∧ un ≤ 6000
  call : ∀ {q ds r}, C.call q ds = some r → ∀ {Y h gg dd tt os A f vs}, T.O Y h f q → Reps T.O Y h vs ds → T.Inv h → YOK Y h → A.handled = none → A.depth ≤ dp → A.units ≤ un →
     wpAny (model P w) A (PySem.call f vs) (Post T Y h gg dd os r) FF ⟨h, gg, dd, tt, os⟩
  keeper : ∀ {q ds r}, C.call q ds = some r → ∀ {Y h f}, T.O Y h f q → T.Inv h → YOK Y h → ∃ k, (k = Keeper.frame ∨ k = Keeper.machine ∨ k = Keeper.boundFrame) ∧ Looks (model P w) h (keeperOf f) k
structure SE (T : Th w) (dp un : Nat) (k : Ks) (ρ : Bs) (e : PySem.Expr) (d : D) : Prop where
  run : ∀ {env Y h gg dd tt os A}, EnvOK T Y env k ρ h → T.Inv h → YOK Y h → A.handled = none → A.depth ≤ dp → A.units ≤ un →
    wpAny (model P w) A (eval e env) (Post T Y h gg dd os d) FF ⟨h, gg, dd, tt, os⟩
def PostB (T : Th w) (h : Heap) (gg : Array GenState) (dd : Drawn) (os : OsState) (b : Bool) : Bool → Shared → Prop :=
  fun r s' => ∃ h' tk, s' = ⟨h', gg, dd, tk, os⟩ ∧ r = b ∧ Kp T.XT h h' ∧ T.Inv h'
structure SB (T : Th w) (dp un : Nat) (k : Ks) (ρ : Bs) (e : PySem.Expr) (b : Bool) : Prop where
  run : ∀ {env Y h gg dd tt os A}, EnvOK T Y env k ρ h → T.Inv h → YOK Y h → A.handled = none → A.depth ≤ dp → A.units ≤ un →
    wpAny (model P w) A (isTrue e env (eval e env)) (PostB T h gg dd os b) FF ⟨h, gg, dd, tt, os⟩
def PostL (T : Th w) (Y : AP) (h : Heap) (gg : Array GenState) (dd : Drawn) (os : OsState) (ds : List D) : List Value → Shared → Prop :=
  fun vs s' => ∃ h' tk, s' = ⟨h', gg, dd, tk, os⟩ ∧ Kp T.XT h h' ∧ T.Inv h' ∧ Reps T.O Y h' vs ds
section
variable {T : Th w} {C : Cfg} {dp un : Nat} {k : Ks} {ρ : Bs}
theorem kpw {T : Th w} {Y : AP} {h h' : Heap} (x : Kp T.XT h h') : Kp (fun a => T.XT a ∨ Y a) h h' := x.wide fun _ => .inl
theorem Post.after {T : Th w} {Y : AP} {h h1 : Heap} {gg dd os d v s} (x : Kp T.XT h h1) (p : Post T Y h1 gg dd os d v s) : Post T Y h gg dd os d v s := by
  obtain ⟨h', tk, e, k, r⟩ := p
  exact ⟨h', tk, e, x.trans k, r⟩
theorem PostB.after {T : Th w} {h h1 : Heap} {gg dd os d v s} (x : Kp T.XT h h1) (p : PostB T h1 gg dd os d v s) : PostB T h gg dd os d v s := by
  obtain ⟨h', tk, e, b, k, r⟩ := p
  exact ⟨h', tk, e, b, x.trans k, r⟩
theorem PostL.after {T : Th w} {Y : AP} {h h1 : Heap} {gg dd os d v s} (x : Kp T.XT h h1) (p : PostL T Y h1 gg dd os d v s) : PostL T Y h gg dd os d v s := by
  obtain ⟨h', tk, e, k, r⟩ := p
  exact ⟨h', tk, e, x.trans k, r⟩
theorem wmono {α : Type} {A : Around} {t : Sem α} {Q Q' : α → Shared → Prop} {s : Shared} (h : wpAny (model P w) A t Q FF s) (q : ∀ a s', Q a s' → Q' a s') {E : Value → Shared → Prop} : wpAny (model P w) A t Q' E s :=
  wpAny_mono h q fun _ _ x => x.elim
/-- names -/
theorem SE.name (cg : C.G = T.G) {x : Str} {p : Pos} {d : D} (e : lookN C.G k ρ x = some d) : SE T dp un k ρ (.Name x p) d := by
  constructor
  intro env Y h gg dd tt os A EO hi hy hh hd hu
  unfold lookN at e
  split at e
  · cases e
  rename_i hx
  simp only [Bool.or_eq_true, not_or, Bool.not_eq_true] at hx
  have hdbg : (x == ("__debug__" : Str)) = false := hx.1
  have kk : env.kindOf x = k.lookup x := by unfold Env.kindOf; rw [EO.names]
  split at e
  · rename_i hk
    obtain ⟨m, hn, r⟩ := EO.ns
    obtain ⟨v, q, z⟩ := r x d hk e
    exact wpAny_Name (wpAny_loadName_local EO.kind (kk.trans hk) hn q (Post.same hi z)) hdbg
  · rename_i hk
    obtain ⟨c, u, a, b, r⟩ := EO.cell x (.inl hk)
    obtain ⟨v, q, z⟩ := r d e
    subst q
    exact wpAny_Name (wpAny_loadName_cell EO.kind (kk.trans hk) a b (Post.same hi z)) hdbg
  · rename_i hk
    obtain ⟨c, u, a, b, r⟩ := EO.cell x (.inr hk)
    obtain ⟨v, q, z⟩ := r d e
    subst q
    exact wpAny_Name (wpAny_loadName_free EO.kind (kk.trans hk) a b (Post.same hi z) hx.2) hdbg
  · rename_i hk
    rw [cg] at e
    obtain ⟨mg, mb, g, b, r⟩ := T.glob hi hy
    obtain ⟨v, q, z⟩ := r x d e
    refine Calls.Name_function_global EO.kind (kk.trans hk) ?_ hdbg
    rcases q with q | ⟨q, q2⟩
    · exact Calls.loadGlobal_global (by rw [EO.glob]; exact g) q (Post.same hi z)
    · exact Calls.loadGlobal_builtin (by rw [EO.glob]; exact g) q (by rw [EO.blt]; exact b) q2 (Post.same hi z)
  · cases e
/-- lists of expressions -/
theorem spl {f : PySem.Expr → Option D} (hf : ∀ e d, f e = some d → plainE e ∧ SE T dp un k ρ e d) (pos : Pos) : ∀ (es : List PySem.Expr) (ds : List D), allM f es = some ds →
    ∀ {env Y h gg dd tt os A}, EnvOK T Y env k ρ h → T.Inv h → YOK Y h → A.handled = none → A.depth ≤ dp → A.units ≤ un →
    wpAny (model P w) A (spliced (backTo pos (starEach es env))) (PostL T Y h gg dd os ds) FF ⟨h, gg, dd, tt, os⟩
  | [], ds, e, env, Y, h, gg, dd, tt, os, A, EO, hi, hy, hh, hd, hu => by
    cases e
    exact Calls.spliced_nil ⟨h, tt, rfl, Kp.refl h, hi, .nil⟩
  | x :: es, ds, e, env, Y, h, gg, dd, tt, os, A, EO, hi, hy, hh, hd, hu => by
    unfold allM at e
    obtain ⟨d, e1, e⟩ := Option.bind_eq_some_iff.mp e
    obtain ⟨ds', e2, e⟩ := Option.bind_eq_some_iff.mp e
    cases e
    obtain ⟨px, sx⟩ := hf x d e1
    rw [px.star]
    show wpAny _ _ (spliced ((false, eval x env) :: backTo pos (starEach es env))) _ _ _
    refine Calls.spliced_cons (wmono (sx.run EO hi hy hh hd hu) ?_)
    rintro v _ ⟨h1, t1, rfl, k1, i1, r1⟩
    have y1 := hy.kp hi k1
    refine wmono (spl hf pos es ds' e2 (EO.kp hi hy.w k1) i1 y1 hh hd hu) ?_
    rintro vs _ ⟨h2, t2, rfl, k2, i2, r2⟩
    exact ⟨h2, t2, rfl, k1.trans k2, i2, .cons (r1.kp i1 y1.w (kpw k2)) r2⟩
theorem plain_any {f : PySem.Expr → Option D} (hf : ∀ e d, f e = some d → plainE e) {pos : Pos} {env : Env} : ∀ (es : List PySem.Expr) (ds : List D), allM f es = some ds → (backTo pos (starEach es env)).any (·.1) = false
  | [], _, _ => rfl
  | x :: es, ds, e => by
    unfold allM at e
    obtain ⟨d, e1, e⟩ := Option.bind_eq_some_iff.mp e
    obtain ⟨ds', e2, e⟩ := Option.bind_eq_some_iff.mp e
    rw [(hf x d e1).star]
    exact plain_any hf es ds' e2
theorem allM_length {f : PySem.Expr → Option D} : ∀ (es : List PySem.Expr) (ds : List D), allM f es = some ds → ds.length = es.length
  | [], _, e => by cases e; rfl
  | x :: es, ds, e => by
    unfold allM at e
    obtain ⟨d, e1, e⟩ := Option.bind_eq_some_iff.mp e
    obtain ⟨ds', e2, e⟩ := Option.bind_eq_some_iff.mp e
    cases e
    simp [allM_length es ds' e2]
/-- tests -/
theorem allS {t : PySem.Expr → Option Bool} (ht : ∀ e b, t e = some b → SB T dp un k ρ e b) : ∀ (op : BoolOp) (es : List PySem.Expr) (b : Bool), allD t op es = some b →
    ∀ {env Y h gg dd tt os A}, EnvOK T Y env k ρ h → T.Inv h → YOK Y h → A.handled = none → A.depth ≤ dp → A.units ≤ un →
    wpAny (model P w) A (allTrue op es env) (PostB T h gg dd os b) FF ⟨h, gg, dd, tt, os⟩
  | .And, [], b, e, env, Y, h, gg, dd, tt, os, A, EO, hi, hy, hh, hd, hu => by
    cases e; exact wpAny_allTrue_And_nil ⟨h, tt, rfl, rfl, Kp.refl h, hi⟩
  | .Or, [], b, e, env, Y, h, gg, dd, tt, os, A, EO, hi, hy, hh, hd, hu => by
    cases e; exact wpAny_allTrue_Or_nil ⟨h, tt, rfl, rfl, Kp.refl h, hi⟩
  | .And, x :: es, b, e, env, Y, h, gg, dd, tt, os, A, EO, hi, hy, hh, hd, hu => by
    unfold allD at e
    obtain ⟨b1, e1, e⟩ := Option.bind_eq_some_iff.mp e
    refine wpAny_allTrue_And_cons (wmono ((ht x b1 e1).run EO hi hy hh hd hu) ?_)
    rintro v _ ⟨h1, t1, rfl, rfl, k1, i1⟩
    cases v with
    | true => exact wmono (allS ht .And es b e (EO.kp hi hy.w k1) i1 (hy.kp hi k1) hh hd hu) fun _ _ z => z.after k1
    | false => cases e; exact ⟨h1, t1, rfl, rfl, k1, i1⟩
  | .Or, x :: es, b, e, env, Y, h, gg, dd, tt, os, A, EO, hi, hy, hh, hd, hu => by
    unfold allD at e
    obtain ⟨b1, e1, e⟩ := Option.bind_eq_some_iff.mp e
    refine wpAny_allTrue_Or_cons (wmono ((ht x b1 e1).run EO hi hy hh hd hu) ?_)
    rintro v _ ⟨h1, t1, rfl, rfl, k1, i1⟩
    cases v with
    | false => exact wmono (allS ht .Or es b e (EO.kp hi hy.w k1) i1 (hy.kp hi k1) hh hd hu) fun _ _ z => z.after k1
    | true => cases e; exact ⟨h1, t1, rfl, rfl, k1, i1⟩
theorem SE.truth {e : PySem.Expr} {d : D} {b : Bool} (s : SE T dp un k ρ e d) (hb : truthD d = some b) (he : ∀ env whole, isTrue e env whole = (do let v ← whole; standAt e.pos; holding [v] (truthy v))) : SB T dp un k ρ e b := by
  constructor
  intro env Y h gg dd tt os A EO hi hy hh hd hu
  refine isTrue_plain (wmono (s.run EO hi hy hh hd hu) ?_) (he _ _)
  rintro v _ ⟨h1, t1, rfl, k1, i1, r1⟩
  cases d <;> cases hb
  cases r1
  exact wpAny_truthy_bool ⟨h1, t1, rfl, rfl, k1, i1⟩
theorem trS (hr : un + 70 < cLine) {f : PySem.Expr → Option D} (hf : ∀ e d, f e = some d → plainE e ∧ SE T dp un k ρ e d) : ∀ (n : Nat) (e : PySem.Expr) (b : Bool), trW f n e = some b → SB T dp un k ρ e b
  | 0, e, b, h => by simp [trW] at h
  | n + 1, e, b, hb => by
    unfold trW at hb
    split at hb
    · cases hb
    · rename_i n' x p hn
      cases hn
      obtain ⟨c, e1, e2⟩ := Option.map_eq_some_iff.mp hb
      constructor
      intro env Y h gg dd tt os A EO hi hy hh hd hu
      refine wpAny_isTrue_Not (wmono ((trS hr hf n x c e1).run EO hi hy hh hd hu) ?_)
      rintro v _ ⟨h1, t1, rfl, rfl, k1, i1⟩
      exact ⟨h1, t1, rfl, e2, k1, i1⟩
    · rename_i n' op vs p hn
      cases hn
      constructor
      intro env Y h gg dd tt os A EO hi hy hh hd hu
      exact wpAny_isTrue_BoolOp (allS (fun e b => trS hr hf n e b) op vs b hb EO hi hy hh hd hu)
    · rename_i n' l op r p hn
      cases hn
      obtain ⟨d1, e1, hb⟩ := Option.bind_eq_some_iff.mp hb
      obtain ⟨d2, e2, hb⟩ := Option.bind_eq_some_iff.mp hb
      constructor
      intro env Y h gg dd tt os A EO hi hy hh hd hu
      refine wpAny_isTrue_Compare1 (wmono ((hf l d1 e1).2.run EO hi hy hh hd hu) ?_) ((hf r d2 e2).1.set op)
      rintro v _ ⟨h1, t1, rfl, k1, i1, r1⟩
      have y1 := hy.kp hi k1
      refine wmono ((hf r d2 e2).2.run (EO.kp hi hy.w k1) i1 y1 hh hd hu) ?_
      rintro v2 _ ⟨h2, t2, rfl, k2, i2, r2⟩
      exact s_cmp hb (r1.kp i1 y1.w (kpw k2)) r2 (by omega) (wpAny_truthy_bool ⟨h2, t2, rfl, rfl, k1.trans k2, i2⟩)
    · rename_i n' x p hn
      obtain ⟨d, e1, e2⟩ := Option.bind_eq_some_iff.mp hb
      exact (hf _ d e1).2.truth e2 (fun _ _ => rfl)
    · rename_i n' g as ks p hn
      obtain ⟨d, e1, e2⟩ := Option.bind_eq_some_iff.mp hb
      exact (hf _ d e1).2.truth e2 (fun _ _ => rfl)
    · cases hb
end
end Mine
namespace Mine
set_option maxRecDepth 100000
variable {w : World}
theorem YOK.step {Y : AP} {h h' : Heap} {a : Addr} (y : YOK Y h) (k : ∀ b o, b ≠ a → h.get? b = some o → h'.get? b = some o) (e : ∃ o, h'.get? a = some o ∧ kindY o) : YOK Y h' := fun b m => by
  obtain ⟨l, o, q, z⟩ := y b m
  by_cases hb : b = a
  · subst hb; exact ⟨l, e⟩
  · exact ⟨l, o, k b o hb q, z⟩
/-! a store into a name -/
theorem ns_ne_cell {h : Heap} {a c : Addr} {m u} (n : h.Ns a m) (x : h.IsCell c u) : c ≠ a := by
  rintro rfl
  obtain ⟨o, es, ep, e, d, _⟩ := n
  obtain ⟨o', e', d'⟩ := x
  rw [e] at e'; cases e'; rw [d] at d'; cases d'
structure Stored (T : Th w) (Y : AP) (env : Env) (k : Ks) (ρ : Bs) (x : Str) (d : D) (a : Addr) (h h' : Heap) : Prop where
  kp : ∀ b o, b ≠ a → h.get? b = some o → h'.get? b = some o
  kind : ∃ o, h'.get? a = some o ∧ kindY o
  eok : EnvOK T Y env k ((x, d) :: ρ) h'
  ns : ∀ m, h.Ns env.locals m → ∃ m', h'.Ns env.locals m'
  cell : ∀ c u, h.IsCell c u → ∃ u', h'.IsCell c u'
theorem lookup_cons_ne {α : Type} {x y : Str} {d : α} {l : List (Str × α)} (n : y ≠ x) : ((x, d) :: l).lookup y = l.lookup y := by
  simp [List.lookup_cons, show (y == x) = false from beq_eq_false_iff_ne.mpr n]
theorem lookup_cons_eq {α : Type} {x : Str} {d : α} {l : List (Str × α)} : ((x, d) :: l).lookup x = some d := by
  simp
theorem storeN {T : Th w} {Y : AP} {env : Env} {k : Ks} {ρ : Bs} {x : Str} {v : Value} {d : D} {h : Heap} {gg dd tt os} {A : Around} {Q : Unit → Shared → Prop} {E : Value → Shared → Prop}
    (EO : EnvOK T Y env k ρ h) (hi : T.Inv h) (hy : YOK Y h) (r : Rep T.O Y h v d)
    (hx : k.lookup x = some .local ∧ Y env.locals ∨ k.lookup x = some .cell ∧ ∀ c, env.cells.lookup x = some c → Y c ∧ ∀ y, env.cells.lookup y = some c → y = x)
    (hQ : ∀ h' tk a, Y a → (k.lookup x = some .local ∧ a = env.locals ∨ k.lookup x = some .cell ∧ env.cells.lookup x = some a) → Stored T Y env k ρ x d a h h' → Q () ⟨h', gg, dd, tk, os⟩) : wpAny (model P w) A (storeName env x v) Q E ⟨h, gg, dd, tt, os⟩ := by
  have kk : env.kindOf x = k.lookup x := by unfold Env.kindOf; rw [EO.names]
  obtain ⟨m, hn, rn⟩ := EO.ns
  rcases hx with ⟨hl, hL⟩ | ⟨hl, hc⟩
  · refine wpAny_storeName_local (kk.trans hl) hn (fun h' hn' hs' => ?_) (by rw [EO.kind]; rfl)
    have kp : ∀ b o, b ≠ env.locals → h.get? b = some o → h'.get? b = some o := fun b o n e => hs'.extBut b o n e
    have kY : Kp (fun a => T.XT a ∨ Y a) h h' := ⟨fun b o n e => kp b o (fun z => n (.inr (z ▸ hL))) e⟩
    refine hQ h' _ env.locals hL (.inl ⟨hl, rfl⟩) ⟨kp, ?_, ⟨EO.kind, EO.names, EO.glob, EO.blt, ⟨_, hn', fun y dy a b => ?_⟩, fun y hy' => ?_⟩, fun _ _ => ⟨_, hn'⟩, fun c u q => ⟨u, ?_⟩⟩
    · obtain ⟨o, es, ep, e, q, _⟩ := hn'
      exact ⟨o, e, .inl ⟨_, _, q⟩⟩
    · by_cases hyx : y = x
      · subst hyx
        rw [lookup_cons_eq] at b; cases b
        exact ⟨v, if_pos rfl, r.kp hi hy.w kY⟩
      · rw [lookup_cons_ne hyx] at b
        obtain ⟨u, q, z⟩ := rn y dy a b
        exact ⟨u, by rw [if_neg hyx]; exact q, z.kp hi hy.w kY⟩
    · have hyx : y ≠ x := by rintro rfl; rw [hl] at hy'; rcases hy' with z | z <;> cases z
      obtain ⟨c, u, a, b, q⟩ := EO.cell y hy'
      refine ⟨c, u, a, b.sameBut hs' (ns_ne_cell hn b), fun dy e => ?_⟩
      rw [lookup_cons_ne hyx] at e
      obtain ⟨u', z1, z2⟩ := q dy e
      exact ⟨u', z1, z2.kp hi hy.w kY⟩
    · exact q.sameBut hs' (ns_ne_cell hn q)
  · obtain ⟨c, u, hcx, hcell, _⟩ := EO.cell x (.inl hl)
    obtain ⟨hYc, inj⟩ := hc c hcx
    refine wpAny_storeName_cell EO.kind (kk.trans hl) hcx hcell (fun h' hc' hs' => ?_)
    have kp : ∀ b o, b ≠ c → h.get? b = some o → h'.get? b = some o := fun b o n e => hs'.extBut b o n e
    have kY : Kp (fun a => T.XT a ∨ Y a) h h' := ⟨fun b o n e => kp b o (fun z => n (.inr (z ▸ hYc))) e⟩
    have hnl : env.locals ≠ c := Ne.symm (ns_ne_cell hn hcell)
    refine hQ h' _ c hYc (.inr ⟨hl, hcx⟩) ⟨kp, ?_, ⟨EO.kind, EO.names, EO.glob, EO.blt, ⟨m, hn.sameBut hs' hnl, fun y dy a b => ?_⟩, fun y hy' => ?_⟩, fun m' q => ⟨m', q.sameBut hs' hnl⟩, fun c2 u2 q => ?_⟩
    · obtain ⟨o, e, q⟩ := hc'
      exact ⟨o, e, .inr (.inl ⟨_, q⟩)⟩
    · have hyx : y ≠ x := by rintro rfl; rw [hl] at a; cases a
      rw [lookup_cons_ne hyx] at b
      obtain ⟨u, q, z⟩ := rn y dy a b
      exact ⟨u, q, z.kp hi hy.w kY⟩
    · obtain ⟨c2, u2, a, b, q⟩ := EO.cell y hy'
      by_cases hyx : y = x
      · subst hyx
        rw [hcx] at a; cases a
        refine ⟨c, _, hcx, hc', fun dy e => ?_⟩
        rw [lookup_cons_eq] at e; cases e
        exact ⟨v, rfl, r.kp hi hy.w kY⟩
      · have hne : c2 ≠ c := fun z => hyx (inj y (z ▸ a))
        refine ⟨c2, u2, a, b.sameBut hs' hne, fun dy e => ?_⟩
        rw [lookup_cons_ne hyx] at e
        obtain ⟨u', z1, z2⟩ := q dy e
        exact ⟨u', z1, z2.kp hi hy.w kY⟩
    · by_cases hne : c2 = c
      · subst hne; exact ⟨_, hc'⟩
      · exact ⟨u2, q.sameBut hs' hne⟩
theorem storeS {T : Th w} {Y : AP} {env : Env} {k : Ks} {ρ : Bs} {x : Str} {p : Pos} {v : Value} {d : D} {h : Heap} {gg dd tt os} {A : Around} {Q : Unit → Shared → Prop} {E : Value → Shared → Prop}
    (EO : EnvOK T Y env k ρ h) (hi : T.Inv h) (hy : YOK Y h) (r : Rep T.O Y h v d)
    (hx : k.lookup x = some .local ∧ Y env.locals ∨ k.lookup x = some .cell ∧ ∀ c, env.cells.lookup x = some c → Y c ∧ ∀ y, env.cells.lookup y = some c → y = x)
    (hQ : ∀ h' tk a, Y a → (k.lookup x = some .local ∧ a = env.locals ∨ k.lookup x = some .cell ∧ env.cells.lookup x = some a) → Stored T Y env k ρ x d a h h' → Q () ⟨h', gg, dd, tk, os⟩) : wpAny (model P w) A (assign (.Name x p) env v) Q E ⟨h, gg, dd, tt, os⟩ :=
  wpAny_assign_Name (storeN EO hi hy r hx hQ)
/-! iteration -/
structure Iter (T : Th w) (A : Around) (Y : AP) (h h' : Heap) (I : Addr) (xs : List D) (fp : List Addr) (Pi : Nat → Value → Prop) (St : Nat → Heap → Prop) : Prop where
  walk : Walks P w A I fp [I] xs.length Pi St
  st : St 0 h'
  new : I = h.objs.size
  size : h'.objs.size = h.objs.size + 1
  kp : Kp XN h h'
  kind : ∀ i g, St i g → ∃ o, g.get? I = some o ∧ kindY o
  fp : ∀ b ∈ fp, ¬ T.XT b ∧ b < h'.objs.size ∧ ¬ Y b
  item : ∀ i u, Pi i u → i < xs.length → ∃ d, xs[i]? = some d ∧ Rep T.O Y h u d
theorem iterS {T : Th w} {Y : AP} {v : Value} {d : D} {xs : List D} {h : Heap} {gg dd tt os} {A : Around} {Q : Value → Shared → Prop} {E : Value → Shared → Prop}
    (e : iterL d = some xs) (r : Rep T.O Y h v d) (hi : T.Inv h) (hy : YOK Y h) (hh : A.handled = none)
    (hQ : ∀ h' fp Pi St, Iter T A Y h h' h.objs.size xs fp Pi St → Q (.ref h.objs.size) ⟨h', gg, dd, tt, os⟩) : wpAny (model P w) A (pyIter v) Q E ⟨h, gg, dd, tt, os⟩ := by
  have notXT : ∀ {b}, 87 ≤ b → ¬ T.XT b := fun l x => absurd l (Nat.not_le.mpr (T.xt hi x).1)
  unfold iterL at e
  split at e
  · cases e
    cases r with | list la nl r =>
    rename_i a vs
    have hlt : a < h.objs.size := by obtain ⟨_, e⟩ := la; exact Heap.lt_size e
    refine wpAny_pyIter_list la.isList ?_
    refine hQ _ [h.objs.size, a] (fun i v => vs[i]? = some v) (fun i g => g.IsListIter h.objs.size a i ∧ g.IsList a vs) ⟨(by rw [← r.length, Array.length_toList]; exact Walks.list hh _ a (Nat.ne_of_lt hlt) vs), ⟨⟨_, Heap.get?_push_size _ rfl, rfl, rfl⟩, la.isList.push _⟩, rfl, Heap.size_push .., Kp.push _ _, ?_, ?_, ?_⟩
    · rintro i g ⟨⟨o, e, c, q⟩, _⟩
      exact ⟨o, e, .inr (.inr (.inr ⟨by rw [c]; exact nofun, _, _, _, q, rfl⟩))⟩
    · intro b hb
      simp only [List.mem_cons, List.not_mem_nil, or_false] at hb
      rw [Heap.size_push]
      rcases hb with rfl | rfl
      · exact ⟨notXT (T.big hi), Nat.lt_succ_self _, fun z => Nat.lt_irrefl _ (hy.lt z)⟩
      · exact ⟨T.plain_out hi la, Nat.lt_succ_of_lt hlt, nl⟩
    · intro i u q _
      exact r.get' i (by simpa using q)
  · cases e
    cases r with | tuple la nl r =>
    rename_i a vs
    have hlt : a < h.objs.size := by obtain ⟨o, e, _⟩ := la; exact Heap.lt_size e
    refine wpAny_pyIter_tuple la ?_
    refine hQ _ [h.objs.size, a] (fun i v => vs[i]? = some v) (fun i g => g.IsTupleIter h.objs.size a i ∧ g.IsTuple a vs) ⟨(by rw [← r.length, Array.length_toList]; exact Walks.tuple hh _ a (Nat.ne_of_lt hlt) vs), ⟨⟨_, Heap.get?_push_size _ rfl, rfl, rfl⟩, (Kp.push (X := XN) h _).isTuple (fun x => x) la⟩, rfl, Heap.size_push .., Kp.push _ _, ?_, ?_, ?_⟩
    · rintro i g ⟨⟨o, e, c, q⟩, _⟩
      exact ⟨o, e, .inr (.inr (.inr ⟨by rw [c]; exact nofun, _, _, _, q, rfl⟩))⟩
    · intro b hb
      simp only [List.mem_cons, List.not_mem_nil, or_false] at hb
      rw [Heap.size_push]
      rcases hb with rfl | rfl
      · exact ⟨notXT (T.big hi), Nat.lt_succ_self _, fun z => Nat.lt_irrefl _ (hy.lt z)⟩
      · exact ⟨T.tuple_out hi la, Nat.lt_succ_of_lt hlt, nl⟩
    · intro i u q _
      exact r.get' i (by simpa using q)
  · rename_i n
    cases e
    cases r with | opq o =>
    obtain ⟨hn, r, t, u, x, rfl, hr⟩ := T.o_rng o
    have hsz : Builtin.Range.rangeSize 0 (n : Int) 1 = (n : Int) := by rw [rangeSize_one]; split <;> omega
    refine wpAny_pyIter_range hr (small_one (by omega) (by omega) (by omega) (by omega)) ?_
    refine hQ _ [h.objs.size] (fun i v => ∃ t, v = .int (0 + (i : Nat) * 1) t) (fun i g => IsRangeIter g h.objs.size (0 + (i : Nat) * 1) ((n : Int) - (i : Nat)) 1) ⟨(by rw [List.length_map, List.length_range]; exact Walks.range hh _ 0 1 n), ?_, rfl, Heap.size_push .., Kp.push _ _, ?_, ?_, ?_⟩
    · have e1 : ((0 : Int) + ((0 : Nat) : Int) * 1) = 0 := by simp
      have e2 : ((n : Int) - ((0 : Nat) : Int)) = Builtin.Range.rangeSize 0 (n : Int) 1 := by rw [hsz]; simp
      show IsRangeIter _ _ (0 + ((0 : Nat) : Int) * 1) ((n : Int) - ((0 : Nat) : Int)) 1
      rw [e1, e2]
      exact Heap.get?_push_size _ rfl
    · intro i g q
      exact ⟨_, q, .inr (.inr (.inr ⟨nofun, _, _, _, rfl, rfl⟩))⟩
    · intro b hb
      simp only [List.mem_cons, List.not_mem_nil, or_false] at hb
      rw [Heap.size_push]
      subst hb
      exact ⟨notXT (T.big hi), Nat.lt_succ_self _, fun z => Nat.lt_irrefl _ (hy.lt z)⟩
    · rintro i u ⟨t, rfl⟩ hlt
      rw [List.length_map, List.length_range] at hlt
      refine ⟨.int (i : Nat), by simp [hlt], ?_⟩
      have : (0 : Int) + (i : Nat) * 1 = (i : Nat) := by omega
      rw [this]
      exact .int _ _
  · cases e
end Mine
namespace Mine
set_option maxRecDepth 100000
variable {w : World}
/-! names of a comprehension -/
theorem relab_lookup (k : Ks) (y : Str) : ∀ names : Ks, (relab k names).lookup y = (names.lookup y).map fun kk => if kk == .free && k.lookup y == some .cell then .cell else kk
  | [] => rfl
  | (n, kk) :: r => by
    show List.lookup y ((if (kk == .free && k.lookup n == some .cell) = true then (n, NameKind.cell) else (n, kk)) :: relab k r) = _
    have ih := relab_lookup k y r
    cases hy : y == n with
    | true =>
      have e : y = n := beq_iff_eq.mp hy
      subst e
      by_cases hc : (kk == .free && k.lookup y == some .cell) = true
      · rw [if_pos hc]; simp only [List.lookup_cons, beq_self_eq_true, Option.map_some, hc, if_true]
      · rw [if_neg hc]; simp only [List.lookup_cons, beq_self_eq_true, Option.map_some, if_neg hc]
    | false =>
      by_cases hc : (kk == .free && k.lookup n == some .cell) = true
      · rw [if_pos hc]; simp only [List.lookup_cons, hy]; exact ih
      · rw [if_neg hc]; simp only [List.lookup_cons, hy]; exact ih
theorem free_lookup (names : Ks) (y : Str) : ∀ ρ : Bs, (freeOf names ρ).lookup y = if names.lookup y == some .free then ρ.lookup y else none
  | [] => by simp [freeOf]
  | (n, d) :: r => by
    have ih := free_lookup names y r
    unfold freeOf at ih ⊢
    cases hy : y == n with
    | true =>
      have e : y = n := beq_iff_eq.mp hy
      subst e
      by_cases hc : (names.lookup y == some .free) = true
      · rw [List.filter_cons_of_pos (by exact hc), if_pos hc]; simp only [List.lookup_cons, beq_self_eq_true]
      · rw [List.filter_cons_of_neg (by exact hc), if_neg hc, ih, if_neg hc]
    | false =>
      by_cases hc : (names.lookup n == some .free) = true
      · rw [List.filter_cons_of_pos (by exact hc)]; simp only [List.lookup_cons, hy]; exact ih
      · rw [List.filter_cons_of_neg (by exact hc), ih]; simp only [List.lookup_cons, hy]
def closL (cells : List (Str × Addr)) : Ks → List (Str × Addr) → List (Str × Addr)
  | [], acc => acc
  | (n, k) :: r, acc => if k == .free then closL cells r ((n, (cells.lookup n).getD 0) :: acc) else closL cells r acc
theorem closureFor_eq {scope : Scope} {env : Env} (h : ∀ n, (n, NameKind.free) ∈ scope.names → (env.cells.lookup n).isSome = true) : closureFor scope env = pure (closL env.cells scope.names []) := by
  unfold closureFor
  have key : ∀ (names : Ks) (acc : List (Str × Addr)), (∀ n, (n, NameKind.free) ∈ names → (env.cells.lookup n).isSome = true) →
      (forIn names acc (fun (x : Str × NameKind) (cs : List (Str × Addr)) => (if x.2 == .free then (do let c ← cellOf env x.1; pure (.yield ((x.1, c) :: cs))) else pure (.yield cs) : Sem (ForInStep (List (Str × Addr))))) : Sem (List (Str × Addr))) = pure (closL env.cells names acc) := by
    intro names
    induction names with
    | nil => intro acc _; rfl
    | cons a r ih =>
      obtain ⟨n, kk⟩ := a
      intro acc h
      rw [List.forIn_cons]
      have ih' := fun acc => ih acc fun m hm => h m (.tail _ hm)
      cases kk with
      | free =>
        obtain ⟨c, hc⟩ := Option.isSome_iff_exists.mp (h n (.head _))
        unfold closL cellOf
        simp only [hc, beq_self_eq_true, if_true, Option.getD_some]
        exact ih' _
      | _ => unfold closL; exact ih' _
  have := key scope.names [] h
  refine Eq.trans ?_ (congrArg (fun t => t >>= fun cs => (pure cs : Sem _)) this)
  rfl
theorem closL_look (cells : List (Str × Addr)) (y : Str) : ∀ (names : Ks) (acc : List (Str × Addr)), (y, NameKind.free) ∈ names → (closL cells names acc).lookup y = some ((cells.lookup y).getD 0) := by
  have keep : ∀ (names : Ks) (acc : List (Str × Addr)), acc.lookup y = some ((cells.lookup y).getD 0) → (closL cells names acc).lookup y = some ((cells.lookup y).getD 0) := by
    intro names
    induction names with
    | nil => intro acc h; exact h
    | cons a r ih =>
      obtain ⟨n, kk⟩ := a
      intro acc h
      unfold closL
      split
      · refine ih _ ?_
        by_cases hy : y = n
        · subst hy; exact lookup_cons_eq
        · rw [lookup_cons_ne hy]; exact h
      · exact ih _ h
  intro names
  induction names with
  | nil => intro acc h; cases h
  | cons a r ih =>
    obtain ⟨n, kk⟩ := a
    intro acc h
    unfold closL
    rcases List.mem_cons.mp h with e | h
    · cases e
      simp only [beq_self_eq_true, if_true]
      exact keep _ _ lookup_cons_eq
    · split
      · exact ih _ h
      · exact ih _ h
theorem closL_no (cells : List (Str × Addr)) (y : Str) : ∀ (names : Ks) (acc : List (Str × Addr)), (y, NameKind.free) ∉ names → (closL cells names acc).lookup y = acc.lookup y
  | [], _, _ => rfl
  | (n, kk) :: r, acc, h => by
    unfold closL
    have h2 : (y, NameKind.free) ∉ r := fun z => h (.tail _ z)
    split
    · rename_i hk
      have hy : y ≠ n := by rintro rfl; rw [beq_iff_eq.mp hk] at h; exact h (.head _)
      rw [closL_no cells y r _ h2, lookup_cons_ne hy]
    · exact closL_no cells y r _ h2
theorem cf_look (y : Str) : ∀ (names : Ks) (n : Nat) (acc : List (Str × Addr)), (y, NameKind.cell) ∉ names → (cellsFrom n names acc).lookup y = acc.lookup y
  | [], _, _, _ => rfl
  | (m, kk) :: r, n, acc, h => by
    unfold cellsFrom
    have h2 : (y, NameKind.cell) ∉ r := fun z => h (.tail _ z)
    split
    · rename_i hk
      have hy : y ≠ m := by rintro rfl; rw [beq_iff_eq.mp hk] at h; exact h (.head _)
      rw [cf_look y r _ _ h2, lookup_cons_ne hy]
    · exact cf_look y r _ _ h2
theorem pc_size : ∀ (names : Ks) (h : Heap), h.objs.size ≤ (pushCells h names).objs.size
  | [], _ => Nat.le_refl _
  | (_, kk) :: r, h => by
    unfold pushCells
    split
    · exact Nat.le_trans (by rw [Heap.size_push]; exact Nat.le_succ _) (pc_size r _)
    · exact pc_size r h
theorem cf_own (y : Str) : ∀ (names : Ks) (h : Heap) (acc : List (Str × Addr)), (y, NameKind.cell) ∈ names → ∃ c, (cellsFrom h.objs.size names acc).lookup y = some c ∧ h.objs.size ≤ c ∧ (pushCells h names).IsCell c none
  | [], _, _, h => by cases h
  | (m, kk) :: r, h, acc, hm => by
    by_cases hr : (y, NameKind.cell) ∈ r
    · unfold cellsFrom pushCells
      split
      · obtain ⟨c, a, b, d⟩ := cf_own y r (h.push { cls := .type "cell", data := .cell none }) ((m, h.objs.size) :: acc) hr
        rw [Heap.size_push] at a b
        exact ⟨c, a, Nat.le_of_succ_le b, d⟩
      · exact cf_own y r h acc hr
    · rcases List.mem_cons.mp hm with e | hm
      · cases e
        unfold cellsFrom pushCells
        simp only [beq_self_eq_true, if_true]
        refine ⟨h.objs.size, ?_, Nat.le_refl _, (show Heap.IsCell _ _ _ from ⟨_, Heap.get?_push_size _ rfl, rfl⟩ : (h.push { cls := .type "cell", data := .cell none }).IsCell h.objs.size none).keeps (pushCells_keeps r _)⟩
        rw [cf_look y r _ _ hr]; exact lookup_cons_eq
      · exact absurd hm hr
theorem pc_cells : ∀ (names : Ks) (h : Heap) (a : Addr), h.objs.size ≤ a → a < (pushCells h names).objs.size → (pushCells h names).IsCell a none
  | [], _, _, h1, h2 => absurd h2 (Nat.not_lt.mpr h1)
  | (m, kk) :: r, h, a, h1, h2 => by
    unfold pushCells at h2 ⊢
    split at h2
    · rename_i hk
      rw [if_pos hk]
      rcases Nat.lt_or_ge h.objs.size a with hl | hl
      · exact pc_cells r _ a (by rw [Heap.size_push]; exact hl) h2
      · have : a = h.objs.size := Nat.le_antisymm hl h1
        subst this
        exact (show (h.push { cls := .type "cell", data := .cell none }).IsCell h.objs.size none from ⟨_, Heap.get?_push_size _ rfl, rfl⟩).keeps (pushCells_keeps r _)
    · rename_i hk
      rw [if_neg hk]
      exact pc_cells r h a h1 h2
theorem wp_newComp {M : Model} {A : Around} {E : Value → Shared → Prop} {scope : Scope} {env : Env} {cl : List (Str × Addr)} {h : Heap} {gg dd tt os} {Q : Env → Shared → Prop}
    (hQ : Q { scope := scope, locals := h.objs.size, globals := env.globals, cells := cellsFrom (h.objs.size + 1) scope.names cl, qual := env.qual, func := none, code := env.code, frame := env.frame, builtins := env.builtins }
      ⟨pushCells (h.push { cls := .type "dict", data := .dict #[] }) scope.names, gg, dd, tt, os⟩) :
    wpAny M A (newFunctionEnv scope env.globals cl [] env.qual none .none (some env)) Q E ⟨h, gg, dd, tt, os⟩ := by
  simp only [newFunctionEnv, Option.isSome_some, if_true]
  refine wpAny_bind (wpAny_alloc ?_)
  refine wpAny_bind (wpAny_layCells _ (fun name kind cells => by cases hkc : kind == NameKind.cell <;> simp [hkc]) _ _ _ _ ?_)
  have e : ({ heap := h.push { cls := .type "dict", data := .dict #[] }, gens := gg, drawn := dd, toks := tt, os := os } : Shared).heap.objs.size = h.objs.size + 1 := Heap.size_push ..
  rw [e]
  exact wpAny_bind (wpAny_pure (wpAny_pure hQ))
end Mine
namespace Mine
set_option maxRecDepth 100000
variable {w : World}
/-! a comprehension -/
/-- what stands fast while a comprehension runs: he the heap ahead of the iterator, D its list, C its own names -/
structure CC (T : Th w) (Y Y2 : AP) (env cenv : Env) (k k' : Ks) (ρ ρ' : Bs) (nms : Ks) (x : Str) (he : Heap) (Dl C : Addr) : Prop where
  eo : EnvOK T Y env k ρ he
  hi : T.Inv he
  hy : YOK Y he
  y2 : ∀ a, Y2 a → Y a ∨ he.objs.size ≤ a
  yC : Y2 C
  yD : Y2 Dl
  dC : Dl ≠ C
  loc : cenv.locals = C
  kind : cenv.scope.kind = .function
  names : cenv.scope.names = k'
  glob : cenv.globals = 3
  blt : cenv.builtins = 0
  hk : ∀ y, k'.lookup y = (nms.lookup y).map fun kk => if kk == .free && k.lookup y == some .cell then .cell else kk
  hρ : ∀ y, ρ'.lookup y = if nms.lookup y == some .free then ρ.lookup y else none
  tgt : nms.lookup x = some .local ∨ nms.lookup x = some .cell
  own : nms.lookup x = some .cell → ∃ c, cenv.cells.lookup x = some c ∧ Y2 c ∧ he.objs.size ≤ c ∧ c ≠ Dl
  free : ∀ y, nms.lookup y = some .free → (k.lookup y = some .cell ∨ k.lookup y = some .free) ∧ cenv.cells.lookup y = env.cells.lookup y
  only : ∀ y, nms.lookup y = some .cell → y = x
  oth : ∀ y c, y ≠ x → cenv.cells.lookup y = some c → c < he.objs.size
  dnew : he.objs.size ≤ Dl
  cnew : he.objs.size ≤ C
structure LS (T : Th w) (Y2 : AP) (cenv : Env) (nms : Ks) (x : Str) (he : Heap) (Dl : Addr) (h' : Heap) (vs : Array Value) (outs : List D) : Prop where
  kp : Kp T.XT he h'
  inv : T.Inv h'
  yok : YOK Y2 h'
  acc : h'.PlainList Dl vs
  outs : Reps T.O Y2 h' vs.toList outs
  ns : ∃ m, h'.Ns cenv.locals m
  own : ∀ c, nms.lookup x = some .cell → cenv.cells.lookup x = some c → ∃ u, h'.IsCell c u
structure FS (T : Th w) (Y2 : AP) (cenv : Env) (he : Heap) (Dl : Addr) (h' : Heap) (vs : Array Value) (outs : List D) : Prop where
  kp : Kp T.XT he h'
  inv : T.Inv h'
  acc : h'.PlainList Dl vs
  outs : Reps T.O Y2 h' vs.toList outs
  ns : ∃ m, h'.Ns cenv.locals m
section
variable {T : Th w} {Y Y2 : AP} {env cenv : Env} {k k' : Ks} {ρ ρ' : Bs} {nms : Ks} {x : Str} {he : Heap} {Dl C : Addr}
theorem CC.yw (c : CC T Y Y2 env cenv k k' ρ ρ' nms x he Dl C) : YW Y2 he := fun a m => by
  rcases c.y2 a m with y | y
  · exact c.hy.w a y
  · exact ⟨Nat.le_trans (T.big c.hi) y, fun o e => absurd (Heap.lt_size e) (Nat.not_lt.mpr y)⟩
theorem CC.rep (c : CC T Y Y2 env cenv k k' ρ ρ' nms x he Dl C) {h' : Heap} (kp : Kp T.XT he h') {v d} (r : Rep T.O Y he v d) : Rep T.O Y2 h' v d :=
  (r.y fun a m => (c.y2 a m).imp id fun z => none_of_le z).kp c.hi c.yw (kpw kp)
theorem CC.envok (c : CC T Y Y2 env cenv k k' ρ ρ' nms x he Dl C) {h' : Heap} {vs outs} (l : LS T Y2 cenv nms x he Dl h' vs outs) : EnvOK T Y2 cenv k' ρ' h' := by
  refine ⟨c.kind, c.names, c.glob, c.blt, ?_, fun y hy => ?_⟩
  · obtain ⟨m, n⟩ := l.ns
    refine ⟨m, n, fun y d a b => ?_⟩
    rw [c.hρ] at b
    split at b
    · rename_i hf
      have hf' := beq_iff_eq.mp hf
      rw [c.hk, hf'] at a
      simp only [Option.map_some] at a
      split at a <;> cases a
    · cases b
  · rw [c.hk] at hy
    cases hn : nms.lookup y with
    | none => rw [hn] at hy; rcases hy with z | z <;> cases z
    | some kk =>
      by_cases hcell : kk = .cell
      · subst hcell
        have := c.only y hn
        subst this
        obtain ⟨a, q, _, _, _⟩ := c.own hn
        obtain ⟨u, z⟩ := l.own a hn q
        refine ⟨a, u, q, z, fun d b => ?_⟩
        rw [c.hρ, hn] at b
        cases b
      · have hfree : kk = .free := by
          rw [hn] at hy
          simp only [Option.map_some] at hy
          by_cases hf : kk = .free
          · exact hf
          · have h1 : (kk == NameKind.free && k.lookup y == some .cell) = false := by
              rw [Bool.and_eq_false_iff]; exact .inl (beq_eq_false_iff_ne.mpr hf)
            rw [if_neg (by rw [h1]; exact Bool.false_ne_true)] at hy
            rcases hy with z | z
            · cases z; exact absurd rfl hcell
            · cases z; rfl
        subst hfree
        obtain ⟨a, b⟩ := c.free y hn
        obtain ⟨cc, u, e1, e2, e3⟩ := c.eo.cell y a
        refine ⟨cc, u, b.trans e1, l.kp.isCell (T.xt_cell c.hi e2) e2, fun d e => ?_⟩
        rw [c.hρ, hn] at e
        obtain ⟨v, z1, z2⟩ := e3 d (by simpa using e)
        exact ⟨v, z1, c.rep l.kp z2⟩
theorem CC.store (c : CC T Y Y2 env cenv k k' ρ ρ' nms x he Dl C) {h' : Heap} : k'.lookup x = some .local ∧ Y2 cenv.locals ∨ k'.lookup x = some .cell ∧ ∀ a, cenv.cells.lookup x = some a → Y2 a ∧ ∀ y, cenv.cells.lookup y = some a → y = x := by
  rcases c.tgt with t | t
  · exact .inl ⟨by rw [c.hk, t]; rfl, c.loc ▸ c.yC⟩
  · refine .inr ⟨by rw [c.hk, t]; rfl, fun a e => ?_⟩
    obtain ⟨a', q, y, n, _⟩ := c.own t
    rw [q] at e; cases e
    refine ⟨y, fun z hz => ?_⟩
    by_cases hzx : z = x
    · exact hzx
    · exact absurd (c.oth z _ hzx hz) (Nat.not_lt.mpr n)
/-- one thing of the comprehension's own is written -/
theorem LS.at1 {h' h'' : Heap} {vs vs' outs} {a : Addr} (c : CC T Y Y2 env cenv k k' ρ ρ' nms x he Dl C) (l : LS T Y2 cenv nms x he Dl h' vs outs) (ya : Y2 a) (na : he.objs.size ≤ a)
    (kp : ∀ b o, b ≠ a → h'.get? b = some o → h''.get? b = some o) (kind : ∃ o, h''.get? a = some o ∧ kindY o) (acc : h''.PlainList Dl vs') (outs' : Reps T.O Y2 h'' vs'.toList outs)
    (ns : ∃ m, h''.Ns cenv.locals m) (own : ∀ c, nms.lookup x = some .cell → cenv.cells.lookup x = some c → ∃ u, h''.IsCell c u) : LS T Y2 cenv nms x he Dl h'' vs' outs := by
  have k1 : Kp Y2 h' h'' := ⟨fun b o n e => kp b o (fun z => n (z ▸ ya)) e⟩
  refine ⟨⟨fun b o n e => kp b o (fun z => ?_) (l.kp.at' b o n e)⟩, T.inv_y l.inv l.yok.w k1, l.yok.step kp kind, acc, outs', ns, own⟩
  have := Heap.lt_size e
  rw [z] at this
  exact absurd this (Nat.not_lt.mpr na)
theorem LS.outsk {h' h'' : Heap} {vs outs} {a : Addr} (l : LS T Y2 cenv nms x he Dl h' vs outs) (ya : Y2 a) (kp : ∀ b o, b ≠ a → h'.get? b = some o → h''.get? b = some o) {us : List Value} {es : List D} (r : Reps T.O Y2 h' us es) : Reps T.O Y2 h'' us es :=
  r.kp l.inv l.yok.w ⟨fun b o n e => kp b o (fun z => n (.inr (z ▸ ya))) e⟩
theorem LS.xt {h' h'' : Heap} {vs outs} (c : CC T Y Y2 env cenv k k' ρ ρ' nms x he Dl C) (l : LS T Y2 cenv nms x he Dl h' vs outs) (kp : Kp T.XT h' h'') (inv : T.Inv h'') : LS T Y2 cenv nms x he Dl h'' vs outs := by
  refine ⟨l.kp.trans kp, inv, l.yok.kp l.inv kp, kp.plain (T.plain_out l.inv l.acc) l.acc, l.outs.kp l.inv l.yok.w (kpw kp), ?_, fun a e q => ?_⟩
  · obtain ⟨m, n⟩ := l.ns
    exact ⟨m, kp.ns (T.xt_ns l.inv n) n⟩
  · obtain ⟨u, z⟩ := l.own a e q
    exact ⟨u, kp.isCell (T.xt_cell l.inv z) z⟩
theorem drop_at {α : Type} {l : List α} {j : Nat} {d : α} (e : l[j]? = some d) : l.drop j = d :: l.drop (j + 1) := by
  obtain ⟨h, q⟩ := List.getElem?_eq_some_iff.mp e
  rw [← q]; exact List.drop_eq_getElem_cons h
theorem compLoopS {dp un : Nat} {A : Around} {elt iter : PySem.Expr} {px : Pos} {ifs : List PySem.Expr} {sc : Scope} {pos : Pos} {xs res : List D} {t : D → Option Bool} {f : D → Option D} {fp : List Addr} {Pi : Nat → Value → Prop} {St : Nat → Heap → Prop}
    {h1 h3 : Heap} {gg dd tt os} {R : Result → Shared → Prop}
    (c : CC T Y Y2 env cenv k k' ρ ρ' nms x he Dl C) (IT : Iter T A Y he h1 he.objs.size xs fp Pi St) (yI : Y2 he.objs.size) (hD : h1.objs.size ≤ Dl) (hC : h1.objs.size ≤ C) (hO : ∀ a, nms.lookup x = some .cell → cenv.cells.lookup x = some a → h1.objs.size ≤ a)
    (hh : A.handled = none) (hd : A.depth ≤ dp) (hu : A.units ≤ un) (hlen : xs.length ≤ 1000)
    (ht : ∀ d b, t d = some b → ifs = [] ∧ b = true ∨ ∃ e, ifs = [e] ∧ SB T dp un k' ((x, d) :: ρ') e b) (hf : ∀ d y, f d = some y → SE T dp un k' ((x, d) :: ρ') elt y)
    (hres : compD t f xs = some res) (l0 : LS T Y2 cenv nms x he Dl h3 #[] []) (st0 : St 0 h3)
    (hR : ∀ h' tk vs, FS T Y2 cenv he Dl h' vs res → R (.ok .next) ⟨h', gg, dd, tk, os⟩) :
    codeAny (model P w) A (.compLoop (.ListComp elt [⟨.Name x px, iter, ifs, 0⟩] sc pos) 0 (.ref he.objs.size) (.ref Dl) cenv) R ⟨h3, gg, dd, tt, os⟩ := by
  have nDI : Dl ≠ he.objs.size := fun e => by rw [e, IT.size] at hD; omega
  have nCI : C ≠ he.objs.size := fun e => by rw [e, IT.size] at hC; omega
  refine codeAny_compLoop_tests
    (fun n s' => ∃ h' tk j outs vs rs, s' = ⟨h', gg, dd, tk, os⟩ ∧ j ≤ xs.length ∧ n = xs.length + 1 - j ∧ St j h' ∧ LS T Y2 cenv nms x he Dl h' vs outs ∧ compD t f (xs.drop j) = some rs ∧ outs ++ rs = res ∧ outs.length ≤ j) ?_ (xs.length + 1)
    ⟨h3, tt, 0, [], #[], res, rfl, Nat.zero_le _, rfl, st0, l0, by simpa using hres, rfl, Nat.le_refl _⟩
  rintro n s' ⟨h', tk, j, outs, vs, rs, rfl, hj, rfl, st, l, hc, ho, hol⟩
  by_cases hlt : j < xs.length
  · refine IT.walk.item j _ _ _ hlt st fun v h₁ tk₁ hP st₁ hk₁ => ?_
    dsimp only at hk₁ ⊢
    have kp1 : ∀ b o, b ≠ he.objs.size → h'.get? b = some o → h₁.get? b = some o := fun b o n e => hk₁ b o (by simpa using n) e
    obtain ⟨d, hd0, rd⟩ := IT.item j v hP hlt
    rw [drop_at hd0, compD] at hc
    obtain ⟨b, hb, hc⟩ := Option.bind_eq_some_iff.mp hc
    have l1 : LS T Y2 cenv nms x he Dl h₁ vs outs := by
      refine l.at1 c yI (Nat.le_refl _) kp1 (IT.kind _ _ st₁) ?_ (l.outsk yI kp1 l.outs) ?_ ?_
      · obtain ⟨n, e⟩ := l.acc
        exact ⟨n, kp1 _ _ nDI e⟩
      · obtain ⟨m, o, es, ep, e, r⟩ := l.ns
        exact ⟨m, o, es, ep, kp1 _ _ (by rw [c.loc]; exact nCI) e, r⟩
      · intro a e q
        obtain ⟨u, o, z, r⟩ := l.own a e q
        refine ⟨u, o, kp1 _ _ (fun ea => ?_) z, r⟩
        have := hO a e q
        rw [ea, IT.size] at this; omega
    refine storeS (c.envok l1) l1.inv l1.yok (c.rep l1.kp rd) (c.store (h' := h₁)) fun h₂ tk₂ a ya ha S => ?_
    have ha1 : h1.objs.size ≤ a := by
      rcases ha with ⟨_, rfl⟩ | ⟨z, ha⟩
      · rw [c.loc]; exact hC
      · rcases c.tgt with t' | t'
        · rw [c.hk, t'] at z; cases z
        · exact hO a t' ha
    have nDa : Dl ≠ a := by
      rcases ha with ⟨_, rfl⟩ | ⟨z, ha⟩
      · rw [c.loc]; exact c.dC
      · rcases c.tgt with t' | t'
        · rw [c.hk, t'] at z; cases z
        · obtain ⟨a', q, _, _, n⟩ := c.own t'
          rw [q] at ha; cases ha; exact Ne.symm n
    have l2 : LS T Y2 cenv nms x he Dl h₂ vs outs := by
      refine l1.at1 c ya (Nat.le_trans (by rw [IT.size]; exact Nat.le_succ _) ha1) S.kp S.kind ?_ (l1.outsk ya S.kp l1.outs) ?_ ?_
      · obtain ⟨n, e⟩ := l1.acc
        exact ⟨n, S.kp _ _ nDa e⟩
      · obtain ⟨m, q⟩ := l1.ns
        exact S.ns m q
      · intro a' e q
        obtain ⟨u, z⟩ := l1.own a' e q
        exact S.cell a' u z
    have stF : ∀ {i g g'}, St i g → (∀ b ∈ fp, ∀ o, g.get? b = some o → g'.get? b = some o) → St i g' := fun s q => IT.walk.frame _ _ _ s q
    have stX : ∀ {i g g'}, Kp T.XT g g' → St i g → St i g' := fun q s => stF s fun b hb o e => q.at' b o (IT.fp b hb).1 e
    have st₂ : St (j + 1) h₂ := stF st₁ fun b hb o e => S.kp b o (fun z => by have := (IT.fp b hb).2.1; rw [z] at this; exact absurd this (Nat.not_lt.mpr ha1)) e
    have e₂ : EnvOK T Y2 cenv k' ((x, d) :: ρ') h₂ := S.eok
    -- the tests
    have tests : ∀ Q' : Bool → Shared → Prop, ∀ E', (∀ h₃ tk₃, LS T Y2 cenv nms x he Dl h₃ vs outs → St (j + 1) h₃ → EnvOK T Y2 cenv k' ((x, d) :: ρ') h₃ → Q' b ⟨h₃, gg, dd, tk₃, os⟩) →
        wpAny (model P w) A (forIn ifs true fun c r => if r = true then do let ok ← isTrue c cenv (eval c cenv); pure (ForInStep.yield ok) else pure (ForInStep.yield r)) Q' E' ⟨h₂, gg, dd, tk₂, os⟩ := by
      intro Q' E' hq
      rcases ht d b hb with ⟨rfl, rfl⟩ | ⟨e, rfl, se⟩
      · exact wpAny_pure (hq h₂ tk₂ l2 st₂ e₂)
      · simp only [List.forIn_cons, List.forIn_nil, if_true]
        refine wpAny_bind (wpAny_bind (wmono (se.run e₂ l2.inv l2.yok hh hd hu) ?_))
        rintro r _ ⟨h₃, tk₃, rfl, rfl, k₃, i₃⟩
        exact wpAny_pure (wpAny_pure (hq h₃ tk₃ (l2.xt c k₃ i₃) (stX k₃ st₂) (e₂.kp l2.inv l2.yok.w k₃)))
    refine tests _ _ fun h₃ tk₃ l3 st₃ e₃ => ?_
    cases b with
    | false =>
      simp only [Bool.false_eq_true, if_false] at hc ⊢
      exact ⟨xs.length + 1 - (j + 1), by omega, h₃, tk₃, j + 1, outs, vs, rs, rfl, hlt, rfl, st₃, l3, hc, ho, by omega⟩
    | true =>
      simp only [if_true] at hc ⊢
      obtain ⟨y, hy, hc⟩ := Option.bind_eq_some_iff.mp hc
      obtain ⟨rs', hrs, hc⟩ := Option.bind_eq_some_iff.mp hc
      cases hc
      refine wmono ((hf d y hy).run e₃ l3.inv l3.yok hh hd hu) ?_
      rintro u _ ⟨h₄, tk₄, rfl, k₄, i₄, r₄⟩
      have l4 := l3.xt c k₄ i₄
      have hsz : vs.size ≤ sizeLine := by
        have := l4.outs.length
        rw [Array.length_toList] at this
        rw [sizeLine_eq]; omega
      refine wpAny_list_append_plain (hsz := hsz) l4.acc fun h₅ hl₅ hs₅ => ?_
      dsimp only at hs₅
      have kp5 : ∀ b o, b ≠ Dl → h₄.get? b = some o → h₅.get? b = some o := fun b o n e => hs₅.extBut b o n e
      refine ⟨xs.length + 1 - (j + 1), by omega, h₅, tk₄, j + 1, outs ++ [y], vs.push u, rs', rfl, hlt, rfl, ?_, ?_, hrs, by simpa using ho, by simp; omega⟩
      · exact stF (stX k₄ st₃) fun b hb o e => kp5 b o (fun z => by have := (IT.fp b hb).2.1; rw [z] at this; exact absurd this (Nat.not_lt.mpr hD)) e
      · have kY : Kp Y2 h₄ h₅ := ⟨fun b o n e => kp5 b o (fun z => n (z ▸ c.yD)) e⟩
        refine ⟨⟨fun b o n e => kp5 b o (fun z => ?_) (l4.kp.at' b o n e)⟩, T.inv_y l4.inv l4.yok.w kY, l4.yok.step kp5 ?_, hl₅, ?_, ?_, ?_⟩
        · have := Heap.lt_size e
          rw [z] at this
          exact absurd this (Nat.not_lt.mpr c.dnew)
        · obtain ⟨n, e⟩ := hl₅
          exact ⟨_, e, .inr (.inr (.inl ⟨_, _, rfl⟩))⟩
        · rw [Array.toList_push]
          exact (l4.outsk c.yD kp5 l4.outs).snoc (r₄.kp l4.inv l4.yok.w ⟨fun b o n e => kp5 b o (fun z => n (.inr (z ▸ c.yD))) e⟩)
        · obtain ⟨m, o, es, ep, e, r⟩ := l4.ns
          exact ⟨m, o, es, ep, kp5 _ _ (by rw [c.loc]; exact Ne.symm c.dC) e, r⟩
        · intro a' e q
          obtain ⟨u', o, z, r⟩ := l4.own a' e q
          obtain ⟨a2, q2, _, _, n⟩ := c.own e
          rw [q2] at q; cases q
          exact ⟨u', o, kp5 _ _ n z, r⟩
  · have hjl : j = xs.length := by omega
    subst hjl
    rw [List.drop_length, compD] at hc
    cases hc
    rw [List.append_nil] at ho
    subst ho
    refine IT.walk.done _ _ _ st fun h₁ tk₁ hk₁ => ?_
    dsimp only at hk₁ ⊢
    have kp1 : ∀ b o, b ≠ he.objs.size → h'.get? b = some o → h₁.get? b = some o := fun b o n e => hk₁ b o (by simpa using n) e
    have kY : Kp Y2 h' h₁ := ⟨fun b o n e => kp1 b o (fun z => n (z ▸ yI)) e⟩
    refine hR h₁ tk₁ vs ⟨⟨fun b o n e => kp1 b o (fun z => ?_) (l.kp.at' b o n e)⟩, T.inv_y l.inv l.yok.w kY, ?_, l.outsk yI kp1 l.outs, ?_⟩
    · have := Heap.lt_size e
      rw [z] at this
      exact Nat.lt_irrefl _ this
    · obtain ⟨n, e⟩ := l.acc
      exact ⟨n, kp1 _ _ nDI e⟩
    · obtain ⟨m, o, es, ep, e, r⟩ := l.ns
      exact ⟨m, o, es, ep, kp1 _ _ (by rw [c.loc]; exact nCI) e, r⟩
end
end Mine
namespace Mine
set_option maxRecDepth 100000
variable {w : World}
theorem aLe {a b : Nat} (h : a ≤ b) : @LE.le Addr _ a b := h
theorem aLt {a b : Nat} (h : a < b) : @LT.lt Addr _ a b := h
theorem aNe {a b : Nat} (h : a ≠ b) : @Ne Addr a b := h
theorem nLe {a b : Addr} (h : a ≤ b) : @LE.le Nat _ a b := h
theorem nLt {a b : Addr} (h : a < b) : @LT.lt Nat _ a b := h
structure OkC (k : Ks) (sc : Scope) (x : Str) : Prop where
  kind : sc.kind = .function
  tgt : sc.names.lookup x = some .local ∨ sc.names.lookup x = some .cell
  look : ∀ n kk, (n, kk) ∈ sc.names → sc.names.lookup n = some kk
  sort : ∀ n kk, (n, kk) ∈ sc.names → kk = .local ∨ kk = .cell ∧ n = x ∨ kk = .globalImplicit ∨ kk = .free ∧ (k.lookup n = some .cell ∨ k.lookup n = some .free)
theorem okC_of {k : Ks} {sc : Scope} {x : Str} (h : okComp k sc x = true) : OkC k sc x := by
  unfold okComp at h
  simp only [Bool.and_eq_true, Bool.or_eq_true, beq_iff_eq, List.all_eq_true] at h
  obtain ⟨⟨a, b⟩, c⟩ := h
  refine ⟨a, b, fun n kk m => (c (n, kk) m).1, fun n kk m => ?_⟩
  have := (c (n, kk) m).2
  rcases this with ((z | z) | z) | z
  · exact .inl z
  · exact .inr (.inl z)
  · exact .inr (.inr (.inl z))
  · exact .inr (.inr (.inr z))
theorem relabel_names {k : Ks} {sc : Scope} {env : Env} (h1 : env.scope.kind = .function) (h2 : env.scope.names = k) : (relabel sc env).names = relab k sc.names := by
  unfold relabel relab
  dsimp only
  congr 1
  funext ⟨n, kk⟩
  simp [h1, Env.kindOf, h2]
section
variable {T : Th w} {Y : AP} {env : Env} {k : Ks} {ρ : Bs} {x : Str}
theorem compS {dp un : Nat} {A : Around} {elt iter : PySem.Expr} {px : Pos} {ifs : List PySem.Expr} {sc : Scope} {pos p0 : Pos} {d0 : D} {xs res : List D} {t : D → Option Bool} {f : D → Option D}
    {h : Heap} {gg dd tt os} {use : Option (Value → Sem Unit)} {Q : Value → Shared → Prop}
    (EO : EnvOK T Y env k ρ h) (hi : T.Inv h) (hy : YOK Y h) (hh : A.handled = none) (hd : A.depth ≤ dp) (hu : A.units ≤ un)
    (ok : OkC k sc x) (pi : plainE iter) (si : SE T dp un k ρ iter d0) (hx : iterL d0 = some xs) (hlen : xs.length ≤ 1000)
    (ht : ∀ d b, t d = some b → ifs = [] ∧ b = true ∨ ∃ e, ifs = [e] ∧ SB T dp un (relab k sc.names) ((x, d) :: freeOf sc.names ρ) e b) (hf : ∀ d y, f d = some y → SE T dp un (relab k sc.names) ((x, d) :: freeOf sc.names ρ) elt y)
    (hres : compD t f xs = some res)
    (hQ : ∀ h' tk acc C, Kp T.XT h h' → T.Inv h' → Rep T.O (fun a => Y a ∨ a = C) h' acc (.list res) → (∃ b, acc = .ref b ∧ h.get? b = none) → h.get? C = none → 87 ≤ C → (∃ m, h'.Ns C m) → compPost (model P w) A FF use Q acc C (.ok .next) ⟨h', gg, dd, tk, os⟩) :
    wpAny (model P w) A (comprehension (.ListComp elt [⟨.Name x px, iter, ifs, 0⟩] sc pos) sc env p0 (newList []) false (eval iter env) use) Q FF ⟨h, gg, dd, tt, os⟩ := by
  have hcells : ∀ n, (n, NameKind.free) ∈ sc.names → (env.cells.lookup n).isSome = true := fun n m => by
    rcases ok.sort n _ m with z | ⟨z, _⟩ | z | ⟨_, z⟩
    · cases z
    · cases z
    · cases z
    · obtain ⟨c, u, q, _⟩ := EO.cell n z
      rw [q]; rfl
  refine wpAny_comprehension_free (g := ⟨.Name x px, iter, ifs, 0⟩) (gs := []) rfl (pi.fold env) (closureFor_eq hcells) ok.kind (fun y m e => by rw [ok.look y.1 y.2 m, e]) ?_
  refine wmono (si.run EO hi hy hh hd hu) ?_
  rintro v _ ⟨he, te, rfl, ke, ie, re⟩
  have ye := hy.kp hi ke
  have EOe := EO.kp hi hy.w ke
  refine iterS hx re ie ye hh fun h1 fp Pi St IT => ?_
  refine wpAny_newObj_type ?_
  refine wp_newComp ?_
  have hs1 : h1.objs.size = he.objs.size + 1 := IT.size
  generalize hh2 : h1.push { cls := .type "list", dict := none, data := .seq ([] : List Value).toArray } = h2
  have hs2 : h2.objs.size = he.objs.size + 2 := by rw [← hh2, Heap.size_push, hs1]
  generalize hcl : closL env.cells sc.names [] = cl
  generalize hhp : h2.push { cls := .type "dict", data := .dict #[] } = hp
  have hsp : hp.objs.size = he.objs.size + 3 := by rw [← hhp, Heap.size_push, hs2]
  generalize hh3 : pushCells hp sc.names = h3
  have hs3 : he.objs.size + 3 ≤ h3.objs.size := by rw [← hh3, ← hsp]; exact pc_size _ _
  have e2 : h2.objs.size + 1 = hp.objs.size := by omega
  have new : ∀ {b : Addr}, he.objs.size ≤ b → he.get? b = none := fun l => none_of_le l
  -- from he to h3
  have k12 : Kp XN h1 h2 := by rw [← hh2]; exact Kp.push _ _
  have k2p : Kp XN h2 hp := by rw [← hhp]; exact Kp.push _ _
  have kp3 : Kp XN hp h3 := by rw [← hh3]; exact Kp.ofKeeps (pushCells_keeps _ _)
  have ke3 : Kp XN he h3 := ((IT.kp.trans k12).trans k2p).trans kp3
  have look_free : ∀ y, sc.names.lookup y = some .free → cl.lookup y = env.cells.lookup y := fun y z => by
    have m := mem_of_lookup z
    obtain ⟨c, q⟩ := Option.isSome_iff_exists.mp (hcells y m)
    rw [← hcl, closL_look _ _ _ _ m, q]; rfl
  have notcell : ∀ y kk, sc.names.lookup y = some kk → kk ≠ .cell → (y, NameKind.cell) ∉ sc.names := fun y kk z n m => by
    have := ok.look y _ m
    rw [z] at this; cases this; exact n rfl
  have cells_free : ∀ y, sc.names.lookup y = some .free → (cellsFrom (h2.objs.size + 1) sc.names cl).lookup y = env.cells.lookup y := fun y z => by
    rw [cf_look y _ _ _ (notcell y _ z nofun)]; exact look_free y z
  let Y2 : AP := fun a => Y a ∨ he.objs.size ≤ a ∧ a < h3.objs.size
  let cenv : Env := { scope := relabel sc env, locals := h2.objs.size, globals := env.globals, cells := cellsFrom (h2.objs.size + 1) sc.names cl, qual := env.qual, func := none, code := env.code, frame := env.frame, builtins := env.builtins }
  have c : CC T Y Y2 env cenv k (relab k sc.names) ρ (freeOf sc.names ρ) sc.names x he h1.objs.size h2.objs.size := by
    refine ⟨EOe, ie, ye, fun a z => z.imp id And.left, .inr ⟨aLe (by omega), aLt (by omega)⟩, .inr ⟨aLe (by omega), aLt (by omega)⟩, aNe (by omega), rfl, ok.kind, relabel_names EO.kind EO.names, EO.glob, EO.blt,
      fun y => relab_lookup k y _, fun y => free_lookup _ y _, ok.tgt, fun z => ?_, fun y z => ⟨?_, cells_free y z⟩, fun y z => ?_, fun y cc n z => ?_, aLe (by omega), aLe (by omega)⟩
    · obtain ⟨a, q, l, ce⟩ := cf_own x sc.names hp cl (mem_of_lookup z)
      rw [← e2] at q l
      have l' := nLe l
      refine ⟨a, q, .inr ⟨aLe (by omega), ?_⟩, aLe (by omega), aNe (by omega)⟩
      have := ce.lt
      rw [hh3] at this; exact this
    · have m := mem_of_lookup z
      rcases ok.sort y _ m with z | ⟨z, _⟩ | z | ⟨_, z⟩
      · cases z
      · cases z
      · cases z
      · exact z
    · rcases ok.sort y _ (mem_of_lookup z) with q | ⟨_, q⟩ | q | ⟨q, _⟩
      · cases q
      · exact q
      · cases q
      · cases q
    · have nc : (y, NameKind.cell) ∉ sc.names := fun m => by
        rcases ok.sort y _ m with z | ⟨_, q⟩ | z | ⟨z, _⟩
        · cases z
        · exact n q
        · cases z
        · cases z
      have z' : cl.lookup y = some cc := by rw [← cf_look y _ (h2.objs.size + 1) cl nc]; exact z
      by_cases hfr : (y, NameKind.free) ∈ sc.names
      · have lf := ok.look y _ hfr
        rw [look_free y lf] at z'
        rcases ok.sort y _ hfr with q | ⟨q, _⟩ | q | ⟨_, q⟩
        · cases q
        · cases q
        · cases q
        · obtain ⟨c', u, q1, q2, _⟩ := EOe.cell y q
          rw [q1] at z'; cases z'
          exact q2.lt
      · rw [← hcl, closL_no _ _ _ _ hfr] at z'; cases z'
  have y2ok : YOK Y2 h3 := by
    rintro a (z | ⟨l1, l2⟩)
    · obtain ⟨q, o, e, kk⟩ := ye a z
      exact ⟨q, o, ke3.all _ _ e, kk⟩
    · have b87 : 87 ≤ a := Nat.le_trans (T.big ie) l1
      rcases Nat.lt_or_ge a hp.objs.size with l3 | l3
      · have l1' := nLe l1
        have l3' := nLt l3
        have : @Eq Nat a he.objs.size ∨ @Eq Nat a h1.objs.size ∨ @Eq Nat a h2.objs.size := by omega
        rcases this with rfl | rfl | rfl
        · obtain ⟨o, e, kk⟩ := IT.kind _ _ IT.st
          exact ⟨b87, o, kp3.all _ _ (k2p.all _ _ (k12.all _ _ e)), kk⟩
        · refine ⟨b87, _, kp3.all _ _ (k2p.all _ _ (by rw [← hh2]; exact Heap.get?_push_size _ rfl)), .inr (.inr (.inl ⟨_, _, rfl⟩))⟩
        · refine ⟨b87, _, kp3.all _ _ (by rw [← hhp]; exact Heap.get?_push_size _ rfl), .inl ⟨_, _, rfl⟩⟩
      · have ce : h3.IsCell a none := by rw [← hh3]; exact pc_cells _ _ _ l3 (by rw [hh3]; exact l2)
        obtain ⟨o, e, q⟩ := ce
        exact ⟨b87, o, e, .inr (.inl ⟨_, q⟩)⟩
  have l0 : LS T Y2 cenv sc.names x he h1.objs.size h3 #[] [] := by
    refine ⟨ke3.xn, T.inv_y (Y := XN) ie (fun _ z => z.elim) ke3, y2ok, ⟨0, kp3.all _ _ (k2p.all _ _ (by rw [← hh2]; exact Heap.get?_push_size _ rfl))⟩, .nil, ?_, fun a e q => ?_⟩
    · refine ⟨fun _ => none, kp3.ns (fun z => z) ?_⟩
      rw [← hhp]; exact Heap.Ns.new h2 (.type "dict")
    · obtain ⟨a', q', l, ce⟩ := cf_own x sc.names hp cl (mem_of_lookup e)
      rw [← e2] at q'
      have qq : (cellsFrom (h2.objs.size + 1) sc.names cl).lookup x = some a := q
      rw [q'] at qq; cases qq
      exact ⟨none, by rw [← hh3]; exact ce⟩
  have st3 : St 0 h3 := IT.walk.frame _ _ _ IT.st fun b _ o e => kp3.all _ _ (k2p.all _ _ (k12.all _ _ e))
  have loop : codeAny (model P w) A (.compLoop (.ListComp elt [⟨.Name x px, iter, ifs, 0⟩] sc pos) 0 (.ref he.objs.size) (.ref h1.objs.size) cenv) (compPost (model P w) A FF use Q (.ref h1.objs.size) h2.objs.size) ⟨h3, gg, dd, te, os⟩ := by
    refine compLoopS (t := t) (f := f) c IT (.inr ⟨Nat.le_refl _, aLt (by omega)⟩) (Nat.le_refl _) (aLe (by omega)) (fun a e q => ?_) hh hd hu hlen ht hf hres l0 st3 fun h' tk vs F => ?_
    · obtain ⟨a', q', l, _⟩ := cf_own x sc.names hp cl (mem_of_lookup e)
      rw [← e2] at q'
      have qq : (cellsFrom (h2.objs.size + 1) sc.names cl).lookup x = some a := q
      rw [q'] at qq; cases qq
      have l' := nLe l
      exact aLe (by omega)
    · have fresh : ∀ b : Addr, @LE.le Nat _ he.objs.size b → h.get? b = none := fun b l => by
        cases q : h.get? b with
        | none => rfl
        | some o =>
          by_cases xt : T.XT b
          · have z1 := nLt (T.xt hi xt).1
            have z2 := nLe (T.big ie)
            omega
          · have z1 := nLt (Heap.lt_size (ke.at' _ _ xt q))
            omega
      refine hQ h' tk _ _ (ke.trans F.kp) F.inv ?_ ⟨_, rfl, fresh _ (by omega)⟩ (fresh _ (by omega)) (Nat.le_trans (T.big ie) (aLe (by omega))) F.ns
      refine .list F.acc ?_ (F.outs.y fun a z => .inl ?_)
      · rintro (z | z)
        · have z' := nLt (ye.lt z)
          omega
        · have z' : (h1.objs.size : Nat) = h2.objs.size := z
          omega
      · rcases z with z | rfl
        · exact .inl z
        · exact .inr ⟨aLe (by omega), aLt (by omega)⟩
  have e3 : ({ ({ scope := sc, locals := h2.objs.size, globals := env.globals, cells := cellsFrom (h2.objs.size + 1) sc.names cl, qual := env.qual, func := none, code := env.code, frame := env.frame, builtins := env.builtins } : Env) with scope := relabel sc env } : Env) = cenv := rfl
  dsimp only at *
  exact codeAny_compStart_list loop (IT.walk.self 0 _ _ _ st3 loop)
end
end Mine
namespace Mine
set_option maxRecDepth 100000
variable {w : World}
/-! the reading of expressions is sound -/
theorem ev_plain {C : Cfg} {n : Nat} {k : Ks} {ρ : Bs} {e : PySem.Expr} {d : D} (h : ev C n k ρ e = some d) : plainE e := by
  cases n with
  | zero => simp [ev] at h
  | succ n =>
    cases e
    case Slice => simp [ev] at h
    case Set => simp [ev] at h
    case Starred => simp [ev] at h
    all_goals exact ⟨fun op => rfl, fun _ _ => rfl, fun _ _ => rfl, fun _ _ _ _ => nofun⟩
theorem index_ty : typeOf (.builtin "list.index") = pure (.type "method_descriptor") := by kernel_rfl
theorem indexD_int {a b d : D} (h : indexD a b = some d) : ∃ i, b = .int i := by
  unfold indexD at h
  split at h
  · exact ⟨_, rfl⟩
  · cases h
section
variable {T : Th w} {C : Cfg} {dp un : Nat}
theorem partS {k : Ks} {ρ : Bs} {f : PySem.Expr → Option D} (hf : ∀ e d, f e = some d → SE T dp un k ρ e d) {o : Option PySem.Expr} {r : Option Int} (e : optD f o = some r)
    {env Y h gg dd tt os A} (EO : EnvOK T Y env k ρ h) (hi : T.Inv h) (hy : YOK Y h) (hh : A.handled = none) (hd : A.depth ≤ dp) (hu : A.units ≤ un) :
    wpAny (model P w) A (evalPart o env) (fun v s' => ∃ h' tk, s' = ⟨h', gg, dd, tk, os⟩ ∧ Kp T.XT h h' ∧ T.Inv h' ∧ IsPart v r) FF ⟨h, gg, dd, tt, os⟩ := by
  cases o with
  | none => cases e; exact wpAny_pure ⟨h, tt, rfl, Kp.refl h, hi, .none⟩
  | some x =>
    unfold optD at e
    obtain ⟨d, e2, e⟩ := Option.bind_eq_some_iff.mp e
    obtain ⟨i, e1, e⟩ := Option.bind_eq_some_iff.mp e
    split at e
    · cases e
      rw [evalPart_some]
      refine wmono ((hf x d e2).run EO hi hy hh hd hu) ?_
      rintro v _ ⟨h', tk, rfl, kp, iv, r⟩
      cases d <;> cases e1
      cases r
      exact ⟨h', tk, rfl, kp, iv, .int _ _⟩
    · cases e
theorem evS (CO : CallsOK T C dp un) : ∀ (n : Nat) (k : Ks) (ρ : Bs) (e : PySem.Expr) (d : D), ev C n k ρ e = some d → SE T dp un k ρ e d
  | 0, k, ρ, e, d, h => by simp [ev] at h
  | n + 1, k, ρ, e, d, hev => by
    have ih : ∀ k ρ e d, ev C n k ρ e = some d → plainE e ∧ SE T dp un k ρ e d := fun k ρ e d h => ⟨ev_plain h, evS CO n k ρ e d h⟩
    have ih2 : ∀ k ρ e d, ev C n k ρ e = some d → SE T dp un k ρ e d := fun k ρ e d h => evS CO n k ρ e d h
    have room := CO.room
    have callc : ∀ {A : Around} {env : Env} {Y h1 gg dd tt os h0 q v as pos r} , A.handled = none → A.depth ≤ dp → A.units ≤ un → EnvOK T Y env k ρ h1 → T.Inv h1 → YOK Y h1 → Rep T.O Y h1 v (.opq q) → Kp T.XT h0 h1 →
        (∃ ds, allM (ev C n k ρ) as = some ds ∧ C.call q ds = some r) → as ≠ [] →
        wpAny (model P w) A (callWith pos v [] (backTo pos (starEach as env)) []) (Post T Y h0 gg dd os r) FF ⟨h1, gg, dd, tt, os⟩ := by
      intro A env Y h1 gg dd tt os h0 q v as pos r hh hd hu EO i1 y1 rv k01 ⟨ds, ha, hc⟩ hne
      cases rv with | opq o =>
      have hp := plain_any (env := env) (pos := pos) (fun e d h => (ih k ρ e d h).1) as ds ha
      refine callWith_of (P := fun g => T.O Y g v q ∧ T.Inv g ∧ YOK Y g) (by rw [hp]; rfl) (fun g z => CO.keeper hc z.1 z.2.1 z.2.2) ?_
      cases as with
      | nil => exact absurd rfl hne
      | cons a as =>
        obtain ⟨d1, e1, _⟩ := Option.bind_eq_some_iff.mp ha
        have st := (ih k ρ a d1 e1).1.star as env
        have sp := spl (T := T) (dp := dp) (un := un) (fun e d h => ih k ρ e d h) pos (a :: as) ds ha EO i1 y1 hh hd hu (gg := gg) (dd := dd) (tt := tt) (os := os)
        rw [st] at sp ⊢
        refine Calls.evalArgs_plain (wmono sp ?_)
        rintro vs _ ⟨h2, t2, rfl, k2, i2, r2⟩
        have y2 := y1.kp i1 k2
        have o2 := T.o_kp o y1.w i1 (kpw k2)
        exact ⟨⟨o2, i2, y2⟩, wmono (CO.call hc o2 r2 i2 y2 hh hd hu) fun _ _ z => (z.after k2).after k01⟩
    unfold ev at hev
    split at hev
    · cases hev
    · cases hev
      exact ⟨fun EO hi hy hh hd hu => wpAny_Constant_int (Post.same hi (.int _ _))⟩
    · cases hev
      exact ⟨fun EO hi hy hh hd hu => wpAny_Constant_none (Post.same hi .none)⟩
    · cases hev
      exact ⟨fun EO hi hy hh hd hu => wpAny_Constant_bool (Post.same hi (.bool _))⟩
    · exact SE.name CO.g hev
    · -- BinOp
      rename_i n' k' ρ' l op r p hn
      cases hn
      obtain ⟨d1, e1, hev⟩ := Option.bind_eq_some_iff.mp hev
      obtain ⟨d2, e2, hev⟩ := Option.bind_eq_some_iff.mp hev
      constructor
      intro env Y h gg dd tt os A EO hi hy hh hd hu
      refine wpAny_BinOp (wmono ((ih2 _ _ _ _ e1).run EO hi hy hh hd hu) ?_)
      rintro v _ ⟨h1, t1, rfl, k1, i1, r1⟩
      have y1 := hy.kp hi k1
      refine wmono ((ih2 _ _ _ _ e2).run (EO.kp hi hy.w k1) i1 y1 hh hd hu) ?_
      rintro v2 _ ⟨h2, t2, rfl, k2, i2, r2⟩
      exact wmono (s_bin hev (r1.kp i1 y1.w (kpw k2)) r2 i2 (y1.kp i1 k2)) fun _ _ z => (z.after k2).after k1
    · -- USub
      rename_i n' k' ρ' x p hn
      cases hn
      obtain ⟨d1, e2, hev⟩ := Option.bind_eq_some_iff.mp hev
      obtain ⟨i, e1, hev⟩ := Option.bind_eq_some_iff.mp hev
      cases hev
      constructor
      intro env Y h gg dd tt os A EO hi hy hh hd hu
      refine wpAny_UnaryOp (wmono ((ih2 _ _ _ _ e2).run EO hi hy hh hd hu) ?_)
      rintro v _ ⟨h1, t1, rfl, k1, i1, r1⟩
      cases d1 <;> cases e1
      cases r1
      exact PyProof.Rows.neg_int (Post.after k1 (Post.same i1 (.int _ _)))
    · -- Attribute
      rename_i n' k' ρ' x p1 nm p hn
      cases hn
      split at hev
      · rename_i hc
        have hnm := beq_iff_eq.mp hc
        subst hnm
        obtain ⟨d1, e1, hev⟩ := Option.bind_eq_some_iff.mp hev
        split at hev
        · rename_i row i
          cases hev
          constructor
          intro env Y h gg dd tt os A EO hi hy hh hd hu
          rw [arm_eval_Attribute]
          refine wpAny_bind (wmono ((ih2 _ _ _ _ e1).run EO hi hy hh hd hu) ?_)
          rintro v _ ⟨h1, t1, rfl, k1, i1, r1⟩
          cases r1 with | opq o =>
          refine wpAny_bind (wpAny_standAt (wpAny_bind (wpAny_holding (T.attr o i1 hh (by have := CO.deep; omega) (by have := CO.deep; omega) fun t h2 tk k2 => ?_))))
          have k2' : Kp XN h1 h2 := ⟨fun b o _ e => k2 b o e⟩
          exact wpAny_bind (wpAny_pure (wpAny_pure ⟨h2, tk, rfl, k1.trans k2'.xn, T.inv_y (Y := XN) i1 (fun _ z => z.elim) k2', .int _ _⟩))
        · cases hev
      · cases hev
    · -- IfExp
      rename_i n' k' ρ' t b o p hn
      cases hn
      obtain ⟨c, e1, hev⟩ := Option.bind_eq_some_iff.mp hev
      constructor
      intro env Y h gg dd tt os A EO hi hy hh hd hu
      refine wpAny_IfExp (wmono ((trS room (ih _ _) n t c e1).run EO hi hy hh hd hu) ?_)
      rintro v _ ⟨h1, t1, rfl, rfl, k1, i1⟩
      have y1 := hy.kp hi k1
      cases v with
      | true => exact wmono ((ih2 _ _ _ _ hev).run (EO.kp hi hy.w k1) i1 y1 hh hd hu) fun _ _ z => z.after k1
      | false => exact wmono ((ih2 _ _ _ _ hev).run (EO.kp hi hy.w k1) i1 y1 hh hd hu) fun _ _ z => z.after k1
    · -- Compare
      rename_i n' k' ρ' l op r p hn
      cases hn
      obtain ⟨d1, e1, hev⟩ := Option.bind_eq_some_iff.mp hev
      obtain ⟨d2, e2, hev⟩ := Option.bind_eq_some_iff.mp hev
      obtain ⟨b, e0, hev⟩ := Option.bind_eq_some_iff.mp hev
      cases hev
      constructor
      intro env Y h gg dd tt os A EO hi hy hh hd hu
      refine wpAny_Compare1 (wmono ((ih2 _ _ _ _ e1).run EO hi hy hh hd hu) ?_) ((ih _ _ r d2 e2).1.set op)
      rintro v _ ⟨h1, t1, rfl, k1, i1, r1⟩
      have y1 := hy.kp hi k1
      refine wmono ((ih2 _ _ _ _ e2).run (EO.kp hi hy.w k1) i1 y1 hh hd hu) ?_
      rintro v2 _ ⟨h2, t2, rfl, k2, i2, r2⟩
      exact s_cmp e0 (r1.kp i1 y1.w (kpw k2)) r2 (by omega) (((Post.same i2 (.bool _)).after k2).after k1)
    · -- index
      rename_i n' k' ρ' x p1 nm p2 a p3 hn
      cases hn
      split at hev
      · rename_i hc
        simp only [Bool.and_eq_true] at hc
        have hnm := beq_iff_eq.mp hc.1
        subst hnm
        obtain ⟨d1, e1, hev⟩ := Option.bind_eq_some_iff.mp hev
        obtain ⟨d2, e2, hev⟩ := Option.bind_eq_some_iff.mp hev
        constructor
        intro env Y h gg dd tt os A EO hi hy hh hd hu
        refine Call_method1 rfl ((ih _ _ a d2 e2).1.star [] env) hc.2 (wmono ((ih2 _ _ _ _ e1).run EO hi hy hh hd hu) ?_)
        rintro v _ ⟨h1, t1, rfl, k1, i1, r1⟩
        have y1 := hy.kp hi k1
        have late : ∀ {h2 : Heap} {v2 : Value} {t2 : Nat}, Kp T.XT h1 h2 → T.Inv h2 → Rep T.O Y h2 v2 d2 → wpAny (model P w) A (call (.builtin "list.index") [v, v2]) (Post T Y h gg dd os d) FF ⟨h2, gg, dd, t2, os⟩ := fun {h2 v2 t2} k2 i2 r2 =>
          wmono (s_index hev (r1.kp i1 y1.w (kpw k2)) r2 i2).1 fun _ _ z => (z.after k2).after k1
        obtain ⟨ii, rfl⟩ := indexD_int hev
        obtain ⟨l, its, rfl, pl⟩ := (s_index (prog := P) (A := A) (E := FF) (gg := gg) (dd := dd) (tt := t1) (os := os) hev r1 (Rep.int ii 0) i1).2
        · refine ⟨"list", "list.index", F.plainAttrs_list, F.slot_list_index, index_ty, pl.isList.typeIs, fun a e => ?_, ?_⟩
          · cases e
            obtain ⟨n, q⟩ := pl
            exact ⟨_, q, rfl⟩
          · refine Calls.callWith_builtin rfl (Calls.evalArgs_plain (Calls.spliced_cons (wmono ((ih2 _ _ _ _ e2).run (EO.kp hi hy.w k1) i1 y1 hh hd hu) ?_)))
            rintro v2 _ ⟨h2, t2, rfl, k2, i2, r2⟩
            exact Calls.spliced_nil (late k2 i2 r2)
      · cases hev
    · -- index
      rename_i n' k' ρ' v0 i0 p1 nm p2 a p3 hn
      cases hn
      split at hev
      · rename_i hc
        simp only [Bool.and_eq_true] at hc
        have hnm := beq_iff_eq.mp hc.1
        subst hnm
        obtain ⟨d1, e1, hev⟩ := Option.bind_eq_some_iff.mp hev
        obtain ⟨d2, e2, hev⟩ := Option.bind_eq_some_iff.mp hev
        constructor
        intro env Y h gg dd tt os A EO hi hy hh hd hu
        refine Call_method1 rfl ((ih _ _ a d2 e2).1.star [] env) hc.2 (wmono ((ih2 _ _ _ _ e1).run EO hi hy hh hd hu) ?_)
        rintro v _ ⟨h1, t1, rfl, k1, i1, r1⟩
        have y1 := hy.kp hi k1
        have late : ∀ {h2 : Heap} {v2 : Value} {t2 : Nat}, Kp T.XT h1 h2 → T.Inv h2 → Rep T.O Y h2 v2 d2 → wpAny (model P w) A (call (.builtin "list.index") [v, v2]) (Post T Y h gg dd os d) FF ⟨h2, gg, dd, t2, os⟩ := fun {h2 v2 t2} k2 i2 r2 =>
          wmono (s_index hev (r1.kp i1 y1.w (kpw k2)) r2 i2).1 fun _ _ z => (z.after k2).after k1
        obtain ⟨ii, rfl⟩ := indexD_int hev
        obtain ⟨l, its, rfl, pl⟩ := (s_index (prog := P) (A := A) (E := FF) (gg := gg) (dd := dd) (tt := t1) (os := os) hev r1 (Rep.int ii 0) i1).2
        · refine ⟨"list", "list.index", F.plainAttrs_list, F.slot_list_index, index_ty, pl.isList.typeIs, fun a e => ?_, ?_⟩
          · cases e
            obtain ⟨n, q⟩ := pl
            exact ⟨_, q, rfl⟩
          · refine Calls.callWith_builtin rfl (Calls.evalArgs_plain (Calls.spliced_cons (wmono ((ih2 _ _ _ _ e2).run (EO.kp hi hy.w k1) i1 y1 hh hd hu) ?_)))
            rintro v2 _ ⟨h2, t2, rfl, k2, i2, r2⟩
            exact Calls.spliced_nil (late k2 i2 r2)
      · cases hev
    · -- call of a name
      rename_i n' k' ρ' f p1 a as p hn
      cases hn
      obtain ⟨d1, e1, hev⟩ := Option.bind_eq_some_iff.mp hev
      split at hev
      · rename_i q
        obtain ⟨ds, e2, hev⟩ := Option.bind_eq_some_iff.mp hev
        constructor
        intro env Y h gg dd tt os A EO hi hy hh hd hu
        refine wpAny_Call_NameR (wmono ((ih2 _ _ _ _ e1).run EO hi hy hh hd hu) ?_)
        rintro v _ ⟨h1, t1, rfl, k1, i1, r1⟩
        exact callc hh hd hu (EO.kp hi hy.w k1) i1 (hy.kp hi k1) r1 k1 ⟨ds, e2, hev⟩ nofun
      · cases hev
    · -- call of an item
      rename_i n' k' ρ' v0 i0 p1 a as p hn
      cases hn
      obtain ⟨d1, e1, hev⟩ := Option.bind_eq_some_iff.mp hev
      split at hev
      · rename_i q
        obtain ⟨ds, e2, hev⟩ := Option.bind_eq_some_iff.mp hev
        constructor
        intro env Y h gg dd tt os A EO hi hy hh hd hu
        show wpAny _ _ (do callWith p (← eval (.Subscript v0 i0 p1) env) [] (backTo p (starEach (a :: as) env)) (backToKw p (keywordEach [] env))) _ _ _
        refine wpAny_bind (wmono ((ih2 _ _ _ _ e1).run EO hi hy hh hd hu) ?_)
        rintro v _ ⟨h1, t1, rfl, k1, i1, r1⟩
        exact callc hh hd hu (EO.kp hi hy.w k1) i1 (hy.kp hi k1) r1 k1 ⟨ds, e2, hev⟩ nofun
      · cases hev
    · -- slice
      rename_i n' k' ρ' v0 p1 l u s p2 p hn
      cases hn
      obtain ⟨d1, e1, hev⟩ := Option.bind_eq_some_iff.mp hev
      split at hev
      · rename_i xs
        obtain ⟨lo, el, hev⟩ := Option.bind_eq_some_iff.mp hev
        obtain ⟨hi', eu, hev⟩ := Option.bind_eq_some_iff.mp hev
        obtain ⟨st, es, hev⟩ := Option.bind_eq_some_iff.mp hev
        split at hev
        · rename_i hc
          cases hev
          constructor
          intro env Y h gg dd tt os A EO hi hy hh hd hu
          have h0 : st ≠ some 0 := by rintro rfl; simp at hc
          have fin : ∀ {h1 h4 : Heap} {va vl vu vs : Value} {t4 : Nat}, Kp T.XT h h1 → T.Inv h1 → Rep T.O Y h1 va (.list xs) → YOK Y h1 → Kp T.XT h1 h4 → T.Inv h4 → IsPart vl lo → IsPart vu hi' → IsPart vs st →
              (Shared.mk (h4.push { cls := .type "slice", data := .fields #[vl, vu, vs] }) gg dd t4 os).TypeIs va "list" ∧ wpAny (model P w) A (getItem va (.ref h4.objs.size)) (Post T Y h gg dd os (.list (slcD xs lo hi' st))) FF ⟨h4.push { cls := .type "slice", data := .fields #[vl, vu, vs] }, gg, dd, t4, os⟩ := by
            intro h1 h4 va vl vu vs t4 k1 i1 r1 y1 k4 i4 pl pu ps
            have r4 := r1.kp i1 y1.w (kpw k4)
            have y4 := y1.kp i1 k4
            cases r4 with | list la nl r =>
            rename_i a its
            have k5 : Kp XN h4 (h4.push { cls := .type "slice", data := .fields #[vl, vu, vs] }) := Kp.push _ _
            have i5 := T.inv_y (Y := XN) i4 (fun _ z => z.elim) k5
            have la5 := k5.plain (fun z => z) la
            have y5 := y4.kp i4 k5.xn
            have len := r.length
            rw [Array.length_toList] at len
            refine ⟨la5.isList.typeIs, wpAny_getItem_list_slice la5.isList (Heap.IsSliceOf.new ..) pl pu ps h0 ?_ (by rw [sizeLine_eq]; omega)⟩
            have k6 : Kp XN (h4.push { cls := .type "slice", data := .fields #[vl, vu, vs] }) ((h4.push { cls := .type "slice", data := .fields #[vl, vu, vs] }).push { cls := .type "list", data := .seq (slicePick its lo hi' st) }) := Kp.push _ _
            refine ⟨_, t4, rfl, (k1.trans k4).trans (k5.trans k6).xn, T.inv_y (Y := XN) i5 (fun _ z => z.elim) k6, .list ⟨_, Heap.get?_push_size _ rfl⟩ (fun z => Nat.lt_irrefl _ (y5.lt z)) ?_⟩
            have rp := ((r.kp i4 y4.w k5.xn).kp i5 y5.w k6.xn).pick (sliceRange (sliceBounds lo hi' st its.size).1 (sliceBounds lo hi' st its.size).2.1 (sliceBounds lo hi' st its.size).2.2)
            have q1 : (slicePick its lo hi' st).toList = (sliceRange (sliceBounds lo hi' st its.size).1 (sliceBounds lo hi' st its.size).2.1 (sliceBounds lo hi' st its.size).2.2).filterMap (its.toList[·]?) := by simp [slicePick]
            have q2 : slcD xs lo hi' st = (sliceRange (sliceBounds lo hi' st its.size).1 (sliceBounds lo hi' st its.size).2.1 (sliceBounds lo hi' st its.size).2.2).filterMap (xs[·]?) := by unfold slcD; rw [← len]
            rw [q1, q2]
            exact rp
          cases s with
          | none =>
            cases es
            refine wpAny_Subscript_Slice list_getitem_lookup (wmono ((ih2 _ _ _ _ e1).run EO hi hy hh hd hu) ?_)
            rintro va _ ⟨h1, t1, rfl, k1, i1, r1⟩
            have y1 := hy.kp hi k1
            refine wpAny_Slice (wmono (partS (ih2 _ _) el (EO.kp hi hy.w k1) i1 y1 hh hd hu) ?_)
            rintro vl _ ⟨h2, t2, rfl, k2, i2, pl⟩
            have y2 := y1.kp i1 k2
            refine wmono (partS (ih2 _ _) eu ((EO.kp hi hy.w k1).kp i1 y1.w k2) i2 y2 hh hd hu) ?_
            rintro vu _ ⟨h3, t3, rfl, k3, i3, pu⟩
            rw [evalPart_none]
            exact wpAny_pure (fin k1 i1 r1 y1 (k2.trans k3) i3 pl pu .none)
          | some sx =>
            refine wpAny_Subscript_Slice_step list_getitem_lookup (wmono ((ih2 _ _ _ _ e1).run EO hi hy hh hd hu) ?_)
            rintro va _ ⟨h1, t1, rfl, k1, i1, r1⟩
            have y1 := hy.kp hi k1
            refine wpAny_Slice (wmono (partS (ih2 _ _) el (EO.kp hi hy.w k1) i1 y1 hh hd hu) ?_)
            rintro vl _ ⟨h2, t2, rfl, k2, i2, pl⟩
            have y2 := y1.kp i1 k2
            have E2 := (EO.kp hi hy.w k1).kp i1 y1.w k2
            refine wmono (partS (ih2 _ _) eu E2 i2 y2 hh hd hu) ?_
            rintro vu _ ⟨h3, t3, rfl, k3, i3, pu⟩
            have y3 := y2.kp i2 k3
            refine wmono (partS (ih2 _ _) es (E2.kp i2 y2.w k3) i3 y3 hh hd hu) ?_
            rintro vs _ ⟨h4, t4, rfl, k4, i4, ps⟩
            exact fin k1 i1 r1 y1 ((k2.trans k3).trans k4) i4 pl pu ps
        · cases hev
      · cases hev
    · -- item
      rename_i n' k' ρ' v0 i0 p hs hn
      cases hn
      obtain ⟨d1, e1, hev⟩ := Option.bind_eq_some_iff.mp hev
      obtain ⟨d2, e2, hev⟩ := Option.bind_eq_some_iff.mp hev
      constructor
      intro env Y h gg dd tt os A EO hi hy hh hd hu
      refine Subscript_ (wmono ((ih2 _ _ _ _ e1).run EO hi hy hh hd hu) ?_)
      rintro v _ ⟨h1, t1, rfl, k1, i1, r1⟩
      have y1 := hy.kp hi k1
      refine wmono ((ih2 _ _ _ _ e2).run (EO.kp hi hy.w k1) i1 y1 hh hd hu) ?_
      rintro v2 _ ⟨h2, t2, rfl, k2, i2, r2⟩
      exact wmono (s_item hev (r1.kp i1 y1.w (kpw k2)) r2 i2 (ih _ _ _ _ e2).1.slice) fun _ _ z => (z.after k2).after k1
    · -- list
      rename_i n' k' ρ' es p hn
      cases hn
      split at hev
      · rename_i hlen
        obtain ⟨ds, e1, hev⟩ := Option.bind_eq_some_iff.mp hev
        cases hev
        constructor
        intro env Y h gg dd tt os A EO hi hy hh hd hu
        refine wpAny_List (wmono (spl (ih _ _) p es ds e1 EO hi hy hh hd hu) ?_)
        rintro vs _ ⟨h1, t1, rfl, k1, i1, r1⟩
        have y1 := hy.kp hi k1
        have l1 := r1.length
        have l2 := allM_length es ds e1
        have k2 : Kp XN h1 (h1.push { cls := .type "list", data := .seq vs.toArray }) := Kp.push _ _
        exact ⟨by rw [sizeLine_eq]; omega, Post.after k1 (Post.push i1 y1 (.list ⟨_, Heap.get?_push_size _ rfl⟩ (fun z => Nat.lt_irrefl _ (y1.lt z)) (by simpa using r1.kp i1 y1.w k2.xn)))⟩
      · cases hev
    · -- tuple
      rename_i n' k' ρ' es c p hn
      cases hn
      split at hev
      · rename_i hlen
        obtain ⟨ds, e1, hev⟩ := Option.bind_eq_some_iff.mp hev
        cases hev
        constructor
        intro env Y h gg dd tt os A EO hi hy hh hd hu
        refine wpAny_Tuple (wmono (spl (ih _ _) p es ds e1 EO hi hy hh hd hu) ?_)
        rintro vs _ ⟨h1, t1, rfl, k1, i1, r1⟩
        have y1 := hy.kp hi k1
        have l1 := r1.length
        have l2 := allM_length es ds e1
        have k2 : Kp XN h1 (h1.push { cls := .type "tuple", data := .seq vs.toArray }) := Kp.push _ _
        exact ⟨by rw [sizeLine_eq]; omega, Post.after k1 (Post.push i1 y1 (.tuple ⟨_, Heap.get?_push_size _ rfl, rfl, _, rfl⟩ (fun z => Nat.lt_irrefl _ (y1.lt z)) (by simpa using r1.kp i1 y1.w k2.xn)))⟩
      · cases hev
    · -- comprehension
      rename_i n' k' ρ' elt x px iter ifs sc p hn
      cases hn
      obtain ⟨d0, e0, hev⟩ := Option.bind_eq_some_iff.mp hev
      obtain ⟨xs, e1, hev⟩ := Option.bind_eq_some_iff.mp hev
      split at hev
      · rename_i hc
        obtain ⟨ys, e2, hev⟩ := Option.bind_eq_some_iff.mp hev
        cases hev
        constructor
        intro env Y h gg dd tt os A EO hi hy hh hd hu
        rw [eval_ListComp]
        refine compS (use := none) EO hi hy hh hd hu (okC_of hc.2) (ih _ _ _ _ e0).1 (ih2 _ _ _ _ e0) e1 hc.1 ?_ ?_ e2 ?_
        · intro d b hb
          unfold testD at hb
          split at hb
          · cases hb; exact .inl ⟨rfl, rfl⟩
          · exact .inr ⟨_, rfl, trS room (ih _ _) n _ _ hb⟩
          · cases hb
        · intro d y hy; exact ih2 _ _ _ _ hy
        · intro h' tk acc C0 k1 i1 r1 _ nC bC nsC
          obtain ⟨m, hm⟩ := nsC
          refine ⟨m, hm, fun h'' hs => ?_⟩
          dsimp only at hs ⊢
          have kC : Kp (fun a => a = C0) h' h'' := ⟨fun b o n e => hs.extBut b o n e⟩
          have yw : YW (fun a => a = C0) h' := by
            rintro a rfl
            refine ⟨bC, fun o e => ?_⟩
            obtain ⟨o', es, ep, e', q, _⟩ := hm
            rw [e] at e'; cases e'
            exact .inl ⟨_, _, q⟩
          have yw2 : YW (fun a => Y a ∨ a = C0) h' := fun a z => z.elim (fun z => (hy.kp hi k1).w a z) (fun z => yw a z)
          refine ⟨h'', tk, rfl, ⟨fun b o n e => hs.extBut b o (fun z => ?_) (k1.at' b o n e)⟩, T.inv_y i1 yw kC, ?_⟩
          · rw [z, nC] at e; cases e
          · exact (r1.kp i1 yw2 (kC.wide fun a z => .inr (.inr z))).y fun a z => .inl (.inl z)
      · cases hev
    · cases hev
end
end Mine
namespace Mine
set_option maxRecDepth 100000
variable {w : World}
/-! the plain reading of statements -/
inductive Fl where
  | next
  | brk
  | ret (d : D)
def stk (k : Ks) (x : Str) : Bool := k.lookup x == some .local || k.lookup x == some .cell
def nmE : PySem.Expr → Option Str
  | .Name x _ => some x
  | _ => none
theorem nmE_eq {e : PySem.Expr} {x : Str} (h : nmE e = some x) : ∃ q, e = .Name x q := by
  unfold nmE at h
  split at h
  · cases h; exact ⟨_, rfl⟩
  · cases h
def storeAll (k : Ks) : List PySem.Expr → Bs → List D → Option Bs
  | [], ρ, [] => some ρ
  | e :: es, ρ, d :: ds => do
    let x ← nmE e
    if stk k x then storeAll k es ((x, d) :: ρ) ds else none
  | _, _, _ => none
def tupD : D → Option (List D)
  | .tuple ds => some ds
  | _ => none
def exsW (f : Bs → Stmt → Option (Fl × Bs)) : Bs → List Stmt → Option (Fl × Bs)
  | ρ, [] => some (.next, ρ)
  | ρ, s :: r => do
    match ← f ρ s with
    | (.next, ρ') => exsW f ρ' r
    | q => some q
def forW (f : Bs → D → Option (Fl × Bs)) : Bs → List D → Option (Fl × Bs)
  | ρ, [] => some (.next, ρ)
  | ρ, d :: r => do
    match ← f ρ d with
    | (.next, ρ') => forW f ρ' r
    | (.brk, ρ') => some (.next, ρ')
    | (.ret v, ρ') => some (.ret v, ρ')
def ex (C : Cfg) : Nat → Ks → Bs → Stmt → Option (Fl × Bs)
  | 0, _, _, _ => none
  | n + 1, k, ρ, .Assign [.Name x _] v _ => do
    let d ← ev C n k ρ v
    if stk k x then some (.next, (x, d) :: ρ) else none
  | n + 1, k, ρ, .Assign [.Tuple es _ _] (.Name y p) _ => do
    let ds ← tupD (← ev C n k ρ (.Name y p))
    let ρ' ← storeAll k es ρ ds
    some (.next, ρ')
  | n + 1, k, ρ, .If t b o _ => do
    if ← trW (ev C n k ρ) n t then exsW (ex C n k) ρ b else exsW (ex C n k) ρ o
  | n + 1, k, ρ, .For (.Name x _) iter body [] _ => do
    let xs ← iterL (← ev C n k ρ iter)
    if stk k x then forW (fun ρ d => exsW (ex C n k) ((x, d) :: ρ) body) ρ xs else none
  | _ + 1, _, ρ, .Break _ => some (.brk, ρ)
  | n + 1, k, ρ, .Return (some e) _ => do some (.ret (← ev C n k ρ e), ρ)
  | _, _, _, _ => none
/-! and that it is sound -/
structure FrOK (S : AP) (env : Env) (k : Ks) : Prop where
  loc : S env.locals
  cell : ∀ x c, k.lookup x = some .cell → env.cells.lookup x = some c → S c ∧ ∀ y, env.cells.lookup y = some c → y = x
theorem FrOK.store {S Y : AP} {env : Env} {k : Ks} (F : FrOK S env k) (sy : ∀ a, S a → Y a) {x : Str} (hx : stk k x = true) :
    k.lookup x = some .local ∧ Y env.locals ∨ k.lookup x = some .cell ∧ ∀ c, env.cells.lookup x = some c → Y c ∧ ∀ y, env.cells.lookup y = some c → y = x := by
  simp only [stk, Bool.or_eq_true, beq_iff_eq] at hx
  rcases hx with h | h
  · exact .inl ⟨h, sy _ F.loc⟩
  · exact .inr ⟨h, fun c e => ⟨sy _ (F.cell x c h e).1, (F.cell x c h e).2⟩⟩
theorem FrOK.at {S : AP} {env : Env} {k : Ks} (F : FrOK S env k) {x : Str} {a : Addr} (h : k.lookup x = some .local ∧ a = env.locals ∨ k.lookup x = some .cell ∧ env.cells.lookup x = some a) : S a := by
  rcases h with ⟨_, rfl⟩ | ⟨a1, a2⟩
  · exact F.loc
  · exact (F.cell x a a1 a2).1
def FlOK (T : Th w) (Y : AP) (env : Env) (k : Ks) (ρ : Bs) (h : Heap) : Fl → Flow → Prop
  | .next, f => f = .next ∧ EnvOK T Y env k ρ h
  | .brk, f => f = .brk ∧ EnvOK T Y env k ρ h
  | .ret d, f => ∃ v, f = .ret v ∧ Rep T.O Y h v d
structure PS (T : Th w) (S Y : AP) (env : Env) (k : Ks) (ρ : Bs) (h : Heap) (gg : Array GenState) (dd : Drawn) (os : OsState) (fl : Fl) (f : Flow) (s' : Shared) : Prop where
  ex : ∃ h' tk, s' = ⟨h', gg, dd, tk, os⟩ ∧ Kp (fun a => T.XT a ∨ S a) h h' ∧ T.Inv h' ∧ YOK Y h' ∧ FlOK T Y env k ρ h' fl f
theorem PS.after {T : Th w} {S Y : AP} {env k ρ} {h h1 : Heap} {gg dd os fl f s'} (x : Kp (fun a => T.XT a ∨ S a) h h1) (p : PS T S Y env k ρ h1 gg dd os fl f s') : PS T S Y env k ρ h gg dd os fl f s' := by
  obtain ⟨h', tk, e, k, r⟩ := p.ex
  exact ⟨h', tk, e, x.trans k, r⟩
structure SX (T : Th w) (dp un : Nat) (k : Ks) (ρ : Bs) (t : Env → Sem Flow) (fl : Fl) (ρ' : Bs) : Prop where
  run : ∀ {env Y S h gg dd tt os A}, FrOK S env k → (∀ a, S a → Y a) → EnvOK T Y env k ρ h → T.Inv h → YOK Y h → A.handled = none → A.depth ≤ dp → A.units ≤ un →
    wpAny (model P w) A (t env) (PS T S Y env k ρ' h gg dd os fl) FF ⟨h, gg, dd, tt, os⟩
theorem EnvOK.y {T : Th w} {Y Y' : AP} {env k ρ} {h : Heap} (E : EnvOK T Y env k ρ h) (s : ∀ a, Y' a → Y a ∨ h.get? a = none) : EnvOK T Y' env k ρ h := by
  refine ⟨E.kind, E.names, E.glob, E.blt, ?_, fun x hx => ?_⟩
  · obtain ⟨m, n, r⟩ := E.ns
    refine ⟨m, n, fun x d a b => ?_⟩
    obtain ⟨v, q, z⟩ := r x d a b
    exact ⟨v, q, z.y s⟩
  · obtain ⟨c, u, a, b, r⟩ := E.cell x hx
    refine ⟨c, u, a, b, fun d q => ?_⟩
    obtain ⟨v, z, y⟩ := r d q
    exact ⟨v, z, y.y s⟩
/-- the environment outlasts a change at a place that is not its own -/
theorem EnvOK.kp1 {T : Th w} {Y : AP} {env k ρ} {h h' : Heap} {a : Addr} (E : EnvOK T Y env k ρ h) (hi : T.Inv h) (hy : YW Y h) (ya : Y a) (kp : ∀ b o, b ≠ a → h.get? b = some o → h'.get? b = some o)
    (nl : env.locals ≠ a) (nc : ∀ x c, (k.lookup x = some .cell ∨ k.lookup x = some .free) → env.cells.lookup x = some c → c ≠ a) : EnvOK T Y env k ρ h' := by
  have kw : Kp (fun b => T.XT b ∨ Y b) h h' := ⟨fun b o n e => kp b o (fun z => n (.inr (z ▸ ya))) e⟩
  have k1 : Kp (fun b => b = a) h h' := ⟨fun b o n e => kp b o n e⟩
  refine ⟨E.kind, E.names, E.glob, E.blt, ?_, fun x hx => ?_⟩
  · obtain ⟨m, n, r⟩ := E.ns
    refine ⟨m, k1.ns nl n, fun x d a b => ?_⟩
    obtain ⟨v, q, z⟩ := r x d a b
    exact ⟨v, q, z.kp hi hy kw⟩
  · obtain ⟨c, u, a, b, r⟩ := E.cell x hx
    refine ⟨c, u, a, k1.isCell (nc x c hx a) b, fun d q => ?_⟩
    obtain ⟨v, z, y⟩ := r d q
    exact ⟨v, z, y.kp hi hy kw⟩
theorem EnvOK.notfresh {T : Th w} {Y : AP} {env k ρ} {h : Heap} {a : Addr} (E : EnvOK T Y env k ρ h) (na : h.get? a = none) : env.locals ≠ a ∧ ∀ x c, (k.lookup x = some .cell ∨ k.lookup x = some .free) → env.cells.lookup x = some c → c ≠ a := by
  refine ⟨?_, fun x c hx e => ?_⟩
  · obtain ⟨m, ⟨o, es, ep, e, _⟩, _⟩ := E.ns
    rintro rfl; rw [na] at e; cases e
  · obtain ⟨c', u, q, ⟨o, z, _⟩, _⟩ := E.cell x hx
    rw [q] at e; cases e
    rintro rfl; rw [na] at z; cases z
/-- a store of a made value by an assignment -/
theorem storeNP {T : Th w} {S Y : AP} {env : Env} {k : Ks} {ρ : Bs} {x : Str} {v : Value} {d : D} {h : Heap} {gg dd tt os} {A : Around} {Q : Unit → Shared → Prop} {E : Value → Shared → Prop}
    (F : FrOK S env k) (sy : ∀ a, S a → Y a) (EO : EnvOK T Y env k ρ h) (hi : T.Inv h) (hy : YOK Y h) (r : Rep T.O Y h v d) (hx : stk k x = true)
    (hQ : ∀ h' tk, Kp (fun a => T.XT a ∨ S a) h h' → T.Inv h' → YOK Y h' → EnvOK T Y env k ((x, d) :: ρ) h' → (∀ b o, b ≠ env.locals → (∀ c, env.cells.lookup x = some c → b ≠ c) → h.get? b = some o → h'.get? b = some o) → Q () ⟨h', gg, dd, tk, os⟩) : wpAny (model P w) A (storeName env x v) Q E ⟨h, gg, dd, tt, os⟩ :=
  storeN EO hi hy r (F.store sy hx) fun h' tk a ya ha St =>
    hQ h' tk ⟨fun b o n e => St.kp b o (fun z => n (.inr (z ▸ F.at ha))) e⟩ (T.inv_y hi hy.w ⟨fun b o n e => St.kp b o (fun z => n (z ▸ ya)) e⟩) (hy.step St.kp St.kind) St.eok
      fun b o n1 n2 e => St.kp b o (fun z => by
        rcases ha with ⟨_, q⟩ | ⟨_, q⟩
        · exact n1 (z.trans q)
        · exact n2 a q z) e
theorem storeP {T : Th w} {S Y : AP} {env : Env} {k : Ks} {ρ : Bs} {x : Str} {p : Pos} {v : Value} {d : D} {h : Heap} {gg dd tt os} {A : Around} {Q : Unit → Shared → Prop} {E : Value → Shared → Prop}
    (F : FrOK S env k) (sy : ∀ a, S a → Y a) (EO : EnvOK T Y env k ρ h) (hi : T.Inv h) (hy : YOK Y h) (r : Rep T.O Y h v d) (hx : stk k x = true)
    (hQ : ∀ h' tk, Kp (fun a => T.XT a ∨ S a) h h' → T.Inv h' → YOK Y h' → EnvOK T Y env k ((x, d) :: ρ) h' → (∀ b o, b ≠ env.locals → (∀ c, env.cells.lookup x = some c → b ≠ c) → h.get? b = some o → h'.get? b = some o) → Q () ⟨h', gg, dd, tk, os⟩) : wpAny (model P w) A (assign (.Name x p) env v) Q E ⟨h, gg, dd, tt, os⟩ :=
  wpAny_assign_Name (storeNP F sy EO hi hy r hx hQ)
section
variable {T : Th w} {C : Cfg} {dp un : Nat}
theorem exsS {k : Ks} {f : Bs → Stmt → Option (Fl × Bs)} (hf : ∀ ρ s fl ρ', f ρ s = some (fl, ρ') → SX T dp un k ρ (exec s) fl ρ') : ∀ (ss : List Stmt) (ρ : Bs) (fl : Fl) (ρ' : Bs), exsW f ρ ss = some (fl, ρ') → SX T dp un k ρ (execs ss) fl ρ'
  | [], ρ, fl, ρ', e => by
    cases e
    exact ⟨fun F sy EO hi hy hh hd hu => wpAny_execs_nil ⟨_, _, rfl, Kp.refl _, hi, hy, rfl, EO⟩⟩
  | s :: ss, ρ, fl, ρ', e => by
    unfold exsW at e
    obtain ⟨⟨f1, ρ1⟩, e1, e⟩ := Option.bind_eq_some_iff.mp e
    constructor
    intro env Y S h gg dd tt os A F sy EO hi hy hh hd hu
    refine wpAny_execs_cons (wmono ((hf _ _ _ _ e1).run F sy EO hi hy hh hd hu) ?_)
    rintro g _ ⟨h1, t1, rfl, k1, i1, y1, fo⟩
    cases f1 with
    | next =>
      obtain ⟨rfl, EO1⟩ := fo
      exact wmono ((exsS hf ss _ _ _ e).run F sy EO1 i1 y1 hh hd hu) fun _ _ z => z.after k1
    | brk => cases e; obtain ⟨rfl, EO1⟩ := fo; exact ⟨_, _, rfl, k1, i1, y1, rfl, EO1⟩
    | ret d => cases e; obtain ⟨v, rfl, r⟩ := fo; exact ⟨_, _, rfl, k1, i1, y1, v, rfl, r⟩
end
end Mine
namespace Mine
set_option maxRecDepth 100000
variable {w : World}
section
variable {T : Th w} {C : Cfg} {dp un : Nat}
theorem forS {k : Ks} {f : Bs → D → Option (Fl × Bs)} {x : Str} {px pos : Pos} {iter : PySem.Expr} {body : List Stmt} {ρ ρ' : Bs} {fl : Fl} {d0 : D} {xs : List D}
    (hx : stk k x = true) (hf : ∀ ρ d fl ρ', f ρ d = some (fl, ρ') → SX T dp un k ((x, d) :: ρ) (execs body) fl ρ')
    (pi : plainE iter) (si : SE T dp un k ρ iter d0) (hxs : iterL d0 = some xs) (hres : forW f ρ xs = some (fl, ρ')) :
    SX T dp un k ρ (exec (.For (.Name x px) iter body [] pos)) fl ρ' := by
  constructor
  intro env Y S h gg dd tt os A F sy EO hi hy hh hd hu
  refine wpAny_For (wmono (si.run EO hi hy hh hd hu) ?_) (pi.fold env)
  rintro v _ ⟨he, te, rfl, ke, ie, re⟩
  have ye := hy.kp hi ke
  have EOe := EO.kp hi hy.w ke
  refine iterS hxs re ie ye hh fun h1 fp Pi St IT => ?_
  have nI : he.get? he.objs.size = none := none_of_le (Nat.le_refl _)
  obtain ⟨nl, nc⟩ := EOe.notfresh nI
  let Y2 : AP := fun a => Y a ∨ a = he.objs.size
  have yw : YW Y2 he := by
    rintro a (z | rfl)
    · exact ye.w a z
    · exact ⟨T.big ie, fun o e => by rw [nI] at e; cases e⟩
  have y2 : YOK Y2 h1 := by
    rintro a (z | rfl)
    · obtain ⟨l, o, e, kk⟩ := ye a z
      exact ⟨l, o, IT.kp.all _ _ e, kk⟩
    · obtain ⟨o, e, kk⟩ := IT.kind _ _ IT.st
      exact ⟨T.big ie, o, e, kk⟩
  have i1 : T.Inv h1 := T.inv_y (Y := XN) ie (fun _ z => z.elim) IT.kp
  have toY2 : ∀ a, Y2 a → Y a ∨ he.get? a = none := fun a z => z.imp id fun (z : a = he.objs.size) => by rw [z]; exact nI
  have E1 : EnvOK T Y2 env k ρ h1 := (EOe.y toY2).kp ie yw IT.kp.xn
  have sy2 : ∀ a, S a → Y2 a := fun a z => .inl (sy a z)
  have nSI : ¬ S he.objs.size := fun z => Nat.lt_irrefl _ (ye.lt (sy _ z))
  have back : ∀ {ρ g}, EnvOK T Y2 env k ρ g → EnvOK T Y env k ρ g := fun z => z.y fun a q => .inl (.inl q)
  have backY : ∀ {g}, YOK Y2 g → YOK Y g := fun z a q => z a (.inl q)
  refine codeAny_forLoop
    (fun n s' => ∃ h' tk j ρj, s' = ⟨h', gg, dd, tk, os⟩ ∧ j ≤ xs.length ∧ n = xs.length + 1 - j ∧ St j h' ∧ Kp (fun a => T.XT a ∨ S a) he h' ∧ T.Inv h' ∧ YOK Y2 h' ∧ EnvOK T Y2 env k ρj h' ∧ forW f ρj (xs.drop j) = some (fl, ρ')) ?_ (xs.length + 1)
    ⟨h1, te, 0, ρ, rfl, Nat.zero_le _, rfl, IT.st, IT.kp.xn, i1, y2, E1, by simpa using hres⟩
  rintro n s' ⟨h', tk, j, ρj, rfl, hj, rfl, st, kp, i', y', E', hw⟩
  by_cases hlt : j < xs.length
  · refine IT.walk.item j _ _ _ hlt st fun v h₁ tk₁ hP st₁ hk₁ => ?_
    dsimp only at hk₁ ⊢
    have kp1 : ∀ b o, b ≠ he.objs.size → h'.get? b = some o → h₁.get? b = some o := fun b o n e => hk₁ b o (by simpa using n) e
    obtain ⟨d, hd0, rd⟩ := IT.item j v hP hlt
    rw [drop_at hd0, forW] at hw
    obtain ⟨⟨f1, ρ1⟩, hb, hw⟩ := Option.bind_eq_some_iff.mp hw
    have kI : Kp Y2 h' h₁ := ⟨fun b o n e => kp1 b o (fun z => n (.inr z)) e⟩
    have i₁ := T.inv_y i' y'.w kI
    have y₁ : YOK Y2 h₁ := y'.step kp1 (IT.kind _ _ st₁)
    have E₁ : EnvOK T Y2 env k ρj h₁ := E'.kp1 i' y'.w (.inr rfl) kp1 nl nc
    have k₁ : Kp (fun a => T.XT a ∨ S a) he h₁ := ⟨fun b o n e => kp1 b o (fun z => by rw [z, nI] at e; cases e) (kp.at' b o n e)⟩
    have r₁ : Rep T.O Y2 h₁ v d := (rd.y toY2).kp ie yw (k₁.wide fun a z => z.imp id fun z => sy2 a z)
    have stS : ∀ {i g g'}, Kp (fun a => T.XT a ∨ S a) g g' → St i g → St i g' := fun q s => IT.walk.frame _ _ _ s fun b hb o e => q.at' b o (fun z => z.elim (IT.fp b hb).1 fun z => (IT.fp b hb).2.2 (sy b z)) e
    refine storeP F sy2 E₁ i₁ y₁ r₁ hx fun h₂ tk₂ k₂ i₂ y₂ E₂ _ => ?_
    have k₂' := k₁.trans k₂
    have st₂ := stS k₂ st₁
    refine wmono ((hf ρj d f1 ρ1 hb).run F sy2 E₂ i₂ y₂ hh hd hu) ?_
    rintro g _ ⟨h₃, t₃, rfl, k₃, i₃, y₃, fo⟩
    cases f1 with
    | next =>
      obtain ⟨rfl, E₃⟩ := fo
      exact ⟨xs.length + 1 - (j + 1), by omega, h₃, t₃, j + 1, ρ1, rfl, hlt, rfl, stS k₃ st₂, k₂'.trans k₃, i₃, y₃, E₃, hw⟩
    | brk =>
      obtain ⟨rfl, E₃⟩ := fo
      cases hw
      exact ⟨h₃, t₃, rfl, (ke.wide fun _ => .inl).trans (k₂'.trans k₃), i₃, backY y₃, rfl, back E₃⟩
    | ret v =>
      obtain ⟨u, rfl, r⟩ := fo
      cases hw
      exact ⟨h₃, t₃, rfl, (ke.wide fun _ => .inl).trans (k₂'.trans k₃), i₃, backY y₃, u, rfl, r.y fun a z => .inl (.inl z)⟩
  · have hjl : j = xs.length := by omega
    subst hjl
    rw [List.drop_length, forW] at hw
    cases hw
    refine IT.walk.done _ _ _ st fun h₁ tk₁ hk₁ => ?_
    dsimp only at hk₁ ⊢
    have kp1 : ∀ b o, b ≠ he.objs.size → h'.get? b = some o → h₁.get? b = some o := fun b o n e => hk₁ b o (by simpa using n) e
    have kI : Kp Y2 h' h₁ := ⟨fun b o n e => kp1 b o (fun z => n (.inr z)) e⟩
    refine wpAny_execs_nil ⟨h₁, tk₁, rfl, (ke.wide fun _ => .inl).trans ⟨fun b o n e => kp1 b o (fun z => by rw [z, nI] at e; cases e) (kp.at' b o n e)⟩, T.inv_y i' y'.w kI, fun a z => ?_, rfl, back (E'.kp1 i' y'.w (.inr rfl) kp1 nl nc)⟩
    obtain ⟨l, o, e, kk⟩ := y' a (.inl z)
    exact ⟨l, o, kp1 _ _ (fun q => by rw [q] at z; exact Nat.lt_irrefl _ (ye.lt z)) e, kk⟩
theorem swaps_plain {v : PySem.Expr} (h : ∀ a b c d, v ≠ .ListComp a b c d) (h2 : plainE v) (h3 : ∀ a b c d, v ≠ .SetComp a b c d) (h4 : ∀ a b c d e, v ≠ .DictComp a b c d e) (t : Option PySem.Expr) (l : Nat) (env : Env) : swapsWith v t l env = pure false := by
  cases v <;> first
    | rfl
    | (rename_i a b c d; exact absurd rfl (h a b c d))
    | (rename_i a b c d; exact absurd rfl (h3 a b c d))
    | (rename_i a b c d e; exact absurd rfl (h4 a b c d e))
end
end Mine
namespace Mine
set_option maxRecDepth 100000
variable {w : World}
section
variable {T : Th w} {C : Cfg} {dp un : Nat}
theorem evComp (CO : CallsOK T C dp un) {n : Nat} {k : Ks} {ρ : Bs} {elt : PySem.Expr} {gens : List Comprehension} {sc : Scope} {p : Pos} {d : D} (hev : ev C (n + 1) k ρ (.ListComp elt gens sc p) = some d) :
    ∃ x px iter ifs res, gens = [⟨.Name x px, iter, ifs, 0⟩] ∧ d = .list res ∧ ∀ {env Y h gg dd tt os A} {use : Option (Value → Sem Unit)} {Q : Value → Shared → Prop} {p0 : Pos}, EnvOK T Y env k ρ h → T.Inv h → YOK Y h → A.handled = none → A.depth ≤ dp → A.units ≤ un →
      (∀ h' tk acc C, Kp T.XT h h' → T.Inv h' → Rep T.O (fun a => Y a ∨ a = C) h' acc (.list res) → (∃ b, acc = .ref b ∧ h.get? b = none) → h.get? C = none → 87 ≤ C → (∃ m, h'.Ns C m) → compPost (model P w) A FF use Q acc C (.ok .next) ⟨h', gg, dd, tk, os⟩) →
      wpAny (model P w) A (comprehension (.ListComp elt [⟨.Name x px, iter, ifs, 0⟩] sc p) sc env p0 (newList []) false (eval iter env) use) Q FF ⟨h, gg, dd, tt, os⟩ := by
  unfold ev at hev
  split at hev <;> try contradiction
  rename_i n' k' ρ' elt' x px iter ifs sc' p' hn he
  cases hn; cases he
  obtain ⟨d0, e0, hev⟩ := Option.bind_eq_some_iff.mp hev
  obtain ⟨xs, e1, hev⟩ := Option.bind_eq_some_iff.mp hev
  split at hev
  · rename_i hc
    obtain ⟨ys, e2, hev⟩ := Option.bind_eq_some_iff.mp hev
    cases hev
    refine ⟨x, px, iter, ifs, ys, rfl, rfl, fun EO hi hy hh hd hu hQ => ?_⟩
    refine compS EO hi hy hh hd hu (okC_of hc.2) (ev_plain e0) (evS CO _ _ _ _ _ e0) e1 hc.1 ?_ ?_ e2 hQ
    · intro d b hb
      unfold testD at hb
      split at hb
      · cases hb; exact .inl ⟨rfl, rfl⟩
      · exact .inr ⟨_, rfl, trS CO.room (fun e d h => ⟨ev_plain h, evS CO _ _ _ _ _ h⟩) _ _ _ hb⟩
      · cases hb
    · intro d y hy; exact evS CO _ _ _ _ _ hy
  · cases hev
theorem swaps_comp {elt : PySem.Expr} {gens : List Comprehension} {sc : Scope} {p q : Pos} {x : Str} {l : Nat} {env : Env} :
    swapsWith (.ListComp elt gens sc p) (some (.Name x q)) l env = pure (env.blockKind == .function && env.kindOf x == some .local && q.line == p.line && !(sc.names.any fun (n, k) => n == x && (k == .local || k == .cell))) := rfl
theorem use_eq (elt : PySem.Expr) (x : Str) (px : Pos) (iter : PySem.Expr) (ifs : List PySem.Expr) (sc : Scope) (p : Pos) (env : Env) (use : Value → Sem Unit) :
    evalThenUse (.ListComp elt [⟨.Name x px, iter, ifs, 0⟩] sc p) env use = (do let _ ← comprehension (.ListComp elt [⟨.Name x px, iter, ifs, 0⟩] sc p) sc env (firstIterPos [⟨.Name x px, iter, ifs, 0⟩] p) (newList []) false (eval iter env) (some use)) := rfl
theorem asgS (CO : CallsOK T C dp un) {n : Nat} {k : Ks} {ρ : Bs} {v : PySem.Expr} {d : D} {x : Str} {q p : Pos} (hev : ev C n k ρ v = some d) (hx : stk k x = true) : SX T dp un k ρ (exec (.Assign [.Name x q] v p)) .next ((x, d) :: ρ) := by
  constructor
  intro env Y S h gg dd tt os A F sy EO hi hy hh hd hu
  have plain : swapsWith v (some (.Name x q)) p.line env = pure false → wpAny (model P w) A (exec (.Assign [.Name x q] v p) env) (PS T S Y env k ((x, d) :: ρ) h gg dd os .next) FF ⟨h, gg, dd, tt, os⟩ := by
    intro hs
    refine wpAny_Assign_Name (wmono ((evS CO _ _ _ _ _ hev).run EO hi hy hh hd hu) ?_) hs
    rintro u _ ⟨h1, t1, rfl, k1, i1, r1⟩
    have y1 := hy.kp hi k1
    exact storeNP F sy (EO.kp hi hy.w k1) i1 y1 r1 hx fun h2 t2 k2 i2 y2 E2 _ => ⟨h2, t2, rfl, (k1.wide fun _ => .inl).trans k2, i2, y2, rfl, E2⟩
  by_cases hc : ∃ a b c e, v = .ListComp a b c e
  · obtain ⟨elt, gens, sc, pc, rfl⟩ := hc
    cases n with
    | zero => simp [ev] at hev
    | succ n =>
      rcases hb : (env.blockKind == .function && env.kindOf x == some .local && q.line == pc.line && !(sc.names.any fun (n, k) => n == x && (k == .local || k == .cell))) with _ | _
      · exact plain (by rw [swaps_comp, hb])
      · obtain ⟨y, py, iter, ifs, res, rfl, rfl, comp⟩ := evComp CO hev
        rw [exec_Assign_Name_used x q _ p (by rw [swaps_comp, hb]), use_eq]
        suffices key : wpAny (model P w) A (comprehension (.ListComp elt [⟨.Name y py, iter, ifs, 0⟩] sc pc) sc env (firstIterPos [⟨.Name y py, iter, ifs, 0⟩] pc) (newList []) false (eval iter env) (some (assign (.Name x q) env)))
            (fun _ s' => PS T S Y env k ((x, .list res) :: ρ) h gg dd os .next .next s') FF ⟨h, gg, dd, tt, os⟩ by
          refine wpAny_bind (wpAny_standAt (wpAny_bind (wpAny_bind (wmono key ?_))))
          intro _ _ z
          refine wpAny_pure ?_
          exact wpAny_pure z
        refine comp (use := some (assign (.Name x q) env)) (Q := fun _ s' => PS T S Y env k ((x, .list res) :: ρ) h gg dd os .next .next s') EO hi hy hh hd hu ?_
        intro h' tk acc C0 k1 i1 r1 _ nC bC nsC
        obtain ⟨m, hm⟩ := nsC
        obtain ⟨nl, nc⟩ := EO.notfresh nC
        let Y2 : AP := fun a => Y a ∨ a = C0
        have nYC : ¬ Y C0 := fun z => by
          obtain ⟨_, o, e, _⟩ := hy C0 z
          rw [nC] at e; cases e
        have sy2 : ∀ a, S a → Y2 a := fun a z => .inl (sy a z)
        have yw : YW Y2 h := by
          rintro a (z | rfl)
          · exact hy.w a z
          · exact ⟨bC, fun o e => by rw [nC] at e; cases e⟩
        have y1 := hy.kp hi k1
        have y2 : YOK Y2 h' := by
          rintro a (z | rfl)
          · exact y1 a z
          · obtain ⟨o, es, ep, e, q, _⟩ := id hm
            exact ⟨bC, o, e, .inl ⟨_, _, q⟩⟩
        have E1 : EnvOK T Y2 env k ρ h' := (EO.y fun a z => z.imp id fun (z : a = C0) => by rw [z]; exact nC).kp hi yw k1
        refine storeP F sy2 E1 i1 y2 r1 hx fun h2 t2 k2 i2 y2' E2 pres => ?_
        have ncx : ∀ c, env.cells.lookup x = some c → (k.lookup x = some .cell ∨ k.lookup x = some .free) → C0 ≠ c := fun c e hk => (nc x c hk e).symm
        have hm2 : h2.Ns C0 m := by
          obtain ⟨o, es, ep, e, q⟩ := hm
          refine ⟨o, es, ep, k2.at' _ _ (fun z => ?_) e, q⟩
          rcases z with z | z
          · exact absurd bC (Nat.not_le.mpr (T.xt i1 z).1)
          · exact nYC (sy _ z)
        refine ⟨m, hm2, fun h3 hs => ?_⟩
        dsimp only at hs ⊢
        have kC : ∀ b o, b ≠ C0 → h2.get? b = some o → h3.get? b = some o := fun b o n e => hs.extBut b o n e
        refine ⟨h3, t2, rfl, ⟨fun b o n e => kC b o (fun z => ?_) (k2.at' b o n (k1.at' b o (fun z => n (.inl z)) e))⟩, T.inv_y i2 y2'.w ⟨fun b o n e => kC b o (fun z => n (.inr z)) e⟩, fun a z => ?_, rfl, (E2.kp1 i2 y2'.w (.inr rfl) kC nl nc).y fun a z => .inl (.inl z)⟩
        · rw [z, nC] at e; cases e
        · obtain ⟨l, o, e, kk⟩ := y2' a (.inl z)
          exact ⟨l, o, kC _ _ (fun q => nYC (q ▸ z)) e, kk⟩
  · refine plain (swaps_plain (fun a b c e z => hc ⟨a, b, c, e, z⟩) (ev_plain hev) (fun a b c e z => ?_) (fun a b c e f z => ?_) _ _ _)
    · subst z; cases n <;> simp [ev] at hev
    · subst z; cases n <;> simp [ev] at hev
theorem storeAllS {k : Ks} : ∀ (es : List PySem.Expr) (ds : List D) (ρ ρ' : Bs), storeAll k es ρ ds = some ρ' → ∀ {env Y S h gg dd tt os A} {vs : List Value} {E : Value → Shared → Prop} {Q : Unit → Shared → Prop}, FrOK S env k → (∀ a, S a → Y a) → EnvOK T Y env k ρ h → T.Inv h → YOK Y h → Reps T.O Y h vs ds →
    (∀ h' tk, Kp (fun a => T.XT a ∨ S a) h h' → T.Inv h' → YOK Y h' → EnvOK T Y env k ρ' h' → Q () ⟨h', gg, dd, tk, os⟩) →
    wpAny (model P w) A (assignInOrder ((assignEach es env).map (·.2)) vs) Q E ⟨h, gg, dd, tt, os⟩
  | [], [], ρ, ρ', e, env, Y, S, h, gg, dd, tt, os, A, vs, E, Q, F, sy, EO, hi, hy, r, hQ => by
    cases e; cases r
    exact wpAny_pure (hQ h tt (Kp.refl h) hi hy EO)
  | [], _ :: _, ρ, ρ', e, env, Y, S, h, gg, dd, tt, os, A, vs, E, Q, F, sy, EO, hi, hy, r, hQ => by cases e
  | _ :: _, [], ρ, ρ', e, env, Y, S, h, gg, dd, tt, os, A, vs, E, Q, F, sy, EO, hi, hy, r, hQ => by cases e
  | e0 :: es, d :: ds, ρ, ρ', e, env, Y, S, h, gg, dd, tt, os, A, vs, E, Q, F, sy, EO, hi, hy, r, hQ => by
    unfold storeAll at e
    obtain ⟨x, e1, e2⟩ := Option.bind_eq_some_iff.mp e
    obtain ⟨q, rfl⟩ := nmE_eq e1
    split at e2
    · rename_i hx
      cases r with | cons r1 r2 =>
      rename_i v vs
      show wpAny _ _ (do holding vs (assign (.Name x q) env v); assignInOrder ((assignEach es env).map (·.2)) vs) _ _ _
      refine wpAny_bind (wpAny_holding (storeP F sy EO hi hy r1 hx fun h1 t1 k1 i1 y1 E1 _ => ?_))
      refine storeAllS es ds _ _ e2 F sy E1 i1 y1 (r2.kp hi hy.w (k1.wide fun a z => z.imp id (sy a))) fun h2 t2 k2 i2 y2 E2 => hQ h2 t2 (k1.trans k2) i2 y2 E2
    · cases e2
theorem storeAll_len {k : Ks} {env : Env} {ρ' : Bs} : ∀ (es : List PySem.Expr) (ds : List D) (ρ : Bs), storeAll k es ρ ds = some ρ' → (assignEach es env).length = ds.length ∧ (assignEach es env).findIdx? (·.1) = none := by
  intro es
  induction es with
  | nil =>
    intro ds ρ e
    cases ds with
    | nil => exact ⟨rfl, rfl⟩
    | cons d ds => cases e
  | cons e0 es ih =>
    intro ds ρ e
    cases ds with
    | nil => cases e
    | cons d ds =>
      unfold storeAll at e
      obtain ⟨x, e1, e2⟩ := Option.bind_eq_some_iff.mp e
      obtain ⟨q, rfl⟩ := nmE_eq e1
      split at e2
      · obtain ⟨a, b⟩ := ih ds _ e2
        have h1 : assignEach (.Name x q :: es) env = (false, assign (.Name x q) env) :: assignEach es env := rfl
        rw [h1]
        refine ⟨by rw [List.length_cons, List.length_cons, a], ?_⟩
        rw [List.findIdx?_cons, b]
        rfl
      · cases e2
theorem exS (CO : CallsOK T C dp un) : ∀ (n : Nat) (k : Ks) (ρ : Bs) (st : Stmt) (fl : Fl) (ρ' : Bs), ex C n k ρ st = some (fl, ρ') → SX T dp un k ρ (exec st) fl ρ'
  | 0, k, ρ, st, fl, ρ', h => by simp [ex] at h
  | n + 1, k, ρ, st, fl, ρ', hex => by
    unfold ex at hex
    split at hex
    · cases hex
    · rename_i n' k' ρ0 x q v p hn
      cases hn
      obtain ⟨d, e1, hex⟩ := Option.bind_eq_some_iff.mp hex
      split at hex
      · rename_i hx
        cases hex
        exact asgS CO e1 hx
      · cases hex
    · rename_i n' k' ρ0 es c tp y p0 p hn
      cases hn
      obtain ⟨d, e1, hex⟩ := Option.bind_eq_some_iff.mp hex
      obtain ⟨ds, e2, hex⟩ := Option.bind_eq_some_iff.mp hex
      obtain ⟨ρ1, e3, hex⟩ := Option.bind_eq_some_iff.mp hex
      cases hex
      constructor
      intro env Y S h gg dd tt os A F sy EO hi hy hh hd hu
      refine Assign_Tuple (wmono ((evS CO _ _ _ _ _ e1).run EO hi hy hh hd hu) ?_)
      rintro v _ ⟨h1, t1, rfl, k1, i1, r1⟩
      have y1 := hy.kp hi k1
      cases d <;> cases e2
      cases r1 with | tuple la nl r =>
      rename_i a vs
      have len := r.length
      rw [Array.length_toList] at len
      obtain ⟨l1, l2⟩ := storeAll_len (env := env) es _ _ e3
      refine wpAny_assign_Tuple hh la (l1.trans len.symm) l2 fun h2 hs => ?_
      dsimp only at hs ⊢
      have k2 : Kp XN h1 h2 := ⟨fun b o _ e => hs b o (Nat.ne_of_lt (Heap.lt_size e)) e⟩
      have i2 := T.inv_y (Y := XN) i1 (fun _ z => z.elim) k2
      refine storeAllS es _ _ _ e3 F sy ((EO.kp hi hy.w k1).kp i1 y1.w k2.xn) i2 (y1.kp i1 k2.xn) (r.kp i1 y1.w k2.xn) fun h3 t3 k3 i3 y3 E3 => ?_
      exact ⟨h3, t3, rfl, (k1.wide fun _ => .inl).trans (k2.xn.trans k3), i3, y3, rfl, E3⟩
    · rename_i n' k' ρ0 t b o p hn
      cases hn
      obtain ⟨c, e1, hex⟩ := Option.bind_eq_some_iff.mp hex
      constructor
      intro env Y S h gg dd tt os A F sy EO hi hy hh hd hu
      refine wpAny_If (wmono ((trS CO.room (fun e d h => ⟨ev_plain h, evS CO _ _ _ _ _ h⟩) n t c e1).run EO hi hy hh hd hu) ?_)
      rintro v _ ⟨h1, t1, rfl, rfl, k1, i1⟩
      have y1 := hy.kp hi k1
      have E1 := EO.kp hi hy.w k1
      cases v with
      | true => exact wmono ((exsS (exS CO n _) b _ _ _ hex).run F sy E1 i1 y1 hh hd hu) fun _ _ z => z.after (k1.wide fun _ => .inl)
      | false => exact wmono ((exsS (exS CO n _) o _ _ _ hex).run F sy E1 i1 y1 hh hd hu) fun _ _ z => z.after (k1.wide fun _ => .inl)
    · rename_i n' k' ρ0 x px iter body p hn
      cases hn
      obtain ⟨d0, e0, hex⟩ := Option.bind_eq_some_iff.mp hex
      obtain ⟨xs, e1, hex⟩ := Option.bind_eq_some_iff.mp hex
      split at hex
      · rename_i hx
        exact forS hx (fun ρ d fl ρ' h => exsS (exS CO n _) body _ _ _ h) (ev_plain e0) (evS CO _ _ _ _ _ e0) e1 hex
      · cases hex
    · cases hex
      exact ⟨fun F sy EO hi hy hh hd hu => wpAny_Break ⟨_, _, rfl, Kp.refl _, hi, hy, rfl, EO⟩⟩
    · rename_i n' k' ρ0 e p hn
      cases hn
      obtain ⟨d, e1, hex⟩ := Option.bind_eq_some_iff.mp hex
      cases hex
      constructor
      intro env Y S h gg dd tt os A F sy EO hi hy hh hd hu
      refine wpAny_Return_some (wmono ((evS CO _ _ _ _ _ e1).run EO hi hy hh hd hu) ?_)
      rintro v _ ⟨h1, t1, rfl, k1, i1, r1⟩
      exact ⟨h1, t1, rfl, k1.wide fun _ => .inl, i1, hy.kp hi k1, v, rfl, r1⟩
    · cases hex
end
end Mine
namespace Mine
set_option maxRecDepth 100000
variable {w : World}
/-! entering a def -/
theorem cf_inj : ∀ (names : Ks) (n n0 : Nat) (acc : List (Str × Addr)), n0 ≤ n → (∀ z a, acc.lookup z = some a → a < n) → (∀ x y c, n0 ≤ c → acc.lookup x = some c → acc.lookup y = some c → x = y) →
    ∀ x y c, n0 ≤ c → (cellsFrom n names acc).lookup x = some c → (cellsFrom n names acc).lookup y = some c → x = y
  | [], _, _, _, _, _, hi => hi
  | (m, kk) :: r, n, n0, acc, hn, hlt, hi => by
    unfold cellsFrom
    split
    · refine cf_inj r (n + 1) n0 ((m, n) :: acc) (Nat.le_succ_of_le hn) (fun z a e => ?_) (fun x y c hc ex ey => ?_)
      · by_cases hz : z = m
        · subst hz; rw [lookup_cons_eq] at e; cases e; exact Nat.lt_succ_self _
        · rw [lookup_cons_ne hz] at e; exact Nat.lt_succ_of_lt (hlt z a e)
      · by_cases hx : x = m
        · by_cases hy : y = m
          · rw [hx, hy]
          · subst hx
            rw [lookup_cons_eq] at ex; cases ex
            rw [lookup_cons_ne hy] at ey
            exact absurd (hlt y _ ey) (Nat.lt_irrefl _)
        · rw [lookup_cons_ne hx] at ex
          by_cases hy : y = m
          · subst hy
            rw [lookup_cons_eq] at ey; cases ey
            exact absurd (hlt x _ ex) (Nat.lt_irrefl _)
          · rw [lookup_cons_ne hy] at ey
            exact hi x y c hc ex ey
    · exact cf_inj r n n0 acc hn hlt hi
/-- the names of a def, as its body sees them -/
structure DefK (sc : Scope) (clo : List (Str × Addr)) : Prop where
  kind : sc.kind = .function
  look : ∀ n kk, (n, kk) ∈ sc.names → sc.names.lookup n = some kk
section
variable {T : Th w} {C : Cfg} {dp un : Nat}
/-- what a def's free names hold -/
def FreeOK (T : Th w) (Y : AP) (h : Heap) (sc : Scope) (clo : List (Str × Addr)) (ρc : Bs) : Prop :=
  (∀ x d, ρc.lookup x = some d → sc.names.lookup x = some .free) ∧
  (∀ x, sc.names.lookup x = some .free → ∃ c u, clo.lookup x = some c ∧ h.IsCell c u ∧ ∀ d, ρc.lookup x = some d → ∃ v, u = some v ∧ Rep T.O Y h v d) ∧
  ∀ x c, clo.lookup x = some c → c < h.objs.size
structure Entered (T : Th w) (Y S : AP) (env : Env) (k : Ks) (ρ : Bs) (h h2 : Heap) : Prop where
  eok : EnvOK T (fun a => Y a ∨ S a) env k ρ h2
  yok : YOK (fun a => Y a ∨ S a) h2
  inv : T.Inv h2
  fr : FrOK S env k
  kp : Kp (fun a => T.XT a ∨ S a) h h2
  new : ∀ a, S a → h.get? a = none
  cells : ∀ x c, env.cells.lookup x = some c → S c ∨ c < env.locals
theorem bindsS {S Y : AP} {env : Env} {k : Ks} (F : FrOK S env k) (sy : ∀ a, S a → Y a) (f : Str × Value → PUnit → Sem (ForInStep PUnit)) (hf : ∀ n v u, f (n, v) u = (do storeName env n v; pure (.yield ⟨⟩))) :
    ∀ (ns : List Str) (vs : List Value) (ds : List D) (ρ : Bs), (∀ n ∈ ns, stk k n = true) → ns.length = ds.length → ∀ {h gg dd tt os A} {E : Value → Shared → Prop} {Q : PUnit → Shared → Prop}, EnvOK T Y env k ρ h → T.Inv h → YOK Y h → Reps T.O Y h vs ds →
      (∀ h' tk, Kp (fun a => T.XT a ∨ S a) h h' → T.Inv h' → YOK Y h' → EnvOK T Y env k ((ns.zip ds).reverse ++ ρ) h' → Q ⟨⟩ ⟨h', gg, dd, tk, os⟩) → wpAny (model P w) A (forIn (ns.zip vs) ⟨⟩ f) Q E ⟨h, gg, dd, tt, os⟩
  | [], vs, ds, ρ, hk, hl, h, gg, dd, tt, os, A, E, Q, EO, hi, hy, r, hQ => by
    cases ds with
    | nil => simp only [List.zip_nil_left, List.forIn_nil]; exact wpAny_pure (hQ h tt (Kp.refl h) hi hy EO)
    | cons => cases hl
  | n :: ns, vs, ds, ρ, hk, hl, h, gg, dd, tt, os, A, E, Q, EO, hi, hy, r, hQ => by
    cases r with
    | nil => cases hl
    | cons r1 r2 =>
      rename_i v d vs ds
      rw [List.zip_cons_cons, List.forIn_cons, hf]
      refine wpAny_bind (wpAny_bind (storeNP F sy EO hi hy r1 (hk n (.head _)) fun h1 t1 k1 i1 y1 E1 _ => wpAny_pure ?_))
      refine bindsS F sy f hf ns vs ds _ (fun m hm => hk m (.tail _ hm)) (Nat.succ.inj hl) E1 i1 y1 (r2.kp hi hy.w (k1.wide fun a z => z.imp id (sy a))) fun h2 t2 k2 i2 y2 E2 => hQ h2 t2 (k1.trans k2) i2 y2 ?_
      have e : ((n :: ns).zip (d :: ds)).reverse ++ ρ = (ns.zip ds).reverse ++ (n, d) :: ρ := by rw [List.zip_cons_cons, List.reverse_cons, List.append_assoc]; rfl
      rw [e]; exact E2
theorem enterS {Y : AP} {h : Heap} {gg dd tt os} {A : Around} {sc : Scope} {clo : List (Str × Addr)} {qual : Str} {func : Option Addr} {code : Value} {ρc : Bs} {ns : List Str} {vs : List Value} {ds : List D} {Q : Env → Shared → Prop} {E : Value → Shared → Prop}
    (dk : DefK sc clo) (fk : FreeOK T Y h sc clo ρc) (hn : ∀ n ∈ ns, stk sc.names n = true) (hl : ns.length = ds.length) (r : Reps T.O Y h vs ds) (hi : T.Inv h) (hy : YOK Y h)
    (hQ : ∀ env S h2 tk, env.code = code → env.func = func → env.qual = qual → Entered T Y S env sc.names ((ns.zip ds).reverse ++ ρc) h h2 → Q env ⟨h2, gg, dd, tk, os⟩) :
    wpAny (model P w) A (newFunctionEnv sc 3 clo (ns.zip vs) qual func code none 0) Q E ⟨h, gg, dd, tt, os⟩ := by
  simp only [newFunctionEnv, Option.isSome_none, Bool.false_eq_true, if_false]
  refine wpAny_bind (wpAny_alloc ?_)
  refine wpAny_bind (wpAny_layCells _ (fun name kind cells => by cases hkc : kind == NameKind.cell <;> simp) _ _ _ _ ?_)
  generalize hhp : h.push { cls := .type "frame", data := .dict #[] } = hp
  have hsp : hp.objs.size = h.objs.size + 1 := by rw [← hhp, Heap.size_push]
  dsimp only
  generalize hh2 : pushCells hp sc.names = h2
  have kA : Kp XN h hp := by rw [← hhp]; exact Kp.push _ _
  have kB : Kp XN hp h2 := by rw [← hh2]; exact Kp.ofKeeps (pushCells_keeps _ _)
  have kAB := kA.trans kB
  have hs2 : @LE.le Nat _ (h.objs.size + 1) h2.objs.size := by rw [← hsp, ← hh2]; exact pc_size _ _
  let S : AP := fun a => @LE.le Nat _ h.objs.size a ∧ @LT.lt Nat _ a h2.objs.size
  let Y2 : AP := fun a => Y a ∨ S a
  have new : ∀ a, S a → h.get? a = none := fun a z => none_of_le z.1
  have toY2 : ∀ a, Y2 a → Y a ∨ h.get? a = none := fun a z => z.imp id (new a)
  have yw : YW Y2 h := by
    rintro a (z | z)
    · exact hy.w a z
    · exact ⟨Nat.le_trans (T.big hi) z.1, fun o e => by rw [new a z] at e; cases e⟩
  have i2 : T.Inv h2 := T.inv_y (Y := XN) hi (fun _ z => z.elim) kAB
  have hL : h2.Ns h.objs.size (fun _ => none) := by
    refine kB.ns (fun z => z) ?_
    rw [← hhp]; exact Heap.Ns.new h (.type "frame")
  have y2 : YOK Y2 h2 := by
    rintro a (z | ⟨l1, l2⟩)
    · obtain ⟨q, o, e, kk⟩ := hy a z
      exact ⟨q, o, kAB.all _ _ e, kk⟩
    · have b87 : 87 ≤ a := Nat.le_trans (T.big hi) l1
      by_cases l3 : @Eq Nat a h.objs.size
      · rw [show a = h.objs.size from l3]
        obtain ⟨o, es, ep, e, q, _⟩ := id hL
        exact ⟨T.big hi, o, e, .inl ⟨_, _, q⟩⟩
      · have ce : h2.IsCell a none := by
          rw [← hh2]; exact pc_cells _ _ _ (by rw [hsp]; exact aLe (by omega)) (by rw [hh2]; exact l2)
        obtain ⟨o, e, q⟩ := ce
        exact ⟨b87, o, e, .inr (.inl ⟨_, q⟩)⟩
  let env : Env := { scope := sc, locals := h.objs.size, globals := 3, cells := cellsFrom (h.objs.size + 1) sc.names clo, qual, func, code, frame := some h.objs.size, builtins := 0 }
  have own : ∀ x, sc.names.lookup x = some .cell → ∃ c, env.cells.lookup x = some c ∧ @LE.le Nat _ (h.objs.size + 1) c ∧ h2.IsCell c none := fun x z => by
    obtain ⟨c, q, l, ce⟩ := cf_own x sc.names hp clo (mem_of_lookup z)
    rw [hsp] at q l
    rw [hh2] at ce
    exact ⟨c, q, l, ce⟩
  have fr : FrOK S env sc.names := by
    refine ⟨⟨Nat.le_refl _, hs2⟩, fun x c hx e => ?_⟩
    obtain ⟨c', q, l, ce⟩ := own x hx
    rw [q] at e; cases e
    refine ⟨⟨by omega, nLt ce.lt⟩, fun y ey => ?_⟩
    exact cf_inj sc.names (h.objs.size + 1) (h.objs.size + 1) clo (Nat.le_refl _) (fun z a e => Nat.lt_succ_of_lt (fk.2.2 z a e)) (fun x y c hc ex _ => absurd (fk.2.2 x c ex) (Nat.not_lt.mpr (Nat.le_trans (Nat.le_succ _) hc))) y x _ l ey q
  have E0 : EnvOK T Y2 env sc.names ρc h2 := by
    refine ⟨dk.kind, rfl, rfl, rfl, ⟨_, hL, fun x d a b => ?_⟩, fun x hx => ?_⟩
    · rw [fk.1 x d b] at a; cases a
    · rcases hx with hx | hx
      · obtain ⟨c, q, _, ce⟩ := own x hx
        refine ⟨c, none, q, ce, fun d b => ?_⟩
        rw [fk.1 x d b] at hx; cases hx
      · obtain ⟨c, u, q, ce, rr⟩ := fk.2.1 x hx
        refine ⟨c, u, ?_, ce.keeps kAB.all, fun d b => ?_⟩
        · show (cellsFrom (h.objs.size + 1) sc.names clo).lookup x = some c
          rw [cf_look x _ _ _ (fun m => by have := dk.look x _ m; rw [hx] at this; cases this)]; exact q
        · obtain ⟨v, z1, z2⟩ := rr d b
          exact ⟨v, z1, (z2.y toY2).kp hi yw kAB.xn⟩
  have e1 : ({ heap := hp, gens := gg, drawn := dd, toks := tt, os := os } : Shared).heap.objs.size = h.objs.size + 1 := hsp
  rw [hsp]
  refine wpAny_bind (bindsS fr (fun _ z => .inr z) _ (fun _ _ _ => rfl) ns vs ds _ hn hl E0 i2 y2 ((r.y toY2).kp hi yw kAB.xn) fun h3 t3 k3 i3 y3 E3 => wpAny_pure ?_)
  refine hQ env S h3 t3 rfl rfl rfl ⟨E3, y3, i3, fr, kAB.xn.trans k3, new, fun x c e => ?_⟩
  by_cases hm : (x, NameKind.cell) ∈ sc.names
  · exact .inl (fr.cell x c (dk.look x _ hm) e).1
  · exact .inr (fk.2.2 x c (by rw [← cf_look x _ (h.objs.size + 1) _ hm]; exact e))
end
end Mine
namespace Mine
set_option maxRecDepth 100000
variable {w : World}
section
variable {T : Th w}
theorem Entered.cellLt {Y S : AP} {env k ρ} {h h2 h' : Heap} (En : Entered T Y S env k ρ h h2) (y : ∀ a, S a → a < h'.objs.size) {x : Str} {c : Addr} (e : env.cells.lookup x = some c) : c < h'.objs.size := by
  rcases En.cells x c e with z | z
  · exact y _ z
  · exact Nat.lt_trans z (y _ En.fr.loc)
theorem Entered.post {Y S : AP} {env k ρ} {h h2 h' : Heap} {gg dd os tk} {v : Value} {d : D} (En : Entered T Y S env k ρ h h2) (k2 : Kp (fun a => T.XT a ∨ S a) h2 h') (i : T.Inv h') (r : Rep T.O Y h' v d) : Post T Y h gg dd os d v ⟨h', gg, dd, tk, os⟩ :=
  ⟨h', tk, rfl, ⟨fun b o n e => (En.kp.trans k2).at' b o (fun z => z.elim n fun z => by rw [En.new b z] at e; cases e) e⟩, i, r⟩
/-- a call of a def, its body by a proof of its own -/
theorem callB {Y : AP} {h : Heap} {gg dd tt os} {A : Around} {a : Addr} {o : Obj} {fd : FuncData} {body : List Stmt} {ρc : Bs} {ns : List Str} {vs : List Value} {ds : List D} {d : D}
    (ho : h.get? a = some o) (hd : o.data = .func fd) (hg : fd.globals = 3) (hbl : fd.builtins = 0) (hco : fd.scope.isCoroutine = false) (hgen : fd.scope.isGenerator = false) (hbody : fd.body = .stmts body) (hcd : h.CodeRec fd.code fd.qualname)
    (hbind : bindArgs fd ⟨vs, []⟩ = pure (ns.zip vs)) (dk : DefK fd.scope fd.closure) (fk : FreeOK T Y h fd.scope fd.closure ρc) (hn : ∀ n ∈ ns, stk fd.scope.names n = true) (hl : ns.length = ds.length)
    (r : Reps T.O Y h vs ds) (hi : T.Inv h) (hy : YOK Y h) (hroom : A.depth < recursionLimit)
    (hb : ∀ env S h2 tk, env.code = fd.code → env.qual = fd.qualname ++ ".<locals>." → Entered T Y S env fd.scope.names ((ns.zip ds).reverse ++ ρc) h h2 →
      wpAny (model P w) (A.deeper env) (execs body env) (fun f s' => ∃ h' tk v, s' = ⟨h', gg, dd, tk, os⟩ ∧ f = .ret v ∧ Kp (fun a => T.XT a ∨ S a) h2 h' ∧ T.Inv h' ∧ Rep T.O Y h' v d) FF ⟨h2, gg, dd, tk, os⟩) :
    wpAny (model P w) A (PySem.call (.ref a) vs) (Post T Y h gg dd os d) FF ⟨h, gg, dd, tt, os⟩ := by
  refine wpAny_call (codeAny_call_function hroom ho hd hco hgen hbody hcd ?_)
  rw [hbind, hg, hbl]
  refine wpAny_pure (enterS dk fk hn hl r hi hy fun env S h2 tk ec _ eq En => ⟨T.lim En.inv, codeAny_func ?_⟩)
  refine wpAny_mono (hb env S h2 tk ec eq En) ?_ fun _ _ z => z.elim
  rintro f _ ⟨h', tk', v, rfl, rfl, k2, i, rv⟩
  exact En.post k2 i rv
/-- a call of a def, its body by the plain reading -/
theorem callS {C : Cfg} {dp un : Nat} (CO : CallsOK T C dp un) {Y : AP} {h : Heap} {gg dd tt os} {A : Around} {a : Addr} {o : Obj} {fd : FuncData} {body : List Stmt} {ρc ρ' : Bs} {ns : List Str} {vs : List Value} {ds : List D} {d : D} {n : Nat}
    (hh : A.handled = none) (hdp : A.depth + 1 ≤ dp) (hun : A.units + 3 ≤ un)
    (ho : h.get? a = some o) (hd : o.data = .func fd) (hg : fd.globals = 3) (hbl : fd.builtins = 0) (hco : fd.scope.isCoroutine = false) (hgen : fd.scope.isGenerator = false) (hbody : fd.body = .stmts body) (hcd : h.CodeRec fd.code fd.qualname)
    (hbind : bindArgs fd ⟨vs, []⟩ = pure (ns.zip vs)) (dk : DefK fd.scope fd.closure) (fk : FreeOK T Y h fd.scope fd.closure ρc) (hn : ∀ n ∈ ns, stk fd.scope.names n = true) (hl : ns.length = ds.length)
    (r : Reps T.O Y h vs ds) (hi : T.Inv h) (hy : YOK Y h) (hroom : A.depth < recursionLimit)
    (hx : exsW (ex C n fd.scope.names) ((ns.zip ds).reverse ++ ρc) body = some (.ret d, ρ')) :
    wpAny (model P w) A (PySem.call (.ref a) vs) (Post T Y h gg dd os d) FF ⟨h, gg, dd, tt, os⟩ := by
  refine callB ho hd hg hbl hco hgen hbody hcd hbind dk fk hn hl r hi hy hroom fun env S h2 tk _ _ En => ?_
  refine wmono ((exsS (exS CO n _) body _ _ _ hx).run (A := A.deeper env) En.fr (fun _ z => .inr z) En.eok En.inv En.yok (by exact hh) ?_ ?_) ?_
  · show A.depth + 1 ≤ dp; exact hdp
  · show A.units + 3 ≤ un; exact hun
  rintro f _ ⟨h', tk', rfl, k2, i, _, v, rfl, rv⟩
  exact ⟨h', tk', v, rfl, rfl, k2, i, rv.y fun a z => .inl (.inl z)⟩
end
end Mine
namespace Mine
set_option maxRecDepth 100000
set_option maxHeartbeats 1000000
/-! the defs of the text; what holds throughout; what opaque things are -/
def defN (n : Nat) : DefP := match P.main.body[n]? with | some (.FunctionDef _ a b _ _ _ s _ _ pos) => ⟨a, b, s, pos⟩ | _ => ⟨default, default, default, default⟩
def inner (n i : Nat) : DefP := match (defN n).body[i]? with | some (.FunctionDef _ a b _ _ _ s _ _ pos) => ⟨a, b, s, pos⟩ | _ => ⟨default, default, default, default⟩
abbrev cmpDef : DefP := inner 10 0
abbrev askDef : DefP := inner 12 1
def qCmp : Str := "_law_by.<locals>._law_compare"
def qAsk : Str := "_law_run.<locals>._law_ask"
def T3 (h : Heap) (c P : Addr) (pos : Pos) (q : Str) : Prop := ∃ ps, Tab h c P ps ∧ ∀ v, codeAmong pos ps.toList = some v → ∃ c', v = .ref c' ∧ h.CodeRec (.ref c') q
structure InvH (w : World) (h : Heap) : Prop where
  k : Frag.In (K2 w.params) h
  t37 : ∃ ps, Tab h 41 37 ps ∧ HKp w h ps
  t59 : T3 h 63 59 cmpDef.pos qCmp
  t73 : T3 h 75 73 askDef.pos qAsk
def XTH : AP := fun a => a = 37 ∨ a = 59 ∨ a = 73
structure CmpOK (Y : AP) (h : Heap) (f : Addr) (row : List Int) : Prop where
  ex : ∃ ct c' c l vs, h.get? f = some (fnObj "_law_compare" qCmp cmpDef.args cmpDef.body cmpDef.scope [("row", c)] ct pmV c') ∧ h.CodeRec (.ref c') qCmp ∧ h.IsCell c (some (.ref l)) ∧ ¬ Y c ∧ h.PlainList l vs ∧ ¬ Y l ∧ IntsAre vs.toList row ∧ c < h.objs.size
structure ClsOK (w : World) (Y : AP) (h : Heap) (K : Addr) (row : List Int) : Prop where
  ex : ∃ f ns cl, KCls w h K f ns cl ∧ ¬ Y ns ∧ ¬ Y cl ∧ CmpOK Y h f row
structure InstOK (w : World) (Y : AP) (h : Heap) (i : Addr) (row : List Int) (x : Int) : Prop where
  ex : ∃ K da t, h.get? i = some ⟨.ref K, some da, .plain, #[some (.int x t)]⟩ ∧ ClsOK w Y h K row
def bltV (s : String) : Value := if s = "range" then .type "range" else if s = "type" then .type "type" else if s = "NotImplemented" then .notImplemented else .builtin s
def OH (w : World) : OP := fun Y h v k => match k with
  | .blt s => v = bltV s
  | .rng n => n ≤ 1000 ∧ ∃ r t u x, v = .ref r ∧ IsRange h r 0 n 1 t u x ∧ ¬ Y r
  | .fn a => v = .ref a
  | .cmp row => ∃ f, v = .ref f ∧ CmpOK Y h f row
  | .cls row => ∃ K, v = .ref K ∧ ClsOK w Y h K row
  | .inst row x => ∃ i, v = .ref i ∧ InstOK w Y h i row x
  | .ask .. => False
theorem xt_lt {a : Addr} (x : XTH a) : a < 87 := by rcases x with rfl | rfl | rfl <;> decide
theorem InvH.table {w : World} {h : Heap} (I : InvH w h) {a : Addr} (x : XTH a) : ∃ ps, h.get? a = some { cls := .none, data := .fields ps } ∧ TriplesOk ps.toList := by
  rcases x with rfl | rfl | rfl
  · obtain ⟨ps, t, _⟩ := I.t37; exact ⟨ps, t.tab.2, t.triples⟩
  · obtain ⟨ps, t, _⟩ := I.t59; exact ⟨ps, t.tab.2, t.triples⟩
  · obtain ⟨ps, t, _⟩ := I.t73; exact ⟨ps, t.tab.2, t.triples⟩
theorem YW.kd {Y : AP} {h : Heap} (y : YW Y h) : Kd Y h := fun a o m e => .inl ((y a m).2 o e)
theorem kdXY {w : World} {Y : AP} {h : Heap} (I : InvH w h) (y : YW Y h) : Kd (fun a => XTH a ∨ Y a) h := by
  rintro a o (x | m) e
  · obtain ⟨ps, e', t⟩ := I.table x
    rw [e] at e'; cases e'
    exact .inr ⟨xt_lt x, rfl, ps, rfl, t⟩
  · exact .inl ((y a m).2 o e)
theorem k2_lt (p : Params) : (K2 p).all (fun x => decide (@LT.lt Nat _ x.1 87)) = true := by kernel_rfl
theorem mem_of_look {l : List (Nat × Obj)} {a : Nat} {o : Obj} (e : l.lookup a = some o) : (a, o) ∈ l := by
  induction l with
  | nil => cases e
  | cons x l ih =>
    obtain ⟨b, ob⟩ := x
    rw [List.lookup_cons] at e
    cases hb : a == b with
    | true => rw [hb] at e; cases e; rw [beq_iff_eq.mp hb]; exact .head _
    | false => rw [hb] at e; exact .tail _ (ih e)
theorem k2_dom {p : Params} {a : Nat} {o : Obj} (e : (K2 p).lookup a = some o) : a < 87 := by
  have := List.all_eq_true.mp (k2_lt p) _ (mem_of_look e)
  simpa using this
theorem k2_notXT {p : Params} {a : Nat} {o : Obj} (e : (K2 p).lookup a = some o) : ¬ XTH a := by
  rintro (rfl | rfl | rfl) <;> exact nomatch e
theorem T3.kd {X : AP} {h h' : Heap} {c Pt : Addr} {pos : Pos} {q : Str} (d : Kd X h) (k : Kp X h h') (nc : ¬ X c) (nP : ¬ X Pt) (t : T3 h c Pt pos q) : T3 h' c Pt pos q := by
  obtain ⟨ps, t, r⟩ := t
  refine ⟨ps, t.kp k nc nP, fun v e => ?_⟩
  obtain ⟨c', e', r'⟩ := r v e
  exact ⟨c', e', d.code k r'⟩
theorem InvH.y {w : World} {Y : AP} {h h' : Heap} (I : InvH w h) (y : YW Y h) (k : Kp Y h h') : InvH w h' := by
  have n : ∀ a, a < 87 → ¬ Y a := fun a l m => absurd (y a m).1 (Nat.not_le.mpr l)
  refine ⟨fun a o e => k.at' a o (n a (k2_dom e)) (I.k a o e), ?_, I.t59.kd y.kd k (n _ (by decide)) (n _ (by decide)), I.t73.kd y.kd k (n _ (by decide)) (n _ (by decide))⟩
  obtain ⟨ps, t, r⟩ := I.t37
  exact ⟨ps, t.kp k (n _ (by decide)) (n _ (by decide)), r.kd y.kd k⟩
theorem CmpOK.kp {Y X : AP} {h h' : Heap} {f row} (c : CmpOK Y h f row) (d : Kd X h) (k : Kp X h h') (xy : ∀ a, X a → XTH a ∨ Y a) (I : ∀ a, XTH a → ∃ ps, h.get? a = some { cls := .none, data := .fields ps }) : CmpOK Y h' f row := by
  obtain ⟨ct, c', c, l, vs, e1, r, e2, n2, e3, n3, hints, hlt⟩ := c.ex
  have nc : ¬ X c := fun x => by
    rcases xy _ x with z | z
    · obtain ⟨ps, q⟩ := I _ z
      obtain ⟨o, e, dd⟩ := e2
      rw [e] at q; cases q; cases dd
    · exact n2 z
  have nl : ¬ X l := fun x => by
    rcases xy _ x with z | z
    · obtain ⟨ps, q⟩ := I _ z
      obtain ⟨o, e⟩ := e3
      rw [e] at q; cases q
    · exact n3 z
  have e2' := k.isCell nc e2
  exact ⟨ct, c', c, l, vs, k.at' _ _ (d.other e1 nofun nofun nofun nofun) e1, d.code k r, e2', n2, k.plain nl e3, n3, hints, e2'.lt⟩
theorem ClsOK.kp {w : World} {Y X : AP} {h h' : Heap} {f row} (c : ClsOK w Y h f row) (d : Kd X h) (k : Kp X h h') (xy : ∀ a, X a → XTH a ∨ Y a) (I : ∀ a, XTH a → ∃ ps, h.get? a = some { cls := .none, data := .fields ps }) : ClsOK w Y h' f row := by
  obtain ⟨f', ns, cl, kc, n1, n2, cm⟩ := c.ex
  have hc := kc
  obtain ⟨b, so, st, md, f1, f2, f3, f4, f5, f6, g1, g3, g4, g5, g6, g7, g8, g9, g10, g11, g12, g13, g14, k1, k3, k4, k5, k6, k7, k8, k9, k10, k11, k12, k13, k14, t0, t1, t2, t3, tm, e1, e2, e3, e4, _⟩ := hc.ex
  refine ⟨f', ns, cl, kc.kd d k (fun x => ?_) (fun x => ?_), n1, n2, cm.kp d k xy I⟩
  · rcases xy _ x with z | z
    · obtain ⟨ps, q⟩ := I _ z
      rw [e2] at q; cases q
    · exact n1 z
  · rcases xy _ x with z | z
    · obtain ⟨ps, q⟩ := I _ z
      rw [e4] at q; cases q
    · exact n2 z
theorem OH.kp {w : World} {Y : AP} {h h' : Heap} {v : Value} {q : Opq} (o : OH w Y h v q) (y : YW Y h) (I : InvH w h) (k : Kp (fun a => XTH a ∨ Y a) h h') : OH w Y h' v q := by
  have d := kdXY I y
  have J : ∀ a, XTH a → ∃ ps, h.get? a = some { cls := .none, data := .fields ps } := fun a x => (I.table x).imp fun _ z => z.1
  cases q with
  | blt s => exact o
  | rng n =>
    obtain ⟨l, r, t, u, x, e, R, ny⟩ := o
    refine ⟨l, r, t, u, x, e, k.at' _ _ (fun z => ?_) R, ny⟩
    rcases z with z | z
    · obtain ⟨ps, q⟩ := J _ z
      rw [R] at q; cases q
    · exact ny z
  | fn a => exact o
  | cmp row => obtain ⟨f, e, c⟩ := o; exact ⟨f, e, c.kp d k (fun _ x => x) J⟩
  | cls row => obtain ⟨f, e, c⟩ := o; exact ⟨f, e, c.kp d k (fun _ x => x) J⟩
  | inst row x =>
    obtain ⟨i, e, c⟩ := o
    obtain ⟨K, da, t, e1, c⟩ := c.ex
    exact ⟨i, e, K, da, t, k.at' _ _ (d.other e1 nofun nofun nofun nofun) e1, c.kp d k (fun _ x => x) J⟩
  | ask => exact o
theorem OH.y {w : World} {Y Y' : AP} {h : Heap} {v : Value} {q : Opq} (o : OH w Y h v q) (s : ∀ a, Y' a → Y a ∨ h.get? a = none) : OH w Y' h v q := by
  have out : ∀ {a ob}, h.get? a = some ob → ¬ Y a → ¬ Y' a := fun e n z => (s _ z).elim n fun q => by rw [q] at e; cases e
  have cm : ∀ {f row}, CmpOK Y h f row → CmpOK Y' h f row := fun c => by
    obtain ⟨ct, c', c, l, vs, e1, r, e2, n2, e3, n3, r2⟩ := c.ex
    refine ⟨ct, c', c, l, vs, e1, r, e2, ?_, e3, ?_, r2⟩
    · obtain ⟨o, e, _⟩ := e2; exact out e n2
    · obtain ⟨o, e⟩ := e3; exact out e n3
  have cl : ∀ {f row}, ClsOK w Y h f row → ClsOK w Y' h f row := fun c => by
    obtain ⟨f', ns, cl, kc, n1, n2, c⟩ := c.ex
    obtain ⟨b, so, st, md, f1, f2, f3, f4, f5, f6, g1, g3, g4, g5, g6, g7, g8, g9, g10, g11, g12, g13, g14, k1, k3, k4, k5, k6, k7, k8, k9, k10, k11, k12, k13, k14, t0, t1, t2, t3, tm, e1, e2, e3, e4, _⟩ := kc.ex
    exact ⟨f', ns, cl, kc, out e2 n1, out e4 n2, cm c⟩
  cases q with
  | blt s => exact o
  | rng n => obtain ⟨l, r, t, u, x, e, R, ny⟩ := o; exact ⟨l, r, t, u, x, e, R, out R ny⟩
  | fn a => exact o
  | cmp row => obtain ⟨f, e, c⟩ := o; exact ⟨f, e, cm c⟩
  | cls row => obtain ⟨f, e, c⟩ := o; exact ⟨f, e, cl c⟩
  | inst row x => obtain ⟨i, e, c⟩ := o; obtain ⟨K, da, t, e1, c⟩ := c.ex; exact ⟨i, e, K, da, t, e1, cl c⟩
  | ask => exact o
/-! the names of the module -/
noncomputable def nsOf (p : Params) (a : Nat) : Str → Option Value := match (K2 p).lookup a with | some ⟨_, _, .dict es _, _⟩ => nsFind es | _ => fun _ => none
def strKs (es : Array DictEntry) : Bool := es.toList.all fun e => match e.key with | .str .. => true | _ => false
theorem strKs_ok {es : Array DictEntry} (h : strKs es = true) : StrKeys es := fun e he => by
  have := List.all_eq_true.mp h e (by simpa using he)
  revert this
  cases e.key <;> simp
theorem ns3 {w : World} {h : Heap} (KX : Frag.In (K2 w.params) h) : h.Ns 3 (nsOf w.params 3) := by
  have e := kin KX 3 _ rfl
  exact ⟨_, _, _, e, rfl, strKs_ok (by kernel_rfl), fun name => by kernel_rfl⟩
theorem ns0 {w : World} {h : Heap} (KX : Frag.In (K2 w.params) h) : h.Ns 0 (nsOf w.params 0) := by
  have e := kin KX 0 _ rfl
  exact ⟨_, _, _, e, rfl, strKs_ok (by kernel_rfl), fun name => by kernel_rfl⟩
def ownD : D := .tuple [.int 13, .int 23, .int 12, .int 1, .int 1, .int 5, .int 4, .int 11]
def GL : List (Str × D) := [("range", .opq (.blt "range")), ("sum", .opq (.blt "sum")), ("sorted", .opq (.blt "sorted")), ("cmp_to_key", .opq (.fn 42)), ("_law_by", .opq (.fn 64)), ("_law_order", .opq (.fn 57)),
  ("_law_better", .opq (.fn 71)), ("_law_run", .opq (.fn 76)), ("_law_holds", .opq (.fn 81)), ("_gt_from_lt", .opq (.fn 21)), ("_gt_from_le", .opq (.fn 28)), ("_gt_from_ge", .opq (.fn 35)), ("reduce", .opq (.fn 51)), ("_law_OWN", ownD), ("type", .opq (.blt "type")), ("NotImplemented", .opq (.blt "NotImplemented")), ("iter", .opq (.blt "iter")), ("_initial_missing", .opq (.fn 43))]
def GH (x : Str) : Option D := GL.lookup x
theorem glob_ok {w : World} {Y : AP} {h : Heap} (I : InvH w h) (y : YOK Y h) : ∃ mg mb, h.Ns 3 mg ∧ h.Ns 0 mb ∧ ∀ x d, GH x = some d → ∃ v, (mg x = some v ∨ mg x = none ∧ mb x = some v) ∧ Rep (OH w) Y h v d := by
  refine ⟨_, _, ns3 I.k, ns0 I.k, fun x d e => ?_⟩
  have m : (x, d) ∈ GL := mem_of_lookup e
  simp only [GL, List.mem_cons, List.not_mem_nil, or_false, Prod.mk.injEq] at m
  rcases m with ⟨rfl, rfl⟩ | ⟨rfl, rfl⟩ | ⟨rfl, rfl⟩ | ⟨rfl, rfl⟩ | ⟨rfl, rfl⟩ | ⟨rfl, rfl⟩ | ⟨rfl, rfl⟩ | ⟨rfl, rfl⟩ | ⟨rfl, rfl⟩ | ⟨rfl, rfl⟩ | ⟨rfl, rfl⟩ | ⟨rfl, rfl⟩ | ⟨rfl, rfl⟩ | ⟨rfl, rfl⟩ | ⟨rfl, rfl⟩ | ⟨rfl, rfl⟩ | ⟨rfl, rfl⟩ | ⟨rfl, rfl⟩
  · exact ⟨.type "range", .inr ⟨by kernel_rfl, by kernel_rfl⟩, .opq rfl⟩
  · exact ⟨.builtin "sum", .inr ⟨by kernel_rfl, by kernel_rfl⟩, .opq rfl⟩
  · exact ⟨.builtin "sorted", .inr ⟨by kernel_rfl, by kernel_rfl⟩, .opq rfl⟩
  · exact ⟨.ref 42, .inl (by kernel_rfl), .opq rfl⟩
  · exact ⟨.ref 64, .inl (by kernel_rfl), .opq rfl⟩
  · exact ⟨.ref 57, .inl (by kernel_rfl), .opq rfl⟩
  · exact ⟨.ref 71, .inl (by kernel_rfl), .opq rfl⟩
  · exact ⟨.ref 76, .inl (by kernel_rfl), .opq rfl⟩
  · exact ⟨.ref 81, .inl (by kernel_rfl), .opq rfl⟩
  · exact ⟨.ref 21, .inl (by kernel_rfl), .opq rfl⟩
  · exact ⟨.ref 28, .inl (by kernel_rfl), .opq rfl⟩
  · exact ⟨.ref 35, .inl (by kernel_rfl), .opq rfl⟩
  · exact ⟨.ref 51, .inl (by kernel_rfl), .opq rfl⟩
  · refine ⟨.ref 52, .inl (by kernel_rfl), .tuple ⟨_, kin I.k 52 _ rfl, rfl, _, rfl⟩ (fun z => absurd (y 52 z).1 (by decide)) ?_⟩
    exact .cons (.int _ _) (.cons (.int _ _) (.cons (.int _ _) (.cons (.int _ _) (.cons (.int _ _) (.cons (.int _ _) (.cons (.int _ _) (.cons (.int _ _) .nil)))))))
  · exact ⟨.type "type", .inr ⟨by kernel_rfl, by kernel_rfl⟩, .opq rfl⟩
  · exact ⟨.notImplemented, .inr ⟨by kernel_rfl, by kernel_rfl⟩, .opq rfl⟩
  · exact ⟨.builtin "iter", .inr ⟨by kernel_rfl, by kernel_rfl⟩, .opq rfl⟩
  · exact ⟨.ref 43, .inl (by kernel_rfl), .opq rfl⟩
theorem attr_ok {w : World} {Y : AP} {h : Heap} {v : Value} {row : List Int} {x : Int} (o : OH w Y h v (.inst row x)) (I : InvH w h) {gg dd tt os} {A : Around} {Q : Value → Shared → Prop} (hh : A.handled = none) (hd : A.depth ≤ 800) (hu : A.units ≤ 6000)
    (q : ∀ t h' tk, (∀ b o, h.get? b = some o → h'.get? b = some o) → Q (.int x t) ⟨h', gg, dd, tk, os⟩) : wpAny (model P w) A (getAttr v "obj" true) Q (fun _ _ => False) ⟨h, gg, dd, tt, os⟩ := by
  obtain ⟨i, rfl, c⟩ := o
  obtain ⟨K, da, t, e, c⟩ := c.ex
  obtain ⟨f, ns, cl, kc, _⟩ := c.ex
  obtain ⟨b, so, st, md, f1, f2, f3, f4, f5, f6, g1, g3, g4, g5, g6, g7, g8, g9, g10, g11, g12, g13, g14, k1, k3, k4, k5, k6, k7, k8, k9, k10, k11, k12, k13, k14, t0, t1, t2, t3, tm, e1, e2, e3, e4, _⟩ := kc.ex
  exact get_c w h gg dd tt os K b ns so st md f1 f2 f3 f4 f5 f6 i da g1 g3 g4 g5 g6 g7 g8 g9 g10 g11 g12 g13 g14 k1 k3 k4 k5 k6 k7 k8 k9 k10 k11 k12 k13 k14 t0 t1 t2 t3 tm x t I.k e1 e2 e3 e hh hd hu fun h' tk k => q t h' tk k
def TH (w : World) : Th w where
  Inv := InvH w
  O := OH w
  XT := XTH
  G := GH
  inv_y := InvH.y
  o_kp := OH.kp
  o_y := OH.y
  xt := fun I x => ⟨xt_lt x, by obtain ⟨ps, e, _⟩ := I.table x; exact ⟨_, ps, e, rfl⟩⟩
  o_rng := fun o => ⟨o.1, by obtain ⟨_, r, t, u, x, e, R, _⟩ := o; exact ⟨r, t, u, x, e, R⟩⟩
  big := fun I => size87 I.k
  lim := fun I => noLimit I.k
  attr := attr_ok
  glob := glob_ok
end Mine
namespace Mine
set_option maxRecDepth 100000
set_option maxHeartbeats 1000000
/-! calls of comparisons, of K, of K's methods -/
def defKb (sc : Scope) : Bool := sc.kind == .function && sc.names.all fun (n, kk) => sc.names.lookup n == some kk
theorem defK_of {sc : Scope} {clo} (h : defKb sc = true) : DefK sc clo := by
  simp only [defKb, Bool.and_eq_true, beq_iff_eq, List.all_eq_true] at h
  exact ⟨h.1, fun n kk m => h.2 (n, kk) m⟩
def freeb (names : Ks) (L : List Str) : Bool := names.all fun (n, kk) => kk != .free || L.contains n
theorem freeb_use {names : Ks} {L : List Str} (h : freeb names L = true) {x : Str} (e : names.lookup x = some .free) : x ∈ L := by
  have := List.all_eq_true.mp h _ (mem_of_lookup e)
  simpa using this
theorem free_nil {w : World} {T : Th w} {Y h sc} (f : freeb sc.names [] = true) : FreeOK T Y h sc [] [] :=
  by
  refine ⟨fun x d e => ?_, fun x e => ?_, fun x c e => ?_⟩
  · cases e
  · cases freeb_use f e
  · cases e
theorem ints_rep {O : OP} {Y : AP} {h : Heap} : ∀ {vs : List Value} {ns : List Int}, IntsAre vs ns → Reps O Y h vs (ns.map .int)
  | _, _, .nil => .nil
  | _, _, .cons n t r => .cons (.int n t) (ints_rep r)
def C0 : Cfg := ⟨GH, fun _ _ => none⟩
theorem calls0 (w : World) (dp un : Nat) (h1 : dp ≤ 800) (h2 : un ≤ 6000) : CallsOK (TH w) C0 dp un :=
  by
  refine ⟨rfl, by show un + 70 < 9900; omega, ⟨h1, h2⟩, ?_, ?_⟩
  · intro q ds r e; cases e
  · intro q ds r e; cases e
theorem cmp_facts : defKb cmpDef.scope = true ∧ freeb cmpDef.scope.names ["row"] = true ∧ stk cmpDef.scope.names "one" = true ∧ stk cmpDef.scope.names "other" = true ∧ cmpDef.scope.names.lookup ("row" : Str) = some .free ∧ cmpDef.scope.isCoroutine = false ∧ cmpDef.scope.isGenerator = false :=
  ⟨by kernel_rfl, by kernel_rfl, by kernel_rfl, by kernel_rfl, by kernel_rfl, by kernel_rfl, by kernel_rfl⟩
def cmpV (row : List Int) (a b : Int) : Option Int :=
  if row.length ≤ 1000 ∧ 0 ≤ a ∧ 0 ≤ b then do
    let y ← row[b.toNat]?
    let x ← row[a.toNat]?
    some (y - x)
  else none
theorem item_ints {row : List Int} {k v : Int} (hl : row.length ≤ 1000) (h0 : 0 ≤ k) (e : row[k.toNat]? = some v) : itemD (.list (row.map .int)) (.int k) = some (.int v) := by
  show (if (row.map D.int).length ≤ 1000 then (if 0 ≤ k then (row.map D.int)[k.toNat]? else _) else none) = _
  rw [if_pos (by simpa using hl), if_pos h0, List.getElem?_map, e]; rfl
def cmpRho (row : List Int) (a b : Int) : Bs := ((["one", "other"] : List Str).zip [D.int a, D.int b]).reverse ++ ([("row", D.list (row.map .int))] : Bs)
theorem cmp_body (row : List Int) (a b : Int) : exsW (ex C0 10 cmpDef.scope.names) (cmpRho row a b) cmpDef.body =
    ((((itemD (.list (row.map .int)) (.int b)).bind fun y => (itemD (.list (row.map .int)) (.int a)).bind fun x => binD .Sub y x)).bind fun d => some (Fl.ret d, cmpRho row a b)).bind fun q => match q with
      | (.next, ρ') => exsW (ex C0 10 cmpDef.scope.names) ρ' []
      | q => some q := by kernel_rfl
theorem cmpS {w : World} {Y : AP} {h : Heap} {gg dd tt os} {A : Around} {v : Value} {row : List Int} {vs : List Value} {a b r : Int}
    (o : OH w Y h v (.cmp row)) (rs : Reps (OH w) Y h vs [.int a, .int b]) (I : InvH w h) (y : YOK Y h) (hh : A.handled = none) (hd : A.depth ≤ 790) (hu : A.units ≤ 5900) (e : cmpV row a b = some r) :
    wpAny (model P w) A (PySem.call v vs) (Post (TH w) Y h gg dd os (.int r)) FF ⟨h, gg, dd, tt, os⟩ := by
  obtain ⟨f, rfl, c⟩ := o
  obtain ⟨ct, c', c, l, lv, e1, rc, e2, n2, e3, n3, hints, hlt⟩ := c.ex
  obtain ⟨q1, q2, q3, q4, q5, q6, q7⟩ := cmp_facts
  unfold cmpV at e
  split at e
  · rename_i hc
    obtain ⟨yv, ey, e⟩ := Option.bind_eq_some_iff.mp e
    obtain ⟨xv, ex, e⟩ := Option.bind_eq_some_iff.mp e
    cases e
    cases rs with | cons r1 rs =>
    cases rs with | cons r2 rs =>
    cases rs
    refine callS (T := TH w) (C := C0) (calls0 w 800 6000 (by omega) (by omega)) (n := 10) (ρc := [("row", .list (row.map .int))]) (ns := ["one", "other"]) (ds := [.int a, .int b]) hh (by omega) (by omega) e1 rfl rfl rfl q6 q7 rfl rc ?_ (defK_of q1) ⟨?_, ?_, ?_⟩ ?_ rfl (.cons r1 (.cons r2 .nil)) I y (by show A.depth < 1000; omega) (ρ' := cmpRho row a b) ?_
    · kernel_rfl
    · intro x d ed
      have := mem_of_lookup ed
      simp only [List.mem_cons, List.not_mem_nil, or_false, Prod.mk.injEq] at this
      rw [this.1]; exact q5
    · intro x hx
      have := freeb_use q2 hx
      simp only [List.mem_cons, List.not_mem_nil, or_false] at this
      subst this
      refine ⟨c, _, rfl, e2, fun d ed => ⟨_, rfl, ?_⟩⟩
      cases ed
      exact .list e3 n3 (ints_rep hints)
    · intro x c0 ed
      have := mem_of_lookup ed
      simp only [List.mem_cons, List.not_mem_nil, or_false, Prod.mk.injEq] at this
      rw [this.2]; exact hlt
    · intro n hn
      simp only [List.mem_cons, List.not_mem_nil, or_false] at hn
      rcases hn with rfl | rfl
      · exact q3
      · exact q4
    · refine (cmp_body row a b).trans ?_
      rw [item_ints hc.1 hc.2.2 ey, item_ints hc.1 hc.2.1 ex]
      rfl
  · cases e
end Mine
namespace Mine
set_option maxRecDepth 100000
set_option maxHeartbeats 1000000
/-! K's methods -/
def callC1 : Opq → List D → Option D
  | .cmp row, [.int a, .int b] => (cmpV row a b).map .int
  | _, _ => none
def C1 : Cfg := ⟨GH, callC1⟩
theorem keep_fn {M : Model} {h : Heap} {f : Addr} {o : Obj} {fd : FuncData} (e : h.get? f = some o) (d : o.data = .func fd) : Looks M h (keeperOf (.ref f)) .frame := by
  refine (Looks.ld (part := none) e).andThen ?_
  rw [d]
  exact .now
theorem calls1 (w : World) (dp un : Nat) (h1 : dp ≤ 790) (h2 : un ≤ 5900) : CallsOK (TH w) C1 dp un := by
  refine ⟨rfl, by show un + 70 < 9900; omega, ⟨by omega, by omega⟩, ?_, ?_⟩
  · intro q ds r e Y h gg dd tt os A f vs o rs I y hh hd hu
    unfold C1 callC1 at e
    dsimp only at e
    split at e
    · obtain ⟨v, e1, rfl⟩ := Option.map_eq_some_iff.mp e
      exact cmpS o rs I y hh (by omega) (by omega) e1
    · cases e
  · intro q ds r e Y h f o I y
    unfold C1 callC1 at e
    dsimp only at e
    split at e
    · obtain ⟨f', rfl, c⟩ := o
      obtain ⟨ct, c', c, l, lv, e1, _⟩ := c.ex
      exact ⟨.frame, .inl rfl, keep_fn e1 rfl⟩
    · cases e
structure KM (p : Params) (i : Nat) (op : CmpOp) : Prop where
  f1 : defKb (dp p i).scope = true
  f2 : freeb (dp p i).scope.names ["mycmp"] = true
  f3 : stk (dp p i).scope.names "self" = true
  f4 : stk (dp p i).scope.names "other" = true
  f5 : (dp p i).scope.names.lookup ("mycmp" : Str) = some .free
  f6 : (dp p i).scope.isCoroutine = false
  f7 : (dp p i).scope.isGenerator = false
  bind : ∀ nm q sc b clo ct pm c v1 v2, bindArgs { name := nm, qualname := q, params := (dp p i).args, body := .stmts b, scope := sc, globals := 3, closure := clo, closureTuple := ct, code := .ref c, builtins := 0, defaults := .none, kwdefaults := .none, annotations := none, pyModule := pm, doc := .none } ⟨[v1, v2], []⟩ = pure ((["self", "other"] : List Str).zip [v1, v2])
  body : ∀ row a b, exsW (ex C1 10 (dp p i).scope.names) (((["self", "other"] : List Str).zip [D.opq (.inst row a), D.opq (.inst row b)]).reverse ++ ([("mycmp", D.opq (.cmp row))] : Bs)) (dp p i).body =
    ((((((cmpV row a b).map D.int).bind fun v => (cmpD op v (.int 0)).bind fun c => some (D.bool c))).bind fun d => some (Fl.ret d, ((["self", "other"] : List Str).zip [D.opq (.inst row a), D.opq (.inst row b)]).reverse ++ ([("mycmp", D.opq (.cmp row))] : Bs))).bind fun q => match q with
      | (.next, ρ') => exsW (ex C1 10 (dp p i).scope.names) ρ' []
      | q => some q)
theorem km3 (p : Params) : KM p 3 .Lt := ⟨by kernel_rfl, by kernel_rfl, by kernel_rfl, by kernel_rfl, by kernel_rfl, by kernel_rfl, by kernel_rfl, (by intros; kernel_rfl), (by intros; kernel_rfl)⟩
theorem km5 (p : Params) : KM p 5 .Eq := ⟨by kernel_rfl, by kernel_rfl, by kernel_rfl, by kernel_rfl, by kernel_rfl, by kernel_rfl, by kernel_rfl, (by intros; kernel_rfl), (by intros; kernel_rfl)⟩
theorem km6 (p : Params) : KM p 6 .LtE := ⟨by kernel_rfl, by kernel_rfl, by kernel_rfl, by kernel_rfl, by kernel_rfl, by kernel_rfl, by kernel_rfl, (by intros; kernel_rfl), (by intros; kernel_rfl)⟩
theorem km7 (p : Params) : KM p 7 .GtE := ⟨by kernel_rfl, by kernel_rfl, by kernel_rfl, by kernel_rfl, by kernel_rfl, by kernel_rfl, by kernel_rfl, (by intros; kernel_rfl), (by intros; kernel_rfl)⟩
theorem kmS {w : World} {Y : AP} {h : Heap} {gg dd tt os} {A : Around} {i : Nat} {op : CmpOp} {nm : Str} {fa cl f : Addr} {row : List Int} {vs : List Value} {a b v : Int} {r : Bool}
    (K : KM w.params i op) (F : Fn XN h fa nm (kq i) (dp w.params i) [("mycmp", cl)]) (ecl : h.get? cl = some (cellObj (.ref f))) (ncl : ¬ Y cl) (co : CmpOK Y h f row)
    (rs : Reps (OH w) Y h vs [.opq (.inst row a), .opq (.inst row b)]) (I : InvH w h) (y : YOK Y h) (hh : A.handled = none) (hd : A.depth ≤ 780) (hu : A.units ≤ 5800) (e : cmpV row a b = some v) (er : cmpD op (.int v) (.int 0) = some r) :
    wpAny (model P w) A (PySem.call (.ref fa) vs) (Post (TH w) Y h gg dd os (.bool r)) FF ⟨h, gg, dd, tt, os⟩ := by
  obtain ⟨ct, c', e1, rc, _, _⟩ := F.ex
  cases rs with | cons r1 rs =>
  cases rs with | cons r2 rs =>
  cases rs
  refine callS (T := TH w) (C := C1) (calls1 w 790 5900 (by omega) (by omega)) (n := 10) (ρc := ([("mycmp", .opq (.cmp row))] : Bs)) (ns := ["self", "other"]) (ds := [.opq (.inst row a), .opq (.inst row b)]) hh (by omega) (by omega) e1 rfl rfl rfl K.f6 K.f7 rfl rc ?_ (defK_of K.f1) ⟨?_, ?_, ?_⟩ ?_ rfl (.cons r1 (.cons r2 .nil)) I y (by show A.depth < 1000; omega) (ρ' := ((["self", "other"] : List Str).zip [D.opq (.inst row a), D.opq (.inst row b)]).reverse ++ ([("mycmp", D.opq (.cmp row))] : Bs)) ((K.body row a b).trans ?_)
  · exact K.bind _ _ _ _ _ _ _ _ _ _
  · intro x d ed
    have := mem_of_lookup ed
    simp only [List.mem_cons, List.not_mem_nil, or_false, Prod.mk.injEq] at this
    rw [this.1]; exact K.f5
  · intro x hx
    have := freeb_use K.f2 hx
    simp only [List.mem_cons, List.not_mem_nil, or_false] at this
    subst this
    refine ⟨cl, _, rfl, ⟨_, ecl, rfl⟩, fun d ed => ⟨_, rfl, ?_⟩⟩
    cases ed
    exact .opq ⟨f, rfl, co⟩
  · intro x c0 ed
    have := mem_of_lookup ed
    simp only [List.mem_cons, List.not_mem_nil, or_false, Prod.mk.injEq] at this
    rw [this.2]; exact Heap.lt_size ecl
  · intro n hn
    simp only [List.mem_cons, List.not_mem_nil, or_false] at hn
    rcases hn with rfl | rfl
    · exact K.f3
    · exact K.f4
  · rw [e]
    simp only [Option.map_some, Option.bind_some, er]
end Mine
namespace Mine
set_option maxRecDepth 100000
set_option maxHeartbeats 1000000
/-! the comparisons made of others: _gt_from_lt, _gt_from_le, _gt_from_ge -/
structure MethAt (w : World) (Y : AP) (h : Heap) (row : List Int) (i : Nat) (fa : Addr) : Prop where
  ex : ∃ nm cl f, Fn XN h fa nm (kq i) (dp w.params i) [("mycmp", cl)] ∧ h.get? cl = some (cellObj (.ref f)) ∧ ¬ Y cl ∧ CmpOK Y h f row
theorem MethAt.kp {w : World} {Y : AP} {h h' : Heap} {row i fa} (m : MethAt w Y h row i fa) (I : InvH w h) (y : YW Y h) (k : Kp XTH h h') : MethAt w Y h' row i fa := by
  obtain ⟨nm, cl, f, a, b, c, d⟩ := m.ex
  have kd := kdXY I y
  have kw : Kp (fun a => XTH a ∨ Y a) h h' := k.wide fun _ => .inl
  refine ⟨nm, cl, f, a.kd kd kw, k.at' _ _ (fun x => ?_) b, c, d.kp kd kw (fun _ x => x) fun a x => (I.table x).imp fun _ z => z.1⟩
  obtain ⟨ps, q, _⟩ := I.table x
  rw [b] at q; cases q
def Way (w : World) (nm : Str) (i : Nat) : Prop := ∀ {Y h gg dd tt os} {A : Around} {row K} {Q : Value → Shared → Prop}, InvH w h → YOK Y h → ClsOK w Y h K row → A.handled = none → A.depth ≤ 800 → A.units ≤ 6000 →
  (∀ fa h' tk, Kp XTH h h' → InvH w h' → MethAt w Y h' row i fa → Q (.ref fa) ⟨h', gg, dd, tk, os⟩) → wpAny (model P w) A (getAttr (.ref K) nm) Q FF ⟨h, gg, dd, tt, os⟩
theorem way_lt (w : World) : Way w "__lt__" 3 := by
  intro Y h gg dd tt os A row K Q I y c hh hd hu q
  obtain ⟨f, ns, cl, kc, n1, n2, cm⟩ := c.ex
  obtain ⟨b, so, st, md, f1, f2, f3, f4, f5, f6, g1, g3, g4, g5, g6, g7, g8, g9, g10, g11, g12, g13, g14, k1, k3, k4, k5, k6, k7, k8, k9, k10, k11, k12, k13, k14, t0, t1, t2, t3, tm, e1, e2, e3, e4, F1, F2, F4, F5, F6⟩ := kc.ex
  obtain ⟨ct, c', ef, _⟩ := F2.ex
  refine clslt_c w h gg dd tt os K b ns so st md f1 f2 f3 f4 f5 f6 K K g1 g3 g4 g5 g6 g7 g8 g9 g10 g11 g12 g13 g14 k1 k3 k4 k5 k6 k7 k8 k9 k10 k11 k12 k13 k14 t0 t1 t2 t3 tm I.k _ e1 e2 ef hh hd hu fun h' tk k => ?_
  have m : MethAt w Y h row 3 f2 := ⟨_, cl, f, F2, e4, n2, cm⟩
  exact q f2 h' tk (Kp.ofKeeps k) ((TH w).inv_y (Y := XN) I (fun _ z => z.elim) (Kp.ofKeeps k)) (m.kp I y.w (Kp.ofKeeps k))
theorem way_le (w : World) : Way w "__le__" 6 := by
  intro Y h gg dd tt os A row K Q I y c hh hd hu q
  obtain ⟨f, ns, cl, kc, n1, n2, cm⟩ := c.ex
  obtain ⟨b, so, st, md, f1, f2, f3, f4, f5, f6, g1, g3, g4, g5, g6, g7, g8, g9, g10, g11, g12, g13, g14, k1, k3, k4, k5, k6, k7, k8, k9, k10, k11, k12, k13, k14, t0, t1, t2, t3, tm, e1, e2, e3, e4, F1, F2, F4, F5, F6⟩ := kc.ex
  obtain ⟨ct, c', ef, _⟩ := F5.ex
  refine clsle_c w h gg dd tt os K b ns so st md f1 f2 f3 f4 f5 f6 K K g1 g3 g4 g5 g6 g7 g8 g9 g10 g11 g12 g13 g14 k1 k3 k4 k5 k6 k7 k8 k9 k10 k11 k12 k13 k14 t0 t1 t2 t3 tm I.k _ e1 e2 ef hh hd hu fun h' tk k => ?_
  have m : MethAt w Y h row 6 f5 := ⟨_, cl, f, F5, e4, n2, cm⟩
  exact q f5 h' tk (Kp.ofKeeps k) ((TH w).inv_y (Y := XN) I (fun _ z => z.elim) (Kp.ofKeeps k)) (m.kp I y.w (Kp.ofKeeps k))
theorem way_ge (w : World) : Way w "__ge__" 7 := by
  intro Y h gg dd tt os A row K Q I y c hh hd hu q
  obtain ⟨f, ns, cl, kc, n1, n2, cm⟩ := c.ex
  obtain ⟨b, so, st, md, f1, f2, f3, f4, f5, f6, g1, g3, g4, g5, g6, g7, g8, g9, g10, g11, g12, g13, g14, k1, k3, k4, k5, k6, k7, k8, k9, k10, k11, k12, k13, k14, t0, t1, t2, t3, tm, e1, e2, e3, e4, F1, F2, F4, F5, F6⟩ := kc.ex
  obtain ⟨ct, c', ef, _⟩ := F6.ex
  refine clsge_c w h gg dd tt os K b ns so st md f1 f2 f3 f4 f5 f6 K K g1 g3 g4 g5 g6 g7 g8 g9 g10 g11 g12 g13 g14 k1 k3 k4 k5 k6 k7 k8 k9 k10 k11 k12 k13 k14 t0 t1 t2 t3 tm I.k _ e1 e2 ef hh hd hu fun h' tk k => ?_
  have m : MethAt w Y h row 7 f6 := ⟨_, cl, f, F6, e4, n2, cm⟩
  exact q f6 h' tk (Kp.ofKeeps k) ((TH w).inv_y (Y := XN) I (fun _ z => z.elim) (Kp.ofKeeps k)) (m.kp I y.w (Kp.ofKeeps k))
theorem lookup_type_ga : typeLookup (.type "type") "__getattribute__" = pure (some (.builtin "type.__getattribute__")) := by rw [typeLookup_type, builtinLookup_eq_fast]; kernel_rfl
theorem meth_c {w : World} {nm : Str} {i : Nat} (W : Way w nm i) {Y h gg dd tt os} {A : Around} {row K} {Q : (Value × List Value) → Shared → Prop} {pl : Sem Bool} (I : InvH w h) (y : YOK Y h) (c : ClsOK w Y h K row) (hh : A.handled = none) (hd : A.depth ≤ 800) (hu : A.units ≤ 6000)
    (q : ∀ fa h' tk, Kp XTH h h' → InvH w h' → MethAt w Y h' row i fa → Q (.ref fa, []) ⟨h', gg, dd, tk, os⟩) : wpAny (model P w) A (getMethod (.ref K) nm pl) Q FF ⟨h, gg, dd, tt, os⟩ := by
  obtain ⟨f, ns, cl, kc, _⟩ := c.ex
  obtain ⟨b, so, st, md, f1, f2, f3, f4, f5, f6, g1, g3, g4, g5, g6, g7, g8, g9, g10, g11, g12, g13, g14, k1, k3, k4, k5, k6, k7, k8, k9, k10, k11, k12, k13, k14, t0, t1, t2, t3, tm, e1, _⟩ := kc.ex
  unfold getMethod
  refine wpAny_bind (wpAny_specialOf (T := "type") ⟨_, e1, rfl⟩ lookup_type_ga ?_)
  have hc : (Manifest.canonical "type.__getattribute__" != "object.__getattribute__") = true := by decide +kernel
  dsimp only
  rw [hc]
  simp only [if_true]
  exact wpAny_bind (W I y c hh hd hu fun fa h' tk k i m => wpAny_pure (q fa h' tk k i m))
def callTy : Opq → List D → Option D
  | .blt s, [.opq (.inst row _)] => if s = "type" then some (.opq (.cls row)) else none
  | _, _ => none
def CTy : Cfg := ⟨GH, callTy⟩
theorem callsTy (w : World) (dp un : Nat) (h1 : dp ≤ 800) (h2 : un ≤ 6000) : CallsOK (TH w) CTy dp un := by
  refine ⟨rfl, by show un + 70 < 9900; omega, ⟨by omega, by omega⟩, ?_, ?_⟩
  · intro q ds r e Y h gg dd tt os A f vs o rs I y hh hd hu
    unfold CTy callTy at e
    dsimp only at e
    split at e
    · split at e
      · rename_i hs
        cases e; subst hs
        cases rs with | cons r1 rs =>
        cases rs
        cases r1 with | opq o1 =>
        have o : f = bltV "type" := o
        subst o
        obtain ⟨i, rfl, c⟩ := o1
        obtain ⟨K, da, t, e1, c⟩ := c.ex
        exact call_type_obj e1 rfl (Post.same (T := TH w) I (.opq ⟨K, rfl, c⟩))
      · cases e
    · cases e
  · intro q ds r e Y h f o I y
    unfold CTy callTy at e
    dsimp only at e
    split at e
    · split at e
      · rename_i hs
        subst hs
        have o : f = bltV "type" := o
        subst o
        exact ⟨.machine, .inr (.inl rfl), Looks.now⟩
      · cases e
    · cases e
theorem wayE {w : World} {nm : Str} {i : Nat} {op : CmpOp} (W : Way w nm i) (KMi : KM w.params i op) {env Y k ρ h gg dd tt os} {A : Around} {row : List Int} {a b v : Int} {r : Bool} {p1 p2 p3 p4 p5 p6 p7 : Pos}
    (EO : EnvOK (TH w) Y env k ρ h) (I : InvH w h) (y : YOK Y h) (hh : A.handled = none) (hd : A.depth ≤ 780) (hu : A.units ≤ 5800) (hl : (p4.endLine == p7.line) = true)
    (l0 : lookN GH k ρ "type" = some (.opq (.blt "type"))) (l1 : lookN GH k ρ "self" = some (.opq (.inst row a))) (l2 : lookN GH k ρ "other" = some (.opq (.inst row b))) (e : cmpV row a b = some v) (er : cmpD op (.int v) (.int 0) = some r) :
    wpAny (model P w) A (eval (.Call (.Attribute (.Call (.Name "type" p1) [.Name "self" p2] [] p3) nm p4) [.Name "self" p5, .Name "other" p6] [] p7) env) (Post (TH w) Y h gg dd os (.bool r)) FF ⟨h, gg, dd, tt, os⟩ := by
  rw [arm_eval_Call]
  have hb : ∀ w, attributeBase (.Call (.Name "type" p1) [.Name "self" p2] [] p3) nm env w = w := fun _ => rfl
  rw [hb]
  have ec : ev CTy 3 k ρ (.Call (.Name "type" p1) [.Name "self" p2] [] p3) = some (.opq (.cls row)) := by
    show ((ev CTy 2 k ρ (.Name "type" p1)).bind _) = _
    have e0 : ev CTy 2 k ρ (.Name "type" p1) = lookN GH k ρ "type" := rfl
    rw [e0, l0]
    show ((allM (ev CTy 2 k ρ) [.Name "self" p2]).bind _) = _
    have e1 : allM (ev CTy 2 k ρ) [.Name "self" p2] = some [.opq (.inst row a)] := by
      show ((lookN GH k ρ "self").bind _) = _
      rw [l1]; rfl
    rw [e1]; rfl
  have CO := callsTy w 800 6000 (by omega) (by omega)
  refine wpAny_bind (wmono ((evS CO _ _ _ _ _ ec).run EO I y hh (by omega) (by omega)) ?_)
  rintro _ _ ⟨h1, t1, rfl, k1, i1, r1⟩
  cases r1 with | opq o1 =>
  obtain ⟨K, rfl, co⟩ := o1
  have y1 := y.kp (T := TH w) I k1
  have E1 := EO.kp I y.w k1
  refine wpAny_bind (wpAny_standAt ?_)
  have hform : methodCallForm 2 (backTo p7 (starEach [.Name "self" p5, .Name "other" p6] env)) (backToKw p7 (keywordEach [] env)) = true := rfl
  have hpos : methodCallPos true (.Call (.Name "type" p1) [.Name "self" p2] [] p3) env p4 p7 = pure p7 := by unfold methodCallPos; simp [hl]
  show wpAny _ _ (methodCall _ nm p4 p7 env (.ref K) 2 _ _) _ _ _
  unfold methodCall
  rw [hform]
  refine wpAny_bind (wpAny_holding (meth_c W i1 y1 co hh (by omega) (by omega) fun fa h2 t2 k2 i2 m => ?_))
  refine wpAny_bind (wpAny_of_eq hpos ?_)
  obtain ⟨nm', cl, f, F, ecl, ncl, cm⟩ := m.ex
  obtain ⟨ct, c', ef, _⟩ := F.ex
  have y2 := y1.kp (T := TH w) i1 k2
  have E2 := E1.kp i1 y1.w k2
  show wpAny _ _ (callWith p7 (.ref fa) [] (backTo p7 (starEach [.Name "self" p5, .Name "other" p6] env)) []) _ _ _
  have ea : allM (ev CTy 1 k ρ) [.Name "self" p5, .Name "other" p6] = some [.opq (.inst row a), .opq (.inst row b)] := by
    show ((lookN GH k ρ "self").bind fun d => (((lookN GH k ρ "other").bind fun d => some [d])).bind fun ds => some (d :: ds)) = _
    rw [l1, l2]; rfl
  refine callWith_F ⟨_, _, _, _, ef⟩ (wmono (spl (fun e d h => ⟨ev_plain h, evS CO _ _ _ _ _ h⟩) p7 _ _ ea E2 i2 y2 hh (by omega) (by omega)) ?_)
  rintro vs _ ⟨h3, t3, rfl, k3, i3, r3⟩
  have y3 := y2.kp (T := TH w) i2 k3
  have m3 := m.kp i2 y2.w k3
  obtain ⟨nm', cl, f, F, ecl, ncl, cm⟩ := m3.ex
  obtain ⟨ct, c', ef, _⟩ := F.ex
  refine ⟨⟨_, _, _, _, ef⟩, ?_⟩
  refine wmono (kmS KMi F ecl ncl cm r3 i3 y3 hh (by omega) (by omega) e er) ?_
  intro _ _ z
  exact ((z.after k3).after k2).after k1
end Mine
namespace Mine
set_option maxRecDepth 100000
set_option maxHeartbeats 1000000
/-! calls of the module's own functions -/
structure FnG (p : Params) (a n : Nat) (ns : List Str) : Prop where
  at' : ∃ oc od sl, (K2 p).lookup a = some ⟨oc, od, .func (fdAt a p), sl⟩
  sc : (fdAt a p).scope = (defN n).scope
  bd : (fdAt a p).body = .stmts (defN n).body
  g : (fdAt a p).globals = 3
  b : (fdAt a p).builtins = 0
  clo : (fdAt a p).closure = []
  co : (defN n).scope.isCoroutine = false
  gen : (defN n).scope.isGenerator = false
  code : ∀ {h}, Frag.In (K2 p) h → h.CodeRec (fdAt a p).code (fdAt a p).qualname
  dk : defKb (defN n).scope = true
  fr : freeb (defN n).scope.names [] = true
  st : ns.all (stk (defN n).scope.names) = true
  bind : ∀ vs, vs.length = ns.length → bindArgs (fdAt a p) ⟨vs, []⟩ = pure (ns.zip vs)
section
variable {w : World} {Y : AP} {h : Heap} {gg : Array GenState} {dd : Drawn} {tt : Nat} {os : OsState} {A : Around}
theorem FnG.get {a n ns} (F : FnG w.params a n ns) (I : InvH w h) : ∃ oc od sl, h.get? a = some ⟨oc, od, .func (fdAt a w.params), sl⟩ := by
  obtain ⟨oc, od, sl, e⟩ := F.at'
  exact ⟨oc, od, sl, kin I.k a _ e⟩
theorem FnG.keeper {a n ns} (F : FnG w.params a n ns) (I : InvH w h) : ∃ k, (k = Keeper.frame ∨ k = Keeper.machine ∨ k = Keeper.boundFrame) ∧ Looks (model P w) h (keeperOf (.ref a)) k := by
  obtain ⟨oc, od, sl, e⟩ := F.get I
  exact ⟨.frame, .inl rfl, keep_fn e rfl⟩
theorem callGB {a n : Nat} {ns : List Str} (F : FnG w.params a n ns) {vs : List Value} {ds : List D} {d : D} (hl : ns.length = ds.length)
    (r : Reps (OH w) Y h vs ds) (hi : InvH w h) (hy : YOK Y h) (hroom : A.depth < recursionLimit)
    (hb : ∀ env S h2 tk, env.code = (fdAt a w.params).code → env.qual = (fdAt a w.params).qualname ++ ".<locals>." → Entered (TH w) Y S env (defN n).scope.names ((ns.zip ds).reverse ++ []) h h2 →
      wpAny (model P w) (A.deeper env) (execs (defN n).body env) (fun f s' => ∃ h' tk v, s' = ⟨h', gg, dd, tk, os⟩ ∧ f = .ret v ∧ Kp (fun a => XTH a ∨ S a) h2 h' ∧ InvH w h' ∧ Rep (OH w) Y h' v d) FF ⟨h2, gg, dd, tk, os⟩) :
    wpAny (model P w) A (PySem.call (.ref a) vs) (Post (TH w) Y h gg dd os d) FF ⟨h, gg, dd, tt, os⟩ := by
  obtain ⟨oc, od, sl, e⟩ := F.get hi
  refine callB (T := TH w) (body := (defN n).body) (ρc := []) (ns := ns) (ds := ds) e rfl F.g F.b (by rw [F.sc]; exact F.co) (by rw [F.sc]; exact F.gen) F.bd (F.code hi.k) (F.bind vs (r.length.trans hl.symm)) ?_ ?_ ?_ hl r hi hy hroom ?_
  · rw [F.sc, F.clo]; exact defK_of F.dk
  · rw [F.sc, F.clo]; exact free_nil F.fr
  · intro x hx
    rw [F.sc]
    exact List.all_eq_true.mp F.st x hx
  · rw [F.sc]; exact hb
theorem callGS {C : Cfg} {dp un : Nat} (CO : CallsOK (TH w) C dp un) {a n m : Nat} {ns : List Str} (F : FnG w.params a n ns) {vs : List Value} {ds : List D} {d : D} {ρ' : Bs} (hl : ns.length = ds.length)
    (r : Reps (OH w) Y h vs ds) (hi : InvH w h) (hy : YOK Y h) (hh : A.handled = none) (hdp : A.depth + 1 ≤ dp) (hun : A.units + 3 ≤ un)
    (hx : exsW (ex C m (defN n).scope.names) ((ns.zip ds).reverse ++ []) (defN n).body = some (.ret d, ρ')) :
    wpAny (model P w) A (PySem.call (.ref a) vs) (Post (TH w) Y h gg dd os d) FF ⟨h, gg, dd, tt, os⟩ := by
  refine callGB F hl r hi hy (by have := CO.deep; show A.depth < 1000; omega) fun env S h2 tk _ _ En => ?_
  refine wmono ((exsS (exS CO m _) _ _ _ _ hx).run (A := A.deeper env) En.fr (fun _ z => .inr z) En.eok En.inv En.yok (by exact hh) ?_ ?_) ?_
  · show A.depth + 1 ≤ dp; exact hdp
  · show A.units + 3 ≤ un; exact hun
  rintro f _ ⟨h', tk', rfl, k2, i, _, v, rfl, rv⟩
  exact ⟨h', tk', v, rfl, rfl, k2, i, rv.y fun a z => .inl (.inl z)⟩
end
theorem fn21 (w : World) : FnG w.params 21 1 ["self", "other"] := ⟨⟨_, _, _, rfl⟩, by kernel_rfl, by kernel_rfl, by kernel_rfl, by kernel_rfl, by kernel_rfl, by kernel_rfl, by kernel_rfl, fun KX => ⟨20, _, _, _, rfl, kin KX 20 _ rfl, rfl, rfl⟩, by kernel_rfl, by kernel_rfl, by kernel_rfl,
  fun vs h => match vs, h with | [_, _], _ => by kernel_rfl⟩
theorem fn28 (w : World) : FnG w.params 28 2 ["self", "other"] := ⟨⟨_, _, _, rfl⟩, by kernel_rfl, by kernel_rfl, by kernel_rfl, by kernel_rfl, by kernel_rfl, by kernel_rfl, by kernel_rfl, fun KX => ⟨27, _, _, _, rfl, kin KX 27 _ rfl, rfl, rfl⟩, by kernel_rfl, by kernel_rfl, by kernel_rfl,
  fun vs h => match vs, h with | [_, _], _ => by kernel_rfl⟩
theorem fn35 (w : World) : FnG w.params 35 3 ["self", "other"] := ⟨⟨_, _, _, rfl⟩, by kernel_rfl, by kernel_rfl, by kernel_rfl, by kernel_rfl, by kernel_rfl, by kernel_rfl, by kernel_rfl, fun KX => ⟨34, _, _, _, rfl, kin KX 34 _ rfl, rfl, rfl⟩, by kernel_rfl, by kernel_rfl, by kernel_rfl,
  fun vs h => match vs, h with | [_, _], _ => by kernel_rfl⟩
theorem fn57 (w : World) : FnG w.params 57 9 ["x"] := ⟨⟨_, _, _, rfl⟩, by kernel_rfl, by kernel_rfl, by kernel_rfl, by kernel_rfl, by kernel_rfl, by kernel_rfl, by kernel_rfl, fun KX => ⟨56, _, _, _, rfl, kin KX 56 _ rfl, rfl, rfl⟩, by kernel_rfl, by kernel_rfl, by kernel_rfl,
  fun vs h => match vs, h with | [_], _ => by kernel_rfl⟩
theorem fn64 (w : World) : FnG w.params 64 10 ["row"] := ⟨⟨_, _, _, rfl⟩, by kernel_rfl, by kernel_rfl, by kernel_rfl, by kernel_rfl, by kernel_rfl, by kernel_rfl, by kernel_rfl, fun KX => ⟨63, _, _, _, rfl, kin KX 63 _ rfl, rfl, rfl⟩, by kernel_rfl, by kernel_rfl, by kernel_rfl,
  fun vs h => match vs, h with | [_], _ => by kernel_rfl⟩
theorem fn71 (w : World) : FnG w.params 71 11 ["which", "one", "other"] := ⟨⟨_, _, _, rfl⟩, by kernel_rfl, by kernel_rfl, by kernel_rfl, by kernel_rfl, by kernel_rfl, by kernel_rfl, by kernel_rfl, fun KX => ⟨70, _, _, _, rfl, kin KX 70 _ rfl, rfl, rfl⟩, by kernel_rfl, by kernel_rfl, by kernel_rfl,
  fun vs h => match vs, h with | [_, _, _], _ => by kernel_rfl⟩
theorem fn76 (w : World) : FnG w.params 76 12 ["wants", "ranks", "which", "turned"] := ⟨⟨_, _, _, rfl⟩, by kernel_rfl, by kernel_rfl, by kernel_rfl, by kernel_rfl, by kernel_rfl, by kernel_rfl, by kernel_rfl, fun KX => ⟨75, _, _, _, rfl, kin KX 75 _ rfl, rfl, rfl⟩, by kernel_rfl, by kernel_rfl, by kernel_rfl,
  fun vs h => match vs, h with | [_, _, _, _], _ => by kernel_rfl⟩
theorem fn81 (w : World) : FnG w.params 81 13 ["match", "wants", "ranks"] := ⟨⟨_, _, _, rfl⟩, by kernel_rfl, by kernel_rfl, by kernel_rfl, by kernel_rfl, by kernel_rfl, by kernel_rfl, by kernel_rfl, fun KX => ⟨80, _, _, _, rfl, kin KX 80 _ rfl, rfl, rfl⟩, by kernel_rfl, by kernel_rfl, by kernel_rfl,
  fun vs h => match vs, h with | [_, _, _], _ => by kernel_rfl⟩
theorem fn86 (w : World) : FnG w.params 86 14 ["script"] := ⟨⟨_, _, _, rfl⟩, by kernel_rfl, by kernel_rfl, by kernel_rfl, by kernel_rfl, by kernel_rfl, by kernel_rfl, by kernel_rfl, fun KX => ⟨85, _, _, _, rfl, kin KX 85 _ rfl, rfl, rfl⟩, by kernel_rfl, by kernel_rfl, by kernel_rfl,
  fun vs h => match vs, h with | [_], _ => by kernel_rfl⟩
end Mine
namespace Mine
set_option maxRecDepth 100000
set_option maxHeartbeats 1000000
open Builtin in
theorem ne_own {prog : Program} {w : World} {A : Around} {E : Value → Shared → Prop} {h : Heap} {g : Array GenState} {d : Drawn} {t : Nat} {os : OsState} {C x y f : Addr} {B : String} {bm : List Value}
    {nm q : Str} {D N : Addr} {bs bm' : List Value} {hdct : Bool} {sn : List Str} {sub : List Value} {ab : Bool} {col : Option Bool} {dd : Option Addr} {k0 k1 k2 k3 k5 : Option Value} {newId : String}
    (FB : CmpFacts B bm) (X : h.OwnEqNoNe x C f B bm) {oy : Obj} (hy : h.get? y = some oy) (hyc : oy.cls = .ref D) (hnr : ∀ a : Addr, bm'.contains (.ref a) = false)
    (hD : h.get? D = some (excClassObj nm q D N bs bm' hdct sn sub ab col dd k0 k1 k2 k3 k5 newId)) (hu : A.units + 1 < cLine) {Q : Value → Shared → Prop}
    (hcall : wpAny (model prog w) A.in1 (call (.ref f) [.ref x, .ref y]) (fun v s' => ∃ b, v = .bool b ∧ Q (.bool (!b)) s') E ⟨h, g, d, t, os⟩) :
    wpAny (model prog w) A (compareOp .NotEq (.ref x) (.ref y)) Q E ⟨h, g, d, t, os⟩ := by
  have X' := X
  obtain ⟨o, of, nm, q, N, bs, hdct, sn, sub, ab, col, dd, k0, k1, k2, k3, k5, newId, mN, yv, hx, hc, _⟩ := X'
  unfold compareOp
  unfold richCompare
  simp only [oneThing_ref]
  refine wpAny_holding ?_
  refine wpAny_bind (wpAny_cRoomFor (Nat.lt_of_succ_lt hu) ?_)
  rw [cmpInfo_NotEq]
  dsimp only
  refine wpAny_bind (wpAny_typeOf_ref hx ?_)
  rw [hc]
  refine wpAny_bind (wpAny_typeOf_ref hy ?_)
  rw [hyc]
  refine wpAny_rightFirst_false hnr hD ?_
  simp only [Bool.false_eq_true, if_false]
  refine wpAny_bind (tryCompare_ne_ownEq FB X hu (wpAny_mono hcall (fun v s' hv => ?_) fun _ _ e => e))
  obtain ⟨b, rfl, hq⟩ := hv
  first | exact ⟨b, rfl, wpAny_pure hq⟩ | exact ⟨b, rfl, wpAny_pure (wpAny_pure hq)⟩ | exact ⟨b, rfl, hq⟩
theorem neI {w : World} {Y : AP} {h : Heap} {gg dd tt os} {A : Around} {row : List Int} {v1 v2 : Value} {a b v : Int}
    (r1 : Rep (OH w) Y h v1 (.opq (.inst row a))) (r2 : Rep (OH w) Y h v2 (.opq (.inst row b))) (I : InvH w h) (y : YOK Y h) (hh : A.handled = none) (hd : A.depth ≤ 770) (hu : A.units ≤ 5700) (e : cmpV row a b = some v) :
    wpAny (model P w) A (compareOp .NotEq v1 v2) (Post (TH w) Y h gg dd os (.bool (!(decide (v = 0))))) FF ⟨h, gg, dd, tt, os⟩ := by
  have q1 := r1
  have q2 := r2
  cases r1 with | opq o1 =>
  cases r2 with | opq o2 =>
  obtain ⟨i, rfl, c⟩ := o1
  obtain ⟨K, da, t, ei, c⟩ := c.ex
  obtain ⟨i', rfl, c'⟩ := o2
  obtain ⟨K', da', t', ei', c'⟩ := c'.ex
  obtain ⟨f, ns, cl, kc, n1, n2, cm⟩ := c.ex
  obtain ⟨b', so, st, md, f1, f2, f3, f4, f5, f6, g1, g3, g4, g5, g6, g7, g8, g9, g10, g11, g12, g13, g14, k1, k3, k4, k5, k6, k7, k8, k9, k10, k11, k12, k13, k14, t0, t1, t2, t3, tm, e1, e2, e3, e4, F1, F2, F4, F5, F6⟩ := kc.ex
  obtain ⟨ct4, c4, ef4, _⟩ := F4.ex
  obtain ⟨f', ns', cl', kc', _⟩ := c'.ex
  obtain ⟨_, _, _, _, _, _, _, _, _, _, _, _, _, _, _, _, _, _, _, _, _, _, _, _, _, _, _, _, _, _, _, _, _, _, _, _, _, _, _, _, _, e1', _⟩ := kc'.ex
  have X : h.OwnEqNoNe i K f4 "object" [.type "object"] :=
    ⟨_, _, _, _, _, _, _, _, _, _, _, _, _, _, _, _, _, _, nsFind _, _, ei, rfl, e1, ⟨_, _, _, e2, rfl, strKs_ok (by kernel_rfl), fun _ => rfl⟩, by kernel_rfl, ef4, rfl, F.cmp_object.mro, (by rw [typeLookup_type, builtinLookup_eq_fast]; kernel_rfl : typeLookup (.type "object") "__eq__" = pure (some (.builtin "object.__eq__"))), by kernel_rfl⟩
  refine ne_own F.cmp_object X ei' rfl F.cmp_object.noRef e1' (by show A.units + 1 < 9900; omega) ?_
  refine wmono (kmS (A := A.in1) (km5 w.params) F4 e4 n2 cm (.cons q1 (.cons q2 .nil)) I y (by exact hh) ?_ ?_ e (r := decide (v = 0)) ?_) ?_
  · show A.depth ≤ 780; omega
  · show A.units + 1 ≤ 5800; omega
  · show some (eqD (.int v) (.int 0)) = some (decide (v = 0))
    have : eqD (.int v) (.int 0) = decide (v = 0) := by
      show PyData.eqv (.int v) (.int 0) = _
      rw [Bool.eq_iff_iff]
      simp [PyData.eqv]
    rw [this]
  · rintro u _ ⟨h', tk, rfl, kp, i, r⟩
    cases r
    exact ⟨_, rfl, h', tk, rfl, kp, i, .bool _⟩
end Mine
namespace Mine
set_option maxRecDepth 100000
set_option maxHeartbeats 1000000
abbrev rhoG (row : List Int) (a b : Int) : Bs := ((["self", "other"] : List Str).zip [D.opq (.inst row a), D.opq (.inst row b)]).reverse ++ []
structure GtF (n : Nat) (nm : Str) (e : PySem.Expr) : Prop where
  body : ∃ q1 q2 r1 r2 r3 r4 r5 bb p1 p2 p3 p4 p5 p6 p7, (defN n).body = [.Assign [.Name "op_result" q1] (.Call (.Attribute (.Call (.Name "type" p1) [.Name "self" p2] [] p3) nm p4) [.Name "self" p5, .Name "other" p6] [] p7) q2,
    .If (.Compare (.Name "op_result" r1) [.Is] [.Name "NotImplemented" r2] r3) bb [] r4, .Return (some e) r5] ∧ (p4.endLine == p7.line) = true
  l0 : ∀ row a b, lookN GH (defN n).scope.names (rhoG row a b) "type" = some (.opq (.blt "type"))
  l1 : ∀ row a b, lookN GH (defN n).scope.names (rhoG row a b) "self" = some (.opq (.inst row a))
  l2 : ∀ row a b, lookN GH (defN n).scope.names (rhoG row a b) "other" = some (.opq (.inst row b))
  l3 : ∀ row a b r, lookN GH (defN n).scope.names (("op_result", .bool r) :: rhoG row a b) "op_result" = some (.bool r)
  l4 : ∀ row a b r, lookN GH (defN n).scope.names (("op_result", .bool r) :: rhoG row a b) "NotImplemented" = some (.opq (.blt "NotImplemented"))
  l5 : ∀ row a b r, lookN GH (defN n).scope.names (("op_result", .bool r) :: rhoG row a b) "self" = some (.opq (.inst row a))
  l6 : ∀ row a b r, lookN GH (defN n).scope.names (("op_result", .bool r) :: rhoG row a b) "other" = some (.opq (.inst row b))
  st : stk (defN n).scope.names "op_result" = true
theorem gtS {w : World} {a n : Nat} {nm : Str} {e : PySem.Expr} (F : FnG w.params a n ["self", "other"]) (G : GtF n nm e) {i : Nat} {op : CmpOp} (W : Way w nm i) (KMi : KM w.params i op)
    (fin : ∀ {row : List Int} {x z v : Int} {r : Bool} {env Y h gg dd tt os} {A : Around}, cmpV row x z = some v → cmpD op (.int v) (.int 0) = some r → EnvOK (TH w) Y env (defN n).scope.names (("op_result", .bool r) :: rhoG row x z) h → InvH w h → YOK Y h → A.handled = none → A.depth ≤ 770 → A.units ≤ 5700 →
      wpAny (model P w) A (eval e env) (Post (TH w) Y h gg dd os (.bool (decide (0 < v)))) FF ⟨h, gg, dd, tt, os⟩)
    {Y h gg dd tt os} {A : Around} {row : List Int} {x z v : Int} {vs : List Value} (rs : Reps (OH w) Y h vs [.opq (.inst row x), .opq (.inst row z)]) (I : InvH w h) (y : YOK Y h) (hh : A.handled = none) (hd : A.depth ≤ 760) (hu : A.units ≤ 5600)
    (ev : cmpV row x z = some v) (r : Bool) (er : cmpD op (.int v) (.int 0) = some r) :
    wpAny (model P w) A (PySem.call (.ref a) vs) (Post (TH w) Y h gg dd os (.bool (decide (0 < v)))) FF ⟨h, gg, dd, tt, os⟩ := by
  refine callGB F rfl rs I y (by show A.depth < 1000; omega) fun env S h2 tk _ _ En => ?_
  obtain ⟨q1, q2, r1, r2, r3, r4, r5, bb, p1, p2, p3, p4, p5, p6, p7, eb, hl⟩ := G.body
  have hd' : (A.deeper env).depth ≤ 761 := by show A.depth + 1 ≤ 761; omega
  have hu' : (A.deeper env).units ≤ 5603 := by show A.units + 3 ≤ 5603; omega
  have hh' : (A.deeper env).handled = none := hh
  generalize A.deeper env = B at *
  rw [eb]
  refine wpAny_execs_cons (wpAny_Assign_Name (wmono (wayE W KMi En.eok En.inv En.yok hh' (by omega) (by omega) hl (G.l0 row x z) (G.l1 row x z) (G.l2 row x z) ev er) ?_) rfl)
  rintro v1 _ ⟨h3, t3, rfl, k3, i3, rv⟩
  have y3 := En.yok.kp En.inv k3
  have E3 := En.eok.kp En.inv En.yok.w k3
  refine storeNP En.fr (fun _ z => .inr z) E3 i3 y3 rv G.st fun h4 t4 k4 i4 y4 E4 _ => ?_
  have CO := callsTy w 800 6000 (by omega) (by omega)
  have n3 : Mine.ev CTy 1 (defN n).scope.names (("op_result", .bool r) :: rhoG row x z) (.Name "op_result" r1) = some (.bool r) := G.l3 row x z r
  have n4 : Mine.ev CTy 1 (defN n).scope.names (("op_result", .bool r) :: rhoG row x z) (.Name "NotImplemented" r2) = some (.opq (.blt "NotImplemented")) := G.l4 row x z r
  refine wpAny_execs_cons (wpAny_If (wpAny_isTrue_Compare1 (wmono ((evS CO _ _ _ _ _ n3).run E4 i4 y4 hh' (by omega) (by omega)) ?_) rfl))
  rintro u1 _ ⟨h5, t5, rfl, k5, i5, ru1⟩
  cases ru1
  have y5 := y4.kp i4 k5
  have E5 := E4.kp i4 y4.w k5
  refine wmono ((evS CO _ _ _ _ _ n4).run E5 i5 y5 hh' (by omega) (by omega)) ?_
  rintro u2 _ ⟨h6, t6, rfl, k6, i6, ru2⟩
  have y6 := y5.kp i5 k6
  have E6 := E5.kp i5 y5.w k6
  cases ru2 with | opq o =>
  have o : u2 = .notImplemented := o
  subst o
  refine wpAny_is_other rfl nofun (wpAny_truthy_bool ?_)
  refine wpAny_execs_nil ?_
  refine wpAny_execs_cons (wpAny_Return_some (wmono (fin ev er E6 i6 y6 hh' (by omega) (by omega)) ?_))
  rintro u3 _ ⟨h7, t7, rfl, k7, i7, ru3⟩
  exact ⟨h7, t7, u3, rfl, rfl, (((((k3.wide fun _ => .inl).trans k4).trans (k5.wide fun _ => .inl)).trans (k6.wide fun _ => .inl)).trans (k7.wide fun _ => .inl)), i7, ru3.y fun a z => .inl (.inl z)⟩
end Mine
namespace Mine
set_option maxRecDepth 100000
set_option maxHeartbeats 1000000
theorem gtf1 : ∃ s1 s2 s3 s4 s5 s6, GtF 1 "__lt__" (.BoolOp .And [.UnaryOp .Not (.Name "op_result" s1) s2, .Compare (.Name "self" s3) [.NotEq] [.Name "other" s4] s5] s6) :=
  ⟨_, _, _, _, _, _, ⟨⟨_, _, _, _, _, _, _, _, _, _, _, _, _, _, _, rfl, rfl⟩, fun _ _ _ => by kernel_rfl, fun _ _ _ => by kernel_rfl, fun _ _ _ => by kernel_rfl, fun _ _ _ _ => by kernel_rfl, fun _ _ _ _ => by kernel_rfl, fun _ _ _ _ => by kernel_rfl, fun _ _ _ _ => by kernel_rfl, by kernel_rfl⟩⟩
theorem gtf2 : ∃ s1 s2, GtF 2 "__le__" (.UnaryOp .Not (.Name "op_result" s1) s2) :=
  ⟨_, _, ⟨⟨_, _, _, _, _, _, _, _, _, _, _, _, _, _, _, rfl, rfl⟩, fun _ _ _ => by kernel_rfl, fun _ _ _ => by kernel_rfl, fun _ _ _ => by kernel_rfl, fun _ _ _ _ => by kernel_rfl, fun _ _ _ _ => by kernel_rfl, fun _ _ _ _ => by kernel_rfl, fun _ _ _ _ => by kernel_rfl, by kernel_rfl⟩⟩
theorem gtf3 : ∃ s1 s3 s4 s5 s6, GtF 3 "__ge__" (.BoolOp .And [.Name "op_result" s1, .Compare (.Name "self" s3) [.NotEq] [.Name "other" s4] s5] s6) :=
  ⟨_, _, _, _, _, ⟨⟨_, _, _, _, _, _, _, _, _, _, _, _, _, _, _, rfl, rfl⟩, fun _ _ _ => by kernel_rfl, fun _ _ _ => by kernel_rfl, fun _ _ _ => by kernel_rfl, fun _ _ _ _ => by kernel_rfl, fun _ _ _ _ => by kernel_rfl, fun _ _ _ _ => by kernel_rfl, fun _ _ _ _ => by kernel_rfl, by kernel_rfl⟩⟩
section
variable {w : World} {row : List Int} {x z v : Int} {r : Bool} {env : Env} {Y : AP} {h : Heap} {gg : Array GenState} {dd : Drawn} {tt : Nat} {os : OsState} {A : Around} {n : Nat} {k : Ks} {ρ : Bs}
theorem opS (l3 : lookN GH k ρ "op_result" = some (.bool r)) {s1 : Pos}
    (EO : EnvOK (TH w) Y env k ρ h) (I : InvH w h) (y : YOK Y h) (hh : A.handled = none) (hd : A.depth ≤ 770) (hu : A.units ≤ 5700) :
    wpAny (model P w) A (eval (.Name "op_result" s1) env) (Post (TH w) Y h gg dd os (.bool r)) FF ⟨h, gg, dd, tt, os⟩ := by
  have n3 : Mine.ev CTy 1 k ρ (.Name "op_result" s1) = some (.bool r) := l3
  exact (evS (callsTy w 800 6000 (by omega) (by omega)) _ _ _ _ _ n3).run EO I y hh (by omega) (by omega)
theorem notS (l3 : lookN GH k ρ "op_result" = some (.bool r)) {s1 s2 : Pos}
    (EO : EnvOK (TH w) Y env k ρ h) (I : InvH w h) (y : YOK Y h) (hh : A.handled = none) (hd : A.depth ≤ 770) (hu : A.units ≤ 5700) :
    wpAny (model P w) A (eval (.UnaryOp .Not (.Name "op_result" s1) s2) env) (Post (TH w) Y h gg dd os (.bool (!r))) FF ⟨h, gg, dd, tt, os⟩ := by
  refine wpAny_UnaryOp (wmono (opS l3 EO I y hh hd hu) ?_)
  rintro u _ ⟨h1, t1, rfl, k1, i1, r1⟩
  cases r1
  exact not_of (wpAny_truthy_bool ⟨h1, t1, rfl, k1, i1, .bool _⟩)
theorem andS {e1 : PySem.Expr} {s3 s4 s5 s6 : Pos} (l5 : lookN GH k ρ "self" = some (.opq (.inst row x))) (l6 : lookN GH k ρ "other" = some (.opq (.inst row z)))
    (EO : EnvOK (TH w) Y env k ρ h) (I : InvH w h) (y : YOK Y h) (hh : A.handled = none) (hd : A.depth ≤ 770) (hu : A.units ≤ 5700) (ev : cmpV row x z = some v) {r1 : Bool}
    (he1 : wpAny (model P w) A (eval e1 env) (Post (TH w) Y h gg dd os (.bool r1)) FF ⟨h, gg, dd, tt, os⟩) :
    wpAny (model P w) A (eval (.BoolOp .And [e1, .Compare (.Name "self" s3) [.NotEq] [.Name "other" s4] s5] s6) env) (Post (TH w) Y h gg dd os (.bool (r1 && !(decide (v = 0))))) FF ⟨h, gg, dd, tt, os⟩ := by
  rw [arm_eval_BoolOp]
  show wpAny _ _ (boolOp s6 .And [eval e1 env, eval (.Compare (.Name "self" s3) [.NotEq] [.Name "other" s4] s5) env]) _ _ _
  unfold boolOp
  refine wpAny_bind (wmono he1 ?_)
  rintro u _ ⟨h1, t1, rfl, k1, i1, rr⟩
  cases rr
  refine wpAny_bind (wpAny_standAt (wpAny_bind (wpAny_holding (wpAny_truthy_bool ?_))))
  cases r1 with
  | false => exact wpAny_pure ⟨h1, t1, rfl, k1, i1, .bool _⟩
  | true =>
    dsimp only
    unfold boolOp
    have CO := callsTy w 800 6000 (by omega) (by omega)
    have n5 : Mine.ev CTy 1 k ρ (.Name "self" s3) = some (.opq (.inst row x)) := l5
    have n6 : Mine.ev CTy 1 k ρ (.Name "other" s4) = some (.opq (.inst row z)) := l6
    have y1 := y.kp (T := TH w) I k1
    have E1 := EO.kp I y.w k1
    refine wpAny_Compare1 (wmono ((evS CO _ _ _ _ _ n5).run E1 i1 y1 hh (by omega) (by omega)) ?_) rfl
    rintro v1 _ ⟨h2, t2, rfl, k2, i2, r2⟩
    have y2 := y1.kp (T := TH w) i1 k2
    refine wmono ((evS CO _ _ _ _ _ n6).run (E1.kp i1 y1.w k2) i2 y2 hh (by omega) (by omega)) ?_
    rintro v2 _ ⟨h3, t3, rfl, k3, i3, r3⟩
    have y3 := y2.kp (T := TH w) i2 k3
    refine wmono (neI (r2.kp i2 y2.w (kpw k3)) r3 i3 y3 hh hd hu ev) ?_
    intro _ _ z
    exact ((z.after k3).after k2).after k1
end
theorem dLt {v : Int} {r : Bool} (e : cmpD .Lt (.int v) (.int 0) = some r) : (!r && !(decide (v = 0))) = decide (0 < v) := by
  cases (Option.some.inj e : decide (v < 0) = r)
  rw [Bool.eq_iff_iff]; simp; omega
theorem dLe {v : Int} {r : Bool} (e : cmpD .LtE (.int v) (.int 0) = some r) : (!r) = decide (0 < v) := by
  cases (Option.some.inj e : decide (v ≤ 0) = r)
  rw [Bool.eq_iff_iff]; simp
theorem dGe {v : Int} {r : Bool} (e : cmpD .GtE (.int v) (.int 0) = some r) : (r && !(decide (v = 0))) = decide (0 < v) := by
  cases (Option.some.inj e : decide (v ≥ 0) = r)
  rw [Bool.eq_iff_iff]; simp; omega
section
variable {w : World} {Y : AP} {h : Heap} {gg : Array GenState} {dd : Drawn} {tt : Nat} {os : OsState} {A : Around} {row : List Int} {x z v : Int} {vs : List Value}
theorem gt_lt (rs : Reps (OH w) Y h vs [.opq (.inst row x), .opq (.inst row z)]) (I : InvH w h) (y : YOK Y h) (hh : A.handled = none) (hd : A.depth ≤ 760) (hu : A.units ≤ 5600) (ev : cmpV row x z = some v) :
    wpAny (model P w) A (PySem.call (.ref 21) vs) (Post (TH w) Y h gg dd os (.bool (decide (0 < v)))) FF ⟨h, gg, dd, tt, os⟩ := by
  obtain ⟨s1, s2, s3, s4, s5, s6, G⟩ := gtf1
  refine gtS (fn21 w) G (way_lt w) (km3 w.params) ?_ rs I y hh hd hu ev (decide (v < 0)) rfl
  intro row x z v r env Y h gg dd tt os A ev er EO I y hh hd hu
  rw [← dLt er]
  exact andS (G.l5 ..) (G.l6 ..) EO I y hh hd hu ev (notS (G.l3 ..) EO I y hh hd hu)
theorem gt_le (rs : Reps (OH w) Y h vs [.opq (.inst row x), .opq (.inst row z)]) (I : InvH w h) (y : YOK Y h) (hh : A.handled = none) (hd : A.depth ≤ 760) (hu : A.units ≤ 5600) (ev : cmpV row x z = some v) :
    wpAny (model P w) A (PySem.call (.ref 28) vs) (Post (TH w) Y h gg dd os (.bool (decide (0 < v)))) FF ⟨h, gg, dd, tt, os⟩ := by
  obtain ⟨s1, s2, G⟩ := gtf2
  refine gtS (fn28 w) G (way_le w) (km6 w.params) ?_ rs I y hh hd hu ev (decide (v ≤ 0)) rfl
  intro row x z v r env Y h gg dd tt os A ev er EO I y hh hd hu
  rw [← dLe er]
  exact notS (G.l3 ..) EO I y hh hd hu
theorem gt_ge (rs : Reps (OH w) Y h vs [.opq (.inst row x), .opq (.inst row z)]) (I : InvH w h) (y : YOK Y h) (hh : A.handled = none) (hd : A.depth ≤ 760) (hu : A.units ≤ 5600) (ev : cmpV row x z = some v) :
    wpAny (model P w) A (PySem.call (.ref 35) vs) (Post (TH w) Y h gg dd os (.bool (decide (0 < v)))) FF ⟨h, gg, dd, tt, os⟩ := by
  obtain ⟨s1, s3, s4, s5, s6, G⟩ := gtf3
  refine gtS (fn35 w) G (way_ge w) (km7 w.params) ?_ rs I y hh hd hu ev (decide (v ≥ 0)) rfl
  intro row x z v r env Y h gg dd tt os A ev er EO I y hh hd hu
  rw [← dGe er]
  exact andS (G.l5 ..) (G.l6 ..) EO I y hh hd hu ev (opS (G.l3 ..) EO I y hh hd hu)
end
end Mine
namespace Mine
set_option maxRecDepth 100000
set_option maxHeartbeats 1000000
/-! a def statement in a function of ours -/
theorem T3.same {h1 h' : Heap} {c Pt c' : Addr} {ps ps' : Array Value} {pos : Pos} {q : Str} (C : Coded h1 h' c Pt ps ps' pos q c') : T3 h' c Pt pos q :=
  ⟨ps', C.tab, fun v e => by rw [C.hit] at e; cases e; exact ⟨c', rfl, C.crec⟩⟩
theorem notXT_of {a : Addr} (h : 87 ≤ a) : ¬ XTH a := fun x => absurd (xt_lt x) (Nat.not_lt.mpr h)
theorem InvH.coded {w : World} {h h1 h' : Heap} {c Pt c' : Addr} {ps ps' : Array Value} {pos : Pos} {q : Str} (I : InvH w h) (k1 : Kp XN h h1) (C : Coded h1 h' c Pt ps ps' pos q c')
    (hw : (c = 63 ∧ Pt = 59 ∧ pos = cmpDef.pos ∧ q = qCmp) ∨ (c = 75 ∧ Pt = 73 ∧ pos = askDef.pos ∧ q = qAsk)) : InvH w h' ∧ Kp XTH h h' := by
  have I1 : InvH w h1 := I.y (Y := XN) (fun _ z => z.elim) k1
  have y0 : YW XN h1 := fun _ z => z.elim
  have kx : Kp XTH h1 h' := C.kp.wide fun a z => by
    rcases hw with ⟨_, rfl, _⟩ | ⟨_, rfl, _⟩
    · exact .inr (.inl z.1)
    · exact .inr (.inr z.1)
  have kP : Kp (fun a => a = Pt) h1 h' := C.kp.wide fun a z => z.1
  have kd : Kd (fun a => a = Pt) h1 := fun a o z e => by
    have z : a = Pt := z
    subst z
    refine (kdXY I1 y0) a o (.inl ?_) e
    rcases hw with ⟨_, rfl, _⟩ | ⟨_, rfl, _⟩
    · exact .inr (.inl rfl)
    · exact .inr (.inr rfl)
  refine ⟨⟨fun a o e => kx.at' a o (k2_notXT e) (I1.k a o e), ?_, ?_, ?_⟩, k1.xn.trans kx⟩
  · obtain ⟨qs, t, r⟩ := I1.t37
    refine ⟨qs, t.kp kP ?_ ?_, r.kd kd kP⟩ <;> (rcases hw with ⟨_, rfl, _⟩ | ⟨_, rfl, _⟩ <;> decide)
  · rcases hw with ⟨rfl, rfl, rfl, rfl⟩ | ⟨_, rfl, _⟩
    · exact T3.same C
    · exact I1.t59.kd kd kP (by decide) (by decide)
  · rcases hw with ⟨rfl, rfl, rfl, rfl⟩ | ⟨rfl, rfl, rfl, rfl⟩
    · exact I1.t73.kd kd kP (by decide) (by decide)
    · exact T3.same C
theorem m_sdef {A : Around} {w : World} {env : Env} {S Y : AP} {k : Ks} {ρ : Bs} {h : Heap} {gg : Array GenState} {dd : Drawn} {tt : Nat} {os : OsState} {c Pt : Addr} {pos : Pos} {name q : Str} {args : Arguments} {scope : Scope} {body : List Stmt} {clo : List (Str × Addr)} {Q : Flow → Shared → Prop}
   (hw : (c = 63 ∧ Pt = 59 ∧ pos = cmpDef.pos ∧ q = qCmp) ∨ (c = 75 ∧ Pt = 73 ∧ pos = askDef.pos ∧ q = qAsk))
   (hc : env.code = .ref c) (hq : qualnameIn env name name = q) (hd : args.defaults = []) (hkd : args.kw_defaults = []) (hkw : args.kwonlyargs = []) (hann : annTrees args none env = []) (hdoc : docOf body = none)
   (hclo : closureFor scope env = pure clo) (F : FrOK S env k) (sy : ∀ a, S a → Y a) (EO : EnvOK (TH w) Y env k ρ h) (I : InvH w h) (y : YOK Y h) (hx : stk k name = true)
   (x : ∀ f ct c' h' tk, h.get? f = none → Kp (fun a => XTH a ∨ S a) h h' → InvH w h' → YOK Y h' → EnvOK (TH w) Y env k ((name, .opq (.fn f)) :: ρ) h' → h'.get? f = some (fnObj name q args body scope clo ct pmV c') → h'.CodeRec (.ref c') q → Q .next ⟨h', gg, dd, tk, os⟩) :
   wpAny (model P w) A (exec (.FunctionDef name args body [] none [] scope none name pos) env) Q FF ⟨h, gg, dd, tt, os⟩ := by
  have T : T3 h c Pt pos q := by
    rcases hw with ⟨rfl, rfl, rfl, rfl⟩ | ⟨rfl, rfl, rfl, rfl⟩
    · exact I.t59
    · exact I.t73
  obtain ⟨ps, tb, hit⟩ := T
  have kk : ∀ {h'}, Kp (fun a => a = Pt ∧ codeAmong pos ps.toList = none) h h' → Frag.In (K2 w.params) h' := fun {h'} kp a o e => kp.at' a o (fun z => k2_notXT e (by
    rcases hw with ⟨_, rfl, _⟩ | ⟨_, rfl, _⟩
    · exact .inr (.inl z.1)
    · exact .inr (.inr z.1))) (I.k a o e)
  refine m_fdef (pm := pmV) hc tb hit hq hd hkd hkw hann hdoc hclo EO.glob (fun h' tk Q' kp e => ?_) (fun h' tk Q' kp e => m_nm (kk kp) e) ?_
  · rw [EO.blt]; exact m_bf (kk kp) e
  intro f ct c' h1 h2 tk ps' C k1 hf hct
  obtain ⟨I2, k2⟩ := I.coded k1 C hw
  have k3 : Kp XN h2 (h2.push (fnObj name q args body scope clo ct pmV c')) := Kp.push _ _
  have I3 : InvH w (h2.push (fnObj name q args body scope clo ct pmV c')) := I2.y (Y := XN) (fun _ z => z.elim) k3
  have k23 : Kp XTH h (h2.push (fnObj name q args body scope clo ct pmV c')) := k2.trans k3.xn
  have y3 := y.kp (T := TH w) I k23
  have E3 := EO.kp I y.w k23
  have hf3 : (h2.push (fnObj name q args body scope clo ct pmV c')).get? f = some (fnObj name q args body scope clo ct pmV c') := by rw [hf]; exact Heap.get?_push_size _ rfl
  have hfn : h.get? f = none := by
    cases e : h.get? f with
    | none => rfl
    | some o =>
      by_cases xt : XTH f
      · have l1 := nLt (xt_lt xt)
        have l2 := nLe (size87 I2.k)
        rw [hf] at l1
        omega
      · have l1 := nLt (Heap.lt_size (k2.at' _ _ xt e))
        rw [hf] at l1
        omega
  have nS : ¬ S f := fun z => by
    obtain ⟨_, o, e, _⟩ := y f (sy _ z)
    rw [hfn] at e; cases e
  unfold bindName
  refine wpAny_bind (wpAny_holding (wpAny_point ?_))
  refine wpAny_bind (storeNP (d := .opq (.fn f)) F sy E3 I3 y3 (.opq rfl) hx fun h4 t4 k4 I4 y4 E4 _ => ?_)
  refine wpAny_point ?_
  have h87 : 87 ≤ f := by
    rw [hf]; exact size87 I2.k
  refine x f ct c' h4 t4 hfn ((k23.wide fun _ => .inl).trans k4) I4 y4 E4 (k4.at' _ _ (fun z => z.elim (notXT_of h87) nS) hf3) ?_
  have kd : Kd (fun a => XTH a ∨ S a) (h2.push (fnObj name q args body scope clo ct pmV c')) := fun a o z e => kdXY I3 y3.w a o (z.imp id (sy a)) e
  exact kd.code k4 (C.crec.keeps k3.all)
end Mine
namespace Mine
set_option maxRecDepth 100000
set_option maxHeartbeats 1000000
/-! _law_by -/
theorem by_body : ∃ p1 p2, (defN 10).body = [.FunctionDef "_law_compare" cmpDef.args cmpDef.body [] none [] cmpDef.scope none "_law_compare" cmpDef.pos, .Return (some (.Name "_law_compare" p1)) p2] := ⟨_, _, rfl⟩
theorem ints_are {O : OP} {Y : AP} {h : Heap} : ∀ {vs : List Value} {ns : List Int}, Reps O Y h vs (ns.map .int) → IntsAre vs ns
  | _, [], .nil => .nil
  | _, n :: ns, .cons (.int _ t) r => .cons n t (ints_are r)
theorem byS {w : World} {Y : AP} {h : Heap} {gg dd tt os} {A : Around} {vs : List Value} {row : List Int} (rs : Reps (OH w) Y h vs [.list (row.map .int)]) (I : InvH w h) (y : YOK Y h) (hh : A.handled = none) (hd : A.depth ≤ 760) (hu : A.units ≤ 5600) :
    wpAny (model P w) A (PySem.call (.ref 64) vs) (Post (TH w) Y h gg dd os (.opq (.cmp row))) FF ⟨h, gg, dd, tt, os⟩ := by
  have rs0 := rs
  cases rs with | cons r1 rs =>
  cases rs
  cases r1 with | list pl nl ri =>
  rename_i l its
  refine callGB (fn64 w) rfl rs0 I y (by show A.depth < 1000; omega) fun env S h2 tk ec eq En => ?_
  obtain ⟨p1, p2, eb⟩ := by_body
  rw [eb]
  have hrow : (defN 10).scope.names.lookup ("row" : Str) = some .cell := by kernel_rfl
  obtain ⟨c0, u0, ec0, ic0, rc0⟩ := En.eok.cell "row" (.inl hrow)
  have Sc0 : S c0 := (En.fr.cell "row" c0 hrow ec0).1
  have hclo : closureFor cmpDef.scope env = pure ([("row", c0)] : List (Str × Addr)) := by
    rw [closureFor_eq]
    · have : closL env.cells cmpDef.scope.names [] = ([("row", (env.cells.lookup ("row" : Str)).getD 0)] : List (Str × Addr)) := by kernel_rfl
      rw [this, ec0]; rfl
    · intro n hn
      have := freeb_use cmp_facts.2.1 (x := n) ?_
      · simp only [List.mem_cons, List.not_mem_nil, or_false] at this
        subst this; rw [ec0]; rfl
      · exact (defK_of (clo := []) cmp_facts.1).look n _ hn
  refine wpAny_execs_cons (m_sdef (q := qCmp) (c := 63) (Pt := 59) (.inl ⟨rfl, rfl, rfl, rfl⟩) (by rw [ec]; kernel_rfl) ?_ (by kernel_rfl) (by kernel_rfl) (by kernel_rfl) (by kernel_rfl) (by kernel_rfl) hclo En.fr (fun _ z => .inr z) En.eok En.inv En.yok (by kernel_rfl) ?_)
  · unfold qualnameIn
    have : env.kindOf "_law_compare" = some .local := by unfold Env.kindOf; rw [En.eok.names]; kernel_rfl
    rw [this, eq]; kernel_rfl
  intro f ct c' h3 t3 nf k3 I3 y3 E3 ef cr
  have nm : lookN GH (defN 10).scope.names ((("_law_compare", D.opq (.fn f)) : Str × D) :: (((["row"] : List Str).zip [D.list (row.map .int)]).reverse ++ [])) "_law_compare" = some (.opq (.fn f)) := by kernel_rfl
  have e3 : ev C0 1 (defN 10).scope.names ((("_law_compare", D.opq (.fn f)) : Str × D) :: (((["row"] : List Str).zip [D.list (row.map .int)]).reverse ++ [])) (.Name "_law_compare" p1) = some (.opq (.fn f)) := nm
  refine wpAny_execs_cons (wpAny_Return_some (wmono ((evS (calls0 w 800 6000 (by omega) (by omega)) _ _ _ _ _ e3).run (A := A.deeper env) E3 I3 y3 (by exact hh) ?_ ?_) ?_))
  · show A.depth + 1 ≤ 800; omega
  · show A.units + 3 ≤ 6000; omega
  rintro v _ ⟨h4, t4, rfl, k4, I4, r4⟩
  cases r4 with | opq o4 =>
  have o4 : v = .ref f := o4
  subst o4
  refine ⟨h4, t4, _, rfl, rfl, k3.trans (k4.wide fun _ => .inl), I4, .opq ⟨f, rfl, ?_⟩⟩
  obtain ⟨c1, u1, ec1, ic1, rc1⟩ := E3.cell "row" (.inl hrow)
  rw [ec0] at ec1; cases ec1
  obtain ⟨v1, ev1, rv1⟩ := rc1 (.list (row.map .int)) (by kernel_rfl)
  subst ev1
  have nYc : ¬ Y c0 := fun z => by
    obtain ⟨_, o, e, _⟩ := y c0 z
    rw [En.new c0 Sc0] at e; cases e
  have kd3 : Kd XTH h3 := fun a o z e => kdXY I3 y3.w a o (.inl z) e
  have ic4 := k4.isCell ((TH w).xt_cell I3 ic1) ic1
  have rv4 := (rv1.kp (T := TH w) I3 y3.w (kpw k4)).y (Y' := Y) fun a z => .inl (.inl z)
  cases rv4 with | list pl4 nl4 ri4 =>
  exact ⟨ct, c', c0, _, _, k4.at' _ _ (kd3.other ef nofun nofun nofun nofun) ef, kd3.code k4 cr, ic4, nYc, pl4, nl4, ints_are ri4, ic4.lt⟩
end Mine
namespace Mine
set_option maxRecDepth 100000
set_option maxHeartbeats 2000000
theorem runs_det {M : Model} {Γ : Ctx} {p : Pos} {t : Sem Fin} {fs : List Frame} {s : Shared} {e₁ : End} {s₁ : Shared} (h₁ : Runs M Γ p t fs s e₁ s₁) : ∀ {e₂ s₂}, Runs M Γ p t fs s e₂ s₂ → e₁ = e₂ ∧ s₁ = s₂ := by
  induction h₁ with
  | done => intro e₂ s₂ h₂; cases h₂; exact ⟨rfl, rfl⟩
  | raise => intro e₂ s₂ h₂; cases h₂; exact ⟨rfl, rfl⟩
  | yield => intro e₂ s₂ h₂; cases h₂; exact ⟨rfl, rfl⟩
  | again _ _ ih => intro e₂ s₂ h₂; cases h₂; exact ih ‹_›
  | rule _ ih => intro e₂ s₂ h₂; cases h₂; exact ih ‹_›
  | «at» _ ih => intro e₂ s₂ h₂; cases h₂; exact ih ‹_›
  | load q _ ih => intro e₂ s₂ h₂; cases h₂; rename_i q2 _; rw [q] at q2; cases q2; exact ih ‹_›
  | update _ _ ih => intro e₂ s₂ h₂; cases h₂; exact ih ‹_›
  | loadIfAlive _ ih => intro e₂ s₂ h₂; cases h₂; exact ih ‹_›
  | point _ ih => intro e₂ s₂ h₂; cases h₂; exact ih ‹_›
  | alloc _ ih => intro e₂ s₂ h₂; cases h₂; exact ih ‹_›
  | fresh _ ih => intro e₂ s₂ h₂; cases h₂; exact ih ‹_›
  | ask _ ih => intro e₂ s₂ h₂; cases h₂; exact ih ‹_›
  | choose _ _ ih => intro e₂ s₂ h₂; cases h₂; exact ih ‹_›
  | os _ ih => intro e₂ s₂ h₂; cases h₂; exact ih ‹_›
  | handled _ ih => intro e₂ s₂ h₂; cases h₂; exact ih ‹_›
  | genState q _ ih => intro e₂ s₂ h₂; cases h₂; rename_i q2 _; rw [q] at q2; cases q2; exact ih ‹_›
  | stack _ ih => intro e₂ s₂ h₂; cases h₂; exact ih ‹_›
  | thread _ ih => intro e₂ s₂ h₂; cases h₂; exact ih ‹_›
  | newGen _ ih => intro e₂ s₂ h₂; cases h₂; exact ih ‹_›
  | call _ _ ih1 ih2 =>
    intro e₂ s₂ h₂
    cases h₂ with
    | call a b => obtain ⟨q1, q2⟩ := ih1 a; cases q1; cases q2; exact ih2 b
    | callSusp a => obtain ⟨q1, q2⟩ := ih1 a; cases q1
  | callSusp _ ih1 =>
    intro e₂ s₂ h₂
    cases h₂ with
    | call a b => obtain ⟨q1, q2⟩ := ih1 a; cases q1
    | callSusp a => obtain ⟨q1, q2⟩ := ih1 a; cases q1; cases q2; exact ⟨rfl, rfl⟩
  | resumeFresh q _ _ _ ih1 ih2 =>
    intro e₂ s₂ h₂
    cases h₂ with
    | resumeFresh q' a _ b => rw [q] at q'; cases q'; obtain ⟨q1, q2⟩ := ih1 a; cases q1; cases q2; exact ih2 b
    | resumeSuspended q' => rw [q] at q'; cases q'
    | resumeJustStarted q' hv => exact absurd rfl hv
    | resumeRunning q' => rw [q] at q'; cases q'
    | resumeFinished q' => rw [q] at q'; cases q'
  | resumeSuspended q _ _ _ ih1 ih2 =>
    intro e₂ s₂ h₂
    cases h₂ with
    | resumeFresh q' a _ b => rw [q] at q'; cases q'
    | resumeSuspended q' a _ b => rw [q] at q'; cases q'; obtain ⟨q1, q2⟩ := ih1 a; cases q1; cases q2; exact ih2 b
    | resumeJustStarted q' hv => rw [q] at q'; cases q'
    | resumeThrowFresh q' => rw [q] at q'; cases q'
    | resumeRunning q' => rw [q] at q'; cases q'
    | resumeFinished q' => rw [q] at q'; cases q'
  | resumeJustStarted q hv _ ih =>
    intro e₂ s₂ h₂
    cases h₂ with
    | resumeFresh q' a _ b => exact absurd rfl hv
    | resumeSuspended q' a _ b => rw [q] at q'; cases q'
    | resumeJustStarted q' hv b => exact ih b
    | resumeRunning q' => rw [q] at q'; cases q'
    | resumeFinished q' => rw [q] at q'; cases q'
  | resumeThrowFresh q _ ih =>
    intro e₂ s₂ h₂
    cases h₂ with
    | resumeSuspended q' a _ b => rw [q] at q'; cases q'
    | resumeThrowFresh q' b => exact ih b
    | resumeRunning q' => rw [q] at q'; cases q'
    | resumeFinished q' => rw [q] at q'; cases q'
  | resumeRunning q _ ih =>
    intro e₂ s₂ h₂
    cases h₂ with
    | resumeFresh q' a _ b => rw [q] at q'; cases q'
    | resumeSuspended q' a _ b => rw [q] at q'; cases q'
    | resumeJustStarted q' hv b => rw [q] at q'; cases q'
    | resumeThrowFresh q' b => rw [q] at q'; cases q'
    | resumeRunning q' b => exact ih b
    | resumeFinished q' => rw [q] at q'; cases q'
  | resumeFinished q _ ih =>
    intro e₂ s₂ h₂
    cases h₂ with
    | resumeFresh q' a _ b => rw [q] at q'; cases q'
    | resumeSuspended q' a _ b => rw [q] at q'; cases q'
    | resumeJustStarted q' hv b => rw [q] at q'; cases q'
    | resumeThrowFresh q' b => rw [q] at q'; cases q'
    | resumeRunning q' b => rw [q] at q'; cases q'
    | resumeFinished q' b => exact ih b
  | segRet _ _ ih1 ih2 =>
    intro e₂ s₂ h₂
    cases h₂ with
    | segRet a b => obtain ⟨q1, q2⟩ := ih1 a; cases q1; cases q2; exact ih2 b
    | segSuspOut _ a => obtain ⟨q1, q2⟩ := ih1 a; cases q1
    | segSuspGen _ a => obtain ⟨q1, q2⟩ := ih1 a; cases q1
  | segGen _ _ ih1 ih2 =>
    intro e₂ s₂ h₂
    cases h₂ with
    | segGen a b => obtain ⟨q1, q2⟩ := ih1 a; cases q1; cases q2; exact ih2 b
    | segSuspOut _ a => obtain ⟨q1, q2⟩ := ih1 a; cases q1
    | segSuspGen _ a => obtain ⟨q1, q2⟩ := ih1 a; cases q1
  | segSuspOut q _ ih1 =>
    intro e₂ s₂ h₂
    cases h₂ with
    | segRet a b => obtain ⟨q1, q2⟩ := ih1 a; cases q1
    | segGen a b => obtain ⟨q1, q2⟩ := ih1 a; cases q1
    | segSuspOut _ a => obtain ⟨q1, q2⟩ := ih1 a; cases q1; cases q2; exact ⟨rfl, rfl⟩
    | segSuspGen q' a => rw [q] at q'; cases q'
  | segSuspGen q _ _ _ ih1 ih2 =>
    intro e₂ s₂ h₂
    cases h₂ with
    | segRet a b => obtain ⟨q1, q2⟩ := ih1 a; cases q1
    | segGen a b => obtain ⟨q1, q2⟩ := ih1 a; cases q1
    | segSuspOut q' a => rw [q] at q'; cases q'
    | segSuspGen q' a _ b => rw [q] at q'; cases q'; obtain ⟨q1, q2⟩ := ih1 a; cases q1; cases q2; exact ih2 b
theorem call_and {M : Model} {A : Around} {f : Value} {vs : List Value} {Q1 Q2 : Value → Shared → Prop} {s : Shared} (h1 : wpAny M A (PySem.call f vs) Q1 (fun _ _ => False) s) (h2 : wpAny M A (PySem.call f vs) Q2 (fun _ _ => False) s) :
    wpAny M A (PySem.call f vs) (fun v s' => Q1 v s' ∧ Q2 v s') (fun _ _ => False) s := by
  intro Γ p hΓ
  have a := h1 Γ p hΓ
  have b := h2 Γ p hΓ
  unfold PySem.call runValue at a b ⊢
  obtain ⟨r, s1, q1, q2⟩ := a
  obtain ⟨r', s1', q1', q2'⟩ := b
  obtain ⟨e1, e2⟩ := runs_det q1 q1'
  cases e1; cases e2
  refine ⟨r, s1, q1, ?_⟩
  match r, q2, q2' with
  | .ok (.ret v), q2, q2' => exact ⟨q2, q2'⟩
  | .error e, q2, q2' => exact q2.elim
end Mine
namespace Mine
set_option maxRecDepth 100000
set_option maxHeartbeats 1000000
/-! sorted of two pairs -/
def allBut (h : Heap) (L : Addr) : List (Addr × Obj) := (List.range h.objs.size).filterMap fun a => if a = L then none else (h.get? a).map fun o => (a, o)
theorem allBut_mem {h : Heap} {L a : Addr} {o : Obj} (e : h.get? a = some o) (n : a ≠ L) : (a, o) ∈ allBut h L := by
  unfold allBut
  rw [List.mem_filterMap]
  exact ⟨a, List.mem_range.mpr (Heap.lt_size e), by rw [if_neg n, e]; rfl⟩
theorem allBut_news (h : Heap) (L : Addr) : News {} L h (allBut h L) := by
  rintro ⟨a, o⟩ hp
  unfold allBut at hp
  rw [List.mem_filterMap] at hp
  obtain ⟨b, _, e⟩ := hp
  by_cases hb : b = L
  · rw [if_pos hb] at e; cases e
  · rw [if_neg hb] at e
    obtain ⟨o', e1, e2⟩ := Option.map_eq_some_iff.mp e
    cases e2
    exact ⟨e1, hb, rfl⟩
theorem kas2 : kas_sort 2 = .ask 1 0 fun b => .ret (if b = true then #[1, 0] else #[0, 1]) := by
  show KasT.ask _ _ _ = _
  have : ∀ k k' : Bool → KasT (Array Nat), (∀ b, k b = k' b) → KasT.ask 1 0 k = KasT.ask 1 0 k' := fun k k' h => by rw [funext h]
  refine this _ _ fun b => ?_
  cases b <;> kernel_rfl
theorem look_int {M : Model} {h : Heap} (x : Int) (t : Tok) : Looks M h (typeOf (.int x t)) (.type "int") := Looks.of_pure rfl
def ltPair (c d a b : Int) : Bool := if c = a then decide (d < b) else decide (c < a)
theorem sorted_at {w : World} {A : Around} {h : Heap} {gg dd tt os} {L l a0 a1 : Addr} {m : Str → Option Value} {x0 y0 x1 y1 : Int} {s0 s1 s2 s3 : Tok} (hn : h.Ns L m) (n0 : a0 ≠ L) (n1 : a1 ≠ L)
    (hl : h.IsList l [.ref a0, .ref a1].toArray) (t0 : h.IsTuple a0 #[.int x0 s0, .int y0 s1]) (t1 : h.IsTuple a1 #[.int x1 s2, .int y1 s3]) :
    wpAny (model P w) A (PySem.call (.builtin "sorted") [.ref l]) (fun v s' => ∃ D h', v = .ref D ∧ s' = ⟨h', gg, dd, tt, os⟩ ∧ (∀ b o, b ≠ L → h.get? b = some o → h'.get? b = some o) ∧ (∀ b o, h.get? b = some o → b ≠ D) ∧
      h'.PlainList D (if ltPair x1 y1 x0 y0 = true then #[.ref a1, .ref a0] else #[.ref a0, .ref a1])) (fun _ _ => False) ⟨h, gg, dd, tt, os⟩ := by
  have F : Fr {} L h m := ⟨hn, (fun b o e => by simp [Heap.get?] at e), Nat.zero_le _⟩
  refine kat_sorted (vs := [.ref a0, .ref a1]) F (allBut_news h L) hl (Nat.le_refl _) (Nat.le_of_ble_eq_true rfl) fun D e1 h1 F1 N1 lt => ?_
  have keep1 : ∀ b o, b ≠ L → h.get? b = some o → h1.get? b = some o := fun b o n e => (N1 _ (.tail _ (allBut_mem e n))).1
  have freshD : ∀ b o, h.get? b = some o → b ≠ D := fun b o e => by
    by_cases hb : b = L
    · rw [hb]; exact fun z => (N1 _ (.head _)).2.1 z.symm
    · exact fun z => Nat.lt_irrefl _ (z ▸ lt _ (allBut_mem e hb))
  obtain ⟨o0, e0, c0, q0, d0⟩ := t0
  obtain ⟨o1, e1', c1, q1, d1⟩ := t1
  have e0 := keep1 _ _ n0 e0
  have e1' := keep1 _ _ n1 e1'
  refine kat_kind (fs := [.int x0 s0, .int x1 s2]) (T := .type "int") (.cons e0 c0 d0 rfl (.cons e1' c1 d1 rfl .nil)) (Nat.le_of_ble_eq_true rfl) ?_ rfl ?_
  · intro v hv
    simp only [List.mem_cons, List.not_mem_nil, or_false] at hv
    rcases hv with rfl | rfl
    · exact look_int _ _
    · exact look_int _ _
  show (kas_sort 2).kasWp _ _ _
  rw [kas2]
  show wpAny _ _ (keyLt' _ (.ref a1) (.ref a0)) _ _ _
  have fin : ∀ b : Bool, b = ltPair x1 y1 x0 y0 → KasFin {} L m D e1 ((if b = true then #[1, 0] else #[0, 1]).toList.map fun i => [Value.ref a0, .ref a1].getD i Value.none)
      (fun s' => ∃ D2 h', Value.ref D = .ref D2 ∧ s' = ⟨h', gg, dd, tt, os⟩ ∧ (∀ b o, b ≠ L → h.get? b = some o → h'.get? b = some o) ∧ (∀ b o, h.get? b = some o → b ≠ D2) ∧
      h'.PlainList D2 (if ltPair x1 y1 x0 y0 = true then #[.ref a1, .ref a0] else #[.ref a0, .ref a1])) ⟨h1, gg, dd, tt, os⟩ := by
    intro b hb
    subst hb
    refine KasFin.intro F1 N1 (.head fun p hp => Nat.ne_of_lt (lt p hp)) fun h2 c F2 N2 => ?_
    refine ⟨D, h2, rfl, rfl, fun b o n e => (N2 _ (.tail _ (allBut_mem e n))).1, freshD, ⟨c, ?_⟩⟩
    have := (N2 _ (.head _)).1
    rw [this]
    cases ltPair x1 y1 x0 y0 <;> rfl
  refine kat_lt e1' d1 e0 d0 ?_
  show KatLex _ _ _ _ _ _ [(.int x1 s2, .int x0 s0), (.int y1 s3, .int y0 s1)] 0 _
  refine kat_cons (wpAny_eqBool_int ?_)
  refine kat_go (fun hq => ?_) (fun hq => ?_)
  · have hq := beq_iff_eq.mp hq
    refine kat_yes (kat_cons (wpAny_eqBool_int (kat_go (fun hq2 => ?_) (fun hq2 => ?_))))
    · have hq2 := beq_iff_eq.mp hq2
      refine kat_yes (kat_nil ?_)
      have z : (decide ((#[Value.int x1 s2, Value.int y1 s3] : Array Value).size < (#[Value.int x0 s0, Value.int y0 s1] : Array Value).size)) = ltPair x1 y1 x0 y0 := by simp [ltPair, hq, hq2]
      exact fin _ z
    · refine kat_no ?_
      show wpAny _ _ (oneLt' false _ _) _ _ _
      refine kat_one _ _ (lt_int ?_)
      have z : decide (y1 < y0) = ltPair x1 y1 x0 y0 := by simp [ltPair, hq]
      exact fin _ z
  · have hq : ¬ x1 = x0 := by simpa using hq
    refine kat_no ?_
    show wpAny _ _ (oneLt' true _ _) _ _ _
    refine oneLt_int ?_
    have z : decide (x1 < x0) = ltPair x1 y1 x0 y0 := by simp [ltPair, hq]
    exact fin _ z
end Mine
namespace Mine
set_option maxRecDepth 100000
set_option maxHeartbeats 1000000
/-! the calls that need no proof of their own anew: builtins, K, cmp_to_key, _law_by, _law_better -/
section
variable {w : World} {Y : AP} {h : Heap} {gg : Array GenState} {dd : Drawn} {tt : Nat} {os : OsState} {A : Around} {vs : List Value}
theorem lookup_type_call' : typeLookup (.type "type") "__call__" = pure (some (.builtin "type.__call__")) := by rw [typeLookup_type, builtinLookup_eq_fast]; kernel_rfl
theorem cls_keeper {K : Addr} {row : List Int} (c : ClsOK w Y h K row) : Looks (model P w) h (keeperOf (.ref K)) .machine := by
  obtain ⟨f, ns, cl, kc, _⟩ := c.ex
  obtain ⟨b, so, st, md, f1, f2, f3, f4, f5, f6, g1, g3, g4, g5, g6, g7, g8, g9, g10, g11, g12, g13, g14, k1, k3, k4, k5, k6, k7, k8, k9, k10, k11, k12, k13, k14, t0, t1, t2, t3, tm, e1, _⟩ := kc.ex
  refine (Looks.ld (part := none) e1).andThen ?_
  have sp : Looks (model P w) h (specialOf (.ref K) "__call__") (some (.builtin "type.__call__")) :=
    ((Looks.ld e1).andThen .now).andThen (Looks.of_pure lookup_type_call')
  exact sp.andThen .now
theorem clsS {row : List Int} {x : Int} {f : Value} (o : OH w Y h f (.cls row)) (rs : Reps (OH w) Y h vs [.int x]) (I : InvH w h) (y : YOK Y h) (hh : A.handled = none) (hd : A.depth ≤ 790) (hu : A.units ≤ 5900) :
    wpAny (model P w) A (PySem.call f vs) (Post (TH w) Y h gg dd os (.opq (.inst row x))) FF ⟨h, gg, dd, tt, os⟩ := by
  obtain ⟨K, rfl, c⟩ := o
  cases rs with | cons r1 rs =>
  cases rs
  cases r1 with | int _ t =>
  obtain ⟨f, ns, cl, kc, n1, n2, cm⟩ := c.ex
  refine inst_c w h gg dd tt os K f ns cl x t I.k kc hh hd hu fun i da h' tk k hn hi => ?_
  have kp : Kp XTH h h' := Kp.ofKeeps k
  have o2 : OH w Y h' (.ref K) (.cls row) := OH.kp (w := w) (k := kp.wide fun _ => .inl) (show OH w Y h (.ref K) (.cls row) from ⟨K, rfl, f, ns, cl, kc, n1, n2, cm⟩) y.w I
  obtain ⟨K', e, c'⟩ := o2
  cases e
  exact ⟨h', tk, rfl, kp, I.y (Y := XN) (fun _ z => z.elim) (Kp.ofKeeps k), .opq ⟨i, rfl, K, da, t, hi, c'⟩⟩
theorem keyS {row : List Int} {c : Value} (o : OH w Y h c (.cmp row)) (I : InvH w h) (y : YOK Y h) (hh : A.handled = none) (hd : A.depth ≤ 680) (hu : A.units ≤ 4890) :
    wpAny (model P w) A (PySem.call (.ref 42) [c]) (Post (TH w) Y h gg dd os (.opq (.cls row))) FF ⟨h, gg, dd, tt, os⟩ := by
  obtain ⟨f, rfl, cm⟩ := o
  obtain ⟨ps, t, r⟩ := I.t37
  refine cmpkey w h gg dd tt os f ps hh hd hu I.k t r fun K ns cl h' tk ps' kp t' r' kc nns ncl => ?_
  have kx : Kp XTH h h' := kp.wide fun a z => .inl z
  have kd : Kd (fun a => a = 37) h := fun a o z e => kdXY I y.w a o (.inl (.inl z)) e
  have I' : InvH w h' := ⟨fun a o e => kx.at' a o (k2_notXT e) (I.k a o e), ⟨ps', t', r'⟩, I.t59.kd kd kp (by decide) (by decide), I.t73.kd kd kp (by decide) (by decide)⟩
  have nY : ∀ {a}, h.get? a = none → ¬ Y a := fun e z => by
    obtain ⟨_, o, e', _⟩ := y _ z
    rw [e] at e'; cases e'
  exact ⟨h', tk, rfl, kx, I', .opq ⟨K, rfl, f, ns, cl, kc, nY nns, nY ncl, cm.kp (kdXY I y.w) (kx.wide fun _ => .inl) (fun _ z => z) fun a z => (I.table z).imp fun _ q => q.1⟩⟩
theorem rangeS {n : Int} (h0 : 0 ≤ n) (h1 : n ≤ 1000) (rs : Reps (OH w) Y h vs [.int n]) (I : InvH w h) (y : YOK Y h) :
    wpAny (model P w) A (PySem.call (.type "range") vs) (Post (TH w) Y h gg dd os (.opq (.rng n.toNat))) FF ⟨h, gg, dd, tt, os⟩ := by
  cases rs with | cons r1 rs =>
  cases rs
  cases r1 with | int _ t =>
  have e : ((n.toNat : Nat) : Int) = n := by omega
  refine call_range_1 (Post.push (T := TH w) I y (.opq ⟨by omega, h.objs.size, tt, t, tt + 1, rfl, ?_, fun z => Nat.lt_irrefl _ (y.lt z)⟩))
  rw [e]
  exact IsRange.new ..
theorem sumS {ns : List Int} (rs : Reps (OH w) Y h vs [.list (ns.map .int)]) (I : InvH w h) (y : YOK Y h) (hh : A.handled = none) :
    wpAny (model P w) A (PySem.call (.builtin "sum") vs) (Post (TH w) Y h gg dd os (.int ns.sum)) FF ⟨h, gg, dd, tt, os⟩ := by
  cases rs with | cons r1 rs =>
  cases rs
  cases r1 with | list pl nl ri =>
  rename_i l its
  have ia := ints_are ri
  obtain ⟨xs, hxs⟩ := ia.allInts.items
  have hl : h.IsList l (intItems xs) := by
    have := pl.isList
    rw [← hxs]; exact this
  refine sum_intListG hh hl fun h' tk t' k => ?_
  have : preSum (numAt xs) xs.size = ns.sum := by
    rw [preSum_eq, List.take_of_length_le (by simp), ← nums_intItems, ← hxs]
    show (numsOf its.toList).sum = _
    rw [ia.numsOf]
  rw [this]
  exact ⟨h', tk, rfl, Kp.ofKeeps k, I.y (Y := XN) (fun _ z => z.elim) (Kp.ofKeeps k), .int _ _⟩
end
end Mine
namespace Mine
set_option maxRecDepth 100000
set_option maxHeartbeats 1000000
def callG : Opq → List D → Option D
  | .fn a, [.opq (.inst row x), .opq (.inst row' z)] => if (a = 21 ∨ a = 28 ∨ a = 35) ∧ row = row' then (cmpV row x z).map fun v => .bool (decide (0 < v)) else none
  | _, _ => none
def CG : Cfg := ⟨GH, callG⟩
theorem callsG (w : World) (dp un : Nat) (h1 : dp ≤ 760) (h2 : un ≤ 5600) : CallsOK (TH w) CG dp un := by
  refine ⟨rfl, by show un + 70 < 9900; omega, ⟨by omega, by omega⟩, ?_, ?_⟩
  · intro q ds r e Y h gg dd tt os A f vs o rs I y hh hd hu
    unfold CG callG at e
    dsimp only at e
    split at e
    · split at e
      · rename_i hc
        obtain ⟨ha, rfl⟩ := hc
        obtain ⟨v, e1, rfl⟩ := Option.map_eq_some_iff.mp e
        have o : f = .ref _ := o
        subst o
        rcases ha with rfl | rfl | rfl
        · exact gt_lt rs I y hh (by omega) (by omega) e1
        · exact gt_le rs I y hh (by omega) (by omega) e1
        · exact gt_ge rs I y hh (by omega) (by omega) e1
      · cases e
    · cases e
  · intro q ds r e Y h f o I y
    unfold CG callG at e
    dsimp only at e
    split at e
    · split at e
      · rename_i hc
        have o : f = .ref _ := o
        subst o
        rcases hc.1 with rfl | rfl | rfl
        · exact (fn21 w).keeper I
        · exact (fn28 w).keeper I
        · exact (fn35 w).keeper I
      · cases e
    · cases e
abbrev rhoB (wh : Int) (row : List Int) (x z : Int) : Bs := ((["which", "one", "other"] : List Str).zip [D.int wh, .opq (.inst row x), .opq (.inst row z)]).reverse ++ []
theorem better0 (row : List Int) (x z : Int) : exsW (ex CG 10 (defN 11).scope.names) (rhoB 0 row x z) (defN 11).body =
   ((((callG (.fn 21) [.opq (.inst row x), .opq (.inst row z)]).bind fun d => some (Fl.ret d, rhoB 0 row x z)).bind fun q => match q with
      | (.next, ρ') => exsW (ex CG 9 (defN 11).scope.names) ρ' []
      | q => some q).bind fun q => match q with
      | (.next, ρ') => exsW (ex CG 10 (defN 11).scope.names) ρ' ((defN 11).body.drop 1)
      | q => some q) := by kernel_rfl
theorem better1 (row : List Int) (x z : Int) : exsW (ex CG 10 (defN 11).scope.names) (rhoB 1 row x z) (defN 11).body =
   ((((callG (.fn 35) [.opq (.inst row x), .opq (.inst row z)]).bind fun d => some (Fl.ret d, rhoB 1 row x z)).bind fun q => match q with
      | (.next, ρ') => exsW (ex CG 9 (defN 11).scope.names) ρ' []
      | q => some q).bind fun q => match q with
      | (.next, ρ') => exsW (ex CG 10 (defN 11).scope.names) ρ' ((defN 11).body.drop 2)
      | q => some q) := by kernel_rfl
theorem better2 (row : List Int) (x z : Int) : exsW (ex CG 10 (defN 11).scope.names) (rhoB 2 row x z) (defN 11).body =
   (((callG (.fn 28) [.opq (.inst row x), .opq (.inst row z)]).bind fun d => some (Fl.ret d, rhoB 2 row x z)).bind fun q => match q with
      | (.next, ρ') => exsW (ex CG 10 (defN 11).scope.names) ρ' []
      | q => some q) := by kernel_rfl
section
variable {w : World} {Y : AP} {h : Heap} {gg : Array GenState} {dd : Drawn} {tt : Nat} {os : OsState} {A : Around} {vs : List Value}
theorem betterS {wh : Int} {row : List Int} {x z v : Int} (hw : wh = 0 ∨ wh = 1 ∨ wh = 2) (e : cmpV row x z = some v) (rs : Reps (OH w) Y h vs [.int wh, .opq (.inst row x), .opq (.inst row z)]) (I : InvH w h) (y : YOK Y h) (hh : A.handled = none) (hd : A.depth ≤ 750) (hu : A.units ≤ 5500) :
    wpAny (model P w) A (PySem.call (.ref 71) vs) (Post (TH w) Y h gg dd os (.bool (decide (0 < v)))) FF ⟨h, gg, dd, tt, os⟩ := by
  have c : ∀ a, a = 21 ∨ a = 28 ∨ a = 35 → callG (.fn a) [.opq (.inst row x), .opq (.inst row z)] = some (.bool (decide (0 < v))) := fun a ha => by
    unfold callG
    dsimp only
    rw [if_pos ⟨ha, rfl⟩, e]; rfl
  refine callGS (callsG w 760 5600 (by omega) (by omega)) (fn71 w) (m := 10) rfl rs I y hh (by omega) (by omega) (ρ' := rhoB wh row x z) ?_
  rcases hw with rfl | rfl | rfl
  · refine (better0 row x z).trans ?_
    rw [c 21 (by decide)]; rfl
  · refine (better1 row x z).trans ?_
    rw [c 35 (by decide)]; rfl
  · refine (better2 row x z).trans ?_
    rw [c 28 (by decide)]; rfl
theorem pair_rep {d : D} {v : Value} {a b : Int} (r : Rep (OH w) Y h v (.tuple [.int a, .int b])) : ∃ p s t, v = .ref p ∧ h.IsTuple p #[.int a s, .int b t] ∧ ¬ Y p := by
  cases r with | tuple it nl ri =>
  rename_i p us
  have key : ∃ s t, us.toList = [.int a s, .int b t] := by
    generalize us.toList = l at ri
    cases ri with | cons r1 ri =>
    cases ri with | cons r2 ri =>
    cases ri
    cases r1 with | int _ s =>
    cases r2 with | int _ t =>
    exact ⟨s, t, rfl⟩
  obtain ⟨s, t, e⟩ := key
  have : us = #[.int a s, .int b t] := Array.toList_inj.mp e
  subst this
  exact ⟨p, s, t, rfl, it, nl⟩
theorem tup_ne {p L : Addr} {us : Array Value} {m : Str → Option Value} (it : h.IsTuple p us) (hn : h.Ns L m) : p ≠ L := by
  rintro rfl
  obtain ⟨o, e, _, n, d⟩ := it
  obtain ⟨o', es, ep, e', d', _⟩ := hn
  rw [e] at e'; cases e'; rw [d] at d'; cases d'
theorem sortedS {a b c d : Int} (rs : Reps (OH w) Y h vs [.list [.tuple [.int a, .int b], .tuple [.int c, .int d]]]) (I : InvH w h) (y : YOK Y h) :
    wpAny (model P w) A (PySem.call (.builtin "sorted") vs) (Post (TH w) Y h gg dd os (.list (if ltPair c d a b = true then [.tuple [.int c, .int d], .tuple [.int a, .int b]] else [.tuple [.int a, .int b], .tuple [.int c, .int d]]))) FF ⟨h, gg, dd, tt, os⟩ := by
  cases rs with | cons r1 rs =>
  cases rs
  cases r1 with | list pl nl ri =>
  rename_i l its
  have key : ∃ p0 p1 s0 t0 s1 t1, its.toList = [.ref p0, .ref p1] ∧ h.IsTuple p0 #[.int a s0, .int b t0] ∧ h.IsTuple p1 #[.int c s1, .int d t1] ∧ ¬ Y p0 ∧ ¬ Y p1 := by
    generalize its.toList = l at ri
    cases ri with | cons r1 ri =>
    cases ri with | cons r2 ri =>
    cases ri
    obtain ⟨p0, s0, t0, rfl, i0, n0⟩ := pair_rep (d := .none) r1
    obtain ⟨p1, s1, t1, rfl, i1, n1⟩ := pair_rep (d := .none) r2
    exact ⟨p0, p1, s0, t0, s1, t1, rfl, i0, i1, n0, n1⟩
  obtain ⟨p0, p1, s0, t0, s1, t1, e, i0, i1, n0, n1⟩ := key
  have hits : its = [.ref p0, .ref p1].toArray := Array.toList_inj.mp e
  subst hits
  have N3 := ns3 I.k
  have N0 := ns0 I.k
  refine wmono (call_and (sorted_at N3 (tup_ne i0 N3) (tup_ne i1 N3) pl.isList i0 i1) (sorted_at N0 (tup_ne i0 N0) (tup_ne i1 N0) pl.isList i0 i1)) ?_
  rintro v s' ⟨⟨D, h', rfl, rfl, k3, fr, pd⟩, ⟨D2, h2, e1, e2, k0, _, _⟩⟩
  cases e1; cases e2
  have k : ∀ b o, h.get? b = some o → h'.get? b = some o := fun b o e => by
    by_cases hb : b = 3
    · exact k0 b o (by rw [hb]; decide) e
    · exact k3 b o hb e
  have kp : Kp XTH h h' := Kp.ofKeeps k
  have kn : Kp XN h h' := Kp.ofKeeps k
  refine ⟨h', tt, rfl, kp, I.y (Y := XN) (fun _ z => z.elim) kn, .list pd (fun z => ?_) ?_⟩
  · obtain ⟨_, o, e, _⟩ := y _ z
    exact fr _ _ e rfl
  · have q0 : Rep (OH w) Y h' (.ref p0) (.tuple [.int a, .int b]) := .tuple (kn.isTuple (fun z => z) i0) n0 (.cons (.int _ _) (.cons (.int _ _) .nil))
    have q1 : Rep (OH w) Y h' (.ref p1) (.tuple [.int c, .int d]) := .tuple (kn.isTuple (fun z => z) i1) n1 (.cons (.int _ _) (.cons (.int _ _) .nil))
    cases ltPair c d a b with
    | true => exact .cons q1 (.cons q0 .nil)
    | false => exact .cons q0 (.cons q1 .nil)
end
end Mine
namespace Mine
set_option maxRecDepth 100000
set_option maxHeartbeats 1000000
def rangeD : List D → Option D
  | [.int n] => if 0 ≤ n ∧ n ≤ 1000 then some (.opq (.rng n.toNat)) else none
  | _ => none
def sumD : List D → Option D
  | [.list xs] => (xs.mapM intD).map fun ns => .int ns.sum
  | _ => none
def sortD : List D → Option D
  | [.list [.tuple [.int a, .int b], .tuple [.int c, .int d]]] => some (.list (if ltPair c d a b = true then [.tuple [.int c, .int d], .tuple [.int a, .int b]] else [.tuple [.int a, .int b], .tuple [.int c, .int d]]))
  | _ => none
def keyD : List D → Option D
  | [.opq (.cmp row)] => some (.opq (.cls row))
  | _ => none
def byD : List D → Option D
  | [.list xs] => (xs.mapM intD).map fun ns => .opq (.cmp ns)
  | _ => none
def betD : List D → Option D
  | [.int wh, .opq (.inst row x), .opq (.inst row' z)] => if (wh = 0 ∨ wh = 1 ∨ wh = 2) ∧ row = row' then (cmpV row x z).map fun v => .bool (decide (0 < v)) else none
  | _ => none
def instD (row : List Int) : List D → Option D
  | [.int x] => some (.opq (.inst row x))
  | _ => none
def callA : Opq → List D → Option D
  | .blt s, ds => if s = "range" then rangeD ds else if s = "sum" then sumD ds else if s = "sorted" then sortD ds else none
  | .fn a, ds => if a = 42 then keyD ds else if a = 64 then byD ds else if a = 71 then betD ds else none
  | .cls row, ds => instD row ds
  | _, _ => none
def CA : Cfg := ⟨GH, callA⟩
theorem mapM_ints {xs : List D} : ∀ {ns : List Int}, xs.mapM intD = some ns → xs = ns.map .int := by
  induction xs with
  | nil => intro ns e; simp at e; subst e; rfl
  | cons x xs ih =>
    intro ns e
    rw [List.mapM_cons] at e
    obtain ⟨n, e1, e⟩ := Option.bind_eq_some_iff.mp e
    obtain ⟨ms, e2, e⟩ := Option.bind_eq_some_iff.mp e
    cases e
    cases x <;> cases e1
    rw [ih e2]; rfl
theorem callsA (w : World) (dp un : Nat) (h1 : dp ≤ 680) (h2 : un ≤ 4890) : CallsOK (TH w) CA dp un := by
  refine ⟨rfl, by show un + 70 < 9900; omega, ⟨by omega, by omega⟩, ?_, ?_⟩
  · intro q ds r e Y h gg dd tt os A f vs o rs I y hh hd hu
    unfold CA callA at e
    dsimp only at e
    split at e
    · split at e
      · rename_i hs; subst hs
        have o : f = bltV "range" := o
        subst o
        unfold rangeD at e
        split at e
        · split at e
          · rename_i hn
            cases e
            exact rangeS hn.1 hn.2 rs I y
          · cases e
        · cases e
      · split at e
        · rename_i hs; subst hs
          have o : f = bltV "sum" := o
          subst o
          unfold sumD at e
          split at e
          · obtain ⟨ns, e1, rfl⟩ := Option.map_eq_some_iff.mp e
            rw [mapM_ints e1] at rs
            exact sumS rs I y hh
          · cases e
        · split at e
          · rename_i hs; subst hs
            have o : f = bltV "sorted" := o
            subst o
            unfold sortD at e
            split at e
            · cases e
              exact sortedS rs I y
            · cases e
          · cases e
    · have o : f = .ref _ := o
      subst o
      split at e
      · rename_i hs; subst hs
        unfold keyD at e
        split at e
        · cases e
          cases rs with | cons r1 rs =>
          cases rs
          cases r1 with | opq o1 =>
          exact keyS o1 I y hh (by omega) (by omega)
        · cases e
      · split at e
        · rename_i hs; subst hs
          unfold byD at e
          split at e
          · obtain ⟨ns, e1, rfl⟩ := Option.map_eq_some_iff.mp e
            rw [mapM_ints e1] at rs
            exact byS rs I y hh (by omega) (by omega)
          · cases e
        · split at e
          · rename_i hs; subst hs
            unfold betD at e
            split at e
            · split at e
              · rename_i hc
                obtain ⟨hw, rfl⟩ := hc
                obtain ⟨v, e1, rfl⟩ := Option.map_eq_some_iff.mp e
                exact betterS hw e1 rs I y hh (by omega) (by omega)
              · cases e
            · cases e
          · cases e
    · unfold instD at e
      split at e
      · cases e
        exact clsS o rs I y hh (by omega) (by omega)
      · cases e
    · cases e
  · intro q ds r e Y h f o I y
    unfold CA callA at e
    dsimp only at e
    split at e
    · have o : f = bltV _ := o
      subst o
      split at e
      · rename_i hs; subst hs; exact ⟨.machine, .inr (.inl rfl), Looks.now⟩
      · split at e
        · rename_i hs; subst hs; exact ⟨.machine, .inr (.inl rfl), Looks.now⟩
        · split at e
          · rename_i hs; subst hs; exact ⟨.machine, .inr (.inl rfl), Looks.now⟩
          · cases e
    · have o : f = .ref _ := o
      subst o
      split at e
      · rename_i hs; subst hs
        exact ⟨.frame, .inl rfl, keep_fn (kin I.k 42 _ rfl) rfl⟩
      · split at e
        · rename_i hs; subst hs; exact (fn64 w).keeper I
        · split at e
          · rename_i hs; subst hs; exact (fn71 w).keeper I
          · cases e
    · obtain ⟨K, rfl, c⟩ := o
      exact ⟨.machine, .inr (.inl rfl), cls_keeper c⟩
    · cases e
def retOf : Option (Fl × Bs) → Option D
  | some (.ret d, _) => some d
  | _ => none
theorem retOf_eq {x : Option (Fl × Bs)} {d : D} (e : retOf x = some d) : ∃ ρ', x = some (.ret d, ρ') := by
  unfold retOf at e
  split at e
  · cases e; exact ⟨_, rfl⟩
  · cases e
/-- _law_holds -/
def holdsD (m wa ra : D) : Option D := retOf (exsW (ex CA 20 (defN 13).scope.names) ((["match", "wants", "ranks"] : List Str).zip [m, wa, ra]).reverse (defN 13).body)
theorem holdsS {w : World} {Y : AP} {h : Heap} {gg : Array GenState} {dd : Drawn} {tt : Nat} {os : OsState} {A : Around} {vs : List Value} {m wa ra d : D} (rs : Reps (OH w) Y h vs [m, wa, ra]) (I : InvH w h) (y : YOK Y h) (hh : A.handled = none) (hd : A.depth ≤ 670) (hu : A.units ≤ 4800) (e : holdsD m wa ra = some d) :
    wpAny (model P w) A (PySem.call (.ref 81) vs) (Post (TH w) Y h gg dd os d) FF ⟨h, gg, dd, tt, os⟩ := by
  obtain ⟨ρ', e⟩ := retOf_eq e
  refine callGS (callsA w 680 4890 (by omega) (by omega)) (fn81 w) (m := 20) rfl rs I y hh (by omega) (by omega) (ρ' := ρ') ?_
  rw [List.append_nil]
  exact e
end Mine
namespace Mine
set_option maxRecDepth 100000
set_option maxHeartbeats 1000000
/-! a for statement beside a list under way (at t) -/
variable {w : World}
structure SXG (T : Th w) (t : Addr) (G : Bs → Heap → Prop) (dp un : Nat) (k : Ks) (ρ : Bs) (tr : Env → Sem Flow) (fl : Fl) (ρ' : Bs) : Prop where
  run : ∀ {env Y S h gg dd tt os A}, FrOK S env k → (∀ a, S a → Y a) → S t → env.locals ≠ t → (∀ x c, env.cells.lookup x = some c → c ≠ t) → G ρ h → EnvOK T Y env k ρ h → T.Inv h → YOK Y h → A.handled = none → A.depth ≤ dp → A.units ≤ un →
    wpAny (model P w) A (tr env) (fun f s' => PS T S Y env k ρ' h gg dd os fl f s' ∧ G ρ' s'.heap) FF ⟨h, gg, dd, tt, os⟩
theorem SXG.next {T : Th w} {t G dp un k ρ} {s : Stmt} {ss : List Stmt} {ρ1 ρ' : Bs} {fl : Fl} (a : SXG T t G dp un k ρ (exec s) .next ρ1) (b : SXG T t G dp un k ρ1 (execs ss) fl ρ') : SXG T t G dp un k ρ (execs (s :: ss)) fl ρ' := by
  constructor
  intro env Y S h gg dd tt os A F sy st nl nc g EO hi hy hh hd hu
  refine wpAny_execs_cons (wmono (a.run F sy st nl nc g EO hi hy hh hd hu) ?_)
  rintro f _ ⟨⟨h1, t1, rfl, k1, i1, y1, rfl, E1⟩, g1⟩
  refine wmono (b.run F sy st nl nc g1 E1 i1 y1 hh hd hu) ?_
  rintro f2 s2 ⟨p, g2⟩
  exact ⟨p.after k1, g2⟩
theorem SXG.nil {T : Th w} {t G dp un k ρ} : SXG T t G dp un k ρ (execs []) .next ρ :=
  ⟨fun _ _ _ _ _ g EO hi hy _ _ _ => wpAny_execs_nil ⟨⟨_, _, rfl, Kp.refl _, hi, hy, rfl, EO⟩, g⟩⟩
theorem forG {T : Th w} {t : Addr} {G : Bs → Heap → Prop} (hG : ∀ {ρ h h'}, G ρ h → (∀ o, h.get? t = some o → h'.get? t = some o) → G ρ h') {x : Str} (hGx : ∀ {ρ d h}, G ρ h → G ((x, d) :: ρ) h)
    {dp un : Nat} {k : Ks} {f : Bs → D → Option (Fl × Bs)} {px pos : Pos} {iter : PySem.Expr} {body : List Stmt} {ρ ρ' : Bs} {fl : Fl} {d0 : D} {xs : List D}
    (hx : stk k x = true) (hf : ∀ ρ d fl ρ', f ρ d = some (fl, ρ') → SXG T t G dp un k ((x, d) :: ρ) (execs body) fl ρ')
    (pi : plainE iter) (si : SE T dp un k ρ iter d0) (hxs : iterL d0 = some xs) (hres : forW f ρ xs = some (fl, ρ')) :
    SXG T t G dp un k ρ (exec (.For (.Name x px) iter body [] pos)) fl ρ' := by
  constructor
  intro env Y S h gg dd tt os A F sy st nlt nct g EO hi hy hh hd hu
  have gkp : ∀ {ρ h h'}, G ρ h → T.Inv h → YOK Y h → Kp T.XT h h' → G ρ h' := fun g i y kp => hG g fun o e => kp.at' _ _ (fun z => absurd (y t (sy _ st)).1 (Nat.not_le.mpr (T.xt i z).1)) e
  refine wpAny_For (wmono (si.run EO hi hy hh hd hu) ?_) (pi.fold env)
  rintro v _ ⟨he, te, rfl, ke, ie, re⟩
  have ge := gkp g hi hy ke
  have ye := hy.kp hi ke
  have EOe := EO.kp hi hy.w ke
  refine iterS hxs re ie ye hh fun h1 fp Pi St IT => ?_
  have nI : he.get? he.objs.size = none := none_of_le (Nat.le_refl _)
  have tI : t ≠ he.objs.size := fun z => by
    obtain ⟨_, o, e, _⟩ := ye t (sy _ st)
    rw [z, nI] at e; cases e
  obtain ⟨nl, nc⟩ := EOe.notfresh nI
  let Y2 : AP := fun a => Y a ∨ a = he.objs.size
  have yw : YW Y2 he := by
    rintro a (z | rfl)
    · exact ye.w a z
    · exact ⟨T.big ie, fun o e => by rw [nI] at e; cases e⟩
  have y2 : YOK Y2 h1 := by
    rintro a (z | rfl)
    · obtain ⟨l, o, e, kk⟩ := ye a z
      exact ⟨l, o, IT.kp.all _ _ e, kk⟩
    · obtain ⟨o, e, kk⟩ := IT.kind _ _ IT.st
      exact ⟨T.big ie, o, e, kk⟩
  have i1 : T.Inv h1 := T.inv_y (Y := XN) ie (fun _ z => z.elim) IT.kp
  have toY2 : ∀ a, Y2 a → Y a ∨ he.get? a = none := fun a z => z.imp id fun (z : a = he.objs.size) => by rw [z]; exact nI
  have E1 : EnvOK T Y2 env k ρ h1 := (EOe.y toY2).kp ie yw IT.kp.xn
  have sy2 : ∀ a, S a → Y2 a := fun a z => .inl (sy a z)
  have nSI : ¬ S he.objs.size := fun z => Nat.lt_irrefl _ (ye.lt (sy _ z))
  have back : ∀ {ρ g}, EnvOK T Y2 env k ρ g → EnvOK T Y env k ρ g := fun z => z.y fun a q => .inl (.inl q)
  have backY : ∀ {g}, YOK Y2 g → YOK Y g := fun z a q => z a (.inl q)
  refine codeAny_forLoop
    (fun n s' => ∃ h' tk j ρj, s' = ⟨h', gg, dd, tk, os⟩ ∧ j ≤ xs.length ∧ n = xs.length + 1 - j ∧ St j h' ∧ Kp (fun a => T.XT a ∨ S a) he h' ∧ T.Inv h' ∧ YOK Y2 h' ∧ EnvOK T Y2 env k ρj h' ∧ G ρj h' ∧ forW f ρj (xs.drop j) = some (fl, ρ')) ?_ (xs.length + 1)
    ⟨h1, te, 0, ρ, rfl, Nat.zero_le _, rfl, IT.st, IT.kp.xn, i1, y2, E1, hG ge (fun o e => IT.kp.all _ _ e), by simpa using hres⟩
  rintro n s' ⟨h', tk, j, ρj, rfl, hj, rfl, st', kp, i', y', E', g', hw⟩
  by_cases hlt : j < xs.length
  · refine IT.walk.item j _ _ _ hlt st' fun v h₁ tk₁ hP st₁ hk₁ => ?_
    dsimp only at hk₁ ⊢
    have kp1 : ∀ b o, b ≠ he.objs.size → h'.get? b = some o → h₁.get? b = some o := fun b o n e => hk₁ b o (by simpa using n) e
    obtain ⟨d, hd0, rd⟩ := IT.item j v hP hlt
    rw [drop_at hd0, forW] at hw
    obtain ⟨⟨f1, ρ1⟩, hb, hw⟩ := Option.bind_eq_some_iff.mp hw
    have kI : Kp Y2 h' h₁ := ⟨fun b o n e => kp1 b o (fun z => n (.inr z)) e⟩
    have i₁ := T.inv_y i' y'.w kI
    have y₁ : YOK Y2 h₁ := y'.step kp1 (IT.kind _ _ st₁)
    have E₁ : EnvOK T Y2 env k ρj h₁ := E'.kp1 i' y'.w (.inr rfl) kp1 nl nc
    have g₁ : G ρj h₁ := hG g' fun o e => kp1 _ _ tI e
    have k₁ : Kp (fun a => T.XT a ∨ S a) he h₁ := ⟨fun b o n e => kp1 b o (fun z => by rw [z, nI] at e; cases e) (kp.at' b o n e)⟩
    have r₁ : Rep T.O Y2 h₁ v d := (rd.y toY2).kp ie yw (k₁.wide fun a z => z.imp id fun z => sy2 a z)
    have stS : ∀ {i g g'}, Kp (fun a => T.XT a ∨ S a) g g' → St i g → St i g' := fun q s => IT.walk.frame _ _ _ s fun b hb o e => q.at' b o (fun z => z.elim (IT.fp b hb).1 fun z => (IT.fp b hb).2.2 (sy b z)) e
    refine storeP F sy2 E₁ i₁ y₁ r₁ hx fun h₂ tk₂ k₂ i₂ y₂ E₂ pr => ?_
    have g₂ : G ((x, d) :: ρj) h₂ := hGx (hG g₁ fun o e => pr _ _ (fun z => nlt z.symm) (fun c ec z => nct x c ec z.symm) e)
    have k₂' := k₁.trans k₂
    have st₂ := stS k₂ st₁
    refine wmono ((hf ρj d f1 ρ1 hb).run F sy2 st nlt nct g₂ E₂ i₂ y₂ hh hd hu) ?_
    rintro g _ ⟨⟨h₃, t₃, rfl, k₃, i₃, y₃, fo⟩, g₃⟩
    cases f1 with
    | next =>
      obtain ⟨rfl, E₃⟩ := fo
      exact ⟨xs.length + 1 - (j + 1), by omega, h₃, t₃, j + 1, ρ1, rfl, hlt, rfl, stS k₃ st₂, k₂'.trans k₃, i₃, y₃, E₃, g₃, hw⟩
    | brk =>
      obtain ⟨rfl, E₃⟩ := fo
      cases hw
      exact ⟨⟨h₃, t₃, rfl, (ke.wide fun _ => .inl).trans (k₂'.trans k₃), i₃, backY y₃, rfl, back E₃⟩, g₃⟩
    | ret v =>
      obtain ⟨u, rfl, r⟩ := fo
      cases hw
      exact ⟨⟨h₃, t₃, rfl, (ke.wide fun _ => .inl).trans (k₂'.trans k₃), i₃, backY y₃, u, rfl, r.y fun a z => .inl (.inl z)⟩, g₃⟩
  · have hjl : j = xs.length := by omega
    subst hjl
    rw [List.drop_length, forW] at hw
    cases hw
    refine IT.walk.done _ _ _ st' fun h₁ tk₁ hk₁ => ?_
    dsimp only at hk₁ ⊢
    have kp1 : ∀ b o, b ≠ he.objs.size → h'.get? b = some o → h₁.get? b = some o := fun b o n e => hk₁ b o (by simpa using n) e
    have kI : Kp Y2 h' h₁ := ⟨fun b o n e => kp1 b o (fun z => n (.inr z)) e⟩
    refine wpAny_execs_nil ⟨⟨h₁, tk₁, rfl, (ke.wide fun _ => .inl).trans ⟨fun b o n e => kp1 b o (fun z => by rw [z, nI] at e; cases e) (kp.at' b o n e)⟩, T.inv_y i' y'.w kI, fun a z => ?_, rfl, back (E'.kp1 i' y'.w (.inr rfl) kp1 nl nc)⟩, hG g' fun o e => kp1 _ _ tI e⟩
    obtain ⟨l, o, e, kk⟩ := y' a (.inl z)
    exact ⟨l, o, kp1 _ _ (fun q => by rw [q] at z; exact Nat.lt_irrefl _ (ye.lt z)) e, kk⟩
end Mine
namespace Mine
set_option maxRecDepth 100000
set_option maxHeartbeats 1000000
/-! the statements of _law_order -/
section
variable {w : World} {T : Th w}
def gT : Str := "#told"
def GT (t : Addr) (ρ : Bs) (h : Heap) : Prop := ∃ ts vs, ρ.lookup gT = some (.list (ts.map .int)) ∧ h.PlainList t vs ∧ IntsAre vs.toList ts
theorem GT.at {t : Addr} {ρ : Bs} {h h' : Heap} (g : GT t ρ h) (k : ∀ o, h.get? t = some o → h'.get? t = some o) : GT t ρ h' := by
  obtain ⟨ts, vs, a, ⟨n, b⟩, c⟩ := g
  exact ⟨ts, vs, a, ⟨n, k _ b⟩, c⟩
theorem GT.cons {t : Addr} {ρ : Bs} {h : Heap} {x : Str} {d : D} (n : gT ≠ x) (g : GT t ρ h) : GT t ((x, d) :: ρ) h := by
  obtain ⟨ts, vs, a, b, c⟩ := g
  exact ⟨ts, vs, by rw [lookup_cons_ne n]; exact a, b, c⟩
theorem EnvOK.ghost {Y : AP} {env : Env} {k : Ks} {ρ : Bs} {h : Heap} {x : Str} {d : D} (hx : k.lookup x = none) (E : EnvOK T Y env k ρ h) : EnvOK T Y env k ((x, d) :: ρ) h := by
  refine ⟨E.kind, E.names, E.glob, E.blt, ?_, fun y hy => ?_⟩
  · obtain ⟨m, n, r⟩ := E.ns
    refine ⟨m, n, fun y dy a b => ?_⟩
    have hyx : y ≠ x := by rintro rfl; rw [hx] at a; cases a
    rw [lookup_cons_ne hyx] at b
    exact r y dy a b
  · have hyx : y ≠ x := by rintro rfl; rw [hx] at hy; rcases hy with z | z <;> cases z
    obtain ⟨c, u, a, b, r⟩ := E.cell y hy
    refine ⟨c, u, a, b, fun dy e => ?_⟩
    rw [lookup_cons_ne hyx] at e
    exact r dy e
/-- another reading of what a name holds -/
theorem EnvOK.reread {Y : AP} {env : Env} {k : Ks} {ρ : Bs} {h : Heap} {x : Str} {d : D} (hx : k.lookup x = some .cell) (E : EnvOK T Y env k ρ h) (r : ∀ c u, env.cells.lookup x = some c → h.IsCell c u → ∃ v, u = some v ∧ Rep T.O Y h v d) : EnvOK T Y env k ((x, d) :: ρ) h := by
  refine ⟨E.kind, E.names, E.glob, E.blt, ?_, fun y hy => ?_⟩
  · obtain ⟨m, n, r⟩ := E.ns
    refine ⟨m, n, fun y dy a b => ?_⟩
    have hyx : y ≠ x := by rintro rfl; rw [hx] at a; cases a
    rw [lookup_cons_ne hyx] at b
    exact r y dy a b
  · obtain ⟨c, u, a, b, r'⟩ := E.cell y hy
    refine ⟨c, u, a, b, fun dy e => ?_⟩
    by_cases hyx : y = x
    · subst hyx
      rw [lookup_cons_eq] at e; cases e
      exact r c u a b
    · rw [lookup_cons_ne hyx] at e
      exact r' dy e
theorem isCell_eq {h : Heap} {c : Addr} {u v : Option Value} (a : h.IsCell c u) (b : h.IsCell c v) : u = v := by
  obtain ⟨o, e, d⟩ := a
  obtain ⟨o', e', d'⟩ := b
  rw [e] at e'; cases e'; rw [d] at d'; cases d'; rfl
theorem sxg_of {t : Addr} {dp un : Nat} {k : Ks} {ρ ρ' : Bs} {tr : Env → Sem Flow} {fl : Fl} (s : SX T dp un k ρ tr fl ρ') (hg : ∀ {h}, GT t ρ h → GT t ρ' h) : SXG T t (GT t) dp un k ρ tr fl ρ' := by
  constructor
  intro env Y S h gg dd tt os A F sy st nl nc g EO hi hy hh hd hu
  have F' : FrOK (fun a => S a ∧ a ≠ t) env k := ⟨⟨F.loc, nl⟩, fun x c hx e => ⟨⟨(F.cell x c hx e).1, nc x c e⟩, (F.cell x c hx e).2⟩⟩
  refine wmono (s.run F' (fun a z => sy a z.1) EO hi hy hh hd hu) ?_
  rintro f s' ⟨h', tk, rfl, k1, r⟩
  have l : 87 ≤ t := (hy t (sy _ st)).1
  exact ⟨⟨h', tk, rfl, k1.wide fun a z => z.imp id And.left, r⟩, hg (g.at fun o e => k1.at' _ _ (fun z => z.elim (fun z => absurd l (Nat.not_le.mpr (T.xt hi z).1)) fun z => z.2 rfl) e)⟩
theorem append_plain {h : Heap} {gg dd tt os} {A : Around} {l : Addr} {its : Array Value} {x : Value} {Q : Value → Shared → Prop} (hl : h.PlainList l its) (hz : its.size ≤ 1000)
    (hQ : ∀ h', h'.PlainList l (its.push x) → (∀ b o, b ≠ l → h.get? b = some o → h'.get? b = some o) → Q .none ⟨h', gg, dd, tt, os⟩) :
    wpAny (model P w) A (call (.builtin "list.append") [.ref l, x]) Q FF ⟨h, gg, dd, tt, os⟩ := by
  obtain ⟨n, e⟩ := id hl
  refine wpAny_call_entry F.slot_list_append hl.isList.typeIs F.entry_list_append ?_ (by unfold argsOk; kernel_rfl)
  show wpAny _ _ (updateSeq l (·.push x) >>= fun _ => ret .none) _ _ _
  refine wpAny_bind (wpAny_updateSeq e rfl (wpAny_pure ⟨.none, rfl, hQ _ ⟨_, Heap.get?_update_self _ e rfl⟩ fun b o nb q => ?_⟩) (by rw [sizeLine_eq]; omega) (by rw [sizeLine_eq, Array.size_push]; omega))
  rw [← q]
  exact Heap.get?_update_ne _ _ _ _ nb
theorem sxg_app {C : Cfg} {dp un : Nat} (CO : CallsOK T C dp un) {t : Addr} {k : Ks} {ρ : Bs} {n : Nat} {sub : PySem.Expr} {p1 p2 p3 p4 : Pos} {v : Int} {ts : List Int} (hl : (p2.endLine == p3.line) = true)
    (nt : lookN T.G k ρ "told" = some (.opq (.fn t))) (ev' : ev C n k ρ sub = some (.int v)) (gt : ρ.lookup gT = some (.list (ts.map .int))) (len : ts.length ≤ 100) (hk : k.lookup gT = none) (ofn : ∀ {Y h v}, T.O Y h v (.fn t) → v = .ref t) :
    SXG T t (GT t) dp un k ρ (exec (.Expr (.Call (.Attribute (.Name "told" p1) "append" p2) [sub] [] p3) p4)) .next ((gT, .list ((ts ++ [v]).map .int)) :: ρ) := by
  constructor
  intro env Y S h gg dd tt os A F sy st nl nc g EO hi hy hh hd hu
  have nm : ev C 1 k ρ (.Name "told" p1) = some (.opq (.fn t)) := by
    show lookN C.G k ρ "told" = _
    rw [CO.g]; exact nt
  have l87 : 87 ≤ t := (hy t (sy _ st)).1
  have nxt : ∀ {h}, T.Inv h → ¬ T.XT t := fun i z => absurd l87 (Nat.not_le.mpr (T.xt i z).1)
  have Et : starEach [sub] env = [(false, eval sub env)] := (ev_plain ev').star [] env
  refine wpAny_Expr (wpAny_Call_append rfl (by rw [Et]; rfl) hl (by rw [Et]; rfl) (wmono ((evS CO _ _ _ _ _ nm).run EO hi hy hh hd hu) ?_)) (by unfold interactive; rw [EO.kind]; rfl) rfl
  rintro u _ ⟨h1, t1, rfl, k1, i1, r1⟩
  cases r1 with | opq o1 =>
  have := ofn o1
  subst this
  have y1 := hy.kp hi k1
  have E1 := EO.kp hi hy.w k1
  have g1 := g.at (h' := h1) fun o e => k1.at' _ _ (nxt hi) e
  obtain ⟨ts', vs, a1, pl1, ia1⟩ := id g1
  obtain ⟨n1, pe1⟩ := id pl1
  refine ⟨t, vs, rfl, ⟨_, n1, pe1, rfl, rfl, rfl⟩, ?_⟩
  refine wmono ((evS CO _ _ _ _ _ ev').run E1 i1 y1 hh hd hu) ?_
  rintro u2 _ ⟨h2, t2, rfl, k2, i2, r2⟩
  cases r2 with | int _ tk =>
  have y2 := y1.kp i1 k2
  have E2 := E1.kp i1 y1.w k2
  have g2 := g1.at (h' := h2) fun o e => k2.at' _ _ (nxt i1) e
  obtain ⟨ts', vs, a2, pl2, ia2⟩ := g2
  rw [gt] at a2
  have tse : ts' = ts := by
    have h1 : ts.map D.int = ts'.map D.int := by
      have := Option.some.inj a2
      exact D.list.inj this
    have inj : ∀ a b : List Int, a.map D.int = b.map D.int → a = b := fun a => by
      induction a with
      | nil => intro b e; cases b with | nil => rfl | cons _ _ => cases e
      | cons x xs ih =>
        intro b e
        cases b with
        | nil => cases e
        | cons y ys =>
          have e1 := (List.cons.inj e).1
          have e2 := (List.cons.inj e).2
          cases e1
          rw [ih ys e2]
    exact (inj _ _ h1).symm
  subst tse
  have hz : vs.size ≤ 1000 := by
    have : vs.toList.length = ts'.length := by
      have := (ints_rep (O := T.O) (Y := Y) (h := h2) ia2).length
      simpa using this
    rw [Array.length_toList] at this
    omega
  refine append_plain pl2 hz fun h3 pl3 k3 => ?_
  have kt : Kp (fun b => b = t) h2 h3 := ⟨fun b o n e => k3 b o n e⟩
  have kY : Kp Y h2 h3 := kt.wide fun a z => by rw [z]; exact sy _ st
  have i3 := T.inv_y i2 y2.w kY
  have y3 : YOK Y h3 := y2.step k3 (by obtain ⟨n, e⟩ := pl3; exact ⟨_, e, .inr (.inr (.inl ⟨_, _, rfl⟩))⟩)
  have E3 := E2.kp1 i2 y2.w (sy _ st) k3 nl (fun x c _ e => nc x c e)
  refine ⟨⟨h3, t2, rfl, ((k1.trans k2).wide fun _ => .inl).trans (kt.wide fun a z => by rw [z]; exact .inr st), i3, y3, rfl, E3.ghost hk⟩, ts' ++ [v], _, lookup_cons_eq, pl3, ?_⟩
  rw [Array.toList_push]
  exact ints_are (ints_rep (O := T.O) (Y := Y) (h := h3) ia2 |>.snoc (.int v tk) |> fun z => by rw [List.map_append]; exact z)
end
end Mine
namespace Mine
set_option maxRecDepth 100000
set_option maxHeartbeats 1000000
section
variable {w : World} {T : Th w}
theorem sxg_comp {C : Cfg} {dp un : Nat} (CO : CallsOK T C dp un) {t : Addr} {k : Ks} {ρ : Bs} {n : Nat} {elt : PySem.Expr} {gens : List Comprehension} {sc : Scope} {pc q p : Pos} {x : Str} {ts res : List Int}
    (hx : k.lookup x = some .local) (hc : (q.line == pc.line && !(sc.names.any fun (n, k) => n == x && (k == .local || k == .cell))) = true) (hxg : gT ≠ x)
    (ht : k.lookup ("told" : Str) = some .cell) (et : ρ.lookup ("told" : Str) = some (.opq (.fn t))) (gt : ρ.lookup gT = some (.list (ts.map .int)))
    (hev : ev C (n + 1) k (("told", .list (ts.map .int)) :: ρ) (.ListComp elt gens sc pc) = some (.list (res.map .int))) (ofn : ∀ {Y h v}, T.O Y h v (.fn t) → v = .ref t) :
    SXG T t (GT t) dp un k ρ (exec (.Assign [.Name x q] (.ListComp elt gens sc pc) p)) .next ((x, .list (res.map .int)) :: ρ) := by
  constructor
  intro env Y S h gg dd tt os A F sy st nl nct g EO hi hy hh hd hu
  have l87 : 87 ≤ t := (hy t (sy _ st)).1
  have nxt : ∀ {h}, T.Inv h → ¬ T.XT t := fun i z => absurd l87 (Nat.not_le.mpr (T.xt i z).1)
  obtain ⟨y, py, iter, ifs, res', rfl, hr, comp⟩ := evComp CO hev
  have hr := D.list.inj hr
  subst hr
  have hb : (env.blockKind == .function && env.kindOf x == some .local && q.line == pc.line && !(sc.names.any fun (n, k) => n == x && (k == .local || k == .cell))) = true := by
    have e1 : env.blockKind = .function := by unfold Env.blockKind; rw [EO.kind]; rfl
    have e2 : env.kindOf x = some .local := by unfold Env.kindOf; rw [EO.names]; exact hx
    rw [e1, e2, Bool.and_assoc, hc]; rfl
  -- the reading without t
  let Ya : AP := fun a => Y a ∧ a ≠ t
  obtain ⟨ts', vs, a1, pl, ia⟩ := id g
  rw [gt] at a1
  have Ea : EnvOK T Ya env k (("told", .list (ts.map .int)) :: ρ) h := by
    refine (EO.y fun a z => .inl z.1).reread ht fun c u ec ic => ?_
    obtain ⟨c', u', ec', ic', r'⟩ := EO.cell "told" (.inl ht)
    rw [ec] at ec'; cases ec'
    obtain ⟨v, ev', rv⟩ := r' _ et
    have := isCell_eq ic ic'
    subst this
    refine ⟨v, ev', ?_⟩
    cases rv with | opq o =>
    rw [ofn o]
    refine .list pl (fun z => z.2 rfl) ?_
    rw [Option.some.inj a1 |> D.list.inj]
    exact ints_rep ia
  have ya : YOK Ya h := fun a z => hy a z.1
  rw [exec_Assign_Name_used x q _ p (by rw [swaps_comp, hb]), use_eq]
  suffices key : wpAny (model P w) A (comprehension (.ListComp elt [⟨.Name y py, iter, ifs, 0⟩] sc pc) sc env (firstIterPos [⟨.Name y py, iter, ifs, 0⟩] pc) (newList []) false (eval iter env) (some (assign (.Name x q) env)))
      (fun _ s' => PS T S Y env k ((x, .list (res.map .int)) :: ρ) h gg dd os .next .next s' ∧ GT t ((x, .list (res.map .int)) :: ρ) s'.heap) FF ⟨h, gg, dd, tt, os⟩ by
    refine wpAny_bind (wpAny_standAt (wpAny_bind (wpAny_bind (wmono key ?_))))
    intro _ _ z
    refine wpAny_pure ?_
    exact wpAny_pure z
  refine comp (use := some (assign (.Name x q) env)) (Q := fun _ s' => PS T S Y env k ((x, .list (res.map .int)) :: ρ) h gg dd os .next .next s' ∧ GT t ((x, .list (res.map .int)) :: ρ) s'.heap) Ea hi ya hh hd hu ?_
  intro h' tk acc C0 k1 i1 r1 hacc nC bC nsC
  obtain ⟨m, hm⟩ := nsC
  obtain ⟨nlC, nc⟩ := EO.notfresh nC
  obtain ⟨ac, rfl, fac⟩ := hacc
  let Y2 : AP := fun a => Y a ∨ a = C0
  have ext : ∀ {a}, Y a → h.get? a ≠ none := fun z e => by
    obtain ⟨_, o, e', _⟩ := hy _ z
    rw [e] at e'; cases e'
  have nYC : ¬ Y C0 := fun z => ext z nC
  have sy2 : ∀ a, S a → Y2 a := fun a z => .inl (sy a z)
  have yw : YW Y2 h := by
    rintro a (z | rfl)
    · exact hy.w a z
    · exact ⟨bC, fun o e => by rw [nC] at e; cases e⟩
  have y1 := hy.kp hi k1
  have y2 : YOK Y2 h' := by
    rintro a (z | rfl)
    · exact y1 a z
    · obtain ⟨o, es, ep, e, q, _⟩ := id hm
      exact ⟨bC, o, e, .inl ⟨_, _, q⟩⟩
  have E1 : EnvOK T Y2 env k ρ h' := (EO.y fun a z => z.imp id fun (z : a = C0) => by rw [z]; exact nC).kp hi yw k1
  have r2 : Rep T.O Y2 h' (.ref ac) (.list (res.map .int)) := by
    cases r1 with | list pl1 n1 ri1 =>
    exact .list pl1 (fun z => z.elim (fun z => ext z fac) fun z => n1 (.inr z)) (ints_rep (ints_are ri1))
  have g1 := g.at (h' := h') fun o e => k1.at' _ _ (nxt hi) e
  refine storeP F sy2 E1 i1 y2 r2 (by unfold stk; rw [hx]; rfl) fun h2 t2 k2 i2 y2' E2 pres => ?_
  have g2 : GT t ρ h2 := g1.at fun o e => pres _ _ (fun z => nl z.symm) (fun c ec z => nct x c ec z.symm) e
  have ncx : ∀ c, env.cells.lookup x = some c → (k.lookup x = some .cell ∨ k.lookup x = some .free) → C0 ≠ c := fun c e hk => (nc x c hk e).symm
  have hm2 : h2.Ns C0 m := by
    obtain ⟨o, es, ep, e, q⟩ := hm
    refine ⟨o, es, ep, k2.at' _ _ (fun z => ?_) e, q⟩
    rcases z with z | z
    · exact absurd bC (Nat.not_le.mpr (T.xt i1 z).1)
    · exact nYC (sy _ z)
  refine ⟨m, hm2, fun h3 hs => ?_⟩
  dsimp only at hs ⊢
  have kC : ∀ b o, b ≠ C0 → h2.get? b = some o → h3.get? b = some o := fun b o n e => hs.extBut b o n e
  refine ⟨⟨h3, t2, rfl, ⟨fun b o n e => kC b o (fun z => ?_) (k2.at' b o n (k1.at' b o (fun z => n (.inl z)) e))⟩, T.inv_y i2 y2'.w ⟨fun b o n e => kC b o (fun z => n (.inr z)) e⟩, fun a z => ?_, rfl, (E2.kp1 i2 y2'.w (.inr rfl) kC nlC nc).y fun a z => .inl (.inl z)⟩, ?_⟩
  · rw [z, nC] at e; cases e
  · obtain ⟨l, o, e, kk⟩ := y2' a (.inl z)
    exact ⟨l, o, kC _ _ (fun q => nYC (q ▸ z)) e, kk⟩
  · exact GT.cons hxg (g2.at fun o e => kC _ _ (fun z => nYC (z ▸ sy _ st)) e)
end
end Mine
namespace Mine
set_option maxRecDepth 100000
set_option maxHeartbeats 1000000
/-! _law_order, its plain reading -/
abbrev k9 : Ks := (defN 9).scope.names
def oB : List Stmt := match (defN 9).body with | [_, _, .For _ _ b _ _, _] => b | _ => []
def oSub : PySem.Expr := match oB with | .Expr (.Call _ [s] _ _) _ :: _ => s | _ => .Constant .none 0 default
def oComp : PySem.Expr := match oB with | [_, .Assign _ v _, _] => v | _ => .Constant .none 0 default
def oX : PySem.Expr := match oB with | [_, _, .Assign _ v _] => v | _ => .Constant .none 0 default
def oE1 : PySem.Expr := match (defN 9).body with | .Assign _ v _ :: _ => v | _ => .Constant .none 0 default
def oE3 : PySem.Expr := match (defN 9).body with | [_, _, .For _ it _ _ _, _] => it | _ => .Constant .none 0 default
def oElt : PySem.Expr := match oComp with | .ListComp e _ _ _ => e | _ => .Constant .none 0 default
def oIfs : List PySem.Expr := match oComp with | .ListComp _ [⟨_, _, i, _⟩] _ _ => i | _ => []
def oSc : Scope := match oComp with | .ListComp _ _ s _ => s | _ => default
theorem order_body : ∃ a1 a2 a3 c1 a4 a5 p1 p2 p3 p4 q1 q2 b1 b2 pos r1 r2, (defN 9).body = [.Assign [.Name "left" a1] oE1 a2, .Assign [.Name "told" a3] (.List [] c1) a4, .For (.Name "size" a5) oE3 [.Expr (.Call (.Attribute (.Name "told" p1) "append" p2) [oSub] [] p3) p4, .Assign [.Name "left" q1] oComp q2, .Assign [.Name "x" b1] oX b2] [] pos, .Return (some (.Name "told" r1)) r2] ∧ (p2.endLine == p3.line) = true ∧
    ∃ y py iter pc, oComp = .ListComp oElt [⟨.Name y py, iter, oIfs, 0⟩] oSc pc ∧ (q1.line == pc.line && !(oSc.names.any fun (n, k) => n == ("left" : Str) && (k == .local || k == .cell))) = true :=
  ⟨_, _, _, _, _, _, _, _, _, _, _, _, _, _, _, _, _, rfl, rfl, _, _, _, _, rfl, rfl⟩
def intsD : D → Option (List Int)
  | .list xs => xs.mapM intD
  | _ => none
def oStep (ρ : Bs) (d : D) : Option (Fl × Bs) := do
  let v ← intD (← ev CA 10 k9 (("size", d) :: ρ) oSub)
  let ts ← intsD (← ρ.lookup gT)
  if ts.length ≤ 100 then do
    let res ← intsD (← ev CA 10 k9 (("told", .list ((ts ++ [v]).map .int)) :: (gT, .list ((ts ++ [v]).map .int)) :: ("size", d) :: ρ) oComp)
    let x' ← ev CA 10 k9 (("left", .list (res.map .int)) :: (gT, .list ((ts ++ [v]).map .int)) :: ("size", d) :: ρ) oX
    some (.next, ("x", x') :: ("left", .list (res.map .int)) :: (gT, .list ((ts ++ [v]).map .int)) :: ("size", d) :: ρ)
  else none
theorem oSub_eq (ρ : Bs) (d : D) : ev CA 10 k9 (("size", d) :: ρ) oSub = (ρ.lookup ("left" : Str)).bind fun a => ((ρ.lookup ("x" : Str)).bind fun x => (some d).bind fun s => binD .Mod x s).bind fun i => itemD a i := by kernel_rfl
theorem oX_eq (ρ : Bs) (d a b : D) : ev CA 10 k9 (("left", a) :: (gT, b) :: ("size", d) :: ρ) oX = (ρ.lookup ("x" : Str)).bind fun x => (some d).bind fun s => binD .FloorDiv x s := by kernel_rfl
theorem oCond_eq (d' tl : D) (ρ : Bs) : testD (trW (ev CA 9 (relab k9 oSc.names) (("y", d') :: freeOf oSc.names (("told", tl) :: ρ))) 9) oIfs = (some d').bind fun a => (((some tl).bind fun l => ((some (.int (-1))).bind fun i => itemD l i))).bind fun b => cmpD .NotEq a b := by kernel_rfl
theorem oElt_eq (d' tl : D) (ρ : Bs) : ev CA 9 (relab k9 oSc.names) (("y", d') :: freeOf oSc.names (("told", tl) :: ρ)) oElt = some d' := by kernel_rfl
theorem oComp_eq (ρ : Bs) (d tl g : D) : ev CA 10 k9 (("told", tl) :: (gT, g) :: ("size", d) :: ρ) oComp = (ρ.lookup ("left" : Str)).bind fun l => (iterL l).bind fun xs => if xs.length ≤ 1000 ∧ okComp k9 oSc "y" = true then
   ((compD (fun d' => testD (trW (ev CA 9 (relab k9 oSc.names) (("y", d') :: freeOf oSc.names (("told", tl) :: (gT, g) :: ("size", d) :: ρ))) 9) oIfs) (fun d' => ev CA 9 (relab k9 oSc.names) (("y", d') :: freeOf oSc.names (("told", tl) :: (gT, g) :: ("size", d) :: ρ)) oElt) xs).bind fun ys => some (.list ys)) else none := by kernel_rfl
theorem cmp_ne (a b : Int) : cmpD .NotEq (.int a) (.int b) = some (decide (a ≠ b)) := by
  show some (!eqD (.int a) (.int b)) = _
  have : eqD (.int a) (.int b) = decide (a = b) := by
    show PyData.eqv (.int a) (.int b) = _
    rw [Bool.eq_iff_iff]; simp [PyData.eqv]
  rw [this]; simp
theorem comp_filter (v : Int) : ∀ L : List Int, compD (fun d' => cmpD .NotEq d' (.int v)) (fun d' => some d') (L.map .int) = some ((L.filter (fun y => decide (y ≠ v))).map .int)
  | [] => rfl
  | a :: L => by
    rw [List.map_cons, compD, cmp_ne, comp_filter v L, List.filter_cons]
    by_cases h : a = v <;> simp [h]
theorem ints_mapM : ∀ L : List Int, (L.map D.int).mapM intD = some L
  | [] => rfl
  | a :: L => by
    rw [List.map_cons, List.mapM_cons, ints_mapM L]; rfl
theorem last_item (ts : List Int) (v : Int) (h : ts.length ≤ 100) : itemD (.list ((ts ++ [v]).map .int)) (.int (-1)) = some (.int v) := by
  show (if ((ts ++ [v]).map D.int).length ≤ 1000 then (if (0 : Int) ≤ -1 then _ else if 0 ≤ -1 + (((ts ++ [v]).map D.int).length : Int) then ((ts ++ [v]).map D.int)[(-1 + (((ts ++ [v]).map D.int).length : Int)).toNat]? else none) else none) = _
  have hl : ((ts ++ [v]).map D.int).length = ts.length + 1 := by simp
  rw [hl, if_pos (by omega), if_neg (by decide), if_pos (by omega)]
  have : (-1 + ((ts.length + 1 : Nat) : Int)).toNat = ts.length := by omega
  rw [this]
  simp
def oNext (ρ : Bs) (x s v : Int) (L ts : List Int) : Bs := ("x", .int (x.fdiv s)) :: ("left", .list ((L.filter (fun y => decide (y ≠ v))).map .int)) :: (gT, .list ((ts ++ [v]).map .int)) :: ("size", .int s) :: ρ
theorem oStep_eq {ρ : Bs} {x s v : Int} {L ts : List Int} (hx : ρ.lookup ("x" : Str) = some (.int x)) (hl : ρ.lookup ("left" : Str) = some (.list (L.map .int))) (hg : ρ.lookup gT = some (.list (ts.map .int)))
    (hs : 0 < s ∧ s < 100) (len : ts.length ≤ 100) (hL : L.length ≤ 1000) (hv : L[(x.fmod s).toNat]? = some v) :
    oStep ρ (.int s) = some (.next, oNext ρ x s v L ts) := by
  have h0 : 0 ≤ x.fmod s := Int.fmod_nonneg_of_pos _ hs.1
  have e1 : ev CA 10 k9 (("size", .int s) :: ρ) oSub = some (.int v) := by
    rw [oSub_eq, hl, hx]
    show ((if 0 < s ∧ s < 100 then some (D.int (x.fmod s)) else none).bind fun i => itemD (.list (L.map .int)) i) = _
    rw [if_pos hs]
    show (if (L.map D.int).length ≤ 1000 then (if 0 ≤ x.fmod s then (L.map D.int)[(x.fmod s).toNat]? else _) else none) = _
    rw [if_pos (by simpa using hL), if_pos h0, List.getElem?_map, hv]; rfl
  have e2 : ev CA 10 k9 (("told", .list ((ts ++ [v]).map .int)) :: (gT, .list ((ts ++ [v]).map .int)) :: ("size", .int s) :: ρ) oComp = some (.list ((L.filter (fun y => decide (y ≠ v))).map .int)) := by
    rw [oComp_eq, hl]
    show (if (L.map D.int).length ≤ 1000 ∧ okComp k9 oSc "y" = true then _ else none) = _
    rw [if_pos ⟨by simpa using hL, by kernel_rfl⟩]
    have f1 : (fun d' => testD (trW (ev CA 9 (relab k9 oSc.names) (("y", d') :: freeOf oSc.names (("told", .list ((ts ++ [v]).map .int)) :: (gT, .list ((ts ++ [v]).map .int)) :: ("size", .int s) :: ρ))) 9) oIfs) = (fun d' => cmpD .NotEq d' (.int v)) := by
      funext d'
      rw [oCond_eq]
      show (itemD (.list ((ts ++ [v]).map .int)) (.int (-1))).bind (fun b => cmpD .NotEq d' b) = _
      rw [last_item ts v len]; rfl
    have f2 : (fun d' => ev CA 9 (relab k9 oSc.names) (("y", d') :: freeOf oSc.names (("told", .list ((ts ++ [v]).map .int)) :: (gT, .list ((ts ++ [v]).map .int)) :: ("size", .int s) :: ρ)) oElt) = (fun d' => some d') := by
      funext d'; exact oElt_eq _ _ _
    rw [f1, f2, comp_filter]; rfl
  have e3 : ev CA 10 k9 (("left", .list ((L.filter (fun y => decide (y ≠ v))).map .int)) :: (gT, .list ((ts ++ [v]).map .int)) :: ("size", .int s) :: ρ) oX = some (.int (x.fdiv s)) := by
    rw [oX_eq, hx]
    show (if 0 < s ∧ s < 100 then some (D.int (x.fdiv s)) else none) = _
    rw [if_pos hs]
  unfold oStep
  rw [e1, hg]
  show ((ts.map D.int).mapM intD).bind _ = _
  rw [ints_mapM]
  show (if ts.length ≤ 100 then _ else none) = _
  rw [if_pos len, e2]
  show (((L.filter (fun y => decide (y ≠ v))).map D.int).mapM intD).bind _ = _
  rw [ints_mapM]
  show (ev CA 10 k9 _ oX).bind _ = _
  rw [e3]; rfl
end Mine
namespace Mine
set_option maxRecDepth 100000
set_option maxHeartbeats 1000000
def toldOK (t : Addr) (ρ : Bs) : Bool := match ρ.lookup ("told" : Str) with | some (.opq (.fn a)) => decide (a = t) | _ => false
theorem toldOK_use {t : Addr} {ρ : Bs} (h : toldOK t ρ = true) : ρ.lookup ("told" : Str) = some (.opq (.fn t)) := by
  unfold toldOK at h
  split at h
  · rename_i a e
    rw [e, of_decide_eq_true h]
  · cases h
def oStep' (t : Addr) (ρ : Bs) (d : D) : Option (Fl × Bs) := if toldOK t ρ = true then oStep ρ d else none
def sz : Nat → List Int
  | 0 => []
  | n + 1 => ((n + 1 : Nat) : Int) :: sz n
def ordR : List Int → Int → List Int → List Int
  | _, _, [] => []
  | L, x, s :: r => (L.getD (x.fmod s).toNat 0) :: ordR (L.filter (fun y => decide (y ≠ L.getD (x.fmod s).toNat 0))) (x.fdiv s) r
def ordZ (x : Int) : List Int := ordR [0, 1, 2, 3] x (sz 4)
theorem order_for (t : Addr) : ∀ (n : Nat) (L ts : List Int) (x : Int) (ρ : Bs), L.Nodup → L.length = n → n ≤ 50 → ts.length + n ≤ 100 → ρ.lookup ("x" : Str) = some (.int x) → ρ.lookup ("left" : Str) = some (.list (L.map .int)) → ρ.lookup gT = some (.list (ts.map .int)) → toldOK t ρ = true →
    ∃ ρ', forW (oStep' t) ρ ((sz n).map .int) = some (.next, ρ') ∧ ρ'.lookup gT = some (.list ((ts ++ ordR L x (sz n)).map .int)) ∧ toldOK t ρ' = true
  | 0, L, ts, x, ρ, _, _, _, _, _, _, hg, ht => ⟨ρ, rfl, by rw [hg]; simp [sz, ordR], ht⟩
  | n + 1, L, ts, x, ρ, nd, hlen, hn, hts, hx, hl, hg, ht => by
    have h1 : (0 : Int) < ((n + 1 : Nat) : Int) ∧ ((n + 1 : Nat) : Int) < 100 := by omega
    have m0 : 0 ≤ x.fmod ((n + 1 : Nat) : Int) := Int.fmod_nonneg_of_pos _ h1.1
    have m1 : x.fmod ((n + 1 : Nat) : Int) < ((n + 1 : Nat) : Int) := Int.fmod_lt_of_pos _ h1.1
    have hi : (x.fmod ((n + 1 : Nat) : Int)).toNat < L.length := by omega
    have hv : L[(x.fmod ((n + 1 : Nat) : Int)).toNat]? = some (L.getD (x.fmod ((n + 1 : Nat) : Int)).toNat 0) := by
      rw [List.getD_eq_getElem?_getD, List.getElem?_eq_getElem hi]; rfl
    generalize hvv : L.getD (x.fmod ((n + 1 : Nat) : Int)).toNat 0 = v at hv
    have hmem : v ∈ L := List.mem_of_getElem? hv
    have st := oStep_eq hx hl hg h1 (by omega) (by omega) hv
    have len2 : (L.filter (fun y => decide (y ≠ v))).length = n := by
      have e : L.filter (fun y => decide (y ≠ v)) = L.erase v := by
        rw [nd.erase_eq_filter]
        apply List.filter_congr
        intro y _
        simp [bne]
        by_cases hy : y = v <;> simp [hy]
      rw [e, List.length_erase_of_mem hmem]; omega
    have ht' : toldOK t (oNext ρ x ((n + 1 : Nat) : Int) v L ts) = true := ht
    obtain ⟨ρ', q1, q2, q3⟩ := order_for t n (L.filter (fun y => decide (y ≠ v))) (ts ++ [v]) (x.fdiv ((n + 1 : Nat) : Int)) (oNext ρ x ((n + 1 : Nat) : Int) v L ts) (nd.filter _) len2 (by omega) (by simp; omega) rfl rfl rfl ht'
    refine ⟨ρ', ?_, ?_, q3⟩
    · show forW (oStep' t) ρ (.int ((n + 1 : Nat) : Int) :: (sz n).map .int) = _
      rw [forW]
      have : oStep' t ρ (.int ((n + 1 : Nat) : Int)) = some (.next, oNext ρ x ((n + 1 : Nat) : Int) v L ts) := by
        unfold oStep'
        rw [if_pos ht]; exact st
      rw [this]
      exact q1
    · rw [q2]
      have : ordR L x (sz (n + 1)) = v :: ordR (L.filter (fun y => decide (y ≠ v))) (x.fdiv ((n + 1 : Nat) : Int)) (sz n) := by
        rw [sz, ordR, hvv]
      rw [this, List.append_assoc]; rfl
theorem intD_int {d : D} {v : Int} (e : intD d = some v) : d = .int v := by
  cases d <;> cases e; rfl
theorem intsD_list {d : D} {v : List Int} (e : intsD d = some v) : d = .list (v.map .int) := by
  cases d with
  | list xs => rw [mapM_ints (show xs.mapM intD = some v from e)]
  | _ => cases e
section
variable {w : World} {dp un : Nat}
theorem oBodyS (CO : CallsOK (TH w) CA dp un) {t : Addr} {p1 p2 p3 p4 q1 q2 b1 b2 : Pos} (hline : (p2.endLine == p3.line) = true)
    (hcomp : ∃ y py iter pc, oComp = .ListComp oElt [⟨.Name y py, iter, oIfs, 0⟩] oSc pc ∧ (q1.line == pc.line && !(oSc.names.any fun (n, k) => n == ("left" : Str) && (k == .local || k == .cell))) = true)
    {ρ : Bs} {d : D} {fl : Fl} {ρ' : Bs} (e : oStep' t ρ d = some (fl, ρ')) :
    SXG (TH w) t (GT t) dp un k9 (("size", d) :: ρ) (execs [.Expr (.Call (.Attribute (.Name "told" p1) "append" p2) [oSub] [] p3) p4, .Assign [.Name "left" q1] oComp q2, .Assign [.Name "x" b1] oX b2]) fl ρ' := by
  unfold oStep' at e
  split at e
  · rename_i ht
    have ht := toldOK_use ht
    unfold oStep at e
    obtain ⟨dv, e1, ea⟩ := Option.bind_eq_some_iff.mp e
    obtain ⟨v, e2, eb⟩ := Option.bind_eq_some_iff.mp ea
    obtain ⟨dt, e3, ec⟩ := Option.bind_eq_some_iff.mp eb
    obtain ⟨ts, e4, ed⟩ := Option.bind_eq_some_iff.mp ec
    clear e ea eb ec
    rw [intD_int e2] at e1
    rw [intsD_list e4] at e3
    split at ed
    · rename_i hlen
      obtain ⟨dr, e5, ee⟩ := Option.bind_eq_some_iff.mp ed
      obtain ⟨res, e6, ef⟩ := Option.bind_eq_some_iff.mp ee
      obtain ⟨x', e7, eg⟩ := Option.bind_eq_some_iff.mp ef
      clear ed ee ef
      rw [intsD_list e6] at e5
      cases eg
      have hgs : gT ≠ ("size" : Str) := by decide
      have g1 : (("size", d) :: ρ : Bs).lookup gT = some (.list (ts.map .int)) := by rw [lookup_cons_ne hgs]; exact e3
      refine SXG.next (sxg_app CO hline (by exact (show lookN GH k9 (("size", d) :: ρ) "told" = ρ.lookup ("told" : Str) by kernel_rfl).trans ht) e1 g1 hlen (by kernel_rfl) (fun o => o)) ?_
      obtain ⟨y, py, iter, pc, ec, hc⟩ := hcomp
      refine SXG.next (ρ1 := ("left", .list (res.map .int)) :: (gT, .list ((ts ++ [v]).map .int)) :: ("size", d) :: ρ) ?_ (SXG.next (sxg_of (asgS CO e7 (by kernel_rfl)) fun g => GT.cons (by decide) g) SXG.nil)
      rw [ec] at e5 ⊢
      exact sxg_comp CO (by kernel_rfl) hc (by decide) (by kernel_rfl) ((show ((gT, .list ((ts ++ [v]).map .int)) :: ("size", d) :: ρ : Bs).lookup ("told" : Str) = ρ.lookup ("told" : Str) by kernel_rfl).trans ht) lookup_cons_eq e5 (fun o => o)
    · cases ed
  · cases e
end
end Mine
namespace Mine
set_option maxRecDepth 100000
set_option maxHeartbeats 1000000
section
variable {w : World} {Y : AP} {h : Heap} {gg : Array GenState} {dd : Drawn} {tt : Nat} {os : OsState} {A : Around} {vs : List Value}
abbrev rhoO (x : Int) : Bs := ((["x"] : List Str).zip [D.int x]).reverse ++ []
def L4 : List Int := [0, 1, 2, 3]
theorem orderS {x : Int} (rs : Reps (OH w) Y h vs [.int x]) (I : InvH w h) (y : YOK Y h) (hh : A.handled = none) (hd : A.depth ≤ 670) (hu : A.units ≤ 4800) :
    wpAny (model P w) A (PySem.call (.ref 57) vs) (Post (TH w) Y h gg dd os (.list ((ordZ x).map .int))) FF ⟨h, gg, dd, tt, os⟩ := by
  refine callGB (fn57 w) rfl rs I y (by show A.depth < 1000; omega) fun env S h2 tk _ _ En => ?_
  obtain ⟨a1, a2, a3, c1, a4, a5, p1, p2, p3, p4, q1, q2, b1, b2, pos, r1, r2, eb, hline, hcomp⟩ := order_body
  have hd' : (A.deeper env).depth ≤ 680 := by show A.depth + 1 ≤ 680; omega
  have hu' : (A.deeper env).units ≤ 4890 := by show A.units + 3 ≤ 4890; omega
  have hh' : (A.deeper env).handled = none := hh
  generalize A.deeper env = B at *
  have CO := callsA w 680 4890 (Nat.le_refl _) (Nat.le_refl _)
  rw [eb]
  have v1 : ev CA 10 k9 (rhoO x) oE1 = some (.list (L4.map .int)) := by kernel_rfl
  refine wpAny_execs_cons (wmono ((asgS CO v1 (by kernel_rfl)).run En.fr (fun _ z => .inr z) En.eok En.inv En.yok hh' hd' hu') ?_)
  rintro f _ ⟨h3, t3, rfl, k3, i3, y3, rfl, E3⟩
  -- told = []
  refine wpAny_execs_cons (wpAny_Assign_Name (wpAny_List (Calls.spliced_nil ⟨Nat.zero_le _, ?_⟩)) rfl)
  let t : Addr := h3.objs.size
  have nt : h3.get? t = none := none_of_le (Nat.le_refl _)
  have t87 : 87 ≤ t := size87 i3.k
  let Y3 : AP := fun a => (Y a ∨ S a) ∨ a = t
  have yw3 : YW Y3 h3 := by
    rintro a (z | rfl)
    · exact y3.w a z
    · exact ⟨t87, fun o e => by rw [nt] at e; cases e⟩
  have k4 : Kp XN h3 (h3.push { cls := .type "list", data := .seq ([] : List Value).toArray }) := Kp.push _ _
  have pt : (h3.push { cls := .type "list", data := .seq ([] : List Value).toArray }).get? t = some { cls := .type "list", data := .seq ([] : List Value).toArray } := Heap.get?_push_size _ rfl
  have E4 := (E3.y (Y' := Y3) fun a z => z.imp id fun (z : a = t) => by rw [z]; exact nt).kp i3 yw3 k4.xn
  show wpAny _ _ _ _ _ ⟨h3.push { cls := .type "list", data := .seq ([] : List Value).toArray }, gg, dd, t3, os⟩
  generalize h3.push { cls := .type "list", data := .seq ([] : List Value).toArray } = h4 at *
  have i4 : InvH w h4 := i3.y (Y := XN) (fun _ z => z.elim) k4
  have y4 : YOK Y3 h4 := by
    rintro a (z | rfl)
    · obtain ⟨l, o, e, kk⟩ := y3 a z
      exact ⟨l, o, k4.all _ _ e, kk⟩
    · exact ⟨t87, _, pt, .inr (.inr (.inl ⟨_, _, rfl⟩))⟩
  have nSt : ¬ S t := fun z => Nat.lt_irrefl _ (y3.lt (.inr z))
  have nYt : ¬ Y t := fun z => Nat.lt_irrefl _ (y3.lt (.inl z))
  refine storeNP (T := TH w) (d := .opq (.fn t)) En.fr (fun _ z => .inl (.inr z)) E4 i4 y4 (.opq rfl) (by kernel_rfl) fun h5 t5 k5 i5 y5 E5 _ => ?_
  have pt5 : h5.get? t = some { cls := .type "list", data := .seq ([] : List Value).toArray } := k5.at' _ _ (fun z => z.elim (notXT_of t87) nSt) pt
  have E5' := E5.ghost (x := gT) (d := .list (([] : List Int).map .int)) (by kernel_rfl)
  have g5 : GT t ((gT, .list (([] : List Int).map .int)) :: ("told", .opq (.fn t)) :: ("left", .list (L4.map .int)) :: rhoO x) h5 := ⟨[], _, lookup_cons_eq, ⟨0, pt5⟩, .nil⟩
  have F3 : FrOK (fun a => S a ∨ a = t) env k9 := ⟨.inl En.fr.loc, fun x c hx e => ⟨.inl (En.fr.cell x c hx e).1, (En.fr.cell x c hx e).2⟩⟩
  obtain ⟨ρ', qf, qg, qt⟩ := order_for t 4 L4 [] x ((gT, .list (([] : List Int).map .int)) :: ("told", .opq (.fn t)) :: ("left", .list (L4.map .int)) :: rhoO x) (by decide) rfl (by decide) (by decide) rfl rfl rfl (decide_eq_true rfl)
  have v3 : ev CA 10 k9 ((gT, .list (([] : List Int).map .int)) :: ("told", .opq (.fn t)) :: ("left", .list (L4.map .int)) :: rhoO x) oE3 = some (.tuple ((sz 4).map .int)) := by kernel_rfl
  have nloc : env.locals ≠ t := fun z => nSt (z ▸ En.fr.loc)
  have ncell : ∀ x c, env.cells.lookup x = some c → c ≠ t := fun x c e z => by
    have q := En.cellLt (h' := h3) (fun a q => y3.lt (.inr q)) e
    rw [z] at q
    exact Nat.lt_irrefl _ q
  have fs := forG (T := TH w) (t := t) (G := GT t) (x := "size") (px := a5) (pos := pos) (fun g k => g.at k) (fun g => GT.cons (by decide) g) (by kernel_rfl) (fun ρ d fl ρ' e => oBodyS (p1 := p1) (p4 := p4) (q2 := q2) (b1 := b1) (b2 := b2) CO hline hcomp e) (ev_plain v3) (evS CO _ _ _ _ _ v3) (hxs := rfl) qf
  refine wpAny_execs_cons (wmono (fs.run F3 (fun a z => z.imp .inr id) (.inr rfl) nloc ncell g5 E5' i5 y5 hh' hd' hu') ?_)
  rintro f _ ⟨⟨h6, t6, rfl, k6, i6, y6, rfl, E6⟩, g6⟩
  have v4 : ev CA 1 k9 ρ' (.Name "told" r1) = some (.opq (.fn t)) := (show lookN GH k9 ρ' "told" = ρ'.lookup ("told" : Str) by kernel_rfl).trans (toldOK_use qt)
  refine wpAny_execs_cons (wpAny_Return_some (wmono ((evS CO _ _ _ _ _ v4).run E6 i6 y6 hh' hd' hu') ?_))
  rintro v _ ⟨h7, t7, rfl, k7, i7, r7⟩
  cases r7 with | opq o7 =>
  have o7 : v = .ref t := o7
  subst o7
  have g7 := g6.at (h' := h7) fun o e => k7.at' _ _ (notXT_of t87) e
  obtain ⟨ts, us, a1, pl, ia⟩ := g7
  rw [qg] at a1
  refine ⟨h7, t7, _, rfl, rfl, ⟨fun b o n e => ?_⟩, i7, .list pl nYt ?_⟩
  · have e3 := k3.at' b o n e
    have nb : b ≠ t := fun z => by rw [z, nt] at e3; cases e3
    exact k7.at' _ _ (fun z => n (.inl z)) (k6.at' _ _ (fun z => z.elim (fun z => n (.inl z)) fun z => z.elim (fun z => n (.inr z)) nb) (k5.at' _ _ n (k4.all _ _ e3)))
  · have : ordZ x = ts := by
      have := D.list.inj (Option.some.inj a1)
      have e := ints_mapM (ordR L4 x (sz 4))
      rw [show (L4 = [0, 1, 2, 3]) from rfl] at e
      have e2 := ints_mapM ts
      rw [← this] at e2
      have e3 : ((([] ++ ordR L4 x (sz 4)).map D.int).mapM intD) = some (ordR L4 x (sz 4)) := ints_mapM _
      rw [e3] at e2
      exact Option.some.inj e2
    rw [this]
    exact ints_rep ia
end
end Mine
namespace Mine
local macro_rules | `(tactic| walk_at "my hnf") => `(tactic| (conv => arg 3; whnf))
set_option maxRecDepth 100000
set_option hygiene false in
local macro_rules | `(tactic| walk_at "my ldm") => `(tactic| first
  | (exact Mem.at D 0 _ _ rfl) | (exact Mem.at D 1 _ _ rfl) | (exact Mem.at D 2 _ _ rfl) | (exact Mem.at D 3 _ _ rfl) | (exact Mem.at D 4 _ _ rfl)| (exact Mem.at D 5 _ _ rfl)| (exact Mem.at D 6 _ _ rfl)| (exact Mem.at D 7 _ _ rfl)| (exact Mem.at D 8 _ _ rfl)| (exact Mem.at D 9 _ _ rfl)
  | (exact mold D (by assumption) rfl)
  | (exact mold D (kin KX _ _ rfl) rfl)| (exact mold D (kin KX1 _ _ rfl) rfl))
local macro_rules | `(tactic| walk_at "my ldstep") => `(tactic| (with_reducible refine' m_load ?a ?b; (case a => (walk_at "my ldm"; done))))
local macro_rules | `(tactic| walk_at "my dec") => `(tactic| first
  | (refine rec_no ?kk ?_; (case kk => (decide +kernel; done)))
  | (refine rec_yes ?kk ?_; (case kk => (decide +kernel; done)))
  | (refine rec_no ?kk ?_; (case kk => (intro hx; have hx' : @Eq Nat _ 1 := of_decide_eq_true hx; omega)))
  | (refine rec_no ?kk ?_; (case kk => (intro hx; have hx' : @Eq Nat _ _ := of_decide_eq_true hx; omega)))
  | (refine rec_no ?kk ?_; (case kk => (intro hx; have hx' : @Eq Nat _ _ := hx; omega)))
  | (refine rec_yes ?kk ?_; (case kk => (exact rfl; done)))
  | (refine rec_yes ?kk ?_; (case kk => (simp; done)))
  | (refine rec_no ?kk ?_; (case kk => (simp [fx2, Value.isStr]; done)))
  | (refine rec_no ?kk ?_; (case kk => (simp [fx2, Value.isStr]; decide)))
  | (refine rec_no ?kk ?_; (case kk => (simp; omega))))

local macro_rules | `(tactic| walk_at "my pre") => `(tactic| with_reducible refine m_eq fx3 ?_)
local macro_rules | `(tactic| walk_at "my fixes") => `(tactic| first
  | rw [fx1]
  | rw [fx2]
  | (refine m_anyM [Value.type "object"] ?kk ?_; (case kk => (simp; done))))
local macro_rules | `(tactic| walk_at "my ent_call") => `(tactic| fail "no")
local macro_rules | `(tactic| walk_at "my ent_again") => `(tactic| fail "no")
local macro_rules | `(tactic| walk_at "my norm_at_D") => `(tactic| skip)
set_option hygiene false in
local macro_rules | `(tactic| walk_at "my nD") => `(tactic| (simp only [List.set, Obj.mapSeq, Obj.mapCls, Obj.mapDict, Obj.mapFields, Obj.dropName, Obj.putName] at D))
set_option hygiene false in
local macro_rules | `(tactic| walk_at "my go1") => `(tactic| first
  | walk_at "my pre"
  | (walk_at "my hnf"; first
  | with_reducible refine x_rule ?_ | with_reducible refine x_at ?_ | with_reducible refine x_point ?_ | with_reducible refine x_ask ?_ | with_reducible refine m_fresh ?_ | with_reducible refine x_handled ?_ | with_reducible refine x_pure ?_
  | walk_at "my ldstep"
  | (with_reducible refine m_stack ?_; intro st l)
  | with_reducible refine m_bind ?_ | with_reducible refine m_keep ?_ | with_reducible refine m_onRaise ?_ | with_reducible refine m_try ?_
  | ((fail_if_success (with_reducible refine' is_alloc ?_)); (fail_if_success (with_reducible refine' is_update ?_)); (fail_if_success (with_reducible refine' is_call ?_)); (fail_if_success (with_reducible refine' is_load ?_)); (first | walk_at "my dec" | walk_at "my fixes"))
  )
  | (with_reducible refine m_done ?_) | walk_at "my ent_again")


set_option hygiene false in
local macro_rules | `(tactic| walk_at "my go1k") => `(tactic| first
  | walk_at "my pre"
  | (walk_at "my hnf"; first
  | with_reducible refine x_rule ?_ | with_reducible refine x_at ?_ | with_reducible refine x_point ?_ | with_reducible refine x_ask ?_ | with_reducible refine m_fresh ?_ | with_reducible refine x_handled ?_ | with_reducible refine x_pure ?_
  | walk_at "my ldstep"
  | (with_reducible refine m_stack ?_; intro st l)
  | with_reducible refine m_bind ?_ | with_reducible refine m_onRaise ?_ | with_reducible refine m_try ?_
  | ((fail_if_success (with_reducible refine' is_alloc ?_)); (fail_if_success (with_reducible refine' is_update ?_)); (fail_if_success (with_reducible refine' is_call ?_)); (fail_if_success (with_reducible refine' is_load ?_)); (first | walk_at "my dec" | walk_at "my fixes"))
  )
  | (with_reducible refine m_done ?_) | walk_at "my ent_again")


set_option hygiene false in
local macro_rules | `(tactic| walk_at "my go2") => `(tactic| first
  | walk_at "my go1"
  | (walk_at "my hnf"; first
    | (with_reducible refine m_allocG D rfl ?_; intro a h D hlt)
    | (with_reducible refine m_allocF' hs D rfl ?_; intro a h D hlt)
    | (with_reducible refine m_update D 0 rfl rfl ?_; intro h D; dsimp only [List.set] at D)
    | (with_reducible refine m_update D 1 rfl rfl ?_; intro h D; dsimp only [List.set] at D)
    | (with_reducible refine m_update D 2 rfl rfl ?_; intro h D; dsimp only [List.set] at D)
    | (with_reducible refine m_update D 3 rfl rfl ?_; intro h D; dsimp only [List.set] at D)
    | (with_reducible refine m_update D 4 rfl rfl ?_; intro h D; dsimp only [List.set] at D)
    | (with_reducible refine m_update D 5 rfl rfl ?_; intro h D; dsimp only [List.set] at D)))



set_option maxRecDepth 100000
set_option maxHeartbeats 1000000
theorem bind51 {A : Around} {E : Value → Shared → Prop} {w : World} {h : Heap} {gg : Array GenState} {dd tt os} {v1 v2 v3 : Value} {Q : List (Str × Value) → Shared → Prop} (KX : Frag.In (K2 w.params) h) (x : Q ((["function", "sequence", "initial"] : List Str).zip [v1, v2, v3]) ⟨h, gg, dd, tt, os⟩) :
    wpAny (model P w) A (bindArgs (fdAt 51 w.params) ⟨[v1, v2, v3], []⟩) Q E ⟨h, gg, dd, tt, os⟩ := by
  have D := Mem.start h
  repeat walk_at "my go1"
  exact x
end Mine
namespace Mine
set_option maxRecDepth 100000
set_option maxHeartbeats 1000000
/-! reduce -/
abbrev k6 : Ks := (defN 6).scope.names
theorem red_body : ∃ a1 p1 p2 p3 a2 a3 a4 a5 bb a6 a7 a8 a9 px p a10 p4 p5 p6 p7 a11 pos r1 r2, (defN 6).body = [.Assign [.Name "it" a1] (.Call (.Name "iter" p1) [.Name "sequence" p2] [] p3) a2,
   .If (.Compare (.Name "initial" a3) [.Is] [.Name "_initial_missing" a4] a5) bb [.Assign [.Name "value" a6] (.Name "initial" a7) a8] a9,
   .For (.Name "element" px) (.Name "it" p) [.Assign [.Name "value" a10] (.Call (.Name "function" p4) [.Name "value" p5, .Name "element" p6] [] p7) a11] [] pos, .Return (some (.Name "value" r1)) r2] :=
  ⟨_, _, _, _, _, _, _, _, _, _, _, _, _, _, _, _, _, _, _, _, _, _, _, _, rfl⟩
def foldD (step : D → Nat → Option D) : D → List Nat → Option D
  | s, [] => some s
  | s, i :: r => (step s i).bind fun s' => foldD step s' r
theorem is_43 {M : Model} {A : Around} {E : Value → Shared → Prop} {Q : Value → Shared → Prop} {s : Shared} {x : Addr} {ox : Obj} (hx : s.heap.get? x = some ox) (hxy : x ≠ 43) (h43 : s.heap.get? 43 = some ⟨.type "object", none, .plain, #[]⟩) (h : Q (.bool false) s) :
    wpAny M A (compareOp .Is (.ref x) (.ref 43)) Q E s := by
  show wpAny M A (do return .bool (← isSame (.ref x) (.ref 43))) Q E s
  refine wpAny_bind ?_
  unfold isSame
  dsimp only
  rw [if_neg (by simpa using hxy)]
  refine wpAny_bind (wpAny_load hx (wpAny_bind (wpAny_load h43 ?_)))
  obtain ⟨c, d, dt, sl⟩ := ox
  dsimp only
  split
  · rename_i z; cases z
  · exact wpAny_pure (wpAny_pure h)
theorem call_iter_range {w : World} {A : Around} {h : Heap} {gg dd tt os} {r : Addr} {n : Nat} {t u v : Tok} {Q : Value → Shared → Prop} (hr : IsRange h r 0 n 1 t u v) (hn : n ≤ 1000)
    (hq : Q (.ref h.objs.size) ⟨h.push { cls := .type "range_iterator", data := .fields #[rawInt 0, rawInt n, rawInt 1] }, gg, dd, tt, os⟩) :
    wpAny (model P w) A (call (.builtin "iter") [.ref r]) Q FF ⟨h, gg, dd, tt, os⟩ := by
  refine Calls.call_function_entry (by decide +kernel) (by decide +kernel) kdk_entry_iter (kdk_args_iter _) ?_
  unfold Builtin.«iter»
  refine wpAny_bind (wpAny_of_eq (a := [Value.ref r]) (by first | rfl | kernel_rfl) ?_)
  show wpAny _ _ (pyIter (.ref r) >>= _) _ _ _
  have hsz : Builtin.Range.rangeSize 0 (n : Int) 1 = (n : Int) := by rw [rangeSize_one]; split <;> omega
  refine wpAny_bind (wpAny_pyIter_range hr (small_one (by omega) (by omega) (by omega) (by omega)) ?_)
  rw [hsz]
  exact wpAny_pure ⟨_, rfl, hq⟩
end Mine
namespace Mine
set_option maxRecDepth 100000
set_option maxHeartbeats 2000000
section
variable {w : World} {Y : AP} {h : Heap} {gg : Array GenState} {dd : Drawn} {tt : Nat} {os : OsState} {A : Around} {vs : List Value}
abbrev rhoR (f : Addr) (n : Nat) (s0 : D) : Bs := ((["function", "sequence", "initial"] : List Str).zip [D.opq (.fn f), .opq (.rng n), s0]).reverse ++ []
theorem reduceS {f : Addr} {fo : Obj} {fd : FuncData} {step : D → Nat → Option D} {n : Nat} {s0 res : D} {ds0 : List D} (ef : h.get? f = some fo) (dfo : fo.data = .func fd) (hs0 : s0 = .tuple ds0)
    (hf : ∀ {Y' : AP} {h' : Heap} {gg dd tt os} {B : Around} {us : List Value} {s : D} {i : Nat} {r : D}, step s i = some r → (∀ a, Y' a → Y a ∨ h.get? a = none) → Kp (fun a => XTH a ∨ Y' a) h h' → InvH w h' → YOK Y' h' → Reps (OH w) Y' h' us [s, .int (i : Nat)] → B.handled = none → B.depth ≤ 660 → B.units ≤ 4700 →
      wpAny (model P w) B (PySem.call (.ref f) us) (Post (TH w) Y' h' gg dd os r) FF ⟨h', gg, dd, tt, os⟩)
    (rs : Reps (OH w) Y h vs [.opq (.fn f), .opq (.rng n), s0]) (I : InvH w h) (y : YOK Y h) (hh : A.handled = none) (hd : A.depth ≤ 650) (hu : A.units ≤ 4600) (hres : foldD step s0 (List.range n) = some res) :
    wpAny (model P w) A (PySem.call (.ref 51) vs) (Post (TH w) Y h gg dd os res) FF ⟨h, gg, dd, tt, os⟩ := by
  have hv : ∃ v1 v2 v3, vs = [v1, v2, v3] := by
    cases rs with | cons r1 rs =>
    cases rs with | cons r2 rs =>
    cases rs with | cons r3 rs =>
    cases rs
    exact ⟨_, _, _, rfl⟩
  obtain ⟨v1, v2, v3, rfl⟩ := hv
  have hfk : freeb k6 [] = true := by kernel_rfl
  have hst : (["function", "sequence", "initial"] : List Str).all (stk k6) = true := by kernel_rfl
  have esc : (fdAt 51 w.params).scope = (defN 6).scope := by kernel_rfl
  have eclo : (fdAt 51 w.params).closure = [] := by kernel_rfl
  have eg : (fdAt 51 w.params).globals = 3 := by kernel_rfl
  have ebl : (fdAt 51 w.params).builtins = 0 := by kernel_rfl
  refine wpAny_call (codeAny_call_function (fd := fdAt 51 w.params) (body := (defN 6).body) (by show A.depth < 1000; omega) (kin I.k 51 _ rfl) rfl (by rw [esc]; kernel_rfl) (by rw [esc]; kernel_rfl) (by kernel_rfl) ⟨50, _, _, _, rfl, kin I.k 50 _ rfl, rfl, rfl⟩ ?_)
  refine bind51 I.k ?_
  rw [eg, ebl, esc, eclo]
  refine enterS (T := TH w) (Y := Y) (ρc := []) (ds := [.opq (.fn f), .opq (.rng n), s0]) (defK_of (by kernel_rfl)) (free_nil hfk) (fun m hm => List.all_eq_true.mp hst m hm) rfl rs I y fun env S h2 tk ec _ eq En => ⟨(TH w).lim En.inv, codeAny_func ?_⟩
  suffices key : wpAny (model P w) (A.deeper env) (execs (defN 6).body env) (fun f s' => ∃ h' tk v, s' = ⟨h', gg, dd, tk, os⟩ ∧ f = .ret v ∧ Kp (fun a => XTH a ∨ S a) h2 h' ∧ InvH w h' ∧ Rep (OH w) Y h' v res) FF ⟨h2, gg, dd, tk, os⟩ by
    refine wpAny_mono key ?_ fun _ _ z => z.elim
    rintro f _ ⟨h', tk', v, rfl, rfl, k2, i, rv⟩
    exact En.post k2 i rv
  obtain ⟨a1, p1, p2, p3, a2, a3, a4, a5, bb, a6, a7, a8, a9, px, p, a10, p4, p5, p6, p7, a11, pos, r1, r2, eb⟩ := red_body
  have hd' : (A.deeper env).depth ≤ 651 := by show A.depth + 1 ≤ 651; omega
  have hu' : (A.deeper env).units ≤ 4603 := by show A.units + 3 ≤ 4603; omega
  have hh' : (A.deeper env).handled = none := hh
  generalize A.deeper env = B at *
  have CO := callsA w 680 4890 (Nat.le_refl _) (Nat.le_refl _)
  rw [eb]
  -- it = iter(sequence)
  have e1 : ev CA 1 k6 (rhoR f n s0) (.Name "iter" p1) = some (.opq (.blt "iter")) := by kernel_rfl
  have e2 : ev CA 1 k6 (rhoR f n s0) (.Name "sequence" p2) = some (.opq (.rng n)) := by kernel_rfl
  refine wpAny_execs_cons (wpAny_Assign_Name (wpAny_Call_NameR (wmono ((evS CO _ _ _ _ _ e1).run En.eok En.inv En.yok hh' (by omega) (by omega)) ?_)) rfl)
  rintro u1 _ ⟨h3, t3, rfl, k3, i3, r3⟩
  cases r3 with | opq o3 =>
  have o3 : u1 = bltV "iter" := o3
  subst o3
  have y3 := En.yok.kp En.inv k3
  have E3 := En.eok.kp En.inv En.yok.w k3
  show wpAny _ _ (callWith p3 (.builtin "iter") [] [(false, eval (.Name "sequence" p2) env)] []) _ _ _
  refine Calls.callWith_builtin rfl (Calls.evalArgs_plain (Calls.spliced_cons (wmono ((evS CO _ _ _ _ _ e2).run E3 i3 y3 hh' (by omega) (by omega)) ?_)))
  rintro u2 _ ⟨h4, t4, rfl, k4, i4, r4⟩
  refine Calls.spliced_nil ?_
  cases r4 with | opq o4 =>
  obtain ⟨hn, ra, ta, tb, tc, rfl, hr, _⟩ := o4
  have y4 := y3.kp i3 k4
  have E4 := E3.kp i3 y3.w k4
  refine call_iter_range hr hn ?_
  let J : Addr := h4.objs.size
  have nJ : h4.get? J = none := none_of_le (Nat.le_refl _)
  have J87 : 87 ≤ J := size87 i4.k
  let Y3 : AP := fun a => (Y a ∨ S a) ∨ a = J
  have yw4 : YW Y3 h4 := by
    rintro a (z | rfl)
    · exact y4.w a z
    · exact ⟨J87, fun o e => by rw [nJ] at e; cases e⟩
  have k5 : Kp XN h4 (h4.push { cls := .type "range_iterator", data := .fields #[rawInt 0, rawInt n, rawInt 1] }) := Kp.push _ _
  have pj : (h4.push { cls := .type "range_iterator", data := .fields #[rawInt 0, rawInt n, rawInt 1] }).get? J = some { cls := .type "range_iterator", data := .fields #[rawInt 0, rawInt n, rawInt 1] } := Heap.get?_push_size _ rfl
  have E5 := (E4.y (Y' := Y3) fun a z => z.imp id fun (z : a = J) => by rw [z]; exact nJ).kp i4 yw4 k5.xn
  show wpAny _ _ _ _ _ ⟨h4.push { cls := .type "range_iterator", data := .fields #[rawInt 0, rawInt n, rawInt 1] }, gg, dd, t4, os⟩
  generalize h4.push { cls := .type "range_iterator", data := .fields #[rawInt 0, rawInt n, rawInt 1] } = h5 at *
  have i5 : InvH w h5 := i4.y (Y := XN) (fun _ z => z.elim) k5
  have kindJ : ∀ {g : Heap} {a b : Int}, IsRangeIter g J a b 1 → ∃ o, g.get? J = some o ∧ kindY o := fun q => ⟨_, q, .inr (.inr (.inr ⟨nofun, _, _, _, rfl, rfl⟩))⟩
  have it0 : IsRangeIter h5 J (0 + ((0 : Nat) : Int) * 1) ((n : Int) - ((0 : Nat) : Int)) 1 := by
    have e1 : ((0 : Int) + ((0 : Nat) : Int) * 1) = 0 := by simp
    have e2 : ((n : Int) - ((0 : Nat) : Int)) = n := by simp
    rw [e1, e2]; exact pj
  have y5 : YOK Y3 h5 := by
    rintro a (z | rfl)
    · obtain ⟨l, o, e, kk⟩ := y4 a z
      exact ⟨l, o, k5.all _ _ e, kk⟩
    · exact ⟨J87, kindJ it0⟩
  have nSJ : ¬ S J := fun z => Nat.lt_irrefl _ (y4.lt (.inr z))
  have nXJ := notXT_of J87
  have sy3 : ∀ a, S a → Y3 a := fun a z => .inl (.inr z)
  refine storeNP (T := TH w) (d := .opq (.fn J)) En.fr sy3 E5 i5 y5 (.opq rfl) (by kernel_rfl) fun h6 t6 k6' i6 y6 E6 _ => ?_
  have it6 : IsRangeIter h6 J (0 + ((0 : Nat) : Int) * 1) ((n : Int) - ((0 : Nat) : Int)) 1 := k6'.at' _ _ (fun z => z.elim nXJ nSJ) it0
  -- if initial is _initial_missing
  have e3 : ev CA 1 k6 (("it", .opq (.fn J)) :: rhoR f n s0) (.Name "initial" a3) = some s0 := by kernel_rfl
  have e4 : ev CA 1 k6 (("it", .opq (.fn J)) :: rhoR f n s0) (.Name "_initial_missing" a4) = some (.opq (.fn 43)) := by kernel_rfl
  refine wpAny_execs_cons (wpAny_If (wpAny_isTrue_Compare1 (wmono ((evS CO _ _ _ _ _ e3).run E6 i6 y6 hh' (by omega) (by omega)) ?_) rfl))
  rintro u3 _ ⟨h7, t7, rfl, k7, i7, r7⟩
  have y7 := y6.kp i6 k7
  have E7 := E6.kp i6 y6.w k7
  refine wmono ((evS CO _ _ _ _ _ e4).run E7 i7 y7 hh' (by omega) (by omega)) ?_
  rintro u4 _ ⟨h8, t8, rfl, k8, i8, r8⟩
  cases r8 with | opq o8 =>
  have o8 : u4 = .ref 43 := o8
  subst o8
  have y8 := y7.kp i7 k8
  have E8 := E7.kp i7 y7.w k8
  have r8 := r7.kp i7 y7.w (kpw k8)
  subst hs0
  cases r8 with | tuple itp nl ri =>
  have itp' := itp
  obtain ⟨ob, eo, co, _⟩ := itp
  refine is_43 eo (fun z => ?_) (kin i8.k 43 _ rfl) (wpAny_truthy_bool ?_)
  · rw [z, kin i8.k 43 _ rfl] at eo; cases eo; exact absurd co (by decide)
  have e5 : ev CA 1 k6 (("it", .opq (.fn J)) :: rhoR f n (.tuple ds0)) (.Name "initial" a7) = some (.tuple ds0) := by kernel_rfl
  refine wpAny_execs_cons (wmono ((asgS CO e5 (by kernel_rfl)).run En.fr sy3 E8 i8 y8 hh' (by omega) (by omega)) ?_)
  rintro g _ ⟨h9, t9, rfl, k9', i9, y9, rfl, E9⟩
  refine wpAny_execs_nil ?_
  have it9 : IsRangeIter h9 J (0 + ((0 : Nat) : Int) * 1) ((n : Int) - ((0 : Nat) : Int)) 1 := k9'.at' _ _ (fun z => z.elim nXJ nSJ) (k8.at' _ _ nXJ (k7.at' _ _ nXJ it6))
  -- for element in it
  have e6 : ev CA 1 k6 (("value", .tuple ds0) :: ("it", .opq (.fn J)) :: rhoR f n (.tuple ds0)) (.Name "it" p) = some (.opq (.fn J)) := by kernel_rfl
  refine wpAny_execs_cons (wpAny_For (wmono ((evS CO _ _ _ _ _ e6).run E9 i9 y9 hh' (by omega) (by omega)) ?_) (fun _ => rfl))
  rintro u5 _ ⟨ha, ta', rfl, ka, ia, ra5⟩
  cases ra5 with | opq o9 =>
  have o9 : u5 = .ref J := o9
  subst o9
  have ya := y9.kp i9 ka
  have Ea := E9.kp i9 y9.w ka
  have ita := ka.at' _ _ nXJ it9
  refine wpAny_pyIter_rangeiter ita ?_
  -- from h to ha
  have kh2 : Kp (fun a => XTH a ∨ S a) h2 ha := ((((k3.wide fun _ => .inl).trans (k4.wide fun _ => .inl)).trans k5.xn).trans k6').trans (k7.wide fun _ => .inl) |>.trans (k8.wide fun _ => .inl) |>.trans k9' |>.trans (ka.wide fun _ => .inl)
  have nJ2 : h2.get? J = none := by
    cases q : h2.get? J with
    | none => rfl
    | some o =>
      have := k4.at' J o nXJ (k3.at' J o nXJ q)
      rw [nJ] at this; cases this
  have nJh : h.get? J = none := by
    cases q : h.get? J with
    | none => rfl
    | some o =>
      have := ((En.kp.trans (k3.wide fun _ => .inl)).trans (k4.wide fun _ => .inl)).at' J o (fun z => z.elim nXJ nSJ) q
      rw [nJ] at this; cases this
  have toY : ∀ a, Y3 a → Y a ∨ h.get? a = none := by
    rintro a ((z | z) | rfl)
    · exact .inl z
    · exact .inr (En.new a z)
    · exact .inr nJh
  have ywh : YW Y3 h := fun a z => by
    rcases toY a z with q | q
    · exact y.w a q
    · refine ⟨?_, fun o e => by rw [q] at e; cases e⟩
      exact (ya a z).1
  have kdh := kdXY I ywh
  have fout : ¬ (XTH f ∨ Y3 f) := by
    obtain ⟨c, d, dt, sl⟩ := fo
    subst dfo
    exact kdh.other ef nofun nofun nofun nofun
  have W := Walks.range (prog := P) (w := w) (A := B) hh' J 0 1 n
  have nlJ : env.locals ≠ J := fun z => nSJ (z ▸ En.fr.loc)
  have ncJ : ∀ x c, (k6.lookup x = some .cell ∨ k6.lookup x = some .free) → env.cells.lookup x = some c → c ≠ J := fun x c _ e z => by
    have q := En.cellLt (h' := h4) (fun a q => y4.lt (.inr q)) e
    rw [z] at q
    exact Nat.lt_irrefl _ q
  refine codeAny_forLoop
    (fun m s' => ∃ h' tk j ρj sj, s' = ⟨h', gg, dd, tk, os⟩ ∧ j ≤ n ∧ m = n + 1 - j ∧ IsRangeIter h' J (0 + (j : Int) * 1) ((n : Int) - (j : Nat)) 1 ∧ Kp (fun a => XTH a ∨ S a) h2 h' ∧ InvH w h' ∧ YOK Y3 h' ∧ EnvOK (TH w) Y3 env k6 ρj h' ∧
      ρj.lookup ("function" : Str) = some (.opq (.fn f)) ∧ ρj.lookup ("value" : Str) = some sj ∧ foldD step sj ((List.range n).drop j) = some res) ?_ (n + 1)
    ⟨ha, ta', 0, _, .tuple ds0, rfl, Nat.zero_le _, rfl, ita, kh2, ia, ya, Ea, rfl, rfl, by simpa using hres⟩
  rintro m s' ⟨hj, tkj, j, ρj, sj, rfl, hjn, rfl, itj, kj, ij, yj, Ej, lf, lv, hw⟩
  by_cases hlt : j < n
  · refine W.item j _ _ _ hlt itj fun v hb tb' hP itb kb => ?_
    dsimp only at kb ⊢
    have kp1 : ∀ b o, b ≠ J → hj.get? b = some o → hb.get? b = some o := fun b o n e => kb b o (by simpa using n) e
    have kI : Kp Y3 hj hb := ⟨fun b o n e => kp1 b o (fun z => n (.inr z)) e⟩
    have ib := ij.y yj.w kI
    have yb : YOK Y3 hb := yj.step kp1 (kindJ itb)
    have Eb : EnvOK (TH w) Y3 env k6 ρj hb := Ej.kp1 ij yj.w (.inr rfl) kp1 nlJ ncJ
    have kb' : Kp (fun a => XTH a ∨ S a) h2 hb := ⟨fun b o n e => kp1 b o (fun z => by rw [z, nJ2] at e; cases e) (kj.at' b o n e)⟩
    have rb : Rep (OH w) Y3 hb v (.int (j : Nat)) := by
      obtain ⟨t, rfl⟩ := hP
      have : (0 : Int) + (j : Nat) * 1 = (j : Nat) := by omega
      rw [this]; exact .int _ _
    refine storeP (T := TH w) En.fr sy3 Eb ib yb rb (by kernel_rfl) fun hc tc' kc ic yc Ec _ => ?_
    have itc := kc.at' _ _ (fun z => z.elim nXJ nSJ) itb
    have kc' := kb'.trans kc
    -- value = function(value, element)
    have hdr : (List.range n).drop j = j :: (List.range n).drop (j + 1) := by
      rw [List.drop_eq_getElem_cons (by simpa using hlt)]; simp
    rw [hdr, foldD] at hw
    obtain ⟨sn, es, hw⟩ := Option.bind_eq_some_iff.mp hw
    have f1 : ev CA 1 k6 (("element", .int (j : Nat)) :: ρj) (.Name "function" p4) = some (.opq (.fn f)) := (show lookN GH k6 (("element", .int (j : Nat)) :: ρj) "function" = ρj.lookup ("function" : Str) by kernel_rfl).trans lf
    have f2 : allM (ev CA 1 k6 (("element", .int (j : Nat)) :: ρj)) [.Name "value" p5, .Name "element" p6] = some [sj, .int (j : Nat)] := by
      have q1 : lookN GH k6 (("element", .int (j : Nat)) :: ρj) "value" = some sj := (show lookN GH k6 (("element", .int (j : Nat)) :: ρj) "value" = ρj.lookup ("value" : Str) by kernel_rfl).trans lv
      have q2 : lookN GH k6 (("element", .int (j : Nat)) :: ρj) "element" = some (.int (j : Nat)) := by kernel_rfl
      show ((lookN GH k6 (("element", .int (j : Nat)) :: ρj) "value").bind fun d => (((lookN GH k6 (("element", .int (j : Nat)) :: ρj) "element").bind fun d => some [d])).bind fun ds => some (d :: ds)) = _
      rw [q1, q2]; rfl
    refine wpAny_execs_cons (wpAny_Assign_Name (wpAny_Call_NameR (wmono ((evS CO _ _ _ _ _ f1).run Ec ic yc hh' (by omega) (by omega)) ?_)) rfl)
    rintro u6 _ ⟨hd2, td, rfl, kd, id, rd⟩
    cases rd with | opq od =>
    have od : u6 = .ref f := od
    subst od
    have yd := yc.kp ic kd
    have Ed := Ec.kp ic yc.w kd
    have kd' := kc'.trans (kd.wide fun _ => .inl)
    have efd : hd2.get? f = some fo := (En.kp.trans kd').at' _ _ (fun z => fout (z.imp _root_.id (sy3 f))) ef
    have mkF : ∀ {g : Heap}, g.get? f = some fo → FnAt f g := fun e => by
      obtain ⟨c, d, dt, sl⟩ := fo
      subst dfo
      exact ⟨_, _, _, _, e⟩
    refine callWith_F (mkF efd) (wmono (spl (fun e d h => ⟨ev_plain h, evS CO _ _ _ _ _ h⟩) p7 _ _ f2 Ed id yd hh' (by omega) (by omega)) ?_)
    rintro us _ ⟨he, te, rfl, ke, ie, re⟩
    have ye := yd.kp id ke
    have ke' := kd'.trans (ke.wide fun _ => .inl)
    have Ee := Ed.kp id yd.w ke
    refine ⟨mkF ((En.kp.trans ke').at' _ _ (fun z => fout (z.imp _root_.id (sy3 f))) ef), ?_⟩
    refine wmono (hf es toY ((En.kp.trans ke').wide fun a z => z.imp _root_.id (sy3 a)) ie ye re hh' (by omega) (by omega)) ?_
    rintro u7 _ ⟨hg, tg, rfl, kg, ig, rg⟩
    have yg := ye.kp ie kg
    have Eg := Ee.kp ie ye.w kg
    refine storeNP (T := TH w) En.fr sy3 Eg ig yg rg (by kernel_rfl) fun hi ti ki ii yi Ei _ => ?_
    refine wpAny_execs_nil ?_
    refine ⟨n + 1 - (j + 1), by omega, hi, ti, j + 1, _, sn, rfl, hlt, rfl, ?_, (ke'.trans (kg.wide fun _ => .inl)).trans ki, ii, yi, Ei, ?_, rfl, hw⟩
    · exact ki.at' _ _ (fun z => z.elim nXJ nSJ) (kg.at' _ _ nXJ (ke.at' _ _ nXJ (kd.at' _ _ nXJ itc)))
    · exact lf
  · have hjl : j = n := by omega
    subst hjl
    rw [List.drop_of_length_le (by simp), foldD] at hw
    cases hw
    refine W.done _ _ _ itj fun hb tb' kb => ?_
    dsimp only at kb ⊢
    have kp1 : ∀ b o, b ≠ J → hj.get? b = some o → hb.get? b = some o := fun b o n e => kb b o (by simpa using n) e
    have kI : Kp Y3 hj hb := ⟨fun b o n e => kp1 b o (fun z => n (.inr z)) e⟩
    have ib := ij.y yj.w kI
    have kb' : Kp (fun a => XTH a ∨ S a) h2 hb := ⟨fun b o n e => kp1 b o (fun z => by rw [z, nJ2] at e; cases e) (kj.at' b o n e)⟩
    refine wpAny_execs_nil ?_
    have Eb : EnvOK (TH w) (fun a => Y a ∨ S a) env k6 ρj hb := (Ej.kp1 ij yj.w (.inr rfl) kp1 nlJ ncJ).y fun a z => .inl (.inl z)
    have yb : YOK (fun a => Y a ∨ S a) hb := fun a z => by
      obtain ⟨l, o, e, kk⟩ := yj a (.inl z)
      exact ⟨l, o, kp1 _ _ (fun q => Nat.lt_irrefl _ (y4.lt (show (Y J ∨ S J) from q ▸ z))) e, kk⟩
    have f9 : ev CA 1 k6 ρj (.Name "value" r1) = some res := (show lookN GH k6 ρj "value" = ρj.lookup ("value" : Str) by kernel_rfl).trans lv
    refine wpAny_execs_cons (wpAny_Return_some (wmono ((evS CO _ _ _ _ _ f9).run Eb ib yb hh' (by omega) (by omega)) ?_))
    rintro u9 _ ⟨hz, tz, rfl, kz, iz, rz⟩
    exact ⟨hz, tz, u9, rfl, rfl, kb'.trans (kz.wide fun _ => .inl), iz, rz.y fun a z => .inl (.inl z)⟩
end
end Mine
namespace Mine
set_option maxRecDepth 100000
set_option maxHeartbeats 2000000
/-! _law_run -/
abbrev k12 : Ks := (defN 12).scope.names
abbrev kA : Ks := askDef.scope.names
def rKeys : PySem.Expr := match (defN 12).body with | .Assign _ v _ :: _ => v | _ => .Constant .none 0 default
def rArgs : List PySem.Expr := match (defN 12).body with | [_, _, .Return (some (.Call _ a _ _)) _] => a | _ => []
theorem run_body : ∃ a1 a2 p1 p2 p3, (defN 12).body = [.Assign [.Name "keys" a1] rKeys a2, .FunctionDef "_law_ask" askDef.args askDef.body [] none [] askDef.scope none "_law_ask" askDef.pos, .Return (some (.Call (.Name "reduce" p1) rArgs [] p2)) p3] := ⟨_, _, _, _, _, rfl⟩
theorem run_args : ∃ e r, rArgs = e :: r := ⟨_, _, rfl⟩
abbrev rhoL (wa ra wh tu : D) : Bs := ((["wants", "ranks", "which", "turned"] : List Str).zip [wa, ra, wh, tu]).reverse ++ []
def s0D : D := .tuple [.list [.int 0, .int 1, .int 2, .int 3], .list [.int 0, .int 0, .int 0, .int 0], .list [.none, .none, .none, .none]]
abbrev rhoC (ks tu wa wh : D) : Bs := [("keys", ks), ("turned", tu), ("wants", wa), ("which", wh)]
def askD (ks tu wa wh : D) (s : D) (i : Nat) : Option D := retOf (exsW (ex CA 20 kA) (((["state", "turn"] : List Str).zip [s, .int (i : Nat)]).reverse ++ rhoC ks tu wa wh) askDef.body)
def runD (wa ra wh tu : D) : Option D := (ev CA 10 k12 (rhoL wa ra wh tu) rKeys).bind fun ks => foldD (askD ks tu wa wh) s0D (List.range 16)
theorem ask_facts : defKb askDef.scope = true ∧ freeb kA ["keys", "turned", "wants", "which"] = true ∧ (["state", "turn"] : List Str).all (stk kA) = true ∧ askDef.scope.isCoroutine = false ∧ askDef.scope.isGenerator = false ∧
    kA.lookup ("keys" : Str) = some .free ∧ kA.lookup ("turned" : Str) = some .free ∧ kA.lookup ("wants" : Str) = some .free ∧ kA.lookup ("which" : Str) = some .free :=
  ⟨by kernel_rfl, by kernel_rfl, by kernel_rfl, by kernel_rfl, by kernel_rfl, by kernel_rfl, by kernel_rfl, by kernel_rfl, by kernel_rfl⟩
/-- the closure _law_ask, at a heap -/
structure AskAt (w : World) (Y : AP) (h : Heap) (f : Addr) (ks tu wa wh : D) : Prop where
  ex : ∃ ct c' c1 c2 c3 c4 v1 v2 v3 v4, h.get? f = some (fnObj "_law_ask" qAsk askDef.args askDef.body askDef.scope [("which", c4), ("wants", c3), ("turned", c2), ("keys", c1)] ct pmV c') ∧ h.CodeRec (.ref c') qAsk ∧
    h.IsCell c1 (some v1) ∧ h.IsCell c2 (some v2) ∧ h.IsCell c3 (some v3) ∧ h.IsCell c4 (some v4) ∧ ¬ Y c1 ∧ ¬ Y c2 ∧ ¬ Y c3 ∧ ¬ Y c4 ∧
    Rep (OH w) Y h v1 ks ∧ Rep (OH w) Y h v2 tu ∧ Rep (OH w) Y h v3 wa ∧ Rep (OH w) Y h v4 wh
section
variable {w : World} {Y : AP} {h : Heap} {gg : Array GenState} {dd : Drawn} {tt : Nat} {os : OsState} {A : Around} {vs : List Value}
theorem AskAt.move {Y' : AP} {h' : Heap} {f : Addr} {ks tu wa wh : D} (a : AskAt w Y h f ks tu wa wh) (I : InvH w h) (y : YOK Y h) (y' : YOK Y' h') (s : ∀ a, Y' a → Y a ∨ h.get? a = none) (k : Kp (fun a => XTH a ∨ Y' a) h h') : AskAt w Y' h' f ks tu wa wh := by
  obtain ⟨ct, c', c1, c2, c3, c4, v1, v2, v3, v4, ef, cr, i1, i2, i3, i4, n1, n2, n3, n4, r1, r2, r3, r4⟩ := a.ex
  have yw : YW Y' h := fun a z => by
    rcases s a z with q | q
    · exact y.w a q
    · exact ⟨(y' a z).1, fun o e => by rw [q] at e; cases e⟩
  have kd := kdXY I yw
  have out : ∀ {c u}, h.IsCell c u → ¬ Y c → ¬ Y' c := fun ic n z => (s _ z).elim n fun q => by obtain ⟨o, e, _⟩ := ic; rw [q] at e; cases e
  have cell : ∀ {c u}, h.IsCell c u → ¬ Y c → h'.IsCell c u := fun ic n => k.isCell (fun z => z.elim ((TH w).xt_cell I ic) (out ic n)) ic
  have rep : ∀ {v d}, Rep (OH w) Y h v d → Rep (OH w) Y' h' v d := fun r => (r.y (T := TH w) s).kp (T := TH w) I yw k
  exact ⟨ct, c', c1, c2, c3, c4, v1, v2, v3, v4, k.at' _ _ (kd.other ef nofun nofun nofun nofun) ef, kd.code k cr, cell i1 n1, cell i2 n2, cell i3 n3, cell i4 n4, out i1 n1, out i2 n2, out i3 n3, out i4 n4, rep r1, rep r2, rep r3, rep r4⟩
theorem askS {f : Addr} {ks tu wa wh s r : D} {i : Nat} (a : AskAt w Y h f ks tu wa wh) (e : askD ks tu wa wh s i = some r) (I : InvH w h) (y : YOK Y h) (rs : Reps (OH w) Y h vs [s, .int (i : Nat)]) (hh : A.handled = none) (hd : A.depth ≤ 660) (hu : A.units ≤ 4700) :
    wpAny (model P w) A (PySem.call (.ref f) vs) (Post (TH w) Y h gg dd os r) FF ⟨h, gg, dd, tt, os⟩ := by
  obtain ⟨ct, c', c1, c2, c3, c4, v1, v2, v3, v4, ef, cr, i1, i2, i3, i4, n1, n2, n3, n4, r1, r2, r3, r4⟩ := a.ex
  obtain ⟨q1, q2, q3, q4, q5, q6, q7, q8, q9⟩ := ask_facts
  obtain ⟨ρ', e⟩ := retOf_eq e
  have hv : ∃ u1 u2, vs = [u1, u2] := by
    cases rs with | cons r1 rs =>
    cases rs with | cons r2 rs =>
    cases rs
    exact ⟨_, _, rfl⟩
  obtain ⟨u1, u2, rfl⟩ := hv
  refine callS (T := TH w) (callsA w 680 4890 (Nat.le_refl _) (Nat.le_refl _)) (n := 20) (ρc := rhoC ks tu wa wh) (ns := ["state", "turn"]) (ds := [s, .int (i : Nat)]) hh (by omega) (by omega) ef rfl rfl rfl q4 q5 rfl cr ?_ (defK_of q1) ⟨?_, ?_, ?_⟩ (fun m hm => List.all_eq_true.mp q3 m hm) rfl rs I y (by show A.depth < 1000; omega) (ρ' := ρ') e
  · kernel_rfl
  · intro x d ed
    have := mem_of_lookup ed
    simp only [List.mem_cons, List.not_mem_nil, or_false, Prod.mk.injEq] at this
    rcases this with ⟨rfl, _⟩ | ⟨rfl, _⟩ | ⟨rfl, _⟩ | ⟨rfl, _⟩
    · exact q6
    · exact q7
    · exact q8
    · exact q9
  · intro x hx
    have := freeb_use q2 hx
    simp only [List.mem_cons, List.not_mem_nil, or_false] at this
    rcases this with rfl | rfl | rfl | rfl
    · exact ⟨c1, _, rfl, i1, fun d ed => ⟨_, rfl, by cases ed; exact r1⟩⟩
    · exact ⟨c2, _, rfl, i2, fun d ed => ⟨_, rfl, by cases ed; exact r2⟩⟩
    · exact ⟨c3, _, rfl, i3, fun d ed => ⟨_, rfl, by cases ed; exact r3⟩⟩
    · exact ⟨c4, _, rfl, i4, fun d ed => ⟨_, rfl, by cases ed; exact r4⟩⟩
  · intro x c0 ed
    have := mem_of_lookup ed
    simp only [List.mem_cons, List.not_mem_nil, or_false, Prod.mk.injEq] at this
    rcases this with ⟨_, rfl⟩ | ⟨_, rfl⟩ | ⟨_, rfl⟩ | ⟨_, rfl⟩
    · exact i4.lt
    · exact i3.lt
    · exact i2.lt
    · exact i1.lt
end
end Mine
namespace Mine
set_option maxRecDepth 100000
set_option maxHeartbeats 2000000
section
variable {w : World} {Y : AP} {h : Heap} {gg : Array GenState} {dd : Drawn} {tt : Nat} {os : OsState} {A : Around} {vs : List Value}
theorem runS {wa ra wh tu res : D} (rs : Reps (OH w) Y h vs [wa, ra, wh, tu]) (I : InvH w h) (y : YOK Y h) (hh : A.handled = none) (hd : A.depth ≤ 640) (hu : A.units ≤ 4500) (e : runD wa ra wh tu = some res) :
    wpAny (model P w) A (PySem.call (.ref 76) vs) (Post (TH w) Y h gg dd os res) FF ⟨h, gg, dd, tt, os⟩ := by
  obtain ⟨ks, ek, ef⟩ := Option.bind_eq_some_iff.mp e
  refine callGB (fn76 w) rfl rs I y (by show A.depth < 1000; omega) fun env S h2 tk ec eq En => ?_
  obtain ⟨a1, a2, p1, p2, p3, eb⟩ := run_body
  have hd' : (A.deeper env).depth ≤ 641 := by show A.depth + 1 ≤ 641; omega
  have hu' : (A.deeper env).units ≤ 4503 := by show A.units + 3 ≤ 4503; omega
  have hh' : (A.deeper env).handled = none := hh
  generalize A.deeper env = B at *
  have CO := callsA w 680 4890 (Nat.le_refl _) (Nat.le_refl _)
  rw [eb]
  refine wpAny_execs_cons (wmono ((asgS CO ek (by kernel_rfl)).run En.fr (fun _ z => .inr z) En.eok En.inv En.yok hh' (by omega) (by omega)) ?_)
  rintro g _ ⟨h3, t3, rfl, k3, i3, y3, rfl, E3⟩
  -- the cells of the frame
  have l1 : k12.lookup ("keys" : Str) = some .cell := by kernel_rfl
  have l2 : k12.lookup ("turned" : Str) = some .cell := by kernel_rfl
  have l3 : k12.lookup ("wants" : Str) = some .cell := by kernel_rfl
  have l4 : k12.lookup ("which" : Str) = some .cell := by kernel_rfl
  obtain ⟨c1, _, e1, _, _⟩ := E3.cell "keys" (.inl l1)
  obtain ⟨c2, _, e2, _, _⟩ := E3.cell "turned" (.inl l2)
  obtain ⟨c3, _, e3, _, _⟩ := E3.cell "wants" (.inl l3)
  obtain ⟨c4, _, e4, _, _⟩ := E3.cell "which" (.inl l4)
  have hclo : closureFor askDef.scope env = pure ([("which", c4), ("wants", c3), ("turned", c2), ("keys", c1)] : List (Str × Addr)) := by
    rw [closureFor_eq]
    · have : closL env.cells askDef.scope.names [] = ([("which", (env.cells.lookup ("which" : Str)).getD 0), ("wants", (env.cells.lookup ("wants" : Str)).getD 0), ("turned", (env.cells.lookup ("turned" : Str)).getD 0), ("keys", (env.cells.lookup ("keys" : Str)).getD 0)] : List (Str × Addr)) := by kernel_rfl
      rw [this, e1, e2, e3, e4]; rfl
    · intro n hn
      have := freeb_use ask_facts.2.1 (x := n) ((defK_of (clo := []) ask_facts.1).look n _ hn)
      simp only [List.mem_cons, List.not_mem_nil, or_false] at this
      rcases this with rfl | rfl | rfl | rfl
      · rw [e1]; rfl
      · rw [e2]; rfl
      · rw [e3]; rfl
      · rw [e4]; rfl
  refine wpAny_execs_cons (m_sdef (q := qAsk) (c := 75) (Pt := 73) (.inr ⟨rfl, rfl, rfl, rfl⟩) (by rw [ec]; kernel_rfl) ?_ (by kernel_rfl) (by kernel_rfl) (by kernel_rfl) (by kernel_rfl) (by kernel_rfl) hclo En.fr (fun _ z => .inr z) E3 i3 y3 (by kernel_rfl) ?_)
  · unfold qualnameIn
    have : env.kindOf "_law_ask" = some .local := by unfold Env.kindOf; rw [E3.names]; kernel_rfl
    rw [this, eq]; kernel_rfl
  intro f ct c' h4 t4 nf k4 i4 y4 E4 efn cr
  have n1 : ev CA 10 k12 (("_law_ask", .opq (.fn f)) :: ("keys", ks) :: rhoL wa ra wh tu) (.Name "reduce" p1) = some (.opq (.fn 51)) := by kernel_rfl
  have n2 : allM (ev CA 10 k12 (("_law_ask", .opq (.fn f)) :: ("keys", ks) :: rhoL wa ra wh tu)) rArgs = some [.opq (.fn f), .opq (.rng 16), s0D] := by kernel_rfl
  refine wpAny_execs_cons (wpAny_Return_some (wpAny_Call_NameR (wmono ((evS CO _ _ _ _ _ n1).run E4 i4 y4 hh' (by omega) (by omega)) ?_)))
  rintro u1 _ ⟨h5, t5, rfl, k5, i5, r5⟩
  cases r5 with | opq o5 =>
  have o5 : u1 = .ref 51 := o5
  subst o5
  have y5 := y4.kp i4 k5
  have E5 := E4.kp i4 y4.w k5
  have mkF : ∀ {g : Heap}, InvH w g → FnAt 51 g := fun i => ⟨_, _, _, _, kin i.k 51 _ rfl⟩
  obtain ⟨x0, xr, ex⟩ := run_args
  rw [ex] at n2 ⊢
  have px : plainE x0 := by
    obtain ⟨d, q, _⟩ := Option.bind_eq_some_iff.mp n2
    exact ev_plain q
  have hp : (backTo p2 (starEach xr env)).any (·.1) = false := by
    obtain ⟨d, _, q⟩ := Option.bind_eq_some_iff.mp n2
    obtain ⟨ds', q2, _⟩ := Option.bind_eq_some_iff.mp q
    exact plain_any (fun e d h => ev_plain h) xr ds' q2
  refine callWith_F (mkF i5) (wmono (spl (fun e d h => ⟨ev_plain h, evS CO _ _ _ _ _ h⟩) p2 _ _ n2 E5 i5 y5 hh' (by omega) (by omega)) ?_) (px.star _ _) hp
  rintro us _ ⟨h6, t6, rfl, k6, i6, r6⟩
  refine ⟨mkF i6, ?_⟩
  have y6 := y5.kp i5 k6
  have E6 := E5.kp i5 y5.w k6
  -- now nothing of the frame is written any more
  have back : ∀ a, Y a → (Y a ∨ S a) ∨ h6.get? a = none := fun a z => .inl (.inl z)
  have y6' : YOK Y h6 := fun a z => y6 a (.inl z)
  have new : ∀ {a}, S a → ¬ Y a := fun s z => by
    obtain ⟨_, o, e, _⟩ := y _ z
    rw [En.new _ s] at e; cases e
  have kd4 := kdXY i4 y4.w
  have hf6 : h6.get? f = some (fnObj "_law_ask" qAsk askDef.args askDef.body askDef.scope [("which", c4), ("wants", c3), ("turned", c2), ("keys", c1)] ct pmV c') := by
    have fx : ¬ XTH f := fun z => kd4.other efn nofun nofun nofun nofun (.inl z)
    exact k6.at' _ _ fx (k5.at' _ _ fx efn)
  have cr6 : h6.CodeRec (.ref c') qAsk := by
    have k46 : Kp XTH h4 h6 := k5.trans k6
    exact kd4.code (k46.wide fun _ => .inl) cr
  have cellf : ∀ {x : Str} {c : Addr} {d : D}, k12.lookup x = some .cell → env.cells.lookup x = some c → (("_law_ask", .opq (.fn f)) :: ("keys", ks) :: rhoL wa ra wh tu : Bs).lookup x = some d → ∃ v, h6.IsCell c (some v) ∧ ¬ Y c ∧ Rep (OH w) Y h6 v d := fun {x c d} lx ex ed => by
    obtain ⟨c0, u, q1, q2, q3⟩ := E6.cell x (.inl lx)
    rw [ex] at q1; cases q1
    obtain ⟨v, z1, z2⟩ := q3 _ ed
    subst z1
    exact ⟨v, q2, new (En.fr.cell x c lx ex).1, z2.y (T := TH w) back⟩
  obtain ⟨v1, i1, m1, q1⟩ := cellf l1 e1 (d := ks) rfl
  obtain ⟨v2, i2, m2, q2⟩ := cellf l2 e2 (d := tu) rfl
  obtain ⟨v3, i3', m3, q3⟩ := cellf l3 e3 (d := wa) rfl
  obtain ⟨v4, i4', m4, q4⟩ := cellf l4 e4 (d := wh) rfl
  have ask : AskAt w Y h6 f ks tu wa wh := ⟨ct, c', c1, c2, c3, c4, v1, v2, v3, v4, hf6, cr6, i1, i2, i3', i4', m1, m2, m3, m4, q1, q2, q3, q4⟩
  refine wmono (reduceS (step := askD ks tu wa wh) hf6 rfl rfl (fun {Y' h' gg dd tt os B us s i r} es ty kp ih yh rr b1 b2 b3 => askS (ask.move i6 y6' yh ty kp) es ih yh rr b1 b2 b3) (r6.y (T := TH w) back) i6 y6' hh' (by omega) (by omega) ef) ?_
  rintro v _ ⟨h7, t7, rfl, k7, i7, r7⟩
  exact ⟨h7, t7, v, rfl, rfl, (((k3.trans k4).trans (k5.wide fun _ => .inl)).trans (k6.wide fun _ => .inl)).trans (k7.wide fun _ => .inl), i7, r7⟩
end
end Mine
namespace Mine
set_option maxRecDepth 100000
set_option maxHeartbeats 2000000
/-! law -/
def ordD : List D → Option D
  | [.int x] => some (.list ((ordZ x).map .int))
  | _ => none
def holD : List D → Option D
  | [m, wa, ra] => holdsD m wa ra
  | _ => none
def rnD : List D → Option D
  | [wa, ra, wh, tu] => runD wa ra wh tu
  | _ => none
def callZ : Opq → List D → Option D
  | .fn a, ds => if a = 57 then ordD ds else if a = 81 then holD ds else if a = 76 then rnD ds else callA (.fn a) ds
  | q, ds => callA q ds
def CZ : Cfg := ⟨GH, callZ⟩
theorem callsZ (w : World) (dp un : Nat) (h1 : dp ≤ 640) (h2 : un ≤ 4500) : CallsOK (TH w) CZ dp un := by
  have CO := callsA w dp un (by omega) (by omega)
  refine ⟨rfl, by show un + 70 < 9900; omega, ⟨by omega, by omega⟩, ?_, ?_⟩
  · intro q ds r e Y h gg dd tt os A f vs o rs I y hh hd hu
    unfold CZ callZ at e
    dsimp only at e
    split at e
    · split at e
      · rename_i hs; subst hs
        have o : f = .ref _ := o
        subst o
        unfold ordD at e
        split at e
        · cases e
          exact orderS rs I y hh (by omega) (by omega)
        · cases e
      · split at e
        · rename_i hs; subst hs
          have o : f = .ref _ := o
          subst o
          unfold holD at e
          split at e
          · exact holdsS rs I y hh (by omega) (by omega) e
          · cases e
        · split at e
          · rename_i hs; subst hs
            have o : f = .ref _ := o
            subst o
            unfold rnD at e
            split at e
            · exact runS rs I y hh (by omega) (by omega) e
            · cases e
          · exact CO.call (q := _) (ds := ds) (r := r) (by exact e) o rs I y hh hd hu
    · exact CO.call (q := _) (ds := ds) (r := r) (by exact e) o rs I y hh hd hu
  · intro q ds r e Y h f o I y
    unfold CZ callZ at e
    dsimp only at e
    split at e
    · split at e
      · rename_i hs; subst hs
        have o : f = .ref _ := o
        subst o
        exact (fn57 w).keeper I
      · split at e
        · rename_i hs; subst hs
          have o : f = .ref _ := o
          subst o
          exact (fn81 w).keeper I
        · split at e
          · rename_i hs; subst hs
            have o : f = .ref _ := o
            subst o
            exact (fn76 w).keeper I
          · exact CO.keeper (q := _) (ds := ds) (r := r) (by exact e) o I y
    · exact CO.keeper (q := _) (ds := ds) (r := r) (by exact e) o I y
abbrev k14 : Ks := (defN 14).scope.names
def LawPlain (ns : List Int) : Prop := ∃ ρ', exsW (ex CZ 40 k14) (((["script"] : List Str).zip [D.list (ns.map .int)]).reverse ++ []) (defN 14).body = some (.ret (.bool true), ρ')
theorem lawS {w : World} {Y : AP} {h : Heap} {gg : Array GenState} {dd : Drawn} {tt : Nat} {os : OsState} {A : Around} {vs : List Value} {ns : List Int} (rs : Reps (OH w) Y h vs [.list (ns.map .int)]) (I : InvH w h) (y : YOK Y h) (hh : A.handled = none) (hd : A.depth ≤ 630) (hu : A.units ≤ 4400) (e : LawPlain ns) :
    wpAny (model P w) A (PySem.call (.ref 86) vs) (Post (TH w) Y h gg dd os (.bool true)) FF ⟨h, gg, dd, tt, os⟩ := by
  obtain ⟨ρ', e⟩ := e
  exact callGS (callsZ w 640 4500 (Nat.le_refl _) (Nat.le_refl _)) (fn86 w) (m := 40) rfl rs I y hh (by omega) (by omega) (ρ' := ρ') e
end Mine
namespace Mine.GS
/-! Gale and Shapley, for four and four -/
structure Prefs (w m : Nat → Nat → Nat) : Prop where
  wlt : ∀ k < 4, ∀ i < 4, w k i < 4
  mlt : ∀ k < 4, ∀ p < 4, m k p < 4
  mw : ∀ k < 4, ∀ i < 4, m k (w k i) = i
  wm : ∀ k < 4, ∀ p < 4, w k (m k p) = p
theorem Prefs.inj {w m : Nat → Nat → Nat} (P : Prefs w m) {k p q : Nat} (hk : k < 4) (hp : p < 4) (hq : q < 4) (e : m k p = m k q) : p = q := by
  rw [← P.wm k hk p hp, e, P.wm k hk q hq]
/-- a way to pair, and the same way seen from the other side -/
structure Pairing (μ ν : Nat → Nat) : Prop where
  ml : ∀ k < 4, μ k < 4
  nl : ∀ p < 4, ν p < 4
  nm : ∀ k < 4, ν (μ k) = k
  mn : ∀ p < 4, μ (ν p) = p
def Stable (m r : Nat → Nat → Nat) (μ ν : Nat → Nat) : Prop := ∀ k < 4, ∀ p < 4, m k p < m k (μ k) → ¬ r p k < r p (ν p)
theorem Pairing.swap {μ ν : Nat → Nat} (P : Pairing μ ν) : Pairing ν μ := ⟨P.nl, P.ml, P.mn, P.nm⟩
theorem Stable.swap {m r μ ν} (S : Stable m r μ ν) : Stable r m ν μ := fun p hp k hk a b => S k hk p hp b a
theorem pigeon : ∀ a b c d e : Fin 4, ¬ (a ≠ b ∧ a ≠ c ∧ a ≠ d ∧ a ≠ e ∧ b ≠ c ∧ b ≠ d ∧ b ≠ e ∧ c ≠ d ∧ c ≠ e ∧ d ≠ e) := by decide +kernel
structure St where
  free : List Nat
  tried : Nat → Nat
  held : Nat → Option Nat
def pick : Bool → List Nat → Option (Nat × List Nat)
  | _, [] => none
  | false, x :: xs => some (x, xs)
  | true, x :: xs => some ((x :: xs).getLast (by simp), (x :: xs).dropLast)
def step (w r : Nat → Nat → Nat) (tu : Bool) (S : St) : St := match pick tu S.free with
  | none => S
  | some (one, rest) => match S.held (w one (S.tried one)) with
    | none => ⟨rest, fun k => if k = one then S.tried k + 1 else S.tried k, fun p => if p = w one (S.tried one) then some one else S.held p⟩
    | some j => if r (w one (S.tried one)) one < r (w one (S.tried one)) j then ⟨rest ++ [j], fun k => if k = one then S.tried k + 1 else S.tried k, fun p => if p = w one (S.tried one) then some one else S.held p⟩
      else ⟨rest ++ [one], fun k => if k = one then S.tried k + 1 else S.tried k, S.held⟩
structure Inv (w m r : Nat → Nat → Nat) (n : Nat) (S : St) : Prop where
  fnd : S.free.Nodup
  flt : ∀ k ∈ S.free, k < 4
  hlt : ∀ p < 4, ∀ k, S.held p = some k → k < 4
  hinj : ∀ p < 4, ∀ q < 4, ∀ k, S.held p = some k → S.held q = some k → p = q
  cov : ∀ k < 4, k ∈ S.free ∨ ∃ p < 4, S.held p = some k
  exc : ∀ k ∈ S.free, ∀ p < 4, S.held p ≠ some k
  hld : ∀ p < 4, ∀ k, S.held p = some k → m k p + 1 = S.tried k
  best : ∀ p < 4, ∀ j, S.held p = some j → ∀ k < 4, m k p < S.tried k → r p j ≤ r p k
  none : ∀ p < 4, S.held p = none → ∀ k < 4, S.tried k ≤ m k p
  tle : ∀ k < 4, S.tried k ≤ 4
  rej : ∀ k < 4, ∀ p < 4, m k p < S.tried k → S.held p ≠ some k → ∀ μ ν, Pairing μ ν → Stable m r μ ν → μ k ≠ p
  cnt : S.free = [] ∨ S.tried 0 + S.tried 1 + S.tried 2 + S.tried 3 = n
theorem start (w m r : Nat → Nat → Nat) : Inv w m r 0 ⟨[0, 1, 2, 3], fun _ => 0, fun _ => .none⟩ := by
  refine ⟨by decide, by intro k hk; simp at hk; omega, nofun, nofun, fun k hk => .inl (by simp; omega), nofun, nofun, nofun, fun _ _ _ _ _ => Nat.zero_le _, fun _ _ => Nat.zero_le _, nofun, .inr rfl⟩
theorem Inv.room {w m r : Nat → Nat → Nat} {n : Nat} {S : St} (P : Prefs w m) (I : Inv w m r n S) {k : Nat} (hk : k ∈ S.free) : S.tried k < 4 := by
  have k4 := I.flt k hk
  have t4 := I.tle k k4
  rcases Nat.lt_or_ge (S.tried k) 4 with h | h
  · exact h
  exfalso
  have all : ∀ p < 4, ∃ j, S.held p = some j := fun p hp => by
    cases e : S.held p with
    | some j => exact ⟨j, rfl⟩
    | none =>
      have := I.none p hp e k k4
      have := P.mlt k k4 p hp
      omega
  obtain ⟨a, ea⟩ := all 0 (by decide)
  obtain ⟨b, eb⟩ := all 1 (by decide)
  obtain ⟨c, ec⟩ := all 2 (by decide)
  obtain ⟨d, ed⟩ := all 3 (by decide)
  have la := I.hlt 0 (by decide) a ea
  have lb := I.hlt 1 (by decide) b eb
  have lc := I.hlt 2 (by decide) c ec
  have ld := I.hlt 3 (by decide) d ed
  have ne : ∀ {p q x y : Nat}, p < 4 → q < 4 → p ≠ q → S.held p = some x → S.held q = some y → x ≠ y := fun hp hq n e1 e2 z => n (I.hinj _ hp _ hq _ e1 (z ▸ e2))
  have nk : ∀ {p x : Nat}, p < 4 → S.held p = some x → x ≠ k := fun hp e z => I.exc k hk _ hp (z ▸ e)
  refine pigeon ⟨a, la⟩ ⟨b, lb⟩ ⟨c, lc⟩ ⟨d, ld⟩ ⟨k, k4⟩ ⟨?_, ?_, ?_, ?_, ?_, ?_, ?_, ?_, ?_, ?_⟩ <;> (intro z; have z := Fin.mk.inj z)
  · exact ne (by decide) (by decide) (by decide) ea eb z
  · exact ne (by decide) (by decide) (by decide) ea ec z
  · exact ne (by decide) (by decide) (by decide) ea ed z
  · exact nk (by decide) ea z
  · exact ne (by decide) (by decide) (by decide) eb ec z
  · exact ne (by decide) (by decide) (by decide) eb ed z
  · exact nk (by decide) eb z
  · exact ne (by decide) (by decide) (by decide) ec ed z
  · exact nk (by decide) ec z
  · exact nk (by decide) ed z
theorem pick_some {tu : Bool} {l : List Nat} {one : Nat} {rest : List Nat} (h : pick tu l = some (one, rest)) : l.Perm (one :: rest) := by
  cases l with
  | nil => simp [pick] at h
  | cons x xs =>
    cases tu with
    | false =>
      simp only [pick, Option.some.injEq, Prod.mk.injEq] at h
      rw [← h.1, ← h.2]
    | true =>
      simp only [pick, Option.some.injEq, Prod.mk.injEq] at h
      rw [← h.1, ← h.2]
      have := List.dropLast_concat_getLast (l := x :: xs) (by simp)
      calc (x :: xs).Perm ((x :: xs).dropLast ++ [(x :: xs).getLast (by simp)]) := by rw [this]
        _ |>.Perm _ := List.perm_append_singleton _ _
theorem pick_none {tu : Bool} {l : List Nat} (h : pick tu l = none) : l = [] := by
  cases l with
  | nil => rfl
  | cons x xs => cases tu <;> simp [pick] at h
theorem sum_up {f : Nat → Nat} {one : Nat} (h : one < 4) : (if 0 = one then f 0 + 1 else f 0) + (if 1 = one then f 1 + 1 else f 1) + (if 2 = one then f 2 + 1 else f 2) + (if 3 = one then f 3 + 1 else f 3) = f 0 + f 1 + f 2 + f 3 + 1 := by
  have : one = 0 ∨ one = 1 ∨ one = 2 ∨ one = 3 := by omega
  rcases this with rfl | rfl | rfl | rfl <;> simp <;> omega
theorem Inv.next {w m r : Nat → Nat → Nat} {n : Nat} {S : St} {tu : Bool} (P : Prefs w m) (rinj : ∀ p < 4, ∀ k < 4, ∀ j < 4, r p k = r p j → k = j) (I : Inv w m r n S) : Inv w m r (n + 1) (step w r tu S) := by
  unfold step
  split
  · rename_i hpk
    exact { I with cnt := .inl (pick_none hpk) }
  rename_i one rest hpk
  have pm := pick_some hpk
  clear hpk
  have o1 : one ∈ S.free := pm.mem_iff.mpr (.head _)
  have sub : ∀ k ∈ rest, k ∈ S.free := fun k hk => pm.mem_iff.mpr (.tail _ hk)
  have nd : (one :: rest).Nodup := pm.nodup_iff.mp I.fnd
  have o4 := I.flt one o1
  have t4 := I.room P o1
  have p4 := P.wlt one o4 _ t4
  have mt := P.mw one o4 _ t4
  have cnt' : S.tried 0 + S.tried 1 + S.tried 2 + S.tried 3 = n := I.cnt.resolve_left fun z => by rw [z] at o1; cases o1
  generalize hpl : w one (S.tried one) = pl at p4 mt
  have asked : ∀ k < 4, ∀ p < 4, m k p < (if k = one then S.tried k + 1 else S.tried k) → m k p < S.tried k ∨ k = one ∧ p = pl := fun k hk p hp h => by
    by_cases hk1 : k = one
    · subst hk1
      rw [if_pos rfl] at h
      rcases Nat.lt_or_ge (m k p) (S.tried k) with z | z
      · exact .inl z
      · exact .inr ⟨rfl, P.inj hk hp p4 (by omega)⟩
    · rw [if_neg hk1] at h; exact .inl h
  have tle' : ∀ k < 4, (if k = one then S.tried k + 1 else S.tried k) ≤ 4 := fun k hk => by
    by_cases hk1 : k = one
    · subst hk1; rw [if_pos rfl]; omega
    · rw [if_neg hk1]; exact I.tle k hk
  have cn : S.free = [] ∨ (fun k => if k = one then S.tried k + 1 else S.tried k) 0 + (fun k => if k = one then S.tried k + 1 else S.tried k) 1 + (fun k => if k = one then S.tried k + 1 else S.tried k) 2 + (fun k => if k = one then S.tried k + 1 else S.tried k) 3 = n + 1 := .inr (by
    have := sum_up (f := S.tried) o4
    dsimp only
    omega)
  have cn := cn.resolve_left fun z => by rw [z] at o1; cases o1
  have no1 : one ∉ rest := (List.nodup_cons.mp nd).1
  split
  · rename_i hh
    refine ⟨(List.nodup_cons.mp nd).2, fun k hk => I.flt k (sub k hk), fun p hp k e => ?_, fun p hp q hq k e1 e2 => ?_, fun k hk => ?_, fun k hk p hp e => ?_, fun p hp k e => ?_, fun p hp j e k hk h => ?_, fun p hp e k hk => ?_, tle', fun k hk p hp h e μ ν a b => ?_, .inr cn⟩
    all_goals dsimp only at *
    · split at e
      · cases e; exact o4
      · exact I.hlt p hp k e
    · split at e1 <;> split at e2
      · rename_i a b; rw [a, b]
      · cases e1; exact absurd e2 (I.exc _ o1 q hq)
      · cases e2; exact absurd e1 (I.exc _ o1 p hp)
      · exact I.hinj p hp q hq k e1 e2
    · rcases I.cov k hk with z | ⟨p, hp, z⟩
      · rcases List.mem_cons.mp (pm.mem_iff.mp z) with rfl | z
        · exact .inr ⟨pl, p4, if_pos rfl⟩
        · exact .inl z
      · exact .inr ⟨p, hp, by rw [if_neg (fun q => by rw [q, hh] at z; cases z)]; exact z⟩
    · split at e
      · cases e; exact no1 hk
      · exact I.exc k (sub k hk) p hp e
    · split at e
      · rename_i hpp; cases e
        rw [if_pos rfl, hpp, mt]
      · rw [if_neg (fun q => by subst q; exact I.exc _ o1 p hp e)]
        exact I.hld p hp k e
    · split at e
      · rename_i hpp; subst hpp; cases e
        rcases asked k hk p hp h with z | ⟨rfl, _⟩
        · exact absurd z (Nat.not_lt.mpr (I.none p hp hh k hk))
        · exact Nat.le_refl _
      · rename_i hpp
        rcases asked k hk p hp h with z | ⟨_, z⟩
        · exact I.best p hp j e k hk z
        · exact absurd z hpp
    · split at e
      · cases e
      · rename_i hpp
        refine Nat.not_lt.mp fun h => ?_
        rcases asked k hk p hp h with z | ⟨_, z⟩
        · exact absurd z (Nat.not_lt.mpr (I.none p hp e k hk))
        · exact hpp z
    · rcases asked k hk p hp h with z | ⟨rfl, rfl⟩
      · have hpp : p ≠ pl := fun q => by subst q; exact absurd z (Nat.not_lt.mpr (I.none p hp hh k hk))
        rw [if_neg hpp] at e
        exact I.rej k hk p hp z e μ ν a b
      · rw [if_pos rfl] at e; exact absurd rfl e
  · rename_i j hh
    have j4 := I.hlt pl p4 j hh
    have jo : j ≠ one := fun z => I.exc one o1 pl p4 (z ▸ hh)
    have jf : j ∉ S.free := fun z => I.exc j z pl p4 hh
    have jr : j ∉ rest := fun z => jf (sub j z)
    have jh := I.hld pl p4 j hh
    split
    · rename_i hb
      refine ⟨?_, fun k hk => ?_, fun p hp k e => ?_, fun p hp q hq k e1 e2 => ?_, fun k hk => ?_, fun k hk p hp e => ?_, fun p hp k e => ?_, fun p hp i e k hk h => ?_, fun p hp e k hk => ?_, tle', fun k hk p hp h e μ ν a b => ?_, .inr cn⟩
      all_goals dsimp only at *
      · refine List.nodup_append.mpr ⟨(List.nodup_cons.mp nd).2, by simp, fun x hx y hy z => ?_⟩
        rw [List.mem_singleton] at hy
        subst hy; subst z; exact jr hx
      · rcases List.mem_append.mp hk with z | z
        · exact I.flt k (sub k z)
        · rw [List.mem_singleton] at z; subst z; exact j4
      · split at e
        · cases e; exact o4
        · exact I.hlt p hp k e
      · split at e1 <;> split at e2
        · rename_i a b; rw [a, b]
        · cases e1; exact absurd e2 (I.exc _ o1 q hq)
        · cases e2; exact absurd e1 (I.exc _ o1 p hp)
        · exact I.hinj p hp q hq k e1 e2
      · rcases I.cov k hk with z | ⟨p, hp, z⟩
        · rcases List.mem_cons.mp (pm.mem_iff.mp z) with rfl | z
          · exact .inr ⟨pl, p4, if_pos rfl⟩
          · exact .inl (List.mem_append.mpr (.inl z))
        · by_cases q : p = pl
          · rw [q, hh] at z; cases z
            exact .inl (List.mem_append.mpr (.inr (List.mem_singleton.mpr rfl)))
          · exact .inr ⟨p, hp, by rw [if_neg q]; exact z⟩
      · rcases List.mem_append.mp hk with z | z
        · split at e
          · cases e; exact no1 z
          · exact I.exc k (sub k z) p hp e
        · rw [List.mem_singleton] at z; subst z
          split at e
          · cases e; exact jo rfl
          · rename_i q; exact q (I.hinj p hp pl p4 k e hh)
      · split at e
        · rename_i hpp; cases e
          rw [if_pos rfl, hpp, mt]
        · rw [if_neg (fun q => by subst q; exact I.exc _ o1 p hp e)]
          exact I.hld p hp k e
      · split at e
        · rename_i hpp; subst hpp; cases e
          rcases asked k hk p hp h with z | ⟨rfl, _⟩
          · exact Nat.le_trans (Nat.le_of_lt hb) (I.best p hp j hh k hk z)
          · exact Nat.le_refl _
        · rename_i hpp
          rcases asked k hk p hp h with z | ⟨_, z⟩
          · exact I.best p hp i e k hk z
          · exact absurd z hpp
      · split at e
        · cases e
        · rename_i hpp
          refine Nat.not_lt.mp fun h => ?_
          rcases asked k hk p hp h with z | ⟨_, z⟩
          · exact absurd z (Nat.not_lt.mpr (I.none p hp e k hk))
          · exact hpp z
      · rcases asked k hk p hp h with z | ⟨rfl, rfl⟩
        · by_cases hpp : p = pl
          · subst hpp
            by_cases hkj : k = j
            · subst hkj
              intro em
              have nv : ν p = k := by rw [← em]; exact a.nm k hk
              have mo : μ one ≠ p := fun z => jo (by rw [← nv, ← z, a.nm one o4])
              rcases Nat.lt_or_ge (m one (μ one)) (S.tried one) with z1 | z1
              · exact I.rej one o4 (μ one) (a.ml one o4) z1 (I.exc one o1 _ (a.ml one o4)) μ ν a b rfl
              · have z2 : m one (μ one) ≠ m one p := fun z => mo (P.inj o4 (a.ml one o4) hp z)
                have := b one o4 p hp (by omega)
                rw [nv] at this
                exact this hb
            · exact I.rej k hk p hp z (fun q => by rw [hh] at q; cases q; exact hkj rfl) μ ν a b
          · rw [if_neg hpp] at e
            exact I.rej k hk p hp z e μ ν a b
        · rw [if_pos rfl] at e; exact absurd rfl e
    · rename_i hb
      refine ⟨?_, fun k hk => ?_, I.hlt, I.hinj, fun k hk => ?_, fun k hk p hp e => ?_, fun p hp k e => ?_, fun p hp i e k hk h => ?_, fun p hp e k hk => ?_, tle', fun k hk p hp h e μ ν a b => ?_, .inr cn⟩
      all_goals dsimp only at *
      · refine List.nodup_append.mpr ⟨(List.nodup_cons.mp nd).2, by simp, fun x hx y hy z => ?_⟩
        rw [List.mem_singleton] at hy
        subst hy; subst z; exact no1 hx
      · rcases List.mem_append.mp hk with z | z
        · exact I.flt k (sub k z)
        · rw [List.mem_singleton] at z; subst z; exact o4
      · rcases I.cov k hk with z | z
        · rcases List.mem_cons.mp (pm.mem_iff.mp z) with rfl | z
          · exact .inl (List.mem_append.mpr (.inr (List.mem_singleton.mpr rfl)))
          · exact .inl (List.mem_append.mpr (.inl z))
        · exact .inr z
      · rcases List.mem_append.mp hk with z | z
        · exact I.exc k (sub k z) p hp e
        · rw [List.mem_singleton] at z; subst z
          exact I.exc k o1 p hp e
      · rw [if_neg (fun q => by subst q; exact I.exc _ o1 p hp e)]
        exact I.hld p hp k e
      · rcases asked k hk p hp h with z | ⟨rfl, rfl⟩
        · exact I.best p hp i e k hk z
        · rw [hh] at e; cases e; omega
      · refine Nat.not_lt.mp fun h => ?_
        rcases asked k hk p hp h with z | ⟨_, z⟩
        · exact absurd z (Nat.not_lt.mpr (I.none p hp e k hk))
        · subst z; rw [hh] at e; cases e
      · rcases asked k hk p hp h with z | ⟨rfl, rfl⟩
        · exact I.rej k hk p hp z e μ ν a b
        · intro em
          have nv : ν p = k := by rw [← em]; exact a.nm k hk
          have mo : μ j ≠ p := fun z => jo (by rw [← nv, ← z, a.nm j j4])
          rcases Nat.lt_or_ge (m j (μ j)) (m j p) with z1 | z1
          · exact I.rej j j4 (μ j) (a.ml j j4) (by omega) (fun q => mo (I.hinj _ (a.ml j j4) p hp j q hh)) μ ν a b rfl
          · have z2 : m j (μ j) ≠ m j p := fun z => mo (P.inj j4 (a.ml j j4) hp z)
            have z3 := b j j4 p hp (by omega)
            rw [nv] at z3
            have z4 : r p j ≠ r p k := fun z => jo (rinj p hp j j4 k hk z)
            omega
end Mine.GS
namespace Mine.GS
theorem pigeonN {a b c d e : Nat} (ha : a < 4) (hb : b < 4) (hc : c < 4) (hd : d < 4) (he : e < 4) (n1 : a ≠ b) (n2 : a ≠ c) (n3 : a ≠ d) (n4 : a ≠ e) (n5 : b ≠ c) (n6 : b ≠ d) (n7 : b ≠ e) (n8 : c ≠ d) (n9 : c ≠ e) (n10 : d ≠ e) : False := by
  refine pigeon ⟨a, ha⟩ ⟨b, hb⟩ ⟨c, hc⟩ ⟨d, hd⟩ ⟨e, he⟩ ⟨?_, ?_, ?_, ?_, ?_, ?_, ?_, ?_, ?_, ?_⟩ <;> (intro z; have z := Fin.mk.inj z; contradiction)
theorem inj_pairing {f : Nat → Nat} (fl : ∀ k < 4, f k < 4) (fi : ∀ k < 4, ∀ j < 4, f k = f j → k = j) : ∃ g, Pairing f g := by
  have sur : ∀ p < 4, f 0 = p ∨ f 1 = p ∨ f 2 = p ∨ f 3 = p := fun p hp => by
    refine Classical.byContradiction fun h => ?_
    simp only [not_or] at h
    obtain ⟨h0, h1, h2, h3⟩ := h
    have ne : ∀ {k j : Nat}, k < 4 → j < 4 → k ≠ j → f k ≠ f j := fun hk hj n z => n (fi _ hk _ hj z)
    exact pigeonN (fl 0 (by decide)) (fl 1 (by decide)) (fl 2 (by decide)) (fl 3 (by decide)) hp (ne (by decide) (by decide) (by decide)) (ne (by decide) (by decide) (by decide)) (ne (by decide) (by decide) (by decide)) h0
      (ne (by decide) (by decide) (by decide)) (ne (by decide) (by decide) (by decide)) h1 (ne (by decide) (by decide) (by decide)) h2 h3
  let g : Nat → Nat := fun p => if f 0 = p then 0 else if f 1 = p then 1 else if f 2 = p then 2 else 3
  have gl : ∀ p, g p < 4 := fun p => by show (if _ then _ else _) < 4; split <;> (try split) <;> (try split) <;> decide
  have fg : ∀ p < 4, f (g p) = p := fun p hp => by
    show f (if f 0 = p then 0 else if f 1 = p then 1 else if f 2 = p then 2 else 3) = p
    rcases sur p hp with h | h | h | h
    · rw [if_pos h]; exact h
    · by_cases h0 : f 0 = p
      · rw [if_pos h0]; exact h0
      · rw [if_neg h0, if_pos h]; exact h
    · by_cases h0 : f 0 = p
      · rw [if_pos h0]; exact h0
      · by_cases h1 : f 1 = p
        · rw [if_neg h0, if_pos h1]; exact h1
        · rw [if_neg h0, if_neg h1, if_pos h]; exact h
    · by_cases h0 : f 0 = p
      · rw [if_pos h0]; exact h0
      · by_cases h1 : f 1 = p
        · rw [if_neg h0, if_pos h1]; exact h1
        · by_cases h2 : f 2 = p
          · rw [if_neg h0, if_neg h1, if_pos h2]; exact h2
          · rw [if_neg h0, if_neg h1, if_neg h2]; exact h
  exact ⟨g, fl, fun p _ => gl p, fun k hk => fi _ (gl _) _ hk (fg _ (fl k hk)), fg⟩
def steps (w r : Nat → Nat → Nat) (tu : Bool) : Nat → St → St
  | 0, S => S
  | n + 1, S => steps w r tu n (step w r tu S)
def S0 : St := ⟨[0, 1, 2, 3], fun _ => 0, fun _ => none⟩
theorem steps_inv {w m r : Nat → Nat → Nat} (P : Prefs w m) (rinj : ∀ p < 4, ∀ k < 4, ∀ j < 4, r p k = r p j → k = j) (tu : Bool) : ∀ (n i : Nat) (S : St), Inv w m r i S → Inv w m r (i + n) (steps w r tu n S)
  | 0, _, _, I => I
  | n + 1, i, S, I => by
    have := steps_inv P rinj tu n (i + 1) _ (I.next (tu := tu) P rinj)
    have e : i + 1 + n = i + (n + 1) := by omega
    rw [e] at this
    exact this
structure Best (m r : Nat → Nat → Nat) (μ ν : Nat → Nat) : Prop where
  pair : Pairing μ ν
  stab : Stable m r μ ν
  opt : ∀ μ' ν', Pairing μ' ν' → Stable m r μ' ν' → ∀ k < 4, m k (μ k) ≤ m k (μ' k)
theorem run_best {w m r : Nat → Nat → Nat} (P : Prefs w m) (rinj : ∀ p < 4, ∀ k < 4, ∀ j < 4, r p k = r p j → k = j) (tu : Bool) :
    (steps w r tu 16 S0).free = [] ∧ ∃ μ ν, Best m r μ ν ∧ ∀ p < 4, (steps w r tu 16 S0).held p = some (ν p) := by
  have I := steps_inv P rinj tu 16 0 S0 (start w m r)
  generalize steps w r tu 16 S0 = S at I
  have fe : S.free = [] := by
    rcases I.cnt with z | z
    · exact z
    · cases hf : S.free with
      | nil => rfl
      | cons k l =>
        have km : k ∈ S.free := by rw [hf]; exact .head _
        have k4 := I.flt k km
        have lt := I.room P km
        have t0 := I.tle 0 (by decide)
        have t1 := I.tle 1 (by decide)
        have t2 := I.tle 2 (by decide)
        have t3 := I.tle 3 (by decide)
        have : k = 0 ∨ k = 1 ∨ k = 2 ∨ k = 3 := by omega
        rcases this with rfl | rfl | rfl | rfl <;> omega
  refine ⟨fe, ?_⟩
  have all : ∀ k < 4, ∃ p < 4, S.held p = some k := fun k hk => (I.cov k hk).resolve_left (by rw [fe]; exact nofun)
  let μ : Nat → Nat := fun k => if S.held 0 = some k then 0 else if S.held 1 = some k then 1 else if S.held 2 = some k then 2 else 3
  have μl : ∀ k, μ k < 4 := fun k => by show (if _ then _ else _) < 4; split <;> (try split) <;> (try split) <;> decide
  have μs : ∀ k < 4, S.held (μ k) = some k := fun k hk => by
    show S.held (if S.held 0 = some k then 0 else if S.held 1 = some k then 1 else if S.held 2 = some k then 2 else 3) = some k
    obtain ⟨p, hp, e⟩ := all k hk
    have : p = 0 ∨ p = 1 ∨ p = 2 ∨ p = 3 := by omega
    by_cases h0 : S.held 0 = some k
    · rw [if_pos h0]; exact h0
    · rw [if_neg h0]
      by_cases h1 : S.held 1 = some k
      · rw [if_pos h1]; exact h1
      · rw [if_neg h1]
        by_cases h2 : S.held 2 = some k
        · rw [if_pos h2]; exact h2
        · rw [if_neg h2]
          rcases this with rfl | rfl | rfl | rfl
          · exact absurd e h0
          · exact absurd e h1
          · exact absurd e h2
          · exact e
  obtain ⟨ν, hp⟩ := inj_pairing (f := μ) (fun k _ => μl k) (fun k hk j hj z => by
    have a := μs k hk
    have b := μs j hj
    rw [z, b] at a
    exact (Option.some.inj a).symm)
  have hν : ∀ p < 4, S.held p = some (ν p) := fun p hp' => by
    have := μs (ν p) (hp.nl p hp')
    rw [hp.mn p hp'] at this
    exact this
  refine ⟨μ, ν, ⟨hp, fun k hk p hp' h => ?_, fun μ' ν' a b k hk => ?_⟩, hν⟩
  · have := I.hld (μ k) (μl k) k (μs k hk)
    have := I.best p hp' (ν p) (hν p hp') k hk (by omega)
    omega
  · refine Nat.not_lt.mp fun h => ?_
    have h1 := I.hld (μ k) (μl k) k (μs k hk)
    refine I.rej k hk (μ' k) (a.ml k hk) (by omega) (fun e => ?_) μ' ν' a b rfl
    have := I.hinj _ (a.ml k hk) _ (μl k) k e (μs k hk)
    rw [this] at h
    exact Nat.lt_irrefl _ h
theorem best_eq {m r : Nat → Nat → Nat} {w : Nat → Nat → Nat} (P : Prefs w m) {μ ν μ' ν' : Nat → Nat} (a : Best m r μ ν) (b : Best m r μ' ν') : (∀ k < 4, μ k = μ' k) ∧ ∀ p < 4, ν p = ν' p := by
  have h : ∀ k < 4, μ k = μ' k := fun k hk => P.inj hk (a.pair.ml k hk) (b.pair.ml k hk) (Nat.le_antisymm (a.opt _ _ b.pair b.stab k hk) (b.opt _ _ a.pair a.stab k hk))
  refine ⟨h, fun p hp => ?_⟩
  have h1 := h (ν p) (a.pair.nl p hp)
  rw [a.pair.mn p hp] at h1
  have := b.pair.nm (ν p) (a.pair.nl p hp)
  rw [← h1] at this
  exact this.symm
/-- whoever is asked has the worst -/
theorem best_worst {m r : Nat → Nat → Nat} {w : Nat → Nat → Nat} (P : Prefs w m) {μ ν μ' ν' : Nat → Nat} (a : Best m r μ ν) (b : Pairing μ' ν') (s : Stable m r μ' ν') {p : Nat} (hp : p < 4) : r p (ν' p) ≤ r p (ν p) := by
  refine Nat.not_lt.mp fun h => ?_
  have k4 := a.pair.nl p hp
  have o := a.opt _ _ b s (ν p) k4
  rw [a.pair.mn p hp] at o
  have ne : μ' (ν p) ≠ p := fun z => by
    have := b.nm (ν p) k4
    rw [z] at this
    rw [this] at h
    exact Nat.lt_irrefl _ h
  have ne2 : m (ν p) (μ' (ν p)) ≠ m (ν p) p := fun z => ne (P.inj k4 (b.ml _ k4) hp z)
  exact s (ν p) k4 p hp (by omega) h
/-! Conway -/
def join (m : Nat → Nat → Nat) (μ μ' : Nat → Nat) (k : Nat) : Nat := if m k (μ' k) < m k (μ k) then μ' k else μ k
def meet (m : Nat → Nat → Nat) (μ μ' : Nat → Nat) (k : Nat) : Nat := if m k (μ' k) < m k (μ k) then μ k else μ' k
section
variable {w m r : Nat → Nat → Nat} (P : Prefs w m) (rinj : ∀ p < 4, ∀ k < 4, ∀ j < 4, r p k = r p j → k = j) {μ ν μ' ν' : Nat → Nat} (a : Pairing μ ν) (s : Stable m r μ ν) (a' : Pairing μ' ν') (s' : Stable m r μ' ν')
include P rinj a s a' s'
theorem cross {k j p : Nat} (hk : k < 4) (hj : j < 4) (e : μ k = p) (e' : μ' j = p) (h : m k p ≤ m k (μ' k)) (h' : m j p ≤ m j (μ j)) : k = j := by
  refine Classical.byContradiction fun n => ?_
  have hp : p < 4 := e ▸ a.ml k hk
  have nk : μ' k ≠ p := fun z => n (by rw [← a'.nm k hk, z, ← e', a'.nm j hj])
  have nj : μ j ≠ p := fun z => n (by rw [← a.nm k hk, e, ← z, a.nm j hj])
  have l1 : m k (μ' k) ≠ m k p := fun z => nk (P.inj hk (a'.ml k hk) hp z)
  have l2 : m j (μ j) ≠ m j p := fun z => nj (P.inj hj (a.ml j hj) hp z)
  have v1 : ν p = k := by rw [← e, a.nm k hk]
  have v2 : ν' p = j := by rw [← e', a'.nm j hj]
  have q1 := s j hj p hp (by omega)
  have q2 := s' k hk p hp (by omega)
  rw [v1] at q1
  rw [v2] at q2
  exact n (rinj p hp k hk j hj (by omega))
theorem join_inj : ∀ k < 4, ∀ j < 4, join m μ μ' k = join m μ μ' j → k = j := by
  intro k hk j hj e
  unfold join at e
  split at e <;> split at e
  · rw [← a'.nm k hk, e, a'.nm j hj]
  · exact (cross P rinj a s a' s' hj hk rfl e (by omega) (by rw [← e]; omega)).symm
  · exact cross P rinj a s a' s' hk hj rfl e.symm (by omega) (by rw [e]; omega)
  · rw [← a.nm k hk, e, a.nm j hj]
theorem join_lt : ∀ k < 4, join m μ μ' k < 4 := by
  intro k hk
  unfold join
  split
  · exact a'.ml k hk
  · exact a.ml k hk
theorem meet_lt : ∀ k < 4, meet m μ μ' k < 4 := by
  intro k hk
  unfold meet
  split
  · exact a.ml k hk
  · exact a'.ml k hk
theorem join_stable {ρ : Nat → Nat} (b : Pairing (join m μ μ') ρ) : Stable m r (join m μ μ') ρ := by
  intro k hk p hp h
  have j4 := b.nl p hp
  have e := b.mn p hp
  have hk1 : m k p < m k (μ k) ∧ m k p < m k (μ' k) := by
    unfold join at h
    split at h <;> omega
  unfold join at e
  split at e
  · have v : ν' p = ρ p := by rw [← a'.nm _ j4, e]
    rw [← v]; exact s' k hk p hp hk1.2
  · have v : ν p = ρ p := by rw [← a.nm _ j4, e]
    rw [← v]; exact s k hk p hp hk1.1
theorem meet_inj : ∀ k < 4, ∀ j < 4, meet m μ μ' k = meet m μ μ' j → k = j := by
  obtain ⟨ρ, b⟩ := inj_pairing (join_lt P rinj a s a' s') (join_inj P rinj a s a' s')
  have main : ∀ k < 4, ∀ j < 4, m k (μ' k) < m k (μ k) → ¬ m j (μ' j) < m j (μ j) → μ k = μ' j → k = j := by
    intro k hk j hj h1 h2 e
    have hp : μ k < 4 := a.ml k hk
    have i4 := b.nl _ hp
    have ei := b.mn _ hp
    generalize ρ (μ k) = i at i4 ei
    unfold join at ei
    split at ei
    · rename_i hi
      have : i = j := by rw [← a'.nm i i4, ei, e, a'.nm j hj]
      subst this
      exact absurd hi h2
    · rename_i hi
      have : i = k := by rw [← a.nm i i4, ei, a.nm k hk]
      subst this
      exact absurd h1 hi
  intro k hk j hj e
  unfold meet at e
  split at e <;> split at e
  · rw [← a.nm k hk, e, a.nm j hj]
  · rename_i h1 h2; exact main k hk j hj h1 h2 e
  · rename_i h1 h2; exact (main j hj k hk h2 h1 e.symm).symm
  · rw [← a'.nm k hk, e, a'.nm j hj]
theorem meet_stable {τ : Nat → Nat} (b : Pairing (meet m μ μ') τ) : Stable m r (meet m μ μ') τ := by
  have ji := join_inj P rinj a s a' s'
  have mi := meet_inj P rinj a s a' s'
  obtain ⟨ρ, c⟩ := inj_pairing (join_lt P rinj a s a' s') ji
  intro k hk p hp h
  have j4 := b.nl p hp
  have e := b.mn p hp
  generalize τ p = j at j4 e
  -- either way of the two is worse or like for k
  have hw : m k p < m k (μ k) ∨ m k p < m k (μ' k) := by
    unfold meet at h
    split at h
    · exact .inl h
    · exact .inr h
  -- the worse of j's two is p
  unfold meet at e
  split at e
  · rename_i hj
    -- p = μ j, worse for j than μ' j
    have v : ν p = j := by rw [← e, a.nm j j4]
    by_cases hk1 : m k p < m k (μ k)
    · have := s k hk p hp hk1
      rw [v] at this; exact this
    · have hk2 : m k p < m k (μ' k) := hw.resolve_left hk1
      have q := s' k hk p hp hk2
      have i4 := a'.nl p hp
      have ei := a'.mn p hp
      generalize ν' p = i at q i4 ei
      have ij : i ≠ j := fun z => by subst z; rw [ei, e] at hj; exact Nat.lt_irrefl _ hj
      have hi : ¬ m i (μ i) ≤ m i (μ' i) := fun z => ij (mi i i4 j j4 (by
        unfold meet
        rw [if_neg (by omega), if_pos hj, ei, e]))
      have := s i i4 p hp (by rw [← ei]; omega)
      rw [v] at this
      omega
  · rename_i hj
    have v : ν' p = j := by rw [← e, a'.nm j j4]
    by_cases hk1 : m k p < m k (μ' k)
    · have := s' k hk p hp hk1
      rw [v] at this; exact this
    · have hk2 : m k p < m k (μ k) := hw.resolve_right hk1
      have q := s k hk p hp hk2
      have i4 := a.nl p hp
      have ei := a.mn p hp
      generalize ν p = i at q i4 ei
      by_cases ij : i = j
      · subst ij; exact q
      have hi : ¬ m i (μ' i) < m i (μ i) := fun z => ij (mi i i4 j j4 (by
        unfold meet
        rw [if_pos z, if_neg hj, ei, e]))
      by_cases hi2 : m i (μ i) < m i (μ' i)
      · have := s' i i4 p hp (by rw [← ei]; exact hi2)
        rw [v] at this
        omega
      · have : μ i = μ' i := P.inj i4 (a.ml i i4) (a'.ml i i4) (by omega)
        exfalso
        apply ij
        rw [← a'.nm i i4, ← this, ei, ← e, a'.nm j j4]
end
end Mine.GS
namespace Mine
set_option maxRecDepth 100000
set_option maxHeartbeats 1000000
/-! _law_ask, statement by statement -/
abbrev aS (i : Nat) : Stmt := askDef.body.getD i (.Pass default)
theorem ask_body : askDef.body = [aS 0, aS 1, aS 2, aS 3, aS 4, aS 5, aS 6, aS 7, aS 8, aS 9] := by kernel_rfl
abbrev a0 (ks tu wa wh st tn : D) : Bs := [("turn", tn), ("state", st), ("keys", ks), ("turned", tu), ("wants", wa), ("which", wh)]
abbrev a1 (ks tu wa wh st tn f t h : D) : Bs := ("held", h) :: ("tried", t) :: ("free", f) :: a0 ks tu wa wh st tn
abbrev a2 (ks tu wa wh st tn f t h one : D) : Bs := ("one", one) :: a1 ks tu wa wh st tn f t h
abbrev a3 (ks tu wa wh st tn f t h one rest : D) : Bs := ("rest", rest) :: a2 ks tu wa wh st tn f t h one
abbrev a4 (ks tu wa wh st tn f t h one rest pl : D) : Bs := ("place", pl) :: a3 ks tu wa wh st tn f t h one rest
abbrev a5 (ks tu wa wh st tn f t h one rest pl t2 : D) : Bs := ("tried", t2) :: a4 ks tu wa wh st tn f t h one rest pl
abbrev a6 (ks tu wa wh st tn f t h one rest pl t2 o : D) : Bs := ("other", o) :: a5 ks tu wa wh st tn f t h one rest pl t2
abbrev a7 (ks tu wa wh st tn f t h one rest pl t2 o kp : D) : Bs := ("kept", kp) :: a6 ks tu wa wh st tn f t h one rest pl t2 o
section
variable (ks tu wa wh st tn f t h one rest pl t2 o kp : D)
theorem ask0 : ex CA 20 kA (a0 ks tu wa wh (.tuple [f, t, h]) tn) (aS 0) = some (.next, a1 ks tu wa wh (.tuple [f, t, h]) tn f t h) := by kernel_rfl
theorem ask1 : ex CA 20 kA (a1 ks tu wa wh st tn f t h) (aS 1) = (((some f).bind fun l => (some (.list [])).bind fun r => cmpD .Eq l r).bind fun b => if b then ((some st).bind fun d => some (Fl.ret d, a1 ks tu wa wh st tn f t h)).bind (fun q => match q with
      | (.next, ρ') => exsW (ex CA 19 kA) ρ' []
      | q => some q) else some (.next, a1 ks tu wa wh st tn f t h)) := by kernel_rfl
theorem ask2t : ex CA 20 kA (a1 ks (.bool true) wa wh st tn f t h) (aS 2) = ((some f).bind fun l => (some (.int (-1))).bind fun i => itemD l i).bind fun d => some (.next, a2 ks (.bool true) wa wh st tn f t h d) := by kernel_rfl
theorem ask2f : ex CA 20 kA (a1 ks (.bool false) wa wh st tn f t h) (aS 2) = ((some f).bind fun l => (some (.int 0)).bind fun i => itemD l i).bind fun d => some (.next, a2 ks (.bool false) wa wh st tn f t h d) := by kernel_rfl
theorem ask4 : ex CA 20 kA (a3 ks tu wa wh st tn f t h one rest) (aS 4) = (((some wa).bind fun l => (some one).bind fun i => itemD l i).bind fun row => ((some t).bind fun l => (some one).bind fun i => itemD l i).bind fun j => itemD row j).bind fun d => some (.next, a4 ks tu wa wh st tn f t h one rest d) := by kernel_rfl
theorem ask6 : ex CA 20 kA (a5 ks tu wa wh st tn f t h one rest pl t2) (aS 6) = ((some h).bind fun l => (some pl).bind fun i => itemD l i).bind fun d => some (.next, a6 ks tu wa wh st tn f t h one rest pl t2 d) := by kernel_rfl
end
theorem ask3t (ks wa wh st tn t h one : D) (fl : List D) : ex CA 20 kA (a2 ks (.bool true) wa wh st tn (.list fl) t h one) (aS 3) = (if fl.length ≤ 1000 ∧ ((none : Option Int).all fun c => decide (0 < c)) = true then some (.list (slcD fl none (some (-1)) none)) else none).bind fun d => some (.next, a3 ks (.bool true) wa wh st tn (.list fl) t h one d) := by kernel_rfl
theorem ask3f (ks wa wh st tn t h one : D) (fl : List D) : ex CA 20 kA (a2 ks (.bool false) wa wh st tn (.list fl) t h one) (aS 3) = (if fl.length ≤ 1000 ∧ ((none : Option Int).all fun c => decide (0 < c)) = true then some (.list (slcD fl (some 1) none none)) else none).bind fun d => some (.next, a3 ks (.bool false) wa wh st tn (.list fl) t h one d) := by kernel_rfl
def F5 (one t k : D) : Option D := ((some k).bind fun a => (some one).bind fun b => cmpD .Eq a b).bind fun b => if b then (((some t).bind fun l => (some k).bind fun i => itemD l i).bind fun x => (some (.int 1)).bind fun y => binD .Add x y) else ((some t).bind fun l => (some k).bind fun i => itemD l i)
theorem ask5 (ks tu wa wh st tn f t h one rest pl : D) : ex CA 20 kA (a4 ks tu wa wh st tn f t h one rest pl) (aS 5) = ((compD (fun _ => some true) (F5 one t) [.int 0, .int 1, .int 2, .int 3]).bind fun ys => some (.list ys)).bind fun d => some (.next, a5 ks tu wa wh st tn f t h one rest pl d) := by kernel_rfl
def F8 (one pl h k : D) : Option D := ((some k).bind fun a => (some pl).bind fun b => cmpD .Eq a b).bind fun b => if b then some one else ((some h).bind fun l => (some k).bind fun i => itemD l i)
theorem ask8 (ks tu wa wh st tn f t h one rest pl t2 o : D) : ex CA 20 kA (a6 ks tu wa wh st tn f t h one rest pl t2 o) (aS 8) = ((compD (fun _ => some true) (F8 one pl h) [.int 0, .int 1, .int 2, .int 3]).bind fun ys => some (.list ys)).bind fun d => some (.next, a7 ks tu wa wh st tn f t h one rest pl t2 o d) := by kernel_rfl
def callQ (d : D) (ds : Option (List D)) : Option D := match d with
  | .opq q => ds.bind fun ds => callA q ds
  | _ => none
theorem ask7n (ks tu wa wh st tn f t h one rest pl t2 : D) : ex CA 20 kA (a6 ks tu wa wh st tn f t h one rest pl t2 .none) (aS 7) = some (.next, a6 ks tu wa wh st tn f t h one rest pl t2 .none) := by kernel_rfl
theorem ask7s (ks tu wa wh st tn f t h one pl t2 : D) (rs : List D) (j : Int) : ex CA 20 kA (a6 ks tu wa wh st tn f t h one (.list rs) pl t2 (.int j)) (aS 7) =
   ((((((some wh).bind fun x => ((((some ks).bind fun l => (some pl).bind fun i => itemD l i).bind fun q => callQ q ((some one).bind fun y => some [y])).bind fun u => ((((some ks).bind fun l => (some pl).bind fun i => itemD l i).bind fun q => callQ q ((some (.int j)).bind fun y => some [y])).bind fun v => some [v]).bind fun r => some (u :: r)).bind fun r => some (x :: r)).bind fun ds => callA (.fn 71) ds).bind truthD).map (!·)).bind fun b => if b then some true else some false).bind fun b => if b then
      ((((binD .Add (.list rs) (.list [one])).bind fun a => (some [t2, h]).bind fun r => some (a :: r)).bind fun ds => some (D.tuple ds)).bind fun d => some (Fl.ret d, a6 ks tu wa wh st tn f t h one (.list rs) pl t2 (.int j))).bind (fun q => match q with
      | (.next, ρ') => exsW (ex CA 19 kA) ρ' []
      | q => some q) else some (.next, a6 ks tu wa wh st tn f t h one (.list rs) pl t2 (.int j)) := by
  kernel_rfl
theorem ask9n (ks tu wa wh st tn f t h one rest pl t2 kp : D) : ex CA 20 kA (a7 ks tu wa wh st tn f t h one rest pl t2 .none kp) (aS 9) = some (.ret (.tuple [rest, t2, kp]), a7 ks tu wa wh st tn f t h one rest pl t2 .none kp) := by kernel_rfl
theorem ask9s (ks tu wa wh st tn f t h one pl t2 kp : D) (rs : List D) (j : Int) : ex CA 20 kA (a7 ks tu wa wh st tn f t h one (.list rs) pl t2 (.int j) kp) (aS 9) = (((binD .Add (.list rs) (.list [.int j])).bind fun a => (some [t2, kp]).bind fun r => some (a :: r)).bind fun ds => some (D.tuple ds)).bind fun d => some (.ret d, a7 ks tu wa wh st tn f t h one (.list rs) pl t2 (.int j) kp) := by kernel_rfl
end Mine
namespace Mine
set_option maxRecDepth 100000
set_option maxHeartbeats 1000000
open GS
def nD (k : Nat) : D := .int (k : Int)
def v4 (f : Nat → D) : D := .list [f 0, f 1, f 2, f 3]
theorem item4 {f : Nat → D} {k : Nat} (h : k < 4) : itemD (v4 f) (nD k) = some (f k) := by
  have : k = 0 ∨ k = 1 ∨ k = 2 ∨ k = 3 := by omega
  rcases this with rfl | rfl | rfl | rfl <;> rfl
theorem eq_int (a b : Int) : cmpD .Eq (.int a) (.int b) = some (decide (a = b)) := by
  show some (eqD (.int a) (.int b)) = _
  have : eqD (.int a) (.int b) = decide (a = b) := by
    show PyData.eqv (.int a) (.int b) = _
    rw [Bool.eq_iff_iff]; simp [PyData.eqv]
  rw [this]
theorem eq_nat (a b : Nat) : cmpD .Eq (nD a) (nD b) = some (decide (a = b)) := by
  rw [nD, nD, eq_int]
  congr 1
  rw [Bool.eq_iff_iff, decide_eq_true_eq, decide_eq_true_eq]; omega
theorem comp4 {F : D → Option D} {y : Nat → D} (h : ∀ k < 4, F (nD k) = some (y k)) : compD (fun _ => some true) F [.int 0, .int 1, .int 2, .int 3] = some [y 0, y 1, y 2, y 3] := by
  have h0 := h 0 (by decide)
  have h1 := h 1 (by decide)
  have h2 := h 2 (by decide)
  have h3 := h 3 (by decide)
  simp only [nD] at h0 h1 h2 h3
  show ((F (.int 0)).bind fun y0 => ((F (.int 1)).bind fun y1 => ((F (.int 2)).bind fun y2 => ((F (.int 3)).bind fun y3 => some [y3]).bind fun r => some (y2 :: r)).bind fun r => some (y1 :: r)).bind fun r => some (y0 :: r)) = _
  rw [show F (.int 0) = some (y 0) from h0, show F (.int 1) = some (y 1) from h1, show F (.int 2) = some (y 2) from h2, show F (.int 3) = some (y 3) from h3]
  rfl
theorem F5_eq {one : Nat} {t : Nat → Nat} (k : Nat) (hk : k < 4) : F5 (nD one) (v4 fun k => nD (t k)) (nD k) = some (nD (if k = one then t k + 1 else t k)) := by
  unfold F5
  show ((cmpD .Eq (nD k) (nD one)).bind fun b => if b then ((itemD (v4 fun k => nD (t k)) (nD k)).bind fun x => binD .Add x (.int 1)) else itemD (v4 fun k => nD (t k)) (nD k)) = _
  rw [eq_nat, item4 hk]
  by_cases h : k = one
  · subst h
    simp [nD, binD]
  · simp [h]
def oD : Option Nat → D
  | none => .none
  | some k => nD k
theorem F8_eq {one pl : Nat} {h : Nat → Option Nat} (k : Nat) (hk : k < 4) : F8 (nD one) (nD pl) (v4 fun k => oD (h k)) (nD k) = some (oD (if k = pl then some one else h k)) := by
  unfold F8
  show ((cmpD .Eq (nD k) (nD pl)).bind fun b => if b then some (nD one) else itemD (v4 fun k => oD (h k)) (nD k)) = _
  rw [eq_nat, item4 hk]
  by_cases e : k = pl
  · subst e; simp [oD]
  · simp [e]
theorem ex_next {f : Bs → Stmt → Option (Fl × Bs)} {ρ ρ' : Bs} {s : Stmt} {r : List Stmt} (h : f ρ s = some (.next, ρ')) : exsW f ρ (s :: r) = exsW f ρ' r := by
  rw [exsW, h]; rfl
theorem ex_ret {f : Bs → Stmt → Option (Fl × Bs)} {ρ ρ' : Bs} {s : Stmt} {r : List Stmt} {d : D} (h : f ρ s = some (.ret d, ρ')) : exsW f ρ (s :: r) = some (.ret d, ρ') := by
  rw [exsW, h]; rfl
def rowI (r : Nat → Nat → Nat) (p : Nat) : List Int := [(r p 0 : Int), r p 1, r p 2, r p 3]
def ksD (r : Nat → Nat → Nat) : D := v4 fun p => .opq (.cls (rowI r p))
def waD (w : Nat → Nat → Nat) : D := v4 fun k => v4 fun i => nD (w k i)
def toD (S : GS.St) : D := .tuple [.list (S.free.map nD), v4 fun k => nD (S.tried k), v4 fun p => oD (S.held p)]
theorem cmpV_row {r : Nat → Nat → Nat} {p a b : Nat} (ha : a < 4) (hb : b < 4) : cmpV (rowI r p) (a : Int) (b : Int) = some ((r p b : Int) - r p a) := by
  have h1 : a = 0 ∨ a = 1 ∨ a = 2 ∨ a = 3 := by omega
  have h2 : b = 0 ∨ b = 1 ∨ b = 2 ∨ b = 3 := by omega
  rcases h1 with rfl | rfl | rfl | rfl <;> rcases h2 with rfl | rfl | rfl | rfl <;> rfl
theorem bet_eq {r : Nat → Nat → Nat} {p a b : Nat} {wh : Int} (hw : wh = 0 ∨ wh = 1 ∨ wh = 2) (ha : a < 4) (hb : b < 4) :
    callA (.fn 71) [.int wh, .opq (.inst (rowI r p) (a : Int)), .opq (.inst (rowI r p) (b : Int))] = some (.bool (decide (r p a < r p b))) := by
  show betD [.int wh, .opq (.inst (rowI r p) (a : Int)), .opq (.inst (rowI r p) (b : Int))] = _
  unfold betD
  dsimp only
  rw [if_pos ⟨hw, rfl⟩, cmpV_row ha hb]
  show some (D.bool (decide (0 < (r p b : Int) - r p a))) = _
  congr 2
  rw [Bool.eq_iff_iff, decide_eq_true_eq, decide_eq_true_eq]; omega
/-- what is chosen, for lists of up to four -/
theorem pick_facts (b : Bool) (l : List Nat) (h : l.length ≤ 4) {one : Nat} {rest : List Nat} (hp : pick b l = some (one, rest)) :
    (itemD (.list (l.map nD)) (.int (if b then -1 else 0)) = some (nD one)) ∧ (slcD (l.map nD) (if b then none else some 1) (if b then some (-1) else none) none = rest.map nD) ∧ cmpD .Eq (.list (l.map nD)) (.list []) = some false := by
  match l, h, hp with
  | [a], _, hp =>
    cases b <;> (simp [pick] at hp; obtain ⟨rfl, rfl⟩ := hp; exact ⟨by kernel_rfl, by kernel_rfl, by kernel_rfl⟩)
  | [a, c], _, hp =>
    cases b <;> (simp [pick] at hp; obtain ⟨rfl, rfl⟩ := hp; exact ⟨by kernel_rfl, by kernel_rfl, by kernel_rfl⟩)
  | [a, c, d], _, hp =>
    cases b <;> (simp [pick] at hp; obtain ⟨rfl, rfl⟩ := hp; exact ⟨by kernel_rfl, by kernel_rfl, by kernel_rfl⟩)
  | [a, c, d, e], _, hp =>
    cases b <;> (simp [pick] at hp; obtain ⟨rfl, rfl⟩ := hp; exact ⟨by kernel_rfl, by kernel_rfl, by kernel_rfl⟩)
end Mine
namespace Mine
set_option maxRecDepth 100000
set_option maxHeartbeats 1000000
open GS
theorem free_len {l : List Nat} (nd : l.Nodup) (h : ∀ k ∈ l, k < 4) : l.length ≤ 4 := by
  match l, nd, h with
  | [], _, _ => simp
  | [_], _, _ => simp
  | [_, _], _, _ => simp
  | [_, _, _], _, _ => simp
  | [_, _, _, _], _, _ => simp
  | a :: b :: c :: d :: e :: l, nd, h =>
    exfalso
    simp only [List.nodup_cons, List.mem_cons, not_or] at nd
    obtain ⟨⟨n1, n2, n3, n4, _⟩, ⟨n5, n6, n7, _⟩, ⟨n8, n9, _⟩, ⟨n10, _⟩, _⟩ := nd
    exact pigeonN (h a (by simp)) (h b (by simp)) (h c (by simp)) (h d (by simp)) (h e (by simp)) n1 n2 n3 n4 n5 n6 n7 n8 n9 n10
theorem ask_step {w m r : Nat → Nat → Nat} {n : Nat} {S : GS.St} (b : Bool) {wh : Int} (hw : wh = 0 ∨ wh = 1 ∨ wh = 2) (P : Prefs w m) (I : Inv w m r n S) (i : Nat) :
    askD (ksD r) (.bool b) (waD w) (.int wh) (toD S) i = some (toD (step w r b S)) := by
  have len := free_len I.fnd I.flt
  show retOf (exsW (ex CA 20 kA) (a0 (ksD r) (.bool b) (waD w) (.int wh) (toD S) (.int (i : Nat))) askDef.body) = _
  rw [ask_body]
  unfold toD
  rw [ex_next (ask0 (ksD r) (.bool b) (waD w) (.int wh) (.int (i : Nat)) _ _ _)]
  cases hp : pick b S.free with
  | none =>
    have he := pick_none hp
    have hs : step w r b S = S := by unfold GS.step; rw [hp]
    rw [hs, he]
    have c : cmpD .Eq (.list (([] : List Nat).map nD)) (.list []) = some true := by kernel_rfl
    have e1 := ask1 (ksD r) (.bool b) (waD w) (.int wh) (.tuple [.list (([] : List Nat).map nD), v4 fun k => nD (S.tried k), v4 fun p => oD (S.held p)]) (.int (i : Nat)) (.list (([] : List Nat).map nD)) (v4 fun k => nD (S.tried k)) (v4 fun p => oD (S.held p))
    simp only [Option.bind_some, c] at e1
    rw [ex_ret e1]
    rfl
  | some pr =>
    obtain ⟨one, rest⟩ := pr
    have o1 : one ∈ S.free := (pick_some hp).mem_iff.mpr (.head _)
    have o4 := I.flt one o1
    have t4 := I.room P o1
    have p4 := P.wlt one o4 _ t4
    obtain ⟨q1, q2, q3⟩ := pick_facts b S.free len hp
    have rl : rest.length ≤ 3 := by
      have := (pick_some hp).length_eq
      simp at this
      omega
    generalize hst : (D.tuple [.list (S.free.map nD), v4 fun k => nD (S.tried k), v4 fun p => oD (S.held p)]) = st
    have e1 := ask1 (ksD r) (.bool b) (waD w) (.int wh) st (.int (i : Nat)) (.list (S.free.map nD)) (v4 fun k => nD (S.tried k)) (v4 fun p => oD (S.held p))
    simp only [Option.bind_some, q3] at e1
    rw [ex_next e1]
    have e2 : ex CA 20 kA (a1 (ksD r) (.bool b) (waD w) (.int wh) st (.int (i : Nat)) (.list (S.free.map nD)) (v4 fun k => nD (S.tried k)) (v4 fun p => oD (S.held p))) (aS 2) = some (.next, a2 (ksD r) (.bool b) (waD w) (.int wh) st (.int (i : Nat)) (.list (S.free.map nD)) (v4 fun k => nD (S.tried k)) (v4 fun p => oD (S.held p)) (nD one)) := by
      cases b with
      | false =>
        rw [ask2f]
        simp only [Option.bind_some]
        rw [show itemD (.list (S.free.map nD)) (.int 0) = some (nD one) from q1]; rfl
      | true =>
        rw [ask2t]
        simp only [Option.bind_some]
        rw [show itemD (.list (S.free.map nD)) (.int (-1)) = some (nD one) from q1]; rfl
    rw [ex_next e2]
    have e3 : ex CA 20 kA (a2 (ksD r) (.bool b) (waD w) (.int wh) st (.int (i : Nat)) (.list (S.free.map nD)) (v4 fun k => nD (S.tried k)) (v4 fun p => oD (S.held p)) (nD one)) (aS 3) = some (.next, a3 (ksD r) (.bool b) (waD w) (.int wh) st (.int (i : Nat)) (.list (S.free.map nD)) (v4 fun k => nD (S.tried k)) (v4 fun p => oD (S.held p)) (nD one) (.list (rest.map nD))) := by
      cases b with
      | false =>
        rw [ask3f, if_pos ⟨by simp; omega, rfl⟩]
        rw [show slcD (S.free.map nD) (some 1) none none = rest.map nD from q2]; rfl
      | true =>
        rw [ask3t, if_pos ⟨by simp; omega, rfl⟩]
        rw [show slcD (S.free.map nD) none (some (-1)) none = rest.map nD from q2]; rfl
    rw [ex_next e3]
    have e4 : ex CA 20 kA (a3 (ksD r) (.bool b) (waD w) (.int wh) st (.int (i : Nat)) (.list (S.free.map nD)) (v4 fun k => nD (S.tried k)) (v4 fun p => oD (S.held p)) (nD one) (.list (rest.map nD))) (aS 4) = some (.next, a4 (ksD r) (.bool b) (waD w) (.int wh) st (.int (i : Nat)) (.list (S.free.map nD)) (v4 fun k => nD (S.tried k)) (v4 fun p => oD (S.held p)) (nD one) (.list (rest.map nD)) (nD (w one (S.tried one)))) := by
      rw [ask4]
      simp only [Option.bind_some, waD]
      rw [item4 o4]
      simp only [Option.bind_some]
      rw [item4 o4]
      simp only [Option.bind_some]
      rw [item4 t4]
      rfl
    rw [ex_next e4]
    have e5 : ex CA 20 kA (a4 (ksD r) (.bool b) (waD w) (.int wh) st (.int (i : Nat)) (.list (S.free.map nD)) (v4 fun k => nD (S.tried k)) (v4 fun p => oD (S.held p)) (nD one) (.list (rest.map nD)) (nD (w one (S.tried one)))) (aS 5) = some (.next, a5 (ksD r) (.bool b) (waD w) (.int wh) st (.int (i : Nat)) (.list (S.free.map nD)) (v4 fun k => nD (S.tried k)) (v4 fun p => oD (S.held p)) (nD one) (.list (rest.map nD)) (nD (w one (S.tried one))) (v4 fun k => nD (if k = one then S.tried k + 1 else S.tried k))) := by
      rw [ask5, comp4 (y := fun k => nD (if k = one then S.tried k + 1 else S.tried k)) F5_eq]
      rfl
    rw [ex_next e5]
    have e6 : ex CA 20 kA (a5 (ksD r) (.bool b) (waD w) (.int wh) st (.int (i : Nat)) (.list (S.free.map nD)) (v4 fun k => nD (S.tried k)) (v4 fun p => oD (S.held p)) (nD one) (.list (rest.map nD)) (nD (w one (S.tried one))) (v4 fun k => nD (if k = one then S.tried k + 1 else S.tried k))) (aS 6) = some (.next, a6 (ksD r) (.bool b) (waD w) (.int wh) st (.int (i : Nat)) (.list (S.free.map nD)) (v4 fun k => nD (S.tried k)) (v4 fun p => oD (S.held p)) (nD one) (.list (rest.map nD)) (nD (w one (S.tried one))) (v4 fun k => nD (if k = one then S.tried k + 1 else S.tried k)) (oD (S.held (w one (S.tried one))))) := by
      rw [ask6]
      simp only [Option.bind_some]
      rw [item4 p4]
      rfl
    rw [ex_next e6]
    have hk : compD (fun _ => some true) (F8 (nD one) (nD (w one (S.tried one))) (v4 fun p => oD (S.held p))) [.int 0, .int 1, .int 2, .int 3] = some [_, _, _, _] := comp4 (y := fun k => oD (if k = w one (S.tried one) then some one else S.held k)) F8_eq
    cases hh : S.held (w one (S.tried one)) with
    | none =>
      have hs : step w r b S = ⟨rest, fun k => if k = one then S.tried k + 1 else S.tried k, fun p => if p = w one (S.tried one) then some one else S.held p⟩ := by unfold GS.step; rw [hp]; dsimp only; rw [hh]
      rw [hs]
      show retOf (exsW (ex CA 20 kA) (a6 _ _ _ _ _ _ _ _ _ _ _ _ _ .none) _) = _
      rw [ex_next (ask7n ..)]
      have e8 := ask8 (ksD r) (.bool b) (waD w) (.int wh) st (.int (i : Nat)) (.list (S.free.map nD)) (v4 fun k => nD (S.tried k)) (v4 fun p => oD (S.held p)) (nD one) (.list (rest.map nD)) (nD (w one (S.tried one))) (v4 fun k => nD (if k = one then S.tried k + 1 else S.tried k)) .none
      rw [hk] at e8
      simp only [Option.bind_some] at e8
      rw [ex_next e8, ex_ret (ask9n ..)]
      rfl
    | some j =>
      have j4 := I.hlt _ p4 j hh
      have e7 := ask7s (ksD r) (.bool b) (waD w) (.int wh) st (.int (i : Nat)) (.list (S.free.map nD)) (v4 fun k => nD (S.tried k)) (v4 fun p => oD (S.held p)) (nD one) (nD (w one (S.tried one))) (v4 fun k => nD (if k = one then S.tried k + 1 else S.tried k)) (rest.map nD) (j : Int)
      have hkk : itemD (ksD r) (nD (w one (S.tried one))) = some (.opq (.cls (rowI r (w one (S.tried one))))) := item4 p4
      have c1 : ∀ x : Nat, callQ (.opq (.cls (rowI r (w one (S.tried one))))) (some [.int (x : Int)]) = some (.opq (.inst (rowI r (w one (S.tried one))) (x : Int))) := fun x => rfl
      simp only [Option.bind_some, hkk] at e7
      rw [show (nD one) = .int (one : Int) from rfl] at e7
      simp only [c1, Option.bind_some] at e7
      rw [bet_eq hw o4 j4] at e7
      show retOf (exsW (ex CA 20 kA) (a6 _ _ _ _ _ _ _ _ _ _ _ _ _ (.int (j : Int))) _) = _
      by_cases hb : r (w one (S.tried one)) one < r (w one (S.tried one)) j
      · have hs : step w r b S = ⟨rest ++ [j], fun k => if k = one then S.tried k + 1 else S.tried k, fun p => if p = w one (S.tried one) then some one else S.held p⟩ := by unfold GS.step; rw [hp]; dsimp only; rw [hh]; dsimp only; rw [if_pos hb]
        rw [hs]
        have e7' : ex CA 20 kA (a6 (ksD r) (.bool b) (waD w) (.int wh) st (.int (i : Nat)) (.list (S.free.map nD)) (v4 fun k => nD (S.tried k)) (v4 fun p => oD (S.held p)) (nD one) (.list (rest.map nD)) (nD (w one (S.tried one))) (v4 fun k => nD (if k = one then S.tried k + 1 else S.tried k)) (.int (j : Int))) (aS 7) = some (.next, a6 (ksD r) (.bool b) (waD w) (.int wh) st (.int (i : Nat)) (.list (S.free.map nD)) (v4 fun k => nD (S.tried k)) (v4 fun p => oD (S.held p)) (nD one) (.list (rest.map nD)) (nD (w one (S.tried one))) (v4 fun k => nD (if k = one then S.tried k + 1 else S.tried k)) (.int (j : Int))) := by
          refine e7.trans ?_
          rw [decide_eq_true hb]
          rfl
        rw [ex_next e7']
        have e8 := ask8 (ksD r) (.bool b) (waD w) (.int wh) st (.int (i : Nat)) (.list (S.free.map nD)) (v4 fun k => nD (S.tried k)) (v4 fun p => oD (S.held p)) (nD one) (.list (rest.map nD)) (nD (w one (S.tried one))) (v4 fun k => nD (if k = one then S.tried k + 1 else S.tried k)) (.int (j : Int))
        rw [hk] at e8
        simp only [Option.bind_some] at e8
        rw [ex_next e8]
        have add : binD .Add (.list (rest.map nD)) (.list [.int (j : Int)]) = some (.list ((rest ++ [j]).map nD)) := by
          show (if (rest.map nD).length + 1 ≤ 1000 then some (D.list (rest.map nD ++ [.int (j : Int)])) else none) = _
          rw [if_pos (by simp; omega), List.map_append]; rfl
        have e9 := ask9s (ksD r) (.bool b) (waD w) (.int wh) st (.int (i : Nat)) (.list (S.free.map nD)) (v4 fun k => nD (S.tried k)) (v4 fun p => oD (S.held p)) (nD one) (nD (w one (S.tried one))) (v4 fun k => nD (if k = one then S.tried k + 1 else S.tried k)) (v4 fun k => oD (if k = w one (S.tried one) then some one else S.held k)) (rest.map nD) (j : Int)
        rw [add] at e9
        simp only [Option.bind_some] at e9
        refine (congrArg retOf (ex_ret e9)).trans ?_
        rfl
      · have hs : step w r b S = ⟨rest ++ [one], fun k => if k = one then S.tried k + 1 else S.tried k, S.held⟩ := by unfold GS.step; rw [hp]; dsimp only; rw [hh]; dsimp only; rw [if_neg hb]
        rw [hs]
        have add : binD .Add (.list (rest.map nD)) (.list [.int (one : Int)]) = some (.list ((rest ++ [one]).map nD)) := by
          show (if (rest.map nD).length + 1 ≤ 1000 then some (D.list (rest.map nD ++ [.int (one : Int)])) else none) = _
          rw [if_pos (by simp; omega), List.map_append]; rfl
        rw [decide_eq_false hb, add] at e7
        refine (congrArg retOf (ex_ret (e7.trans rfl))).trans ?_
        rfl
end Mine
namespace Mine
set_option maxRecDepth 100000
set_option maxHeartbeats 1000000
open GS
theorem keys_eq (wa wh tu : D) (r : Nat → Nat → Nat) : ev CA 10 k12 (rhoL wa (waD r) wh tu) rKeys = some (ksD r) := by kernel_rfl
theorem fold_steps {w m r : Nat → Nat → Nat} (b : Bool) {wh : Int} (hw : wh = 0 ∨ wh = 1 ∨ wh = 2) (P : Prefs w m) (rinj : ∀ p < 4, ∀ k < 4, ∀ j < 4, r p k = r p j → k = j) : ∀ (l : List Nat) (n : Nat) (S : GS.St), Inv w m r n S →
    foldD (askD (ksD r) (.bool b) (waD w) (.int wh)) (toD S) l = some (toD (steps w r b l.length S))
  | [], _, _, _ => rfl
  | i :: l, n, S, I => by
    rw [foldD, ask_step b hw P I i]
    exact fold_steps b hw P rinj l (n + 1) _ (I.next P rinj)
theorem s0_eq : s0D = toD S0 := rfl
theorem run_eq {w m r : Nat → Nat → Nat} (b : Bool) {wh : Int} (hw : wh = 0 ∨ wh = 1 ∨ wh = 2) (P : Prefs w m) (rinj : ∀ p < 4, ∀ k < 4, ∀ j < 4, r p k = r p j → k = j) :
    runD (waD w) (waD r) (.int wh) (.bool b) = some (toD (steps w r b 16 S0)) := by
  have f := fold_steps b hw P rinj (List.range 16) 0 S0 (GS.start w m r)
  rw [List.length_range, ← s0_eq] at f
  unfold runD
  rw [keys_eq, Option.bind_some]
  exact f
/-! orders -/
structure Perm4 (l : List Int) (f g : Nat → Nat) : Prop where
  eq : l = [(f 0 : Int), f 1, f 2, f 3]
  pair : Pairing f g
def isP (l : List Int) : Bool := match l with
  | [a, b, c, d] => decide (0 ≤ a ∧ a < 4 ∧ 0 ≤ b ∧ b < 4 ∧ 0 ≤ c ∧ c < 4 ∧ 0 ≤ d ∧ d < 4 ∧ a ≠ b ∧ a ≠ c ∧ a ≠ d ∧ b ≠ c ∧ b ≠ d ∧ c ≠ d)
  | _ => false
theorem isP_use {l : List Int} (h : isP l = true) : ∃ f g, Perm4 l f g := by
  unfold isP at h
  split at h
  · rename_i a b c d
    have h := of_decide_eq_true h
    let f : Nat → Nat := fun i => if i = 0 then a.toNat else if i = 1 then b.toNat else if i = 2 then c.toNat else d.toNat
    obtain ⟨g, hg⟩ := inj_pairing (f := f) (fun k hk => by
      have : k = 0 ∨ k = 1 ∨ k = 2 ∨ k = 3 := by omega
      rcases this with rfl | rfl | rfl | rfl
      · show a.toNat < 4; omega
      · show b.toNat < 4; omega
      · show c.toNat < 4; omega
      · show d.toNat < 4; omega) (fun k hk j hj e => by
      have h1 : k = 0 ∨ k = 1 ∨ k = 2 ∨ k = 3 := by omega
      have h2 : j = 0 ∨ j = 1 ∨ j = 2 ∨ j = 3 := by omega
      have f0 : f 0 = a.toNat := rfl
      have f1 : f 1 = b.toNat := rfl
      have f2 : f 2 = c.toNat := rfl
      have f3 : f 3 = d.toNat := rfl
      rcases h1 with rfl | rfl | rfl | rfl <;> rcases h2 with rfl | rfl | rfl | rfl <;> first | rfl | (exfalso; simp only [f0, f1, f2, f3] at e; omega))
    refine ⟨f, g, ?_, hg⟩
    have f0 : (f 0 : Int) = a := by show (a.toNat : Int) = a; omega
    have f1 : (f 1 : Int) = b := by show (b.toNat : Int) = b; omega
    have f2 : (f 2 : Int) = c := by show (c.toNat : Int) = c; omega
    have f3 : (f 3 : Int) = d := by show (d.toNat : Int) = d; omega
    rw [f0, f1, f2, f3]
  · cases h
/-- the order told by the three remainders -/
def ordM (a b c : Nat) : List Int :=
  let v0 := L4.getD a 0
  let L1 := L4.filter (fun y => decide (y ≠ v0))
  let v1 := L1.getD b 0
  let L2 := L1.filter (fun y => decide (y ≠ v1))
  let v2 := L2.getD c 0
  let L3 := L2.filter (fun y => decide (y ≠ v2))
  [v0, v1, v2, L3.getD 0 0]
theorem ordZ_M (x : Int) : ordZ x = ordM (x.fmod 4).toNat ((x.fdiv 4).fmod 3).toNat (((x.fdiv 4).fdiv 3).fmod 2).toNat := by
  have h1 : ∀ y : Int, (y.fmod 1).toNat = 0 := fun y => by
    have := Int.fmod_nonneg_of_pos y (show (0 : Int) < 1 by decide)
    have := Int.fmod_lt_of_pos y (show (0 : Int) < 1 by decide)
    omega
  show ordR L4 x [4, 3, 2, 1] = _
  simp only [ordR, h1]
  rfl
theorem ordM_all : ∀ a < 4, ∀ b < 3, ∀ c < 2, isP (ordM a b c) = true := by decide +kernel
theorem ordZ_perm (x : Int) : ∃ f g, Perm4 (ordZ x) f g := by
  have a0 := Int.fmod_nonneg_of_pos x (show (0 : Int) < 4 by decide)
  have a1 := Int.fmod_lt_of_pos x (show (0 : Int) < 4 by decide)
  have b0 := Int.fmod_nonneg_of_pos (x.fdiv 4) (show (0 : Int) < 3 by decide)
  have b1 := Int.fmod_lt_of_pos (x.fdiv 4) (show (0 : Int) < 3 by decide)
  have c0 := Int.fmod_nonneg_of_pos ((x.fdiv 4).fdiv 3) (show (0 : Int) < 2 by decide)
  have c1 := Int.fmod_lt_of_pos ((x.fdiv 4).fdiv 3) (show (0 : Int) < 2 by decide)
  rw [ordZ_M]
  exact isP_use (ordM_all _ (by omega) _ (by omega) _ (by omega))
def all24 : List (List Int) := (List.range 24).map fun (x : Nat) => ordZ (x : Int)
def has24 (a b c d : Nat) : Bool := !isP [(a : Int), (b : Nat), (c : Nat), (d : Nat)] || all24.contains [(a : Int), (b : Nat), (c : Nat), (d : Nat)]
theorem has24_all : ((List.range 4).all fun a => (List.range 4).all fun b => (List.range 4).all fun c => (List.range 4).all fun d => has24 a b c d) = true := by decide +kernel
theorem all24_mem {f g : Nat → Nat} (P : Pairing f g) : [(f 0 : Int), f 1, f 2, f 3] ∈ all24 := by
  have h0 := P.ml 0 (by decide)
  have h1 := P.ml 1 (by decide)
  have h2 := P.ml 2 (by decide)
  have h3 := P.ml 3 (by decide)
  have h := has24_all
  simp only [List.all_eq_true, List.mem_range] at h
  have h := h _ h0 _ h1 _ h2 _ h3
  have ne : ∀ {k j : Nat}, k < 4 → j < 4 → k ≠ j → f k ≠ f j := fun hk hj n e => n (by rw [← P.nm _ hk, e, P.nm _ hj])
  have n1 := ne (k := 0) (j := 1) (by decide) (by decide) (by decide)
  have n2 := ne (k := 0) (j := 2) (by decide) (by decide) (by decide)
  have n3 := ne (k := 0) (j := 3) (by decide) (by decide) (by decide)
  have n4 := ne (k := 1) (j := 2) (by decide) (by decide) (by decide)
  have n5 := ne (k := 1) (j := 3) (by decide) (by decide) (by decide)
  have n6 := ne (k := 2) (j := 3) (by decide) (by decide) (by decide)
  have p : isP [(f 0 : Int), f 1, f 2, f 3] = true := by
    unfold isP
    exact decide_eq_true (by omega)
  unfold has24 at h
  rw [p] at h
  simpa using h
theorem all24_perm {l : List Int} (h : l ∈ all24) : ∃ f g, Perm4 l f g := by
  obtain ⟨x, _, rfl⟩ := List.mem_map.mp h
  exact ordZ_perm _
end Mine
namespace Mine
set_option maxRecDepth 100000
set_option maxHeartbeats 1000000
/-! law, statement by statement -/
abbrev zS (i : Nat) : Stmt := (defN 14).body.getD i (.Pass default)
theorem law_body : (defN 14).body = [zS 0, zS 1, zS 2, zS 3, zS 4, zS 5, zS 6, zS 7, zS 8, zS 9, zS 10, zS 11, zS 12, zS 13, zS 14, zS 15, zS 16, zS 17] := by kernel_rfl
abbrev z1 (sc : D) : Bs := ("tied", .opq (.cls [0, 0, 0, 0])) :: [("script", sc)]
abbrev z2 (sc : D) : Bs := ("which", .int 2) :: ("which", .int 1) :: ("which", .int 0) :: z1 sc
abbrev z3 (sc nu : D) : Bs := ("numbers", nu) :: z2 sc
abbrev z4 (sc nu wa : D) : Bs := ("wants", wa) :: z3 sc nu
abbrev z5 (sc nu wa as : D) : Bs := ("asked", as) :: z4 sc nu wa
abbrev z6 (sc nu wa as mk : D) : Bs := ("marks", mk) :: z5 sc nu wa as
abbrev z7 (sc nu wa as mk ra : D) : Bs := ("ranks", ra) :: z6 sc nu wa as mk
abbrev z8 (sc nu wa as mk ra fi : D) : Bs := ("first", fi) :: z7 sc nu wa as mk ra
abbrev z9 (sc nu wa as mk ra fi se : D) : Bs := ("second", se) :: z8 sc nu wa as mk ra fi
abbrev z10 (sc nu wa as mk ra fi se th : D) : Bs := ("third", th) :: z9 sc nu wa as mk ra fi se
abbrev z11 (sc nu wa as mk ra fi se th be : D) : Bs := ("best", be) :: z10 sc nu wa as mk ra fi se th
abbrev z12 (sc nu wa as mk ra fi se th be wo : D) : Bs := ("worst", wo) :: z11 sc nu wa as mk ra fi se th be
abbrev z13 (sc nu wa as mk ra fi se th be wo st : D) : Bs := ("stable", st) :: z12 sc nu wa as mk ra fi se th be wo
def T1 : D → Option Bool := fun _ => some true
def listD : List D → Option D := fun ys => some (.list ys)
theorem law0 (sc : D) : ex CZ 40 k14 [("script", sc)] (zS 0) = some (.next, z1 sc) := by kernel_rfl
theorem law1 (sc : D) : ex CZ 40 k14 (z1 sc) (zS 1) = some (.next, z2 sc) := by kernel_rfl
def N2 (xs : List D) : D → Option D
  | .int k => (((if xs.length ≤ 1000 ∧ ((some 8 : Option Int).all fun c => decide (0 < c)) = true then some (D.list (slcD xs (some k) none (some 8))) else none).bind fun sl => some [sl]).bind fun ds => sumD ds).bind fun s => (itemD ownD (.int k)).bind fun o => binD .Add s o
  | _ => none
theorem law2 (xs : List D) : ex CZ 40 k14 (z2 (.list xs)) (zS 2) = ((compD T1 (N2 xs) [.int 0, .int 1, .int 2, .int 3, .int 4, .int 5, .int 6, .int 7]).bind listD).bind fun d => some (.next, z3 (.list xs) d) := by kernel_rfl
theorem law3 (sc : D) (n0 n1 n2 n3 n4 n5 n6 n7 : Int) : ex CZ 40 k14 (z3 sc (.list [.int n0, .int n1, .int n2, .int n3, .int n4, .int n5, .int n6, .int n7])) (zS 3) =
   some (.next, z4 sc (.list [.int n0, .int n1, .int n2, .int n3, .int n4, .int n5, .int n6, .int n7]) (.list [.list ((ordZ n0).map .int), .list ((ordZ n1).map .int), .list ((ordZ n2).map .int), .list ((ordZ n3).map .int)])) := by kernel_rfl
theorem law4 (sc wa : D) (n0 n1 n2 n3 n4 n5 n6 n7 : Int) : ex CZ 40 k14 (z4 sc (.list [.int n0, .int n1, .int n2, .int n3, .int n4, .int n5, .int n6, .int n7]) wa) (zS 4) =
   some (.next, z5 sc (.list [.int n0, .int n1, .int n2, .int n3, .int n4, .int n5, .int n6, .int n7]) wa (.list [.list ((ordZ n4).map .int), .list ((ordZ n5).map .int), .list ((ordZ n6).map .int), .list ((ordZ n7).map .int)])) := by kernel_rfl
def IX (row : D) : Option D := (compD T1 (fun k => (some row).bind fun a => (some k).bind fun b => indexD a b) [.int 0, .int 1, .int 2, .int 3]).bind listD
theorem law5 (sc nu as r0 r1 r2 r3 : D) : ex CZ 40 k14 (z5 sc nu (.list [r0, r1, r2, r3]) as) (zS 5) = ((compD T1 IX [r0, r1, r2, r3]).bind listD).bind fun d => some (.next, z6 sc nu (.list [r0, r1, r2, r3]) as d) := by kernel_rfl
theorem law6 (sc nu wa mk r0 r1 r2 r3 : D) : ex CZ 40 k14 (z6 sc nu wa (.list [r0, r1, r2, r3]) mk) (zS 6) = ((compD T1 IX [r0, r1, r2, r3]).bind listD).bind fun d => some (.next, z7 sc nu wa (.list [r0, r1, r2, r3]) mk d) := by kernel_rfl
theorem law7 (sc nu wa as mk ra : D) : ex CZ 40 k14 (z7 sc nu wa as mk ra) (zS 7) = (rnD [wa, ra, .int 0, .bool false]).bind fun d => some (.next, z8 sc nu wa as mk ra d) := by kernel_rfl
theorem law8 (sc nu wa as mk ra fi : D) : ex CZ 40 k14 (z8 sc nu wa as mk ra fi) (zS 8) = (rnD [wa, ra, .int 1, .bool true]).bind fun d => some (.next, z9 sc nu wa as mk ra fi d) := by kernel_rfl
theorem law9 (sc nu wa as mk ra fi se : D) : ex CZ 40 k14 (z9 sc nu wa as mk ra fi se) (zS 9) = (rnD [as, mk, .int 2, .bool false]).bind fun d => some (.next, z10 sc nu wa as mk ra fi se d) := by kernel_rfl
end Mine
namespace Mine
set_option maxRecDepth 100000
set_option maxHeartbeats 1000000
theorem law10 (sc nu wa as mk ra f0 f1 f2 s0 s1 s2 t0 t1 t2 : D) : ex CZ 40 k14 (z10 sc nu wa as mk ra (.tuple [f0, f1, f2]) (.tuple [s0, s1, s2]) (.tuple [t0, t1, t2])) (zS 10) =
   ((cmpD .NotEq f0 (.list [])).bind fun b => if b then some true else (cmpD .NotEq t0 (.list [])).bind fun b => if b then some true else (cmpD .NotEq s2 f2).bind fun b => if b then some true else some false).bind fun b =>
     if b then some (.ret (.bool false), z10 sc nu wa as mk ra (.tuple [f0, f1, f2]) (.tuple [s0, s1, s2]) (.tuple [t0, t1, t2])) else some (.next, z10 sc nu wa as mk ra (.tuple [f0, f1, f2]) (.tuple [s0, s1, s2]) (.tuple [t0, t1, t2])) := by kernel_rfl
theorem law11 (sc nu wa as mk ra f0 f1 f2 se th : D) : ex CZ 40 k14 (z10 sc nu wa as mk ra (.tuple [f0, f1, f2]) se th) (zS 11) = (IX f2).bind fun d => some (.next, z11 sc nu wa as mk ra (.tuple [f0, f1, f2]) se th d) := by kernel_rfl
theorem law12 (sc nu wa as mk ra fi se t0 t1 t2 be : D) : ex CZ 40 k14 (z11 sc nu wa as mk ra fi se (.tuple [t0, t1, t2]) be) (zS 12) = some (.next, z12 sc nu wa as mk ra fi se (.tuple [t0, t1, t2]) be t2) := by kernel_rfl
def all24D : List D := all24.map fun l => .list (l.map .int)
theorem law13 (sc nu wa as mk ra fi se th be wo : D) : ex CZ 40 k14 (z12 sc nu wa as mk ra fi se th be wo) (zS 13) = ((compD (fun m => (holD [m, wa, ra]).bind truthD) (fun m => some m) all24D).bind listD).bind fun d => some (.next, z13 sc nu wa as mk ra fi se th be wo d) := by kernel_rfl
theorem law14 (sc nu wa as mk ra fi se th be wo st : D) : ex CZ 40 k14 (z13 sc nu wa as mk ra fi se th be wo st) (zS 14) =
   ((cmpD .NotIn be st).bind fun b => if b then some true else (cmpD .NotIn wo st).bind fun b => if b then some true else some false).bind fun b =>
     if b then some (.ret (.bool false), z13 sc nu wa as mk ra fi se th be wo st) else some (.next, z13 sc nu wa as mk ra fi se th be wo st) := by kernel_rfl
theorem law17 (ρ : Bs) : ex CZ 40 k14 ρ (zS 17) = some (.ret (.bool true), ρ) := by kernel_rfl
abbrev cK (k : D) (ρ : Bs) : Bs := ("k", k) :: ρ
abbrev cM (m : D) (ρ : Bs) : Bs := ("mine", m) :: ρ
abbrev cO (m : D) (ρ : Bs) : Bs := ("one", m) :: ρ
abbrev cT (m : D) (ρ : Bs) : Bs := ("two", m) :: ρ
abbrev cX (m : D) (ρ : Bs) : Bs := ("match", m) :: ρ
abbrev cP (m : D) (ρ : Bs) : Bs := ("pairs", m) :: ρ
/-! the first double loop -/
def b15 : List Stmt := match zS 15 with | .For _ _ b _ _ => b | _ => []
def b15k : List Stmt := match b15 with | [.For _ _ b _ _] => b | _ => []
theorem law15 (sc nu wa as mk ra fi se th be wo : D) (ys : List D) : ex CZ 40 k14 (z13 sc nu wa as mk ra fi se th be wo (.list ys)) (zS 15) = forW (fun ρ d => exsW (ex CZ 39 k14) (cX d ρ) b15) (z13 sc nu wa as mk ra fi se th be wo (.list ys)) ys := by kernel_rfl
theorem b15_eq (ρ : Bs) : exsW (ex CZ 39 k14) ρ b15 = (forW (fun ρ d => exsW (ex CZ 38 k14) (cK d ρ) b15k) ρ [.int 0, .int 1, .int 2, .int 3]).bind fun q => match q with
   | (.next, ρ') => exsW (ex CZ 39 k14) ρ' []
   | q => some q := by kernel_rfl
def two (l : Option D) (k : D) : Option D := l.bind fun a => (some k).bind fun i => itemD a i
def ixo (l : Option D) (k : D) : Option D := l.bind fun a => (some k).bind fun i => indexD a i
def cell2 (l : Option D) (k : D) (j : Option D) : Option D := (two l k).bind fun row => j.bind fun i => itemD row i
theorem b15k_body : ∃ a b c, b15k = [a, b, c] := ⟨_, _, _, rfl⟩
def s15 (i : Nat) : Stmt := b15k.getD i (.Pass default)
theorem b15k_eq : b15k = [s15 0, s15 1, s15 2] := by kernel_rfl
theorem s15_0 (ρ : Bs) (k : D) : ex CZ 38 k14 (cK k ρ) (s15 0) = (((cell2 (ρ.lookup ("marks" : Str)) k (two (ρ.lookup ("best" : Str)) k)).bind fun a => (cell2 (ρ.lookup ("marks" : Str)) k (two (ρ.lookup ("match" : Str)) k)).bind fun b => cmpD .Gt a b).bind fun b => if b then some true else
   ((cell2 (ρ.lookup ("marks" : Str)) k (two (ρ.lookup ("match" : Str)) k)).bind fun a => (cell2 (ρ.lookup ("marks" : Str)) k (two (ρ.lookup ("worst" : Str)) k)).bind fun b => cmpD .Gt a b).bind fun b => if b then some true else some false).bind fun b =>
     if b then some (Fl.ret (.bool false), cK k ρ) else some (Fl.next, cK k ρ) := by kernel_rfl
theorem s15_1 (ρ : Bs) (k : D) : ex CZ 38 k14 (cK k ρ) (s15 1) = (cell2 (ρ.lookup ("ranks" : Str)) k (ixo (ρ.lookup ("match" : Str)) k)).bind fun d => some (Fl.next, cM d (cK k ρ)) := by kernel_rfl
theorem s15_2 (ρ : Bs) (k mi : D) : ex CZ 38 k14 (cM mi (cK k ρ)) (s15 2) = (((cell2 (ρ.lookup ("ranks" : Str)) k (ixo (ρ.lookup ("worst" : Str)) k)).bind fun a => (some mi).bind fun b => cmpD .Gt a b).bind fun b => if b then some true else
   ((some mi).bind fun a => (cell2 (ρ.lookup ("ranks" : Str)) k (ixo (ρ.lookup ("best" : Str)) k)).bind fun b => cmpD .Gt a b).bind fun b => if b then some true else some false).bind fun b =>
     if b then some (Fl.ret (.bool false), cM mi (cK k ρ)) else some (Fl.next, cM mi (cK k ρ)) := by kernel_rfl
/-! the second -/
def b16 : List Stmt := match zS 16 with | .For _ _ b _ _ => b | _ => []
def b16t : List Stmt := match b16 with | [.For _ _ b _ _] => b | _ => []
theorem law16 (ρ : Bs) : ex CZ 40 k14 ρ (zS 16) = (ρ.lookup ("stable" : Str)).bind fun d => (iterL d).bind fun xs => forW (fun ρ d => exsW (ex CZ 39 k14) (cO d ρ) b16) ρ xs := by kernel_rfl
theorem b16_eq (ρ : Bs) (o : D) : exsW (ex CZ 39 k14) (cO o ρ) b16 = (((ρ.lookup ("stable" : Str)).bind fun d => (iterL d).bind fun xs => forW (fun ρ d => exsW (ex CZ 38 k14) (cT d ρ) b16t) (cO o ρ) xs)).bind fun q => match q with
   | (.next, ρ') => exsW (ex CZ 39 k14) ρ' []
   | q => some q := by kernel_rfl
def s16 (i : Nat) : Stmt := b16t.getD i (.Pass default)
theorem b16t_eq : b16t = [s16 0, s16 1] := by kernel_rfl
def pairsE : PySem.Expr := match s16 0 with | .Assign _ v _ => v | _ => .Constant .none 0 default
theorem s16_0 (ρ : Bs) : ex CZ 38 k14 ρ (s16 0) = (ev CZ 37 k14 ρ pairsE).bind fun d => some (Fl.next, cP d ρ) := by kernel_rfl
end Mine
namespace Mine
set_option maxRecDepth 100000
set_option maxHeartbeats 1000000
def pSc : Scope := match pairsE with | .ListComp _ _ s _ => s | _ => default
def FL (ρ : Bs) (x : Str) : Option D := (freeOf pSc.names ρ).lookup x
theorem FL_eq {ρ : Bs} {x : Str} (h : pSc.names.lookup x = some .free) : FL ρ x = ρ.lookup x := by
  unfold FL
  rw [free_lookup, h]
  rfl
def P1 (mk o : Option D) (k : D) : Option D := ((cell2 mk k (two o k)).bind fun x => ((two o k).bind fun y => some [y]).bind fun r => some (x :: r)).bind fun ds => some (D.tuple ds)
def PR (mk o t : Option D) (k : D) : Option D := ((((P1 mk o k).bind fun a => ((P1 mk t k).bind fun b => some [b]).bind fun r => some (a :: r)).bind fun ds => some (D.list ds)).bind fun d => some [d]).bind fun ds => sortD ds
theorem pairs_eq (ρ : Bs) (t : D) : ev CZ 37 k14 (cT t ρ) pairsE = (compD T1 (PR (FL ρ "marks") (FL ρ "one") (some t)) [.int 0, .int 1, .int 2, .int 3]).bind listD := by kernel_rfl
def PA (i : Int) (p : D) : Option D := ((some p).bind fun a => (some (.int i)).bind fun i => itemD a i).bind fun row => (some (.int 1)).bind fun j => itemD row j
theorem s16_1 (ρ : Bs) (p0 p1 p2 p3 : D) : ex CZ 38 k14 (cP (.list [p0, p1, p2, p3]) ρ) (s16 1) =
   ((((compD T1 (PA 0) [p0, p1, p2, p3]).bind listD).bind fun a => (ρ.lookup ("stable" : Str)).bind fun b => cmpD .NotIn a b).bind fun b => if b then some true else
    (((compD T1 (PA 1) [p0, p1, p2, p3]).bind listD).bind fun a => (ρ.lookup ("stable" : Str)).bind fun b => cmpD .NotIn a b).bind fun b => if b then some true else some false).bind fun b =>
      if b then some (Fl.ret (.bool false), cP (.list [p0, p1, p2, p3]) ρ) else some (Fl.next, cP (.list [p0, p1, p2, p3]) ρ) := by kernel_rfl
/-! _law_holds -/
abbrev k13 : Ks := (defN 13).scope.names
def hS (i : Nat) : Stmt := (defN 13).body.getD i (.Pass default)
theorem holds_body : (defN 13).body = [hS 0, hS 1, hS 2] := by kernel_rfl
abbrev y0 (m wa ra : D) : Bs := [("ranks", ra), ("wants", wa), ("match", m)]
abbrev y1 (m wa ra pa : D) : Bs := ("partners", pa) :: y0 m wa ra
theorem hold0 (m wa ra : D) : ex CA 20 k13 (y0 m wa ra) (hS 0) = (IX m).bind fun d => some (.next, y1 m wa ra d) := by kernel_rfl
def bH : List Stmt := match hS 1 with | .For _ _ b _ _ => b | _ => []
def bHp : List Stmt := match bH with | [.For _ _ b _ _] => b | _ => []
abbrev cPl (m : D) (ρ : Bs) : Bs := ("place", m) :: ρ
theorem hold1 (ρ : Bs) : ex CA 20 k13 ρ (hS 1) = forW (fun ρ d => exsW (ex CA 19 k13) (cK d ρ) bH) ρ [.int 0, .int 1, .int 2, .int 3] := by kernel_rfl
theorem bH_eq (ρ : Bs) (k : D) : exsW (ex CA 19 k13) (cK k ρ) bH = ((two (ρ.lookup ("wants" : Str)) k).bind fun d => (iterL d).bind fun xs => forW (fun ρ d => exsW (ex CA 18 k13) (cPl d ρ) bHp) (cK k ρ) xs).bind fun q => match q with
   | (.next, ρ') => exsW (ex CA 19 k13) ρ' []
   | q => some q := by kernel_rfl
def hP (i : Nat) : Stmt := bHp.getD i (.Pass default)
theorem bHp_eq : bHp = [hP 0, hP 1] := by kernel_rfl
theorem hP0 (ρ : Bs) (p : D) : ex CA 18 k13 (cPl p ρ) (hP 0) = (((some p).bind fun a => ((ρ.lookup ("match" : Str)).bind fun a => (ρ.lookup ("k" : Str)).bind fun i => itemD a i).bind fun b => cmpD .Eq a b)).bind fun b => if b then some (Fl.brk, cPl p ρ) else some (Fl.next, cPl p ρ) := by kernel_rfl
theorem hP1 (ρ : Bs) (p : D) : ex CA 18 k13 (cPl p ρ) (hP 1) = (((((ρ.lookup ("ranks" : Str)).bind fun a => (some p).bind fun i => itemD a i).bind fun row => (ρ.lookup ("k" : Str)).bind fun i => itemD row i).bind fun a =>
   (((ρ.lookup ("ranks" : Str)).bind fun a => (some p).bind fun i => itemD a i).bind fun row => ((ρ.lookup ("partners" : Str)).bind fun a => (some p).bind fun i => itemD a i).bind fun i => itemD row i).bind fun b => cmpD .Lt a b)).bind fun b =>
     if b then some (Fl.ret (.bool false), cPl p ρ) else some (Fl.next, cPl p ρ) := by kernel_rfl
theorem hold2 (ρ : Bs) : ex CA 20 k13 ρ (hS 2) = some (.ret (.bool true), ρ) := by kernel_rfl
end Mine
namespace Mine
set_option maxRecDepth 100000
set_option maxHeartbeats 1000000
open GS
def n4 (f : Nat → Nat) : D := v4 fun k => nD (f k)
theorem index4 {f g : Nat → Nat} (P : Pairing f g) {p : Nat} (hp : p < 4) : indexD (n4 f) (nD p) = some (nD (g p)) := by
  have e : ([nD (f 0), nD (f 1), nD (f 2), nD (f 3)] : List D).mapM intD = some [(f 0 : Int), f 1, f 2, f 3] := rfl
  have ie : ∀ (xs : List D) (k : Int), indexD (.list xs) (.int k) = (xs.mapM intD).bind fun ns => if ns.length ≤ 100 ∧ (ns.all fun n => decide (0 ≤ n ∧ n < 1000)) = true ∧ k ∈ ns then some (.int (ns.idxOf k : Nat)) else none := fun _ _ => rfl
  show indexD (.list [nD (f 0), nD (f 1), nD (f 2), nD (f 3)]) (.int (p : Int)) = _
  rw [ie, e, Option.bind_some]
  have l0 := P.ml 0 (by decide)
  have l1 := P.ml 1 (by decide)
  have l2 := P.ml 2 (by decide)
  have l3 := P.ml 3 (by decide)
  have ne : ∀ {k j : Nat}, k < 4 → j < 4 → k ≠ j → f k ≠ f j := fun hk hj n e => n (by rw [← P.nm _ hk, e, P.nm _ hj])
  have n1 := ne (k := 0) (j := 1) (by decide) (by decide) (by decide)
  have n2 := ne (k := 0) (j := 2) (by decide) (by decide) (by decide)
  have n3 := ne (k := 0) (j := 3) (by decide) (by decide) (by decide)
  have n4 := ne (k := 1) (j := 2) (by decide) (by decide) (by decide)
  have n5 := ne (k := 1) (j := 3) (by decide) (by decide) (by decide)
  have n6 := ne (k := 2) (j := 3) (by decide) (by decide) (by decide)
  have gp := P.nl p hp
  have fg := P.mn p hp
  have main : ((p : Int) ∈ [(f 0 : Int), f 1, f 2, f 3]) ∧ ([(f 0 : Int), f 1, f 2, f 3].idxOf (p : Int)) = g p := by
    generalize g p = i at gp fg
    have : i = 0 ∨ i = 1 ∨ i = 2 ∨ i = 3 := by omega
    have c : ∀ {a b : Nat}, a ≠ b → ((a : Int) == (b : Int)) = false := fun h => by simp; omega
    rcases this with rfl | rfl | rfl | rfl <;> subst fg
    · exact ⟨by simp, by simp [List.idxOf_cons]⟩
    · exact ⟨by simp, by simp [List.idxOf_cons, c n1]⟩
    · exact ⟨by simp, by simp [List.idxOf_cons, c n2, c n4]⟩
    · exact ⟨by simp, by simp [List.idxOf_cons, c n3, c n5, c n6]⟩
  have al : ([(f 0 : Int), f 1, f 2, f 3].all fun n => decide (0 ≤ n ∧ n < 1000)) = true := by
    simp; omega
  rw [if_pos ⟨by simp, al, main.1⟩, main.2]
  rfl
theorem IX4 {f g : Nat → Nat} (P : Pairing f g) : IX (n4 f) = some (n4 g) := by
  unfold IX
  have := comp4 (F := fun k => (some (n4 f)).bind fun a => (some k).bind fun b => indexD a b) (y := fun k => nD (g k)) (fun k hk => index4 P hk)
  show (compD (fun _ => some true) _ _).bind listD = _
  rw [this]; rfl
def scan (r : Nat → Nat → Nat) (μ ν : Nat → Nat) (k : Nat) : List Nat → Bool
  | [] => false
  | p :: t => if p = μ k then false else if r p k < r p (ν p) then true else scan r μ ν k t
structure QH (μ ν : Nat → Nat) (w r : Nat → Nat → Nat) (ρ : Bs) : Prop where
  l1 : ρ.lookup ("match" : Str) = some (n4 μ)
  l2 : ρ.lookup ("wants" : Str) = some (waD w)
  l3 : ρ.lookup ("ranks" : Str) = some (waD r)
  l4 : ρ.lookup ("partners" : Str) = some (n4 ν)
theorem lt_nat (a b : Nat) : cmpD .Lt (nD a) (nD b) = some (decide (a < b)) := by
  show some (decide ((a : Int) < b)) = _
  congr 1
  rw [Bool.eq_iff_iff, decide_eq_true_eq, decide_eq_true_eq]; omega
theorem gt_nat (a b : Nat) : cmpD .Gt (nD a) (nD b) = some (decide (b < a)) := by
  show some (decide ((b : Int) < a)) = _
  congr 1
  rw [Bool.eq_iff_iff, decide_eq_true_eq, decide_eq_true_eq]; omega
section
variable {w m r : Nat → Nat → Nat} {μ ν : Nat → Nat}
theorem inner_for (A : Pairing μ ν) {k : Nat} (hk : k < 4) : ∀ (l : List Nat), (∀ p ∈ l, p < 4) → ∀ ρ : Bs, QH μ ν w r ρ → ρ.lookup ("k" : Str) = some (nD k) →
    ∃ ρ', forW (fun ρ d => exsW (ex CA 18 k13) (cPl d ρ) bHp) ρ (l.map nD) = some ((if scan r μ ν k l = true then .ret (.bool false) else .next), ρ') ∧ QH μ ν w r ρ'
  | [], _, ρ, q, _ => ⟨ρ, rfl, q⟩
  | p :: l, hl, ρ, q, qk => by
    have p4 := hl p (.head _)
    have h0 := hP0 ρ (nD p)
    rw [q.l1, qk] at h0
    simp only [Option.bind_some] at h0
    rw [n4, item4 hk] at h0
    simp only [Option.bind_some] at h0
    rw [eq_nat] at h0
    simp only [Option.bind_some] at h0
    rw [List.map_cons, forW, bHp_eq, scan]
    by_cases e : p = μ k
    · rw [decide_eq_true e, if_pos rfl] at h0
      rw [exsW, h0, if_pos e]
      exact ⟨_, rfl, ⟨q.l1, q.l2, q.l3, q.l4⟩⟩
    · rw [decide_eq_false e, if_neg (by decide)] at h0
      rw [ex_next h0, if_neg e]
      have h1 := hP1 ρ (nD p)
      rw [q.l3, q.l4, qk] at h1
      simp only [Option.bind_some] at h1
      rw [waD, item4 p4, n4, item4 p4] at h1
      simp only [Option.bind_some] at h1
      rw [item4 hk, item4 (A.nl p p4)] at h1
      simp only [Option.bind_some] at h1
      rw [lt_nat] at h1
      simp only [Option.bind_some] at h1
      by_cases b : r p k < r p (ν p)
      · rw [decide_eq_true b, if_pos rfl] at h1
        rw [ex_ret h1, if_pos b]
        exact ⟨_, rfl, ⟨q.l1, q.l2, q.l3, q.l4⟩⟩
      · rw [decide_eq_false b, if_neg (by decide)] at h1
        rw [ex_next h1, if_neg b]
        obtain ⟨ρ', e1, q1⟩ := inner_for A hk l (fun x hx => hl x (.tail _ hx)) (cPl (nD p) ρ) ⟨q.l1, q.l2, q.l3, q.l4⟩ qk
        refine ⟨ρ', ?_, q1⟩
        rw [bHp_eq] at e1
        exact e1
def wl (w : Nat → Nat → Nat) (k : Nat) : List Nat := [w k 0, w k 1, w k 2, w k 3]
theorem outer_for (A : Pairing μ ν) (P : Prefs w m) : ∀ (ks : List Nat), (∀ k ∈ ks, k < 4) → ∀ ρ : Bs, QH μ ν w r ρ →
    ∃ ρ', forW (fun ρ d => exsW (ex CA 19 k13) (cK d ρ) bH) ρ (ks.map nD) = some ((if (ks.any fun k => scan r μ ν k (wl w k)) = true then .ret (.bool false) else .next), ρ') ∧ QH μ ν w r ρ'
  | [], _, ρ, q => ⟨ρ, rfl, q⟩
  | k :: ks, hk, ρ, q => by
    have k4 := hk k (.head _)
    rw [List.map_cons, forW, bH_eq]
    have t : two (ρ.lookup ("wants" : Str)) (nD k) = some (.list ((wl w k).map nD)) := by
      rw [q.l2]
      show itemD (waD w) (nD k) = _
      rw [waD, item4 k4]; rfl
    rw [t]
    obtain ⟨ρ1, e1, q1⟩ := inner_for (w := w) A k4 (wl w k) (fun p hp => by
      simp only [wl, List.mem_cons, List.not_mem_nil, or_false] at hp
      rcases hp with rfl | rfl | rfl | rfl <;> exact P.wlt k k4 _ (by decide)) (cK (nD k) ρ) ⟨q.l1, q.l2, q.l3, q.l4⟩ rfl
    have e1' : ((some (D.list ((wl w k).map nD))).bind fun d => (iterL d).bind fun xs => forW (fun ρ d => exsW (ex CA 18 k13) (cPl d ρ) bHp) (cK (nD k) ρ) xs) = some ((if scan r μ ν k (wl w k) = true then .ret (.bool false) else .next), ρ1) := e1
    rw [e1', List.any_cons]
    by_cases s : scan r μ ν k (wl w k) = true
    · rw [if_pos s, s, Bool.true_or, if_pos rfl]
      exact ⟨ρ1, rfl, q1⟩
    · rw [if_neg s, Bool.eq_false_iff.mpr s, Bool.false_or]
      obtain ⟨ρ2, e2, q2⟩ := outer_for A P ks (fun x hx => hk x (.tail _ hx)) ρ1 q1
      exact ⟨ρ2, e2, q2⟩
theorem scan_iff (P : Prefs w m) (A : Pairing μ ν) {k : Nat} (hk : k < 4) : scan r μ ν k (wl w k) = true ↔ ∃ p < 4, m k p < m k (μ k) ∧ r p k < r p (ν p) := by
  have c4 := P.mlt k hk _ (A.ml k hk)
  have wc := P.wm k hk _ (A.ml k hk)
  have eqi : ∀ i < 4, (w k i = μ k ↔ i = m k (μ k)) := fun i hi => ⟨fun e => by rw [← e, P.mw k hk i hi], fun e => by rw [e]; exact wc⟩
  have e0 := eqi 0 (by decide)
  have e1 := eqi 1 (by decide)
  have e2 := eqi 2 (by decide)
  have e3 := eqi 3 (by decide)
  have right : (∃ p < 4, m k p < m k (μ k) ∧ r p k < r p (ν p)) ↔ ∃ i < m k (μ k), r (w k i) k < r (w k i) (ν (w k i)) := by
    constructor
    · rintro ⟨p, hp, a, b⟩
      exact ⟨m k p, a, by rw [P.wm k hk p hp]; exact b⟩
    · rintro ⟨i, a, b⟩
      have i4 : i < 4 := by omega
      exact ⟨w k i, P.wlt k hk i i4, by rw [P.mw k hk i i4]; exact a, b⟩
  rw [right]
  generalize m k (μ k) = c at *
  have : c = 0 ∨ c = 1 ∨ c = 2 ∨ c = 3 := by omega
  unfold wl scan scan scan scan scan
  simp only [e0, e1, e2, e3]
  rcases this with rfl | rfl | rfl | rfl
  · simp
  · simp only [show ¬ (0 = 1) by decide, if_false, if_true]
    constructor
    · intro h
      refine ⟨0, by decide, ?_⟩
      by_cases z : r (w k 0) k < r (w k 0) (ν (w k 0))
      · exact z
      · simp [z] at h
    · rintro ⟨i, hi, z⟩
      have : i = 0 := by omega
      subst this
      simp [z]
  · simp only [show ¬ (0 = 2) by decide, show ¬ (1 = 2) by decide, if_false, if_true]
    constructor
    · intro h
      by_cases z : r (w k 0) k < r (w k 0) (ν (w k 0))
      · exact ⟨0, by decide, z⟩
      by_cases z1 : r (w k 1) k < r (w k 1) (ν (w k 1))
      · exact ⟨1, by decide, z1⟩
      · simp [z, z1] at h
    · rintro ⟨i, hi, z⟩
      have : i = 0 ∨ i = 1 := by omega
      rcases this with rfl | rfl
      · simp [z]
      · simp [z]
  · simp only [show ¬ (0 = 3) by decide, show ¬ (1 = 3) by decide, show ¬ (2 = 3) by decide, if_false, if_true]
    constructor
    · intro h
      by_cases z : r (w k 0) k < r (w k 0) (ν (w k 0))
      · exact ⟨0, by decide, z⟩
      by_cases z1 : r (w k 1) k < r (w k 1) (ν (w k 1))
      · exact ⟨1, by decide, z1⟩
      by_cases z2 : r (w k 2) k < r (w k 2) (ν (w k 2))
      · exact ⟨2, by decide, z2⟩
      · simp [z, z1, z2] at h
    · rintro ⟨i, hi, z⟩
      have : i = 0 ∨ i = 1 ∨ i = 2 := by omega
      rcases this with rfl | rfl | rfl
      · simp [z]
      · simp [z]
      · simp [z]
theorem holds_eq (P : Prefs w m) (A : Pairing μ ν) : ∃ b, holdsD (n4 μ) (waD w) (waD r) = some (.bool b) ∧ (b = true ↔ Stable m r μ ν) := by
  unfold holdsD
  show ∃ b, retOf (exsW (ex CA 20 k13) (y0 (n4 μ) (waD w) (waD r)) (defN 13).body) = some (.bool b) ∧ _
  rw [holds_body]
  have h0 := hold0 (n4 μ) (waD w) (waD r)
  rw [IX4 A] at h0
  rw [ex_next h0]
  obtain ⟨ρ1, e1, q1⟩ := outer_for (r := r) A P [0, 1, 2, 3] (by decide) (y1 (n4 μ) (waD w) (waD r) (n4 ν)) ⟨rfl, rfl, rfl, rfl⟩
  have h1 := (hold1 (y1 (n4 μ) (waD w) (waD r) (n4 ν))).trans e1
  have key : (([0, 1, 2, 3] : List Nat).any fun k => scan r μ ν k (wl w k)) = true ↔ ¬ Stable m r μ ν := by
    rw [List.any_eq_true]
    constructor
    · rintro ⟨k, hk, s⟩ st
      have k4 : k < 4 := by simp at hk; omega
      obtain ⟨p, hp, a, b⟩ := (scan_iff P A k4).mp s
      exact st k k4 p hp a b
    · intro ns
      refine Classical.byContradiction fun h => ns fun k hk p hp a b => h ⟨k, by simp; omega, (scan_iff P A hk).mpr ⟨p, hp, a, b⟩⟩
  by_cases s : (([0, 1, 2, 3] : List Nat).any fun k => scan r μ ν k (wl w k)) = true
  · rw [if_pos s] at h1
    rw [ex_ret h1]
    exact ⟨false, rfl, by simp [key.mp s]⟩
  · rw [if_neg s] at h1
    rw [ex_next h1, ex_ret (hold2 ρ1)]
    exact ⟨true, rfl, by simp; exact Classical.byContradiction fun h => s (key.mpr h)⟩
end
end Mine
namespace Mine
set_option maxRecDepth 100000
set_option maxHeartbeats 1000000
open GS
/-! lists of ways -/
def AllN (ys : List D) : Prop := ∀ d ∈ ys, ∃ f : Nat → Nat, d = n4 f
theorem allN_pure : ∀ {ys : List D}, AllN ys → pureDs ys = true ∧ PyData.canLayAll0 (pyDs ys) = true ∧ PyData.depthAll (pyDs ys) ≤ 1
  | [], _ => ⟨rfl, rfl, Nat.zero_le _⟩
  | d :: ys, h => by
    obtain ⟨f, rfl⟩ := h d (.head _)
    obtain ⟨a, b, c⟩ := allN_pure (ys := ys) fun x hx => h x (.tail _ hx)
    refine ⟨?_, ?_, ?_⟩
    · show (pureD (n4 f) && pureDs ys) = true
      rw [a]; rfl
    · show (PyData.canLay0 (pyD (n4 f)) && PyData.canLayAll0 (pyDs ys)) = true
      rw [b]; rfl
    · show max (PyData.depth (pyD (n4 f))) (PyData.depthAll (pyDs ys)) ≤ 1
      have : PyData.depth (pyD (n4 f)) = 1 := rfl
      omega
theorem allN_ok {ys : List D} (h : AllN ys) : okD (.list ys) = true := by
  obtain ⟨a, b, c⟩ := allN_pure h
  show (pureDs ys && (PyData.canLayAll0 (pyDs ys) && decide (PyData.depthAll (pyDs ys) + 1 ≤ 64))) = true
  rw [a, b, decide_eq_true (by omega)]; rfl
theorem n4_ok (f : Nat → Nat) : okD (n4 f) = true := rfl
theorem n4_refl (f : Nat → Nat) : PyData.eqv (pyD (n4 f)) (pyD (n4 f)) = true := by
  show (PyData.eqv (.int (f 0)) (.int (f 0)) && (PyData.eqv (.int (f 1)) (.int (f 1)) && (PyData.eqv (.int (f 2)) (.int (f 2)) && (PyData.eqv (.int (f 3)) (.int (f 3)) && true)))) = true
  simp [PyData.eqv]
theorem inD_mem {f : Nat → Nat} : ∀ {ys : List D}, n4 f ∈ ys → inD (n4 f) ys = true
  | d :: ys, h => by
    show (PyData.eqv (pyD d) (pyD (n4 f)) || (pyDs ys).any fun y => PyData.eqv y (pyD (n4 f))) = true
    rcases List.mem_cons.mp h with rfl | h
    · rw [n4_refl]; rfl
    · have := inD_mem (f := f) h
      have e : ((pyDs ys).any fun y => PyData.eqv y (pyD (n4 f))) = true := this
      rw [e, Bool.or_true]
theorem notin_mem {f : Nat → Nat} {ys : List D} (a : AllN ys) (h : n4 f ∈ ys) : cmpD .NotIn (n4 f) (.list ys) = some false := by
  show (if (okD (n4 f) && okD (.list ys)) = true then some (!inD (n4 f) ys) else none) = _
  rw [n4_ok, allN_ok a, inD_mem h]; rfl
theorem ne_self (f : Nat → Nat) : cmpD .NotEq (n4 f) (n4 f) = some false := by
  show (if (okD (n4 f) && okD (n4 f)) = true then some (!(PyData.eqv (pyD (n4 f)) (pyD (n4 f)))) else none) = _
  rw [n4_ok, n4_refl]; rfl
theorem n4_ext {f g : Nat → Nat} (h : ∀ k < 4, f k = g k) : n4 f = n4 g := by
  show D.list [nD (f 0), nD (f 1), nD (f 2), nD (f 3)] = D.list [nD (g 0), nD (g 1), nD (g 2), nD (g 3)]
  rw [h 0 (by decide), h 1 (by decide), h 2 (by decide), h 3 (by decide)]
/-! numbers -/
theorem slc_ints (ns : List Int) (a b c : Option Int) : ∃ us : List Int, slcD (ns.map .int) a b c = us.map .int := by
  unfold slcD
  generalize sliceRange _ _ _ = l
  refine ⟨l.filterMap (ns[·]?), ?_⟩
  rw [List.map_filterMap]
  congr 1
  funext i
  simp
theorem n2_int {ns : List Int} (h : ns.length ≤ 63) {k o : Int} (ho : itemD ownD (.int k) = some (.int o)) : ∃ n, N2 (ns.map .int) (.int k) = some (.int n) := by
  obtain ⟨us, e⟩ := slc_ints ns (some k) none (some 8)
  refine ⟨us.sum + o, ?_⟩
  show ((((if (ns.map D.int).length ≤ 1000 ∧ ((some 8 : Option Int).all fun c => decide (0 < c)) = true then some (D.list (slcD (ns.map .int) (some k) none (some 8))) else none).bind fun sl => some [sl]).bind fun ds => sumD ds).bind fun s => (itemD ownD (.int k)).bind fun o => binD .Add s o) = _
  rw [if_pos ⟨by simp; omega, rfl⟩, e, ho]
  show (((us.map D.int).mapM intD).map fun ns => D.int ns.sum).bind _ = _
  rw [ints_mapM]; rfl
theorem numbers {ns : List Int} (h : ns.length ≤ 63) : ∃ n0 n1 n2 n3 n4 n5 n6 n7 : Int, compD T1 (N2 (ns.map .int)) [.int 0, .int 1, .int 2, .int 3, .int 4, .int 5, .int 6, .int 7] = some [.int n0, .int n1, .int n2, .int n3, .int n4, .int n5, .int n6, .int n7] := by
  obtain ⟨n0, e0⟩ := n2_int h (k := 0) (o := 13) rfl
  obtain ⟨n1, e1⟩ := n2_int h (k := 1) (o := 23) rfl
  obtain ⟨n2, e2⟩ := n2_int h (k := 2) (o := 12) rfl
  obtain ⟨n3, e3⟩ := n2_int h (k := 3) (o := 1) rfl
  obtain ⟨n4, e4⟩ := n2_int h (k := 4) (o := 1) rfl
  obtain ⟨n5, e5⟩ := n2_int h (k := 5) (o := 5) rfl
  obtain ⟨n6, e6⟩ := n2_int h (k := 6) (o := 4) rfl
  obtain ⟨n7, e7⟩ := n2_int h (k := 7) (o := 11) rfl
  refine ⟨n0, n1, n2, n3, n4, n5, n6, n7, ?_⟩
  simp only [compD, T1, e0, e1, e2, e3, e4, e5, e6, e7, Option.bind_eq_bind, Option.bind_some, if_true]
/-! four orders -/
def sel (a b c d : Nat → Nat) (k : Nat) : Nat → Nat := if k = 0 then a else if k = 1 then b else if k = 2 then c else d
theorem sel_prefs {a b c d a' b' c' d' : Nat → Nat} (A : Pairing a a') (B : Pairing b b') (C : Pairing c c') (Dd : Pairing d d') : Prefs (sel a b c d) (sel a' b' c' d') := by
  have all : ∀ k < 4, Pairing (sel a b c d k) (sel a' b' c' d' k) := fun k hk => by
    have : k = 0 ∨ k = 1 ∨ k = 2 ∨ k = 3 := by omega
    rcases this with rfl | rfl | rfl | rfl
    · exact A
    · exact B
    · exact C
    · exact Dd
  exact ⟨fun k hk => (all k hk).ml, fun k hk => (all k hk).nl, fun k hk => (all k hk).nm, fun k hk => (all k hk).mn⟩
theorem perm_n4 {l : List Int} {f g : Nat → Nat} (P : Perm4 l f g) : D.list (l.map .int) = n4 f := by
  rw [P.eq]; rfl
theorem IXs {a b c d a' b' c' d' : Nat → Nat} (A : Pairing a a') (B : Pairing b b') (C : Pairing c c') (Dd : Pairing d d') : compD T1 IX [n4 a, n4 b, n4 c, n4 d] = some [n4 a', n4 b', n4 c', n4 d'] := by
  simp only [compD, T1, IX4 A, IX4 B, IX4 C, IX4 Dd, Option.bind_eq_bind, Option.bind_some, if_true]
/-! the stable ways -/
section
variable {w m r : Nat → Nat → Nat}
theorem stable_list (P : Prefs w m) : ∃ st : List D, compD (fun x => (holD [x, waD w, waD r]).bind truthD) (fun x => some x) all24D = some st ∧ (∀ d ∈ st, ∃ f g, Pairing f g ∧ Stable m r f g ∧ d = n4 f) ∧ (∀ f g, Pairing f g → Stable m r f g → n4 f ∈ st) := by
  have go : ∀ L : List (List Int), (∀ l ∈ L, ∃ f g, Perm4 l f g) → ∃ st : List D, compD (fun x => (holD [x, waD w, waD r]).bind truthD) (fun x => some x) (L.map fun l => .list (l.map .int)) = some st ∧ (∀ d ∈ st, ∃ f g, Pairing f g ∧ Stable m r f g ∧ d = n4 f) ∧
      (∀ f g, Pairing f g → Stable m r f g → [(f 0 : Int), f 1, f 2, f 3] ∈ L → n4 f ∈ st) := by
    intro L
    induction L with
    | nil => intro _; exact ⟨[], rfl, nofun, fun _ _ _ _ h => nomatch h⟩
    | cons l L ih =>
      intro h
      obtain ⟨f, g, pf⟩ := h l (.head _)
      obtain ⟨st, e, q1, q2⟩ := ih fun x hx => h x (.tail _ hx)
      obtain ⟨b, eb, ib⟩ := holds_eq (r := r) P pf.pair
      have hb : (holD [D.list (l.map .int), waD w, waD r]).bind truthD = some b := by
        rw [perm_n4 pf]
        show (holdsD (n4 f) (waD w) (waD r)).bind truthD = _
        rw [eb]; rfl
      rw [List.map_cons, compD, hb]
      cases b with
      | true =>
        refine ⟨n4 f :: st, ?_, fun d hd => ?_, fun f' g' a s hm => ?_⟩
        · show (compD _ _ _).bind _ = _
          rw [e, perm_n4 pf]; rfl
        · rcases List.mem_cons.mp hd with rfl | hd
          · exact ⟨f, g, pf.pair, ib.mp rfl, rfl⟩
          · exact q1 d hd
        · rcases List.mem_cons.mp hm with z | z
          · have : n4 f' = n4 f := by rw [← perm_n4 pf, ← z]; rfl
            rw [this]; exact .head _
          · exact .tail _ (q2 f' g' a s z)
      | false =>
        refine ⟨st, ?_, q1, fun f' g' a s hm => ?_⟩
        · show compD _ _ _ = _
          exact e
        · rcases List.mem_cons.mp hm with z | z
          · exfalso
            have ef : ∀ k < 4, f' k = f k := fun k hk => by
              have z := z.trans pf.eq
              simp only [List.cons.injEq, Int.natCast_inj, and_true] at z
              have : k = 0 ∨ k = 1 ∨ k = 2 ∨ k = 3 := by omega
              rcases this with rfl | rfl | rfl | rfl
              · exact z.1
              · exact z.2.1
              · exact z.2.2.1
              · exact z.2.2.2
            have eg : ∀ p < 4, g p = g' p := fun p hp => by
              have h1 := a.mn p hp
              rw [ef _ (a.nl p hp)] at h1
              have := pf.pair.nm (g' p) (a.nl p hp)
              rw [h1] at this
              exact this
            have : Stable m r f g := fun k hk p hp h => by
              rw [eg p hp]
              exact s k hk p hp (by rw [ef k hk]; exact h)
            exact absurd (ib.mpr this) (by decide)
          · exact q2 f' g' a s z
  obtain ⟨st, e, q1, q2⟩ := go all24 fun l hl => all24_perm hl
  exact ⟨st, e, q1, fun f g a s => q2 f g a s (all24_mem a)⟩
end
theorem forW_all {f : Bs → D → Option (Fl × Bs)} {Q : Bs → Prop} : ∀ (xs : List D), (∀ d ∈ xs, ∀ ρ, Q ρ → ∃ ρ', f ρ d = some (.next, ρ') ∧ Q ρ') → ∀ ρ, Q ρ → ∃ ρ', forW f ρ xs = some (.next, ρ') ∧ Q ρ'
  | [], _, ρ, q => ⟨ρ, rfl, q⟩
  | d :: xs, h, ρ, q => by
    obtain ⟨ρ1, e1, q1⟩ := h d (.head _) ρ q
    obtain ⟨ρ2, e2, q2⟩ := forW_all xs (fun x hx => h x (.tail _ hx)) ρ1 q1
    exact ⟨ρ2, by rw [forW, e1]; exact e2, q2⟩
end Mine
namespace Mine
set_option maxRecDepth 100000
set_option maxHeartbeats 1000000
open GS
structure QL (m r : Nat → Nat → Nat) (be wo : Nat → Nat) (st : List D) (ρ : Bs) : Prop where
  l1 : ρ.lookup ("marks" : Str) = some (waD m)
  l2 : ρ.lookup ("ranks" : Str) = some (waD r)
  l3 : ρ.lookup ("best" : Str) = some (n4 be)
  l4 : ρ.lookup ("worst" : Str) = some (n4 wo)
  l5 : ρ.lookup ("stable" : Str) = some (.list st)
theorem cell_eq {m : Nat → Nat → Nat} {k j : Nat} (hk : k < 4) (hj : j < 4) : cell2 (some (waD m)) (nD k) (some (nD j)) = some (nD (m k j)) := by
  show (itemD (waD m) (nD k)).bind (fun row => itemD row (nD j)) = _
  rw [waD, item4 hk, Option.bind_some, item4 hj]
theorem two_eq {f : Nat → Nat} {k : Nat} (hk : k < 4) : two (some (n4 f)) (nD k) = some (nD (f k)) := by
  show itemD (n4 f) (nD k) = _
  rw [n4, item4 hk]
theorem ixo_eq {f g : Nat → Nat} (P : Pairing f g) {k : Nat} (hk : k < 4) : ixo (some (n4 f)) (nD k) = some (nD (g k)) := index4 P hk
theorem four (P : D → Prop) (h : ∀ k < 4, P (nD k)) : ∀ d ∈ ([.int 0, .int 1, .int 2, .int 3] : List D), P d := by
  intro d hd
  simp only [List.mem_cons, List.not_mem_nil, or_false] at hd
  rcases hd with rfl | rfl | rfl | rfl
  · exact h 0 (by decide)
  · exact h 1 (by decide)
  · exact h 2 (by decide)
  · exact h 3 (by decide)
section
variable {w m r : Nat → Nat → Nat} {μ ν μ3 ν3 : Nat → Nat} {st : List D}
theorem body15 (P : Prefs w m) {v : Nat → Nat → Nat} (PV : Prefs v r) (B1 : Best m r μ ν) (B3 : Best r m μ3 ν3) {f g : Nat → Nat} (A : Pairing f g) (s : Stable m r f g) {ρ : Bs} (q : QL m r μ ν3 st ρ) :
    ∃ ρ', exsW (ex CZ 39 k14) (cX (n4 f) ρ) b15 = some (.next, ρ') ∧ QL m r μ ν3 st ρ' := by
  rw [b15_eq]
  obtain ⟨ρ', e, q'⟩ := forW_all (f := fun ρ d => exsW (ex CZ 38 k14) (cK d ρ) b15k) (Q := fun ρ => QL m r μ ν3 st ρ ∧ ρ.lookup ("match" : Str) = some (n4 f)) [.int 0, .int 1, .int 2, .int 3] (four (fun d => ∀ ρ, (QL m r μ ν3 st ρ ∧ ρ.lookup ("match" : Str) = some (n4 f)) → ∃ ρ', exsW (ex CZ 38 k14) (cK d ρ) b15k = some (.next, ρ') ∧ (QL m r μ ν3 st ρ' ∧ ρ'.lookup ("match" : Str) = some (n4 f))) fun k hk ρ q => by
    obtain ⟨q, qm⟩ := q
    have h0 := s15_0 ρ (nD k)
    rw [q.l1, q.l3, q.l4, qm, two_eq hk, two_eq hk, two_eq hk, cell_eq hk (B1.pair.ml k hk), cell_eq hk (A.ml k hk), cell_eq hk (B3.pair.nl k hk)] at h0
    simp only [Option.bind_some] at h0
    rw [gt_nat, gt_nat] at h0
    have o1 := B1.opt f g A s k hk
    have o2 := best_worst PV B3 A.swap s.swap hk
    rw [decide_eq_false (by omega), decide_eq_false (by omega)] at h0
    simp only [Option.bind_some, Bool.false_eq_true, if_false] at h0
    have h1 := s15_1 ρ (nD k)
    rw [q.l2, qm, ixo_eq A hk, cell_eq hk (A.nl k hk)] at h1
    simp only [Option.bind_some] at h1
    have h2 := s15_2 ρ (nD k) (nD (r k (g k)))
    rw [q.l2, q.l3, q.l4, ixo_eq B3.pair.swap hk, ixo_eq B1.pair hk, cell_eq hk (B3.pair.ml k hk), cell_eq hk (B1.pair.nl k hk)] at h2
    simp only [Option.bind_some] at h2
    rw [gt_nat, gt_nat] at h2
    have o3 := B3.opt g f A.swap s.swap k hk
    have o4 := best_worst P B1 A s hk
    rw [decide_eq_false (by omega), decide_eq_false (by omega)] at h2
    simp only [Option.bind_some, Bool.false_eq_true, if_false] at h2
    refine ⟨cM (nD (r k (g k))) (cK (nD k) ρ), ?_, ⟨⟨q.l1, q.l2, q.l3, q.l4, q.l5⟩, qm⟩⟩
    rw [b15k_eq, ex_next h0, ex_next h1, ex_next h2]; rfl) (cX (n4 f) ρ) ⟨⟨q.l1, q.l2, q.l3, q.l4, q.l5⟩, rfl⟩
  exact ⟨ρ', by rw [e]; rfl, q'.1⟩
theorem PR_eq (P : Prefs w m) {f f' : Nat → Nat} (fl : ∀ k < 4, f k < 4) (fl' : ∀ k < 4, f' k < 4) {k : Nat} (hk : k < 4) :
    PR (some (waD m)) (some (n4 f)) (some (n4 f')) (nD k) = some (.list [.tuple [nD (m k (join m f f' k)), nD (join m f f' k)], .tuple [nD (m k (meet m f f' k)), nD (meet m f f' k)]]) := by
  have p1 : ∀ {f : Nat → Nat}, (∀ k < 4, f k < 4) → P1 (some (waD m)) (some (n4 f)) (nD k) = some (.tuple [nD (m k (f k)), nD (f k)]) := fun {f} fl => by
    unfold P1
    rw [two_eq hk, cell_eq hk (fl k hk)]; rfl
  unfold PR
  rw [p1 fl, p1 fl']
  show sortD [.list [.tuple [.int (m k (f k) : Nat), .int (f k : Nat)], .tuple [.int (m k (f' k) : Nat), .int (f' k : Nat)]]] = _
  show some (D.list (if ltPair (m k (f' k) : Nat) (f' k : Nat) (m k (f k) : Nat) (f k : Nat) = true then _ else _)) = _
  have hl : ltPair (m k (f' k) : Nat) (f' k : Nat) (m k (f k) : Nat) (f k : Nat) = decide (m k (f' k) < m k (f k)) := by
    unfold ltPair
    by_cases e : m k (f' k) = m k (f k)
    · have := P.inj hk (fl' k hk) (fl k hk) e
      rw [this]; simp
    · rw [if_neg (by omega), Bool.eq_iff_iff, decide_eq_true_eq, decide_eq_true_eq]; omega
  rw [hl]
  unfold join meet
  by_cases b : m k (f' k) < m k (f k)
  · rw [decide_eq_true b, if_pos rfl, if_pos b, if_pos b]; rfl
  · rw [decide_eq_false b, if_neg (by decide), if_neg b, if_neg b]; rfl
theorem body16 (P : Prefs w m) (rinj : ∀ p < 4, ∀ k < 4, ∀ j < 4, r p k = r p j → k = j) (an : AllN st) (hst : ∀ f g, Pairing f g → Stable m r f g → n4 f ∈ st) {f g f' g' : Nat → Nat} (A : Pairing f g) (s : Stable m r f g) (A' : Pairing f' g') (s' : Stable m r f' g')
    {be wo : Nat → Nat} {ρ : Bs} (q : QL m r be wo st ρ) (qo : ρ.lookup ("one" : Str) = some (n4 f)) : ∃ ρ', exsW (ex CZ 38 k14) (cT (n4 f') ρ) b16t = some (.next, ρ') ∧ (QL m r be wo st ρ' ∧ ρ'.lookup ("one" : Str) = some (n4 f)) := by
  have h0 := s16_0 (cT (n4 f') ρ)
  rw [pairs_eq, FL_eq (by kernel_rfl), FL_eq (by kernel_rfl), q.l1, qo] at h0
  have c := comp4 (F := PR (some (waD m)) (some (n4 f)) (some (n4 f'))) (fun k hk => PR_eq P A.ml A'.ml hk)
  rw [show compD T1 (PR (some (waD m)) (some (n4 f)) (some (n4 f'))) [.int 0, .int 1, .int 2, .int 3] = _ from c] at h0
  have h1 := s16_1 (cT (n4 f') ρ) (.list [.tuple [nD (m 0 (join m f f' 0)), nD (join m f f' 0)], .tuple [nD (m 0 (meet m f f' 0)), nD (meet m f f' 0)]]) (.list [.tuple [nD (m 1 (join m f f' 1)), nD (join m f f' 1)], .tuple [nD (m 1 (meet m f f' 1)), nD (meet m f f' 1)]])
    (.list [.tuple [nD (m 2 (join m f f' 2)), nD (join m f f' 2)], .tuple [nD (m 2 (meet m f f' 2)), nD (meet m f f' 2)]]) (.list [.tuple [nD (m 3 (join m f f' 3)), nD (join m f f' 3)], .tuple [nD (m 3 (meet m f f' 3)), nD (meet m f f' 3)]])
  obtain ⟨ρj, Pj⟩ := inj_pairing (join_lt P rinj A s A' s') (join_inj P rinj A s A' s')
  obtain ⟨ρm, Pm⟩ := inj_pairing (meet_lt P rinj A s A' s') (meet_inj P rinj A s A' s')
  have mj := hst _ _ Pj (join_stable P rinj A s A' s' Pj)
  have mm := hst _ _ Pm (meet_stable P rinj A s A' s' Pm)
  have stl : (cT (n4 f') ρ).lookup ("stable" : Str) = some (.list st) := q.l5
  rw [stl] at h1
  have nj : cmpD .NotIn (.list [nD (join m f f' 0), nD (join m f f' 1), nD (join m f f' 2), nD (join m f f' 3)]) (.list st) = some false := notin_mem an mj
  have nm : cmpD .NotIn (.list [nD (meet m f f' 0), nD (meet m f f' 1), nD (meet m f f' 2), nD (meet m f f' 3)]) (.list st) = some false := notin_mem an mm
  have cj : ∀ (a b c d a' b' c' d' x y z u x' y' z' u' : D), (compD T1 (PA 0) [.list [.tuple [a, x], .tuple [a', x']], .list [.tuple [b, y], .tuple [b', y']], .list [.tuple [c, z], .tuple [c', z']], .list [.tuple [d, u], .tuple [d', u']]]).bind listD = some (.list [x, y, z, u]) := fun _ _ _ _ _ _ _ _ _ _ _ _ _ _ _ _ => rfl
  have cm : ∀ (a b c d a' b' c' d' x y z u x' y' z' u' : D), (compD T1 (PA 1) [.list [.tuple [a, x], .tuple [a', x']], .list [.tuple [b, y], .tuple [b', y']], .list [.tuple [c, z], .tuple [c', z']], .list [.tuple [d, u], .tuple [d', u']]]).bind listD = some (.list [x', y', z', u']) := fun _ _ _ _ _ _ _ _ _ _ _ _ _ _ _ _ => rfl
  rw [cj, cm] at h1
  simp only [Option.bind_some] at h1
  rw [nj, nm] at h1
  simp only [Option.bind_some, Bool.false_eq_true, if_false] at h1
  rw [b16t_eq, ex_next (h0.trans rfl), ex_next h1]
  exact ⟨_, rfl, ⟨q.l1, q.l2, q.l3, q.l4, q.l5⟩, qo⟩
end
end Mine
namespace Mine
set_option maxRecDepth 100000
set_option maxHeartbeats 1000000
open GS
theorem toD_done {S : GS.St} {ν : Nat → Nat} (hf : S.free = []) (hh : ∀ p < 4, S.held p = some (ν p)) : toD S = .tuple [.list [], n4 S.tried, n4 ν] := by
  show D.tuple [.list (S.free.map nD), n4 S.tried, .list [oD (S.held 0), oD (S.held 1), oD (S.held 2), oD (S.held 3)]] = _
  rw [hf, hh 0 (by decide), hh 1 (by decide), hh 2 (by decide), hh 3 (by decide)]
  rfl
theorem law_plain (ns : List Int) (h : ns.length ≤ 63) : LawPlain ns := by
  obtain ⟨n0, n1, n2, n3, n4', n5, n6, n7, en⟩ := numbers h
  obtain ⟨f0, g0, P0⟩ := ordZ_perm n0
  obtain ⟨f1, g1, P1⟩ := ordZ_perm n1
  obtain ⟨f2, g2, P2⟩ := ordZ_perm n2
  obtain ⟨f3, g3, P3⟩ := ordZ_perm n3
  obtain ⟨f4, g4, P4⟩ := ordZ_perm n4'
  obtain ⟨f5, g5, P5⟩ := ordZ_perm n5
  obtain ⟨f6, g6, P6⟩ := ordZ_perm n6
  obtain ⟨f7, g7, P7⟩ := ordZ_perm n7
  have PW := sel_prefs P0.pair P1.pair P2.pair P3.pair
  have PV := sel_prefs P4.pair P5.pair P6.pair P7.pair
  have ix1 := IXs P0.pair P1.pair P2.pair P3.pair
  have ix2 := IXs P4.pair P5.pair P6.pair P7.pair
  have wE : D.list [n4 f0, n4 f1, n4 f2, n4 f3] = waD (sel f0 f1 f2 f3) := rfl
  have mE : D.list [n4 g0, n4 g1, n4 g2, n4 g3] = waD (sel g0 g1 g2 g3) := rfl
  have vE : D.list [n4 f4, n4 f5, n4 f6, n4 f7] = waD (sel f4 f5 f6 f7) := rfl
  have rE : D.list [n4 g4, n4 g5, n4 g6, n4 g7] = waD (sel g4 g5 g6 g7) := rfl
  let sc : D := .list (ns.map .int)
  let nu : D := .list [.int n0, .int n1, .int n2, .int n3, .int n4', .int n5, .int n6, .int n7]
  have e0 : ex CZ 40 k14 [("script", sc)] (zS 0) = some (.next, z1 sc) := law0 sc
  have e1 : ex CZ 40 k14 (z1 sc) (zS 1) = some (.next, z2 sc) := law1 sc
  have e2 : ex CZ 40 k14 (z2 sc) (zS 2) = some (.next, z3 sc nu) := by
    rw [law2, en]; rfl
  have e3 : ex CZ 40 k14 (z3 sc nu) (zS 3) = some (.next, z4 sc nu (waD (sel f0 f1 f2 f3))) := by
    rw [law3, perm_n4 P0, perm_n4 P1, perm_n4 P2, perm_n4 P3, wE]
  have e4 : ex CZ 40 k14 (z4 sc nu (waD (sel f0 f1 f2 f3))) (zS 4) = some (.next, z5 sc nu (waD (sel f0 f1 f2 f3)) (waD (sel f4 f5 f6 f7))) := by
    rw [law4, perm_n4 P4, perm_n4 P5, perm_n4 P6, perm_n4 P7, vE]
  have e5 : ex CZ 40 k14 (z5 sc nu (waD (sel f0 f1 f2 f3)) (waD (sel f4 f5 f6 f7))) (zS 5) = some (.next, z6 sc nu (waD (sel f0 f1 f2 f3)) (waD (sel f4 f5 f6 f7)) (waD (sel g0 g1 g2 g3))) := by
    rw [← wE, law5, ix1]
    show some (Fl.next, z6 sc nu _ _ (D.list [n4 g0, n4 g1, n4 g2, n4 g3])) = _
    rw [mE]
  have e6 : ex CZ 40 k14 (z6 sc nu (waD (sel f0 f1 f2 f3)) (waD (sel f4 f5 f6 f7)) (waD (sel g0 g1 g2 g3))) (zS 6) = some (.next, z7 sc nu (waD (sel f0 f1 f2 f3)) (waD (sel f4 f5 f6 f7)) (waD (sel g0 g1 g2 g3)) (waD (sel g4 g5 g6 g7))) := by
    rw [← vE, law6, ix2]
    show some (Fl.next, z7 sc nu _ _ _ (D.list [n4 g4, n4 g5, n4 g6, n4 g7])) = _
    rw [rE]
  clear wE mE vE rE ix1 ix2
  generalize sel f0 f1 f2 f3 = w at *
  generalize sel g0 g1 g2 g3 = m at *
  generalize sel f4 f5 f6 f7 = v at *
  generalize sel g4 g5 g6 g7 = r at *
  have rinj : ∀ p < 4, ∀ k < 4, ∀ j < 4, r p k = r p j → k = j := fun p hp k hk j hj e => PV.inj hp hk hj e
  have minj : ∀ p < 4, ∀ k < 4, ∀ j < 4, m p k = m p j → k = j := fun p hp k hk j hj e => PW.inj hp hk hj e
  obtain ⟨F1, μ1, ν1, B1, H1⟩ := run_best PW rinj false
  obtain ⟨F2, μ2, ν2, B2, H2⟩ := run_best PW rinj true
  obtain ⟨F3, μ3, ν3, B3, H3⟩ := run_best PV minj false
  have r1 := run_eq false (wh := 0) (.inl rfl) PW rinj
  have r2 := run_eq true (wh := 1) (.inr (.inl rfl)) PW rinj
  have r3 := run_eq false (wh := 2) (.inr (.inr rfl)) PV minj
  rw [toD_done F1 H1] at r1
  rw [toD_done F2 H2, n4_ext (f := ν2) (g := ν1) fun p hp => ((best_eq PW B2 B1).2 p hp)] at r2
  rw [toD_done F3 H3] at r3
  generalize n4 (steps w r false 16 S0).tried = q1 at r1
  generalize n4 (steps w r true 16 S0).tried = q2 at r2
  generalize n4 (steps v m false 16 S0).tried = q3 at r3
  let fi : D := .tuple [.list [], q1, n4 ν1]
  let se : D := .tuple [.list [], q2, n4 ν1]
  let th : D := .tuple [.list [], q3, n4 ν3]
  have e7 : ex CZ 40 k14 (z7 sc nu (waD w) (waD v) (waD m) (waD r)) (zS 7) = some (.next, z8 sc nu (waD w) (waD v) (waD m) (waD r) fi) := by
    rw [law7]
    show (runD (waD w) (waD r) (.int 0) (.bool false)).bind _ = _
    rw [r1]; rfl
  have e8 : ex CZ 40 k14 (z8 sc nu (waD w) (waD v) (waD m) (waD r) fi) (zS 8) = some (.next, z9 sc nu (waD w) (waD v) (waD m) (waD r) fi se) := by
    rw [law8]
    show (runD (waD w) (waD r) (.int 1) (.bool true)).bind _ = _
    rw [r2]; rfl
  have e9 : ex CZ 40 k14 (z9 sc nu (waD w) (waD v) (waD m) (waD r) fi se) (zS 9) = some (.next, z10 sc nu (waD w) (waD v) (waD m) (waD r) fi se th) := by
    rw [law9]
    show (runD (waD v) (waD m) (.int 2) (.bool false)).bind _ = _
    rw [r3]; rfl
  have nil : cmpD .NotEq (.list []) (.list []) = some false := by kernel_rfl
  have e10 : ex CZ 40 k14 (z10 sc nu (waD w) (waD v) (waD m) (waD r) fi se th) (zS 10) = some (.next, z10 sc nu (waD w) (waD v) (waD m) (waD r) fi se th) := by
    rw [law10, nil, ne_self]; rfl
  have e11 : ex CZ 40 k14 (z10 sc nu (waD w) (waD v) (waD m) (waD r) fi se th) (zS 11) = some (.next, z11 sc nu (waD w) (waD v) (waD m) (waD r) fi se th (n4 μ1)) := by
    rw [law11, IX4 B1.pair.swap]; rfl
  have e12 : ex CZ 40 k14 (z11 sc nu (waD w) (waD v) (waD m) (waD r) fi se th (n4 μ1)) (zS 12) = some (.next, z12 sc nu (waD w) (waD v) (waD m) (waD r) fi se th (n4 μ1) (n4 ν3)) := law12 ..
  obtain ⟨st, es, s1, s2⟩ := stable_list (r := r) PW
  have an : AllN st := fun d hd => by
    obtain ⟨f, g, _, _, e⟩ := s1 d hd
    exact ⟨f, e⟩
  have e13 : ex CZ 40 k14 (z12 sc nu (waD w) (waD v) (waD m) (waD r) fi se th (n4 μ1) (n4 ν3)) (zS 13) = some (.next, z13 sc nu (waD w) (waD v) (waD m) (waD r) fi se th (n4 μ1) (n4 ν3) (.list st)) := by
    rw [law13, es]; rfl
  have e14 : ex CZ 40 k14 (z13 sc nu (waD w) (waD v) (waD m) (waD r) fi se th (n4 μ1) (n4 ν3) (.list st)) (zS 14) = some (.next, z13 sc nu (waD w) (waD v) (waD m) (waD r) fi se th (n4 μ1) (n4 ν3) (.list st)) := by
    rw [law14, notin_mem an (s2 _ _ B1.pair B1.stab), notin_mem an (s2 _ _ B3.pair.swap B3.stab.swap)]; rfl
  have q0 : QL m r μ1 ν3 st (z13 sc nu (waD w) (waD v) (waD m) (waD r) fi se th (n4 μ1) (n4 ν3) (.list st)) := ⟨rfl, rfl, rfl, rfl, rfl⟩
  obtain ⟨ρ1, h15, q15⟩ := forW_all (f := fun ρ d => exsW (ex CZ 39 k14) (cX d ρ) b15) (Q := QL m r μ1 ν3 st) st (fun d hd ρ q => by
    obtain ⟨f, g, A, s, rfl⟩ := s1 d hd
    exact body15 PW PV B1 B3 A s q) _ q0
  have e15 := (law15 sc nu (waD w) (waD v) (waD m) (waD r) fi se th (n4 μ1) (n4 ν3) st).trans h15
  obtain ⟨ρ2, h16, q16⟩ := forW_all (f := fun ρ d => exsW (ex CZ 39 k14) (cO d ρ) b16) (Q := QL m r μ1 ν3 st) st (fun d hd ρ q => by
    obtain ⟨f, g, A, s, rfl⟩ := s1 d hd
    obtain ⟨ρ', e, q'⟩ := forW_all (f := fun ρ d => exsW (ex CZ 38 k14) (cT d ρ) b16t) (Q := fun ρ => QL m r μ1 ν3 st ρ ∧ ρ.lookup ("one" : Str) = some (n4 f)) st (fun d' hd' ρ q => by
      obtain ⟨f', g', A', s', rfl⟩ := s1 d' hd'
      exact body16 PW rinj an s2 A s A' s' q.1 q.2) (cO (n4 f) ρ) ⟨⟨q.l1, q.l2, q.l3, q.l4, q.l5⟩, rfl⟩
    refine ⟨ρ', ?_, q'.1⟩
    rw [b16_eq, q.l5]
    have e' : ((some (D.list st)).bind fun d => (iterL d).bind fun xs => forW (fun ρ d => exsW (ex CZ 38 k14) (cT d ρ) b16t) (cO (n4 f) ρ) xs) = some (.next, ρ') := e
    rw [e']; rfl) ρ1 q15
  have e16 : ex CZ 40 k14 ρ1 (zS 16) = some (.next, ρ2) := by
    rw [law16, q15.l5]
    exact h16
  refine ⟨ρ2, ?_⟩
  show exsW (ex CZ 40 k14) [("script", sc)] (defN 14).body = _
  rw [law_body, ex_next e0, ex_next e1, ex_next e2, ex_next e3, ex_next e4, ex_next e5, ex_next e6, ex_next e7, ex_next e8, ex_next e9, ex_next e10, ex_next e11, ex_next e12, ex_next e13, ex_next e14, ex_next e15, ex_next e16, ex_ret (law17 ρ2)]
end Mine
namespace Mine
set_option maxRecDepth 100000
set_option maxHeartbeats 8000000
theorem look_filter {l : List (Nat × Obj)} {p : Nat × Obj → Bool} {a : Nat} {o : Obj} (h : ∀ x y, p (a, x) = p (a, y)) (e : (l.filter p).lookup a = some o) : l.lookup a = some o := by
  induction l with
  | nil => cases e
  | cons x l ih =>
    obtain ⟨b, ob⟩ := x
    rw [List.filter_cons] at e
    rw [List.lookup_cons]
    by_cases hp : p (b, ob) = true
    · rw [if_pos hp, List.lookup_cons] at e
      cases hb : a == b with
      | true => rw [hb] at e; exact e
      | false => rw [hb] at e; exact ih e
    · rw [if_neg hp] at e
      cases hb : a == b with
      | true =>
        have := beq_iff_eq.mp hb
        subst this
        exfalso
        have m := mem_of_look e
        have m2 := (List.mem_filter.mp m).2
        rw [h o ob] at m2
        exact hp m2
      | false => exact ih e
theorem start {w : World} {h : Heap} (KX : (Mine.hdx.heap_39 w.params).In h) : InvH w h := by
  have k2 : Frag.In (K2 w.params) h := fun a o e => KX a o (look_filter (fun _ _ => rfl) e)
  refine ⟨k2, ⟨#[], ⟨⟨_, _, _, _, _, _, _, _, _, _, KX 41 _ rfl, rfl, rfl, rfl, rfl, rfl, rfl, KX 37 _ rfl, rfl, trivial, by decide⟩, ⟨⟨_, _, KX 41 _ rfl, rfl, rfl, rfl⟩, KX 37 _ rfl⟩⟩, fun v e => nomatch e⟩,
    ⟨#[], ⟨⟨_, _, _, _, _, _, _, _, _, _, KX 63 _ rfl, rfl, rfl, rfl, rfl, rfl, rfl, KX 59 _ rfl, rfl, trivial, by decide⟩, ⟨⟨_, _, KX 63 _ rfl, rfl, rfl, rfl⟩, KX 59 _ rfl⟩⟩, fun v e => nomatch e⟩,
    ⟨#[], ⟨⟨_, _, _, _, _, _, _, _, _, _, KX 75 _ rfl, rfl, rfl, rfl, rfl, rfl, rfl, KX 73 _ rfl, rfl, trivial, by decide⟩, ⟨⟨_, _, KX 75 _ rfl, rfl, rfl, rfl⟩, KX 73 _ rfl⟩⟩, fun v e => nomatch e⟩⟩
theorem oldk {w : World} {h h' : Heap} (KX : (Mine.hdx.heap_39 w.params).In h) (k : Kp XTH h h') (I : InvH w h') : OldK h h' := by
  have S := start KX
  have tb : ∀ a, XTH a → isCodeTable h a ∧ h.get? a = some { cls := .none, data := .fields #[] } := by
    rintro a (rfl | rfl | rfl)
    · exact ⟨⟨41, _, _, KX 41 _ rfl, rfl, rfl, rfl⟩, KX 37 _ rfl⟩
    · exact ⟨⟨63, _, _, KX 63 _ rfl, rfl, rfl, rfl⟩, KX 59 _ rfl⟩
    · exact ⟨⟨75, _, _, KX 75 _ rfl, rfl, rfl, rfl⟩, KX 73 _ rfl⟩
  refine ⟨fun b o e => ?_, fun b o e => ?_⟩
  · by_cases xb : XTH b
    · obtain ⟨c, e0⟩ := tb b xb
      rw [e] at e0; cases e0
      obtain ⟨ps, ep, _⟩ := I.table xb
      exact .inr (.inl ⟨c, rfl, #[], ps, rfl, by rw [ep]; simp⟩)
    · exact .inl (k.at' b o xb e)
  · by_cases xb : XTH b
    · obtain ⟨ps, ep, _⟩ := I.table xb
      exact ⟨_, ep⟩
    · exact ⟨o, k.at' b o xb e⟩
theorem yok_none {h : Heap} : YOK XN h := fun _ z => z.elim
theorem fin1 {w : World} {s₁ : Shared} {ns : List Int} {l : Addr} {vs : List Value} {c : ClaimW} {cl : Str → Option Addr} {mean : ExcName → Option Value} {args : List WData} (plain : LawPlain ns) (KX : (Mine.hdx.heap_39 w.params).In s₁.heap) (hg : s₁.gens = #[])
    (hI : IntsAre vs ns) (hL : s₁.heap.IsList l vs.toArray) (hW : Well w.params s₁.heap (.ref l) (ofPy (.list (ns.map .int)))) (hr : ∀ cls, c.raises args cls = false) (hp : c.post args (.bool true) args = true) :
    wpAny (model P w) callerA (PySem.call (.ref 86) [.ref l]) (fun v s' => GoodWG c cl mean args s₁ (.ok (.ret v)) s') (fun e s' => GoodWG c cl mean args s₁ (.error e) s') s₁ := by
  have I := start KX
  have pl : s₁.heap.PlainList l vs.toArray := by
    have hW' : ∃ xs, Well w.params s₁.heap (.ref l) (.list xs) := ⟨_, hW⟩
    obtain ⟨xs, hW'⟩ := hW'
    cases hW' with | list e _ =>
    obtain ⟨o, e', _, n, d⟩ := hL
    rw [e] at e'; cases e'; cases d
    exact ⟨_, e⟩
  have r : Reps (OH w) XN s₁.heap [.ref l] [.list (ns.map .int)] := .cons (.list pl (fun z => z) (ints_rep hI)) .nil
  obtain ⟨h, gg, dd, tt, os⟩ := s₁
  refine wpAny_mono (lawS (Y := XN) r I yok_none rfl (by decide) (by decide) plain) ?_ fun _ _ z => z.elim
  rintro v _ ⟨h', tk, rfl, k, i, rv⟩
  cases rv
  exact ⟨.inl ⟨_, _, [], rfl, hr, ReadsW.bool true, hp, fun _ => ⟨List.nodup_nil, fun _ hm => (nomatch hm)⟩⟩, oldk KX k i, rfl, .of_eq hg⟩
theorem fin (plain : ∀ ns : List Int, ns.length ≤ 63 → LawPlain ns) : PySem.Challenge.rw_ek5003_01.Holds := hdx (by
  k_fill
  intro w s₀ s₁ mg mb G Y fa o pm cd doc dV kV ho hd hcd hD hmg hg args vals as hpre hlay hrd hwl hlo
  have KX := kIn_of Y
  refine Ground.open G ?_
  intro T B D TE TW
  wrow_args hpre hlay hrd hwl hlo
  x_fa T KX hmg
  clear T B D TE TW G Y hmg ho hd hcd hD
  rename IntsAre _ _ => hI
  rename Well _ _ _ _ => hW
  rename Heap.IsList _ _ _ => hL
  rename ¬ _ < _ => hlen
  exact fin1 (plain _ (by omega)) KX hg hI hL hW (fun _ => rfl) (by first | wrow_post | kernel_rfl))
end Mine
theorem PySem.Challenge.cw_ek5003_01_holds : PySem.Challenge.rw_ek5003_01.Holds := by
  exact Mine.fin Mine.law_plain
