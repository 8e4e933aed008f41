import PyProof.Rows.All
import Wide.All
import OpenK.AllK
import Wide.FinOn
import KE.BytesMake
import KE.KBytesCut
import KE.KSortKey
import Lean
import PySem.Challenge.RW_ph0013_01

section
open PySem PySem.W PySem.Calls PyProof.Rows
set_option Elab.async false
namespace Mine

/-- what stays between two states -/
structure Kp (s s' : Shared) : Prop where
  heap : ∀ b o, s.heap.get? b = some o → s'.heap.get? b = some o
  gens : ∀ (g : Nat) (x : GenState), s.gens[g]? = some x → s'.gens[g]? = some x
  bare : AllBare s.gens → AllBare s'.gens
  os : s'.os = s.os

theorem Kp.refl (s : Shared) : Kp s s := ⟨fun _ _ e => e, fun _ _ e => e, fun e => e, rfl⟩
theorem Kp.trans {a b c : Shared} (x : Kp a b) (y : Kp b c) : Kp a c :=
  ⟨fun p o e => y.heap p o (x.heap p o e), fun g z e => y.gens g z (x.gens g z e), fun e => y.bare (x.bare e), y.os.trans x.os⟩
theorem Kp.of {s : Shared} {h' : Heap} {tk : Nat} (hk : ∀ b o, s.heap.get? b = some o → h'.get? b = some o) : Kp s { s with heap := h', toks := tk } :=
  ⟨hk, fun _ _ e => e, fun e => e, rfl⟩
theorem Kp.ofH {s : Shared} {h' : Heap} (hk : ∀ b o, s.heap.get? b = some o → h'.get? b = some o) : Kp s { s with heap := h' } :=
  ⟨hk, fun _ _ e => e, fun e => e, rfl⟩
theorem Kp.tok {s : Shared} {tk : Nat} : Kp s { s with toks := tk } := ⟨fun _ _ e => e, fun _ _ e => e, fun e => e, rfl⟩
theorem Kp.push {s : Shared} {o : Obj} : Kp s { s with heap := s.heap.push o } := Kp.ofH fun _ _ e => Heap.get?_push_of_some _ e

/-- room above -/
structure AOk (n : Nat) (A : Around) : Prop where
  hh : A.handled = none
  hd : A.depth + n ≤ 400
  hu : A.units + 100 * n ≤ 5000
theorem AOk.room {n : Nat} {A : Around} (x : AOk n A) : A.depth < recursionLimit := by have := x.hd; unfold recursionLimit; omega
theorem AOk.mono {n m : Nat} {A : Around} (x : AOk n A) (h : m ≤ n) : AOk m A := ⟨x.hh, by have := x.hd; omega, by have := x.hu; omega⟩
theorem AOk.deeper {n : Nat} {A : Around} {env : Env} (x : AOk (n + 1) A) : AOk n (A.deeper env) :=
  ⟨x.hh, by have := x.hd; show A.depth + 1 + n ≤ 400; omega, by have := x.hu; show A.units + 3 + 100 * n ≤ 5000; omega⟩
theorem AOk.in1 {n : Nat} {A : Around} (x : AOk (n + 1) A) : AOk n A.in1 :=
  ⟨x.hh, by have := x.hd; show A.depth + n ≤ 400; omega, by have := x.hu; show A.units + 1 + 100 * n ≤ 5000; omega⟩

/-- plain data -/
inductive PV where
  | none
  | bool (b : Bool)
  | int (i : Int)
  | str (x : Str)
  | bytes (b : List UInt8)
  | barr (b : List UInt8)
  | range (a b c : Int)
  | list (xs : List PV)
  | own (a : Addr)
  | ty (T : String)
  deriving Inhabited

noncomputable def IsBA (h : Heap) (a : Addr) (b : List UInt8) : Prop := h.get? a = some { cls := .type "bytearray", data := .bytearray b.toArray 0 }

mutual
inductive Rep (X : Addr → Prop) (h : Heap) : Value → PV → Prop
  | none : Rep X h .none .none
  | bool (b : Bool) : Rep X h (.bool b) (.bool b)
  | int (i : Int) (t : Tok) : Rep X h (.int i t) (.int i)
  | str (x : Str) (t : Tok) : Rep X h (.str x t) (.str x)
  | bytes (b : List UInt8) (t : Tok) : Rep X h (.bytes b.toArray t) (.bytes b)
  | barr {a : Addr} {b : List UInt8} (hx : ¬ X a) (ho : IsBA h a b) : Rep X h (.ref a) (.barr b)
  | range {r : Addr} {a b c : Int} {t u v : Tok} (hx : ¬ X r) (ho : IsRange h r a b c t u v) : Rep X h (.ref r) (.range a b c)
  | list {a : Addr} {vs : List Value} {xs : List PV} (hx : ¬ X a) (ho : h.PlainList a vs.toArray) (hr : RepL X h vs xs) : Rep X h (.ref a) (.list xs)
  | own (a : Addr) : Rep X h (.ref a) (.own a)
  | ty (T : String) : Rep X h (.type T) (.ty T)
inductive RepL (X : Addr → Prop) (h : Heap) : List Value → List PV → Prop
  | nil : RepL X h [] []
  | cons {v : Value} {vs : List Value} {p : PV} {ps : List PV} (h1 : Rep X h v p) (h2 : RepL X h vs ps) : RepL X h (v :: vs) (p :: ps)
end

theorem isRange_keep {h h' : Heap} {r : Addr} {a b c : Int} {t u v : Tok} (x : IsRange h r a b c t u v) (hk : ∀ o, h.get? r = some o → h'.get? r = some o) : IsRange h' r a b c t u v := by
  exact hk _ x

/-- the kinds of object that stand for data -/
noncomputable def Kd (o : Obj) : Prop := match o.data with
  | .seq .. | .bytearray .. => True
  | .fields .. => o.cls = .type "range"
  | _ => False
/-- all but the frames' own -/
noncomputable def Dt (o : Obj) : Prop := match o.data with
  | .dict .. | .cell .. => False
  | _ => True
theorem Kd.dt {o : Obj} (h : Kd o) : Dt o := by
  unfold Kd at h
  unfold Dt
  generalize o.data = d at h
  cases d <;> first | trivial | exact h
/-- an iterator -/
noncomputable def IsIt (o : Obj) : Prop := (∃ vs, o.data = .fields vs) ∧ o.cls ≠ .type "range"
theorem IsIt.notKd {o : Obj} (h : IsIt o) : ¬ Kd o := by
  obtain ⟨⟨vs, e⟩, hc⟩ := h
  unfold Kd; rw [e]; exact hc
mutual
theorem Rep.keep {X : Addr → Prop} {h h' : Heap} (hk : ∀ b o, ¬ X b → h.get? b = some o → Kd o → h'.get? b = some o) : ∀ {v : Value} {p : PV}, Rep X h v p → Rep X h' v p
  | _, _, .none => .none
  | _, _, .bool b => .bool b
  | _, _, .int i t => .int i t
  | _, _, .str x t => .str x t
  | _, _, .bytes b t => .bytes b t
  | _, _, .barr hx ho => .barr hx (hk _ _ hx ho trivial)
  | _, _, .range hx ho => .range hx (hk _ _ hx ho rfl)
  | _, _, .list hx ho hr => .list hx (let ⟨n, e⟩ := ho; ⟨n, hk _ _ hx e trivial⟩) (RepL.keep hk hr)
  | _, _, .own a => .own a
  | _, _, .ty T => .ty T
theorem RepL.keep {X : Addr → Prop} {h h' : Heap} (hk : ∀ b o, ¬ X b → h.get? b = some o → Kd o → h'.get? b = some o) : ∀ {vs : List Value} {ps : List PV}, RepL X h vs ps → RepL X h' vs ps
  | _, _, .nil => .nil
  | _, _, .cons h1 h2 => .cons (h1.keep hk) (RepL.keep hk h2)
end
mutual
theorem Rep.weak {X Y : Addr → Prop} {h : Heap} (hk : ∀ b o, ¬ X b → h.get? b = some o → Kd o → ¬ Y b) : ∀ {v : Value} {p : PV}, Rep X h v p → Rep Y h v p
  | _, _, .none => .none
  | _, _, .bool b => .bool b
  | _, _, .int i t => .int i t
  | _, _, .str x t => .str x t
  | _, _, .bytes b t => .bytes b t
  | _, _, .barr hx ho => .barr (hk _ _ hx ho trivial) ho
  | _, _, .range hx ho => .range (hk _ _ hx ho rfl) ho
  | _, _, .list hx ho hr => .list (hk _ _ hx ho.choose_spec trivial) ho (RepL.weak hk hr)
  | _, _, .own a => .own a
  | _, _, .ty T => .ty T
theorem RepL.weak {X Y : Addr → Prop} {h : Heap} (hk : ∀ b o, ¬ X b → h.get? b = some o → Kd o → ¬ Y b) : ∀ {vs : List Value} {ps : List PV}, RepL X h vs ps → RepL Y h vs ps
  | _, _, .nil => .nil
  | _, _, .cons h1 h2 => .cons (h1.weak hk) (RepL.weak hk h2)
end

noncomputable abbrev X0 : Addr → Prop := fun _ => False
theorem Rep.kp {X : Addr → Prop} {s s' : Shared} {v : Value} {p : PV} (x : Rep X s.heap v p) (k : Kp s s') : Rep X s'.heap v p := x.keep fun b o _ e _ => k.heap b o e
theorem RepL.kp {X : Addr → Prop} {s s' : Shared} {v : List Value} {p : List PV} (x : RepL X s.heap v p) (k : Kp s s') : RepL X s'.heap v p := x.keep fun b o _ e _ => k.heap b o e
theorem Rep.x0 {X : Addr → Prop} {h : Heap} {v : Value} {p : PV} (x : Rep X h v p) : Rep X0 h v p := x.weak fun _ _ _ _ _ => id
theorem RepL.x0 {X : Addr → Prop} {h : Heap} {v : List Value} {p : List PV} (x : RepL X h v p) : RepL X0 h v p := x.weak fun _ _ _ _ _ => id

theorem RepL.length {X : Addr → Prop} {h : Heap} : ∀ {vs : List Value} {ps : List PV}, RepL X h vs ps → vs.length = ps.length
  | _, _, .nil => rfl
  | _, _, .cons _ h2 => by simp [RepL.length h2]
theorem RepL.get {X : Addr → Prop} {h : Heap} : ∀ {vs : List Value} {ps : List PV}, RepL X h vs ps → ∀ {i : Nat} {p : PV}, ps[i]? = some p → ∃ v, vs[i]? = some v ∧ Rep X h v p
  | _, _, .nil, i, p, e => by simp at e
  | _, _, .cons h1 h2, 0, p, e => by simp at e; subst e; exact ⟨_, rfl, h1⟩
  | _, _, .cons h1 h2, i + 1, p, e => by simpa using RepL.get h2 (by simpa using e)
theorem RepL.getv {X : Addr → Prop} {h : Heap} : ∀ {vs : List Value} {ps : List PV}, RepL X h vs ps → ∀ {i : Nat} {v : Value}, vs[i]? = some v → ∃ p, ps[i]? = some p ∧ Rep X h v p
  | _, _, .nil, i, p, e => by simp at e
  | _, _, .cons h1 h2, 0, p, e => by simp at e; subst e; exact ⟨_, rfl, h1⟩
  | _, _, .cons h1 h2, i + 1, p, e => by simpa using RepL.getv h2 (by simpa using e)
theorem RepL.append {X : Addr → Prop} {h : Heap} : ∀ {vs ws : List Value} {ps qs : List PV}, RepL X h vs ps → RepL X h ws qs → RepL X h (vs ++ ws) (ps ++ qs)
  | _, _, _, _, .nil, y => y
  | _, _, _, _, .cons h1 h2, y => .cons h1 (RepL.append h2 y)
theorem RepL.of_get {X : Addr → Prop} {h : Heap} : ∀ {vs : List Value} {ps : List PV}, vs.length = ps.length → (∀ (i : Nat) v p, vs[i]? = some v → ps[i]? = some p → Rep X h v p) → RepL X h vs ps
  | [], [], _, _ => .nil
  | v :: vs, p :: ps, hl, hr => .cons (hr 0 v p rfl rfl) (RepL.of_get (by simpa using hl) fun i v p e1 e2 => hr (i + 1) v p (by simpa using e1) (by simpa using e2))
theorem RepL.ints {X : Addr → Prop} {h : Heap} : ∀ {vs : List Value} {ns : List Int}, RepL X h vs (ns.map .int) → IntsAre vs ns
  | [], [], _ => IntsAre.nil
  | _, n :: ns, .cons h1 h2 => by
    cases h1
    exact IntsAre.cons _ _ (RepL.ints h2)
theorem RepL.of_ints {X : Addr → Prop} {h : Heap} : ∀ {vs : List Value} {ns : List Int}, IntsAre vs ns → RepL X h vs (ns.map .int)
  | [], [], _ => .nil
  | _, _, .cons _ _ h2 => .cons (.int _ _) (RepL.of_ints h2)
theorem Rep.anti {X Y : Addr → Prop} {h : Heap} {v : Value} {p : PV} (hs : ∀ b, Y b → X b) (x : Rep X h v p) : Rep Y h v p := x.weak fun b _ hn _ _ hy => hn (hs b hy)
theorem RepL.anti {X Y : Addr → Prop} {h : Heap} {v : List Value} {p : List PV} (hs : ∀ b, Y b → X b) (x : RepL X h v p) : RepL Y h v p := x.weak fun b _ hn _ _ hy => hn (hs b hy)

theorem get_size (h : Heap) : h.get? h.objs.size = none := by
  cases e : h.get? h.objs.size with
  | none => rfl
  | some o => exact absurd (Heap.lt_size e) (Nat.lt_irrefl _)
theorem get_ge {h : Heap} {a : Addr} (ha : h.objs.size ≤ a) : h.get? a = none := by
  cases e : h.get? a with
  | none => rfl
  | some o => exact absurd (Heap.lt_size e) (Nat.not_lt.mpr ha)

/-- addresses that stand -/
noncomputable def Live (X : Addr → Prop) (h : Heap) : Prop := ∀ b, X b → ∃ o, h.get? b = some o
theorem Live.kp {X : Addr → Prop} {s s' : Shared} (x : Live X s.heap) (k : Kp s s') : Live X s'.heap := fun b hb => let ⟨o, e⟩ := x b hb; ⟨o, k.heap b o e⟩
theorem Live.no {X : Addr → Prop} {h : Heap} (x : Live X h) {a : Addr} (e : h.get? a = none) : ¬ X a := fun hx => by obtain ⟨o, e'⟩ := x a hx; rw [e] at e'; cases e'
theorem Live.new {X : Addr → Prop} {h : Heap} (x : Live X h) : ¬ X h.objs.size := x.no (get_size h)
theorem live0 {h : Heap} : Live X0 h := fun _ f => f.elim
end Mine
end

section
open PySem PySem.W PySem.Calls PyProof.Rows
open Sem (wp)
set_option Elab.async false
set_option linter.unusedVariables false
namespace Mine
noncomputable def noStar : Expr → Bool
  | .Starred .. => false
  | _ => true
theorem starEach_no {e : Expr} {es : List Expr} {env : Env} (h : noStar e = true) : starEach (e :: es) env = (false, eval e env) :: starEach es env := by
  cases e <;> first | rfl | cases h
noncomputable def noStars : List Expr → Bool
  | [] => true
  | e :: es => noStar e && noStars es
theorem plain_no {pos : Pos} {env : Env} : ∀ {es : List Expr}, noStars es = true → (backTo pos (starEach es env)).any (·.1) = false
  | [], _ => rfl
  | e :: es, h => by
    have h' : (noStar e && noStars es) = true := h
    rw [Bool.and_eq_true] at h'
    rw [starEach_no h'.1]
    have := plain_no (pos := pos) (env := env) h'.2
    show (false || (backTo pos (starEach es env)).any (·.1)) = false
    rw [this]; rfl

/-- a running decoder that may hold a bytearray -/
noncomputable def Dec : Code → Bool
  | .builtin id _ => Builtin.Bytes.decodersThatHold.contains id || ["bytearray.__contains__", "bytearray.__mod__", "bytearray.__rmod__", "_struct.pack_into.held", "bytearray.find.held"].contains id
  | _ => false
/-- a context without one -/
noncomputable def Cln (Γ : Ctx) : Prop := Dec Γ.code = false ∧ ∀ x ∈ Γ.below, Dec x.1 = false

noncomputable def wpS {α : Type} (M : Model) (A : Around) (t : Sem α) (Q : α → Shared → Prop) (E : Value → Shared → Prop) (s : Shared) : Prop :=
  ∀ Γ p, Γ.In A → Cln Γ → wp M Γ t (fun a _ s' => Q a s') (fun e _ s' => E e s') p s
noncomputable def codeS (M : Model) (A : Around) (c : Code) (R : Result → Shared → Prop) (s : Shared) : Prop := ∀ Γ p, Γ.code = c → Γ.Below A → Cln Γ → wpCode M Γ R p s

section
variable {α β : Type} {M : Model} {A : Around} {E : Value → Shared → Prop} {s : Shared} {R : Result → Shared → Prop} {env : Env}

theorem lf {t : Sem α} {Q : α → Shared → Prop} (h : wpAny M A t Q E s) : wpS M A t Q E s := fun Γ p hΓ _ => h Γ p hΓ
theorem lfc {c : Code} (h : codeAny M A c R s) : codeS M A c R s := fun Γ p hc hΓ _ => h Γ p hc hΓ
theorem wpS_pure {a : α} {Q : α → Shared → Prop} (h : Q a s) : wpS M A (pure a) Q E s := fun _ _ _ _ => h
theorem wpS_mono {t : Sem α} {Q Q' : α → Shared → Prop} {E' : Value → Shared → Prop} (h : wpS M A t Q E s) (hQ : ∀ a s, Q a s → Q' a s) (hE : ∀ e s, E e s → E' e s) : wpS M A t Q' E' s :=
  fun Γ p hΓ hC => Sem.wp_mono M Γ t (fun a _ s => hQ a s) (fun e _ s => hE e s) p s (h Γ p hΓ hC)
theorem wpS_bind {m : Sem α} {f : α → Sem β} {Q : β → Shared → Prop} (h : wpS M A m (fun a s' => wpS M A (f a) Q E s') E s) : wpS M A (m >>= f) Q E s := fun Γ p hΓ hC => by
  rw [Sem.wp_bind']
  exact Sem.wp_mono M Γ m (fun a p' s' h' => h' Γ p' hΓ hC) (fun _ _ _ h' => h') p s (h Γ p hΓ hC)
theorem wpS_holding {vs : List Value} {m : Sem α} {Q : α → Shared → Prop} (h : wpS M A m Q E s) : wpS M A (holding vs m) Q E s :=
  fun Γ p hΓ hC => by rw [Sem.wp_holding]; exact h Γ p hΓ hC
theorem wpS_keep {vs : List Value} {m : Sem α} {Q : α → Shared → Prop} (h : wpS M A m Q E s) : wpS M A (m.keep vs) Q E s :=
  fun Γ p hΓ hC => by rw [Sem.wp_keep]; exact h Γ p hΓ hC
theorem wpS_operating {vs : List Value} {m : Sem Value} {Q : Value → Shared → Prop} (h : wpS M A m Q E s) : wpS M A (operate vs m) Q E s :=
  fun Γ p hΓ hC => by rw [Sem.wp_operate]; exact h Γ p hΓ hC
theorem wpS_standAt {pos : Pos} {Q : Unit → Shared → Prop} (h : Q () s) : wpS M A (standAt pos) Q E s := fun _ _ _ _ => h
theorem wpS_point {Q : Unit → Shared → Prop} (h : Q () s) : wpS M A point Q E s := fun _ _ _ _ => h
/-- where nothing is raised -/
theorem wpS_onRaise {m : Sem α} {k : Value → Sem Unit} {Q : α → Shared → Prop} (h : wpS M A m Q (fun _ _ => False) s) : wpS M A (m.onRaise k) Q E s := fun Γ p hΓ hC => by
  rw [Sem.wp_onRaise]
  exact Sem.wp_mono M Γ m (fun _ _ _ h' => h') (fun e p' s' h' => h'.elim) p s (h Γ p hΓ hC)
theorem wpS_attempt {m : Sem α} {Q : Except Value α → Shared → Prop} (h : wpS M A m (fun a => Q (.ok a)) (fun _ _ => False) s) : wpS M A m.attempt Q E s := fun Γ p hΓ hC => by
  rw [Sem.wp_attempt]
  exact Sem.wp_mono M Γ m (fun _ _ _ h' => h') (fun e p' s' h' => h'.elim) p s (h Γ p hΓ hC)

theorem Cln.enter {Γ : Ctx} (h : Cln Γ) {c : Code} (hc : Dec c = false) (hd : Option Value) (p : Pos) : Cln (Γ.enter c hd p) :=
  ⟨hc, fun x hx => by
    rcases List.mem_cons.mp hx with rfl | hx
    · exact h.1
    · exact h.2 x hx⟩
theorem Cln.goto {Γ : Ctx} (h : Cln Γ) {c : Code} (hc : Dec c = false) : Cln (Γ.goto c) := ⟨hc, h.2⟩

theorem wpS_run {c : Code} {Q : Flow → Shared → Prop} (hd : Dec c = false) (hc : codeS M A c (fun r s' => match r with | .ok f => Q f s' | .error e => E e s') s) : wpS M A (run c) Q E s :=
  fun Γ p hΓ hC => by rw [Sem.wp_run]; exact hc _ p rfl (hΓ.enter c none p (by intro x; cases x)) (hC.enter hd none p)
theorem wpS_runValue {c : Code} {Q : Value → Shared → Prop} (hd : Dec c = false) (hc : codeS M A c (fun r s' => match r with | .ok (.ret v) => Q v s' | .ok _ => False | .error e => E e s') s) : wpS M A (runValue c) Q E s :=
  fun Γ p hΓ hC => by rw [Sem.wp_runValue]; exact hc _ p rfl (hΓ.enter c none p (by intro x; cases x)) (hC.enter hd none p)
theorem wpS_call {f : Value} {pos : List Value} {kw : List (Str × Value)} {Q : Value → Shared → Prop} (hc : codeS M A (.call f ⟨pos, kw⟩) (fun r s' => match r with | .ok (.ret v) => Q v s' | .ok _ => False | .error e => E e s') s) :
    wpS M A (call f pos kw) Q E s := wpS_runValue rfl hc
theorem wpS_runOwn {c : Code} {Q : Flow → Shared → Prop} (hd : Dec c = false) (hc : codeS M A c (fun r s' => match r with | .ok f => Q f s' | .error e => False) s) : wpS M A (runOwn c env) Q E s := by
  unfold runOwn
  exact wpS_onRaise (wpS_run hd hc)
theorem codeS_mono {c : Code} {R' : Result → Shared → Prop} (h : codeS M A c R s) (hR : ∀ r s, R r s → R' r s) : codeS M A c R' s :=
  fun Γ p hc hΓ hC => wpCode_mono hR (h Γ p hc hΓ hC)
theorem codeS_of_tree {c : Code} (h : wpS M (A.under c) (M.den c) (fun fin s' => match fin with | .done f => R (.ok f) s' | .again c' => c'.quiet = true ∧ Dec c' = false ∧ codeS M A c' R s')
      (fun e s' => R (.error e) s') s) : codeS M A c R s := fun Γ p hc hΓ hC => by
  rw [wpCode_iff_wp, hc]
  refine Sem.wp_mono M Γ _ (fun fin p' s' h' => ?_) (fun _ _ _ h' => h') p s (h Γ p (hc ▸ hΓ.in) hC)
  cases fin with
  | done f => exact h'
  | again c' => exact ⟨h'.1, h'.2.2 (Γ.goto c') p' rfl (hΓ.goto c') (hC.goto h'.2.1)⟩
theorem codeS_loop {c : Code} (hq : c.quiet = true) (hd : Dec c = false) (I : Nat → Shared → Prop)
    (turn : ∀ n s, I n s → wpS M (A.under c) (M.den c)
      (fun fin s' => match fin with
        | .done f => R (.ok f) s'
        | .again c' => (c' = c ∧ ∃ m, m < n ∧ I m s') ∨ (c'.quiet = true ∧ Dec c' = false ∧ codeS M A c' R s')) (fun e s' => R (.error e) s') s)
    (n : Nat) (h : I n s) : codeS M A c R s := by
  induction n using Nat.strongRecOn generalizing s with
  | ind n ih =>
    refine codeS_of_tree (wpS_mono (turn n s h) (fun fin s' hf => ?_) fun _ _ h' => h')
    cases fin with
    | done f => exact hf
    | again c' =>
      rcases hf with ⟨rfl, m, hm, hI⟩ | hf
      · exact ⟨hq, hd, ih m hm hI⟩
      · exact hf

/- expressions -/
theorem wpS_Name {x : Str} {pos : Pos} {Q : Value → Shared → Prop} (h : wpS M A (loadName env x) Q E s) (hd : (x == ("__debug__" : Str)) = false) : wpS M A (eval (.Name x pos) env) Q E s := by
  rw [eval_Name env x pos hd]
  exact wpS_bind (wpS_standAt h)
theorem wpS_BinOp {l r : Expr} {op : Operator} {pos : Pos} {Q : Value → Shared → Prop}
    (h : wpS M A (eval l env) (fun a s₁ => wpS M A (eval r env) (fun b s₂ => wpS M A (binaryOp op a b) Q E s₂) E s₁) E s) : wpS M A (eval (.BinOp l op r pos) env) Q E s := by
  rw [eval_BinOp]
  exact wpS_bind (wpS_mono h (fun a s₁ h₁ => wpS_bind (wpS_holding (wpS_mono h₁ (fun b s₂ h₂ => wpS_bind (wpS_standAt (wpS_operating h₂))) fun _ _ e => e))) fun _ _ e => e)
theorem wpS_UnaryOp {op : UnaryOp} {x : Expr} {pos : Pos} {Q : Value → Shared → Prop} (h : wpS M A (eval x env) (fun v s₁ => wpS M A (unaryOp op v) Q E s₁) E s) :
    wpS M A (eval (.UnaryOp op x pos) env) Q E s := by
  rw [arm_eval_UnaryOp]
  exact wpS_bind (wpS_mono h (fun v s₁ h₁ => wpS_bind (wpS_standAt (wpS_holding h₁))) fun _ _ x => x)
theorem wpS_Compare1 {l r : Expr} {op : CmpOp} {pos : Pos} {Q : Value → Shared → Prop}
    (h : wpS M A (eval l env) (fun a s₁ => wpS M A (eval r env) (fun b s₂ => wpS M A (compareOp op a b) Q E s₂) E s₁) E s) (hm : behindInMarks op r = false) :
    wpS M A (eval (.Compare l [op] [r] pos) env) Q E s := by
  rw [eval_Compare1, markedBehindIn_of_false hm]
  exact wpS_bind (wpS_mono h (fun a s₁ h₁ => wpS_bind (wpS_holding (wpS_mono h₁ (fun b s₂ h₂ => wpS_bind (wpS_standAt (wpS_operating h₂))) fun _ _ e => e))) fun _ _ e => e)
theorem wpS_isTrue_Compare1 {l r : Expr} {op : CmpOp} {pos : Pos} {whole : Sem Value} {Q : Bool → Shared → Prop}
    (h : wpS M A (eval l env) (fun a s₁ => wpS M A (eval r env) (fun b s₂ => wpS M A (compareOp op a b) (fun d s₃ => wpS M A (truthy d) Q E s₃) E s₂) E s₁) E s) (hm : behindInMarks op r = false) :
    wpS M A (isTrue (.Compare l [op] [r] pos) env whole) Q E s := by
  rw [isTrue_Compare1, markedBehindIn_of_false hm]
  exact wpS_bind (wpS_mono h (fun a s₁ h₁ => wpS_bind (wpS_holding (wpS_mono h₁ (fun b s₂ h₂ => wpS_bind (wpS_standAt (wpS_bind (wpS_operating (wpS_mono h₂ (fun d s₃ h₃ => wpS_holding h₃) fun _ _ e => e))))) fun _ _ e => e))) fun _ _ e => e)
theorem wpS_IfExp {test body orelse : Expr} {pos : Pos} {Q : Value → Shared → Prop}
    (h : wpS M A (isTrue test env (eval test env)) (fun b s₁ => if b then wpS M A (eval body env) Q E s₁ else wpS M A (eval orelse env) Q E s₁) E s) : wpS M A (eval (.IfExp test body orelse pos) env) Q E s := by
  rw [arm_eval_IfExp]
  refine wpS_bind (wpS_mono h (fun b s₁ h₁ => ?_) fun _ _ x => x)
  cases b <;> exact h₁
theorem wpS_items_cons {pos : Pos} {e : Expr} {rest : List Expr} {Q : List Value → Shared → Prop}
    (h : wpS M A (eval e env) (fun v s₁ => wpS M A (spliced (backTo pos (starEach rest env))) (fun vs s₂ => Q (v :: vs) s₂) E s₁) E s)
    (he : starEach (e :: rest) env = (false, eval e env) :: starEach rest env) : wpS M A (spliced (backTo pos (starEach (e :: rest) env))) Q E s := by
  rw [he]
  show wpS M A (do
    let v ← eval e env
    let here ← (pure [v] : Sem (List Value))
    return here ++ (← holding here (spliced (backTo pos (starEach rest env))))) Q E s
  exact wpS_bind (wpS_mono h (fun v s₁ h₁ => wpS_bind (wpS_pure (wpS_bind (wpS_holding (wpS_mono h₁ (fun vs s₂ h₂ => wpS_pure h₂) fun _ _ x => x)))) ) fun _ _ x => x)
theorem wpS_List {elts : List Expr} {pos : Pos} {Q : Value → Shared → Prop}
    (h : wpS M A (spliced (backTo pos (starEach elts env)))
      (fun vs s₁ => vs.length ≤ sizeLine ∧ Q (.ref s₁.heap.objs.size) { s₁ with heap := s₁.heap.push { cls := .type "list", data := .seq vs.toArray } }) E s) : wpS M A (eval (.List elts pos) env) Q E s := by
  rw [arm_eval_List]
  exact wpS_bind (wpS_standAt (wpS_bind (wpS_mono h (fun vs s₁ h₁ => lf (wpAny_newObj_type h₁.2 (by show vs.toArray.size ≤ sizeLine; rw [List.size_toArray]; exact h₁.1))) fun _ _ x => x)))
theorem wpS_evalArgs {f : Value} {x : Sem Value} {rest : List (Bool × Sem Value)} {Q : Args → Shared → Prop}
    (h : wpS M A (spliced ((false, x) :: rest)) (fun vs s' => Q ⟨vs, []⟩ s') E s) : wpS M A (evalArgs f true ((false, x) :: rest) []) Q E s := by
  unfold evalArgs
  show wpS M A (spliced ((false, x) :: rest) >>= _) Q E s
  refine wpS_bind (wpS_mono h (fun vs s₁ h₁ => ?_) fun _ _ e => e)
  refine wpS_bind (wpS_pure ?_)
  refine wpS_holding ?_
  exact wpS_bind (wpS_pure (wpS_bind (wpS_pure (wpS_pure h₁))))
end
end Mine
end

section
open PySem PySem.W PySem.Calls PyProof.Rows
open Sem (wp)
set_option Elab.async false
set_option linter.unusedVariables false
set_option linter.unusedSimpArgs false
namespace Mine
section
variable {α β : Type} {M : Model} {A : Around} {E : Value → Shared → Prop} {s : Shared} {R : Result → Shared → Prop} {env : Env}

theorem wpS_callTail {t : Sem Value} {Q : Value → Shared → Prop} (ht : wpS M A t Q E s) : wpS M A (t >>= fun r => holding [r] point >>= fun _ => pure r) Q E s :=
  wpS_bind (wpS_mono ht (fun r s₂ hr => wpS_bind (wpS_holding (wpS_point (wpS_pure hr)))) fun _ _ x => x)

theorem wpS_callWith {pos : Pos} {f : Value} {first : List Value} {args : List (Bool × Sem Value)} {Q : Value → Shared → Prop} (hplain : args.any (·.1) = false)
    (h : wpS M A (evalArgs f true args []) (fun a s₁ => wpS M A (keeperOf f) (fun k s₂ => k ≠ .caller ∧ wpS M A (call f (first ++ a.pos) a.kw) Q E s₂) E s₁) E s) :
    wpS M A (callWith pos f first args []) Q E s := by
  unfold callWith
  refine wpS_bind (wpS_holding (wpS_mono h (fun a s₁ h₁ => wpS_bind (wpS_standAt ?_)) fun _ _ e => e))
  simp only [hplain, List.any_nil, Bool.or_false]
  refine wpS_bind (wpS_mono h₁ (fun k s₂ h₂ => ?_) fun _ _ e => e)
  obtain ⟨hk, h₂⟩ := h₂
  cases k with
  | caller => exact absurd rfl hk
  | frame =>
    by_cases hc : args.length + 2 * ([] : List (Option Str × Sem Value)).length > 30
    · simp only [hc, if_true]; exact wpS_callTail h₂
    · simp only [hc, if_false]; exact wpS_callTail (wpS_keep h₂)
  | boundFrame =>
    by_cases hc : args.length + 2 * ([] : List (Option Str × Sem Value)).length > 30
    · simp only [hc, if_true]; exact wpS_callTail h₂
    · simp only [hc, if_false]; exact wpS_callTail (wpS_keep h₂)
  | machine => exact wpS_callTail h₂

theorem wpS_callWith_function {pos : Pos} {a : Addr} {o : Obj} {fd : FuncData} {first : List Value} {args : List (Bool × Sem Value)} {Q : Value → Shared → Prop} (hplain : args.any (·.1) = false)
    (h : wpS M A (evalArgs (.ref a) true args []) (fun x s₁ => (s₁.heap.get? a = some o ∧ o.data = .func fd) ∧ wpS M A (call (.ref a) (first ++ x.pos) x.kw) Q E s₁) E s) :
    wpS M A (callWith pos (.ref a) first args []) Q E s := by
  refine wpS_callWith hplain (wpS_mono h (fun x s₁ h₁ => lf ?_) fun _ _ e => e)
  unfold keeperOf
  refine wpAny_bind (wpAny_load h₁.1.1 ?_)
  rw [h₁.1.2]
  exact wpAny_pure ⟨by simp, h₁.2⟩
theorem wpS_callWith_builtin {pos : Pos} {id : String} {first : List Value} {args : List (Bool × Sem Value)} {Q : Value → Shared → Prop} (hplain : args.any (·.1) = false)
    (h : wpS M A (evalArgs (.builtin id) true args []) (fun x s₁ => wpS M A (call (.builtin id) (first ++ x.pos) x.kw) Q E s₁) E s) :
    wpS M A (callWith pos (.builtin id) first args []) Q E s :=
  wpS_callWith hplain (wpS_mono h (fun x s₁ h₁ => wpS_pure ⟨by simp, h₁⟩) fun _ _ e => e)
theorem wpS_callWith_type {pos : Pos} {T : String} {first : List Value} {args : List (Bool × Sem Value)} {Q : Value → Shared → Prop} (hplain : args.any (·.1) = false)
    (h : wpS M A (evalArgs (.type T) true args []) (fun x s₁ => wpS M A (call (.type T) (first ++ x.pos) x.kw) Q E s₁) E s) :
    wpS M A (callWith pos (.type T) first args []) Q E s :=
  wpS_callWith hplain (wpS_mono h (fun x s₁ h₁ => wpS_pure ⟨by simp, h₁⟩) fun _ _ e => e)

theorem wpS_Call_Name {id : Str} {p pos : Pos} {args : List Expr} {Q : Value → Shared → Prop} (h : wpS M A (eval (.Name id p) env) (fun f s₁ => wpS M A (callWith pos f [] (backTo pos (starEach args env)) []) Q E s₁) E s) :
    wpS M A (eval (.Call (.Name id p) args [] pos) env) Q E s := by
  have e : eval (.Call (.Name id p) args [] pos) env = (do let f ← eval (.Name id p) env; callWith pos f [] (backTo pos (starEach args env)) (backToKw pos (keywordEach [] env))) := rfl
  rw [e]
  exact wpS_bind h

theorem wpS_Slice {lower upper step : Option Expr} {p : Pos} {Q : Value → Shared → Prop}
    (h : wpS M A (evalPart lower env) (fun l s₁ => wpS M A (evalPart upper env) (fun u s₂ => wpS M A (evalPart step env) (fun st s₃ =>
      Q (.ref s₃.heap.objs.size) { s₃ with heap := s₃.heap.push { cls := .type "slice", data := .fields #[l, u, st] } }) E s₂) E s₁) E s) : wpS M A (eval (.Slice lower upper step p) env) Q E s := by
  rw [arm_eval_Slice]
  refine wpS_bind (wpS_mono h (fun l s₁ h₁ => wpS_bind (wpS_holding (wpS_mono h₁ (fun u s₂ h₂ => wpS_bind (wpS_holding (wpS_mono h₂ (fun st s₃ h₃ => ?_) fun _ _ x => x))) fun _ _ x => x))) fun _ _ x => x)
  exact lf (wpAny_newObj_type h₃)

theorem wpS_isTrue_Not {x : Expr} {pos : Pos} {whole : Sem Value} {Q : Bool → Shared → Prop} (h : wpS M A (isTrue x env (eval x env)) (fun b s₁ => Q (!b) s₁) E s) : wpS M A (isTrue (.UnaryOp .Not x pos) env whole) Q E s := by
  rw [arm_isTrue_UnaryOp]
  exact wpS_bind (wpS_mono h (fun b s₁ h₁ => wpS_pure h₁) fun _ _ x => x)
theorem wpS_allTrue_cons {op : BoolOp} {x : Expr} {rest : List Expr} {Q : Bool → Shared → Prop}
    (h : wpS M A (isTrue x env (eval x env)) (fun b s₁ => match op, b with | .And, false => Q false s₁ | .Or, true => Q true s₁ | _, _ => wpS M A (allTrue op rest env) Q E s₁) E s) : wpS M A (allTrue op (x :: rest) env) Q E s := by
  rw [arm_allTrue_cons]
  refine wpS_bind (wpS_mono h (fun b s₁ h₁ => ?_) fun _ _ x => x)
  cases op <;> cases b <;> first | exact wpS_pure h₁ | exact h₁

/- statements -/
theorem wpS_Assign_Name {x : Str} {pos' pos : Pos} {value : Expr} {Q : Flow → Shared → Prop} (h : wpS M A (eval value env) (fun v s₁ => wpS M A (storeName env x v) (fun _ => Q .next) E s₁) E s)
    (hs : swapsWith value (some (.Name x pos')) pos.line env = pure false) : wpS M A (exec (.Assign [.Name x pos'] value pos) env) Q E s := by
  rw [exec_Assign_Name env x pos' value pos hs]
  refine wpS_bind (wpS_standAt (wpS_bind (wpS_mono h (fun v s₁ h₁ => wpS_bind (wpS_standAt (wpS_bind ?_))) fun _ _ e => e)))
  exact fun Γ p hΓ hC => by
    rw [Sem.wp_bindName]
    exact Sem.wp_mono M Γ _ (fun _ _ _ h => h) (fun _ _ _ h => h) p s₁ (wpS_mono h₁ (fun _ _ h => wpS_pure h) (fun _ _ h => h) Γ p hΓ hC)
theorem wpS_If {test : Expr} {body orelse : List Stmt} {pos : Pos} {Q : Flow → Shared → Prop}
    (h : wpS M A (isTrue test env (eval test env)) (fun b s₂ => if b then wpS M A (execs body env) Q E s₂ else wpS M A (execs orelse env) Q E s₂) E s) : wpS M A (exec (.If test body orelse pos) env) Q E s := by
  rw [exec_If]
  refine wpS_bind (wpS_standAt (wpS_bind (wpS_mono h (fun b s₂ h₂ => ?_) fun _ _ e => e)))
  cases b <;> exact h₂
theorem wpS_execs_nil {Q : Flow → Shared → Prop} (h : Q .next s) : wpS M A (execs [] env) Q E s := fun _ _ _ _ => h
theorem wpS_execs_cons {st : Stmt} {rest : List Stmt} {Q : Flow → Shared → Prop}
    (h : wpS M A (exec st env) (fun f s' => match f with | .next => wpS M A (execs rest env) Q E s' | f => Q f s') E s) : wpS M A (execs (st :: rest) env) Q E s := by
  rw [execs_cons]
  refine wpS_bind (wpS_mono h (fun f s' h' => ?_) fun _ _ e => e)
  cases f <;> first | exact h' | exact wpS_pure h'
theorem wpS_Return {e : Expr} {pos : Pos} {Q : Flow → Shared → Prop} (h : wpS M A (eval e env) (fun v => Q (.ret v)) E s) : wpS M A (exec (.Return (some e) pos) env) Q E s := by
  rw [exec_Return_some]
  exact wpS_bind (wpS_standAt (wpS_bind (wpS_mono h (fun v s' h' => wpS_pure h') fun _ _ e => e)))
theorem wpS_assign_Name {x : Str} {pos : Pos} {v : Value} {Q : Unit → Shared → Prop} (h : wpS M A (storeName env x v) Q E s) : wpS M A (assign (.Name x pos) env v) Q E s := by
  rw [PySem.assign_Name]
  refine wpS_bind (wpS_standAt ?_)
  exact fun Γ p hΓ hC => by rw [Sem.wp_bindName]; exact h Γ p hΓ hC

theorem wpS_For {target iter : Expr} {body orelse : List Stmt} {pos : Pos} {Q : Flow → Shared → Prop}
    (h : wpS M A (eval iter env) (fun x s₁ => wpS M A (pyIter x) (fun it s₂ => codeS M A (.forLoop target it body orelse env) (fun r s' => match r with | .ok f => Q f s' | .error e => False) s₂) E s₁) E s)
    (hs : ∀ x, foldedSetIterable iter env x = pure x) : wpS M A (exec (.For target iter body orelse pos) env) Q E s := by
  rw [exec_For]
  refine wpS_bind (wpS_standAt (wpS_bind (wpS_mono h (fun x s₁ h₁ => ?_) fun _ _ e => e)))
  rw [hs x]
  exact wpS_bind (wpS_pure (wpS_bind (wpS_standAt (wpS_bind (wpS_holding (wpS_mono h₁ (fun it s₂ h₂ => wpS_runOwn rfl h₂) fun _ _ e => e))))))
end

section
variable {prog : Program} {w : World} {A : Around} {E : Value → Shared → Prop} {s : Shared} {R : Result → Shared → Prop} {env : Env}

theorem codeS_forLoop {target it body env} (I : Nat → Shared → Prop)
    (turn : ∀ n s, I n s → wpS (model prog w) A (pyNext it) (fun r s₁ => match r with
      | none => R (.ok .next) s₁
      | some v => wpS (model prog w) A (assign target env v) (fun _ s₂ => wpS (model prog w) A (execs body env) (fun f s₃ => match f with
          | .next | .cont => ∃ m, m < n ∧ I m s₃
          | .brk => R (.ok .next) s₃
          | .ret v => R (.ok (.ret v)) s₃) (fun _ _ => False) s₂) (fun _ _ => False) s₁) (fun _ _ => False) s)
    (n : Nat) (h : I n s) (ht : ∀ v, letOwnedTupleGo target it v = pure () := by intro _; rfl) : codeS (model prog w) A (.forLoop target it body [] env) R s := by
  refine codeS_loop rfl rfl I (fun n s hI => ?_) n h
  show wpS _ _ ((forTurn target it body [] env).onRaise (fun x => do noteFrame x env; theTreesLotGoes x)) _ _ s
  refine wpS_onRaise ?_
  simp only [forTurn]
  refine wpS_bind (wpS_standAt (wpS_bind (wpS_onRaise (wpS_mono (turn n s hI) (fun r s₁ h₁ => ?_) fun _ _ h' => h'))))
  cases r with
  | none => exact wpS_pure (.inr ⟨rfl, rfl, lfc (codeAny_block (wpAny_execs_nil h₁))⟩)
  | some v =>
    refine wpS_bind (lf (wpAny_of_eq (ht v) ?_))
    refine wpS_bind (wpS_mono h₁ (fun _ s₂ h₂ => wpS_bind (wpS_mono h₂ (fun f s₃ h₃ => ?_) fun _ _ h' => h')) fun _ _ h' => h')
    cases f with
    | next => exact wpS_pure (.inl ⟨rfl, h₃⟩)
    | cont => exact wpS_pure (.inl ⟨rfl, h₃⟩)
    | brk => exact wpS_pure h₃
    | ret v => exact wpS_pure h₃

theorem codeS_func {body : List Stmt} {env : Env}
    (h : wpS (model prog w) (A.deeper env) (execs body env) (fun f s' => R (.ok (.ret (match f with | .ret v => v | _ => .none))) s') (fun _ _ => False) s) : codeS (model prog w) A (.func body env) R s := by
  refine codeS_of_tree ?_
  show wpS _ (A.deeper env) (do point; match ← (execs body env).onRaise (leaving env) with | .ret v => ret v | _ => ret .none) _ _ s
  refine wpS_bind (wpS_point (wpS_bind (wpS_onRaise (wpS_mono h (fun f s' h' => ?_) fun _ _ h' => h'))))
  cases f <;> exact wpS_pure h'

theorem codeS_call_function {a : Addr} {args : Args} {o : Obj} {fd : FuncData} {body : List Stmt} (hroom : A.depth < recursionLimit) (ho : s.heap.get? a = some o)
    (hd' : o.data = .func fd) (hco : fd.scope.isCoroutine = false) (hgen : fd.scope.isGenerator = false) (hbody : fd.body = .stmts body) (hcd : s.heap.CodeRec fd.code fd.qualname)
    (h : wpAny (model prog w) A.in1 (bindArgs fd args) (fun binds s₁ =>
      wpAny (model prog w) A.in1 (newFunctionEnv fd.scope fd.globals fd.closure binds (fd.qualname ++ ".<locals>.") (some a) fd.code none fd.builtins)
        (fun env s₂ => s₂.heap.NoLimit ∧ codeS (model prog w) A (.func body env) R s₂) (fun e s' => R (.error e) s') s₁) (fun e s' => R (.error e) s') s) :
    codeS (model prog w) A (.call (.ref a) args) R s := by
  refine codeS_of_tree (lf ?_)
  show wpAny _ A.in1 (callAny (.ref a) args) _ _ s
  simp only [callAny]
  refine wpAny_bind (wpAny_load ho ?_)
  obtain ⟨c, oc, vs, tq, hc, hoc, hdc, hq⟩ := hcd
  simp only [hd', callFunction, hco, hgen, hbody, hc]
  rw [hc] at h
  refine wpAny_bind (m := field (.ref c) 1) (wpAny_field hoc hdc hq (wpAny_bind (wpAny_pure ?_)))
  exact wpAny_bind (wpAny_mono h (fun binds s₁ h₁ => wpAny_bind (wpAny_mono h₁ (fun env s₂ h₂ => wpAny_bind (wpAny_enterFrame h₂.1 hroom
    (wpAny_pure (And.intro rfl (And.intro rfl h₂.2))))) fun _ _ h' => h')) fun _ _ h' => h')

theorem codeS_call_cells {a : Addr} {o : Obj} {fd : FuncData} {body : List Stmt} {vals : List Value} {binds : List (Str × Value)}
    (hroom : A.depth < recursionLimit) (ho : s.heap.get? a = some o) (hdata : o.data = .func fd) (hlim : s.heap.NoLimit) (hcd : s.heap.CodeRec fd.code fd.qualname)
    (hbody : fd.body = .stmts body) (hbind : bindArgs fd ⟨vals, []⟩ = pure binds) (hclo : fd.closure = [])
    (hkind : ∀ x ∈ binds, fd.scope.names.lookup x.1 = some .local ∨ (fd.scope.names.lookup x.1 = some .cell ∧ ((cellsFrom (s.heap.objs.size + 1) fd.scope.names []).lookup x.1).isSome = true))
    (h : ∀ s₁, InCallC s (callEnvC fd s.heap.objs.size a).locals (bindL (callEnvC fd s.heap.objs.size a).kindOf binds fun _ => none) (callEnvC fd s.heap.objs.size a).cells
        (bindC (callEnvC fd s.heap.objs.size a).kindOf binds fun _ => none) s₁ →
      wpS (model prog w) (A.deeper (callEnvC fd s.heap.objs.size a)) (execs body (callEnvC fd s.heap.objs.size a)) (fun f s' => R (.ok (.ret (match f with | .ret v => v | _ => .none))) s') (fun _ _ => False) s₁)
    (hco : fd.scope.isCoroutine = false) (hgen : fd.scope.isGenerator = false) (hk : fd.scope.kind = .function) :
    codeS (model prog w) A (.call (.ref a) ⟨vals, []⟩) R s := by
  refine codeS_call_function hroom ho hdata hco hgen hbody hcd ?_
  rw [hbind, hclo]
  refine wpAny_pure (wpAny_newFunctionEnv_cells hk hkind fun env he s' x => ?_)
  subst he
  exact ⟨hlim.keeps x.toInCall.keep, codeS_func (h s' x)⟩
end
end Mine
end

section
open PySem PySem.W PySem.Calls PyProof.Rows
open Sem (wp)
set_option Elab.async false
set_option linter.unusedVariables false
set_option linter.unusedSimpArgs false
namespace Mine
section
variable {M : Model} {A : Around} {E : Value → Shared → Prop} {s : Shared} {env : Env}

theorem wpS_standIf {α : Type} {c : Prop} [Decidable c] {pos : Pos} {k : PUnit → Sem α} {Q : α → Shared → Prop} (h : wpS M A (k ()) Q E s) : wpS M A (if c then (standAt pos >>= k) else k ()) Q E s := by
  split
  · exact wpS_bind (wpS_standAt h)
  · exact h
/-- how a comprehension's block ends -/
noncomputable def compPostS (M : Model) (A : Around) (E : Value → Shared → Prop) (use : Option (Value → Sem Unit)) (Q : Value → Shared → Prop) (acc : Value) (C : Addr) (r : Result) (s' : Shared) : Prop :=
  match r, use with
  | .ok _, none => ∃ m, s'.heap.Ns C m ∧ ∀ h', Heap.SameBut C s'.heap h' → Q acc { s' with heap := h' }
  | .ok _, some u => wpS M A (u acc) (fun _ s'' => ∃ m, s''.heap.Ns C m ∧ ∀ h', Heap.SameBut C s''.heap h' → Q .none { s'' with heap := h' }) E s'
  | .error x, _ => False

theorem wpS_comprehension {e : Expr} {scope : Scope} {pos : Pos} {newAcc first : Sem Value} {g : Comprehension} {gs : List Comprehension} {cl : List (Str × Addr)} {use : Option (Value → Sem Unit)}
    {Q : Value → Shared → Prop}
    (hcl : clausesOf e = g :: gs) (hs : ∀ x, foldedSetIterable g.iter env x = pure x) (hclos : closureFor scope env = pure cl)
    (hkind : scope.kind = .function) (hnames : ∀ x ∈ scope.names, x.2 = .local → scope.names.lookup x.1 = some .local)
    (h : wpS M A first (fun x s₁ => wpS M A (pyIter x) (fun it s₂ => wpS M A newAcc (fun acc s₃ =>
      wpS M A (newFunctionEnv scope env.globals cl [] env.qual none .none (some env)) (fun cenv s₄ =>
        codeS M A (.compStart e 0 it acc { cenv with scope := relabel scope env }) (compPostS M A E use Q acc cenv.locals) s₄) E s₃) E s₂) E s₁) E s) :
    wpS M A (comprehension e scope env pos newAcc false first use) Q E s := by
  unfold comprehension
  rw [hclos, hcl]
  refine wpS_bind (wpS_mono h (fun x s₁ h₁ => wpS_bind (wpS_standAt (wpS_bind (lf (wpAny_of_eq (hs x) (?_ : wpS M A _ Q E s₁)))))) fun _ _ h' => h')
  refine wpS_bind (wpS_holding (wpS_mono h₁ (fun it s₂ h₂ => wpS_standIf ?_) fun _ _ h' => h'))
  · refine wpS_bind (wpS_mono h₂ (fun acc s₃ h₃ => wpS_bind (wpS_pure (wpS_bind (wpS_mono h₃ (fun cenv s₄ h₄ => ?_) fun _ _ h' => h')))) fun _ _ h' => h')
    dsimp only
    have hv : ∀ x ∈ (scope.names.filter fun x => (x.2 == .local || x.2 == .cell) && x.1 != (".0" : Str)).reverse, x.2 = .local →
        Env.kindOf { cenv with scope := relabel scope env } x.1 = some .local := fun x hx hl => lookup_relabel_local (hnames x (List.mem_filter.mp (List.mem_reverse.mp hx)).1 hl)
    have hv' : ∀ x ∈ (scope.names.filter fun x => (x.2 == .local || x.2 == .cell) && x.1 != (".0" : Str)).reverse.drop 1 ++ (scope.names.filter fun x => (x.2 == .local || x.2 == .cell) && x.1 != (".0" : Str)).reverse.take 1,
        x.2 = .local → Env.kindOf { cenv with scope := relabel scope env } x.1 = some .local := fun x hx hl => by
      rcases List.mem_append.mp hx with h1 | h1
      · exact hv x (List.mem_of_mem_drop h1) hl
      · exact hv x (List.mem_of_mem_take h1) hl
    refine wpS_holding (wpS_bind (wpS_attempt (wpS_holding (wpS_run rfl (codeS_mono h₄ fun r s' hr => ?_)))))
    cases r with
    | ok f =>
      cases use with
      | none =>
        obtain ⟨m, hn, hr⟩ := hr
        exact wpS_bind (wpS_holding (lf (wpAny_comp_letGo (cenv := { cenv with scope := relabel scope env }) hkind _ s' m hv hn fun h' m' _ hs' => wpS_pure (hr h' hs'))))
      | some u =>
        refine wpS_bind (lf (wpAny_rule (wpS_bind (wpS_holding (wpS_mono hr (fun _ s'' hr' => ?_) fun _ _ h' => h')))))
        obtain ⟨m, hn, hr'⟩ := hr'
        exact wpS_bind (lf (wpAny_comp_letGo (cenv := { cenv with scope := relabel scope env }) hkind _ s'' m hv' hn fun h' m' _ hs' => wpS_pure (hr' h' hs')))
    | error x =>
      cases use <;> exact hr.elim
end

section
variable {prog : Program} {w : World} {A : Around} {E : Value → Shared → Prop} {s : Shared} {R : Result → Shared → Prop}

theorem codeS_compStart {elt target iter ifs rest scope pos it acc env}
    (h0 : codeS (model prog w) A (.compLoop (.ListComp elt (⟨target, iter, ifs, 0⟩ :: rest) scope pos) 0 it acc env) R s)
    (h : wpS (model prog w) A (pyIter it) (fun it' s' => codeS (model prog w) A (.compLoop (.ListComp elt (⟨target, iter, ifs, 0⟩ :: rest) scope pos) 0 it' acc env) R s') (fun _ _ => False) s) :
    codeS (model prog w) A (.compStart (.ListComp elt (⟨target, iter, ifs, 0⟩ :: rest) scope pos) 0 it acc env) R s := by
  refine codeS_of_tree ?_
  show wpS _ _ ((compStart (.ListComp elt (⟨target, iter, ifs, 0⟩ :: rest) scope pos) 0 it acc env).onRaise (fun x => do noteFrame x env; standAt theWindowsPlace)) _ _ s
  refine wpS_onRaise ?_
  unfold compStart
  show wpS _ _ (ask >>= _) _ _ s
  refine wpS_bind (lf (wpAny_askSetting ?_))
  by_cases hb : ((⟨(model prog w).prog, (model prog w).w.params⟩ : Setting).params.followText "comprehension-iter-twice") = true
  · rw [if_pos hb]
    first
      | exact wpS_bind (wpS_pure (wpS_pure (And.intro rfl (And.intro rfl h0))))
      | exact wpS_pure (And.intro rfl (And.intro rfl h0))
  · rw [if_neg hb]
    refine wpS_bind (lf (wpAny_rule ?_))
    show wpS _ _ (standAt iter.pos >>= _) _ _ s
    exact wpS_bind (wpS_standAt (wpS_bind (wpS_mono h (fun it' s' h' => wpS_pure (And.intro rfl (And.intro rfl h'))) fun _ _ x => x)))

theorem codeS_compLoop {elt target iter : Expr} {ifs : List Expr} {scope : Scope} {pos : Pos} {it acc : Value} {env : Env} (I : Nat → Shared → Prop)
    (turn : ∀ n s, I n s → wpS (model prog w) A (pyNext it) (fun r s₁ => match r with
      | none => R (.ok .next) s₁
      | some v => wpS (model prog w) A (assign target env v) (fun _ s₂ =>
          wpS (model prog w) A (forIn ifs true fun c r => if r = true then do let ok ← isTrue c env (eval c env); pure (ForInStep.yield ok) else pure (ForInStep.yield r)) (fun ok s₃ =>
            if ok = true then wpS (model prog w) A (eval elt env) (fun x s₄ =>
              wpS (model prog w) A (call (.builtin "list.append") [acc, x]) (fun _ s₅ => ∃ m, m < n ∧ I m s₅) (fun _ _ => False) s₄) (fun _ _ => False) s₃
            else ∃ m, m < n ∧ I m s₃) (fun _ _ => False) s₂) (fun _ _ => False) s₁) (fun _ _ => False) s)
    (n : Nat) (h : I n s) (ht : ∀ v, letOwnedTupleGo target it v = pure () := by intro _; rfl) :
    codeS (model prog w) A (.compLoop (.ListComp elt [⟨target, iter, ifs, 0⟩] scope pos) 0 it acc env) R s := by
  refine codeS_loop rfl rfl I (fun n s hI => ?_) n h
  show wpS _ A ((compTurn (.ListComp elt [⟨target, iter, ifs, 0⟩] scope pos) 0 it acc env).onRaise (fun x => do noteFrame x env; theTreesLotGoes x)) _ _ s
  refine wpS_onRaise ?_
  rw [compTurn_list]
  refine wpS_bind (wpS_standAt (wpS_bind (wpS_mono (turn n s hI) (fun r s₁ h₁ => ?_) fun _ _ h' => h')))
  cases r with
  | none => exact wpS_pure h₁
  | some v =>
    refine wpS_bind (lf (wpAny_of_eq (ht v) ?_))
    refine wpS_bind (wpS_mono h₁ (fun _ s₂ h₂ => wpS_bind (wpS_mono h₂ (fun ok s₃ h₃ => ?_) fun _ _ h' => h')) fun _ _ h' => h')
    cases ok with
    | false => exact wpS_pure (.inl ⟨rfl, h₃⟩)
    | true =>
      exact wpS_bind (wpS_bind (wpS_mono h₃ (fun x s₄ h₄ => wpS_bind (wpS_mono h₄ (fun _ s₅ h₅ => wpS_pure (wpS_pure (.inl ⟨rfl, h₅⟩))) fun _ _ h' => h')) fun _ _ h' => h'))
end
end Mine
end

section
open PySem PySem.W PySem.Calls PyProof.Rows
set_option Elab.async false
namespace Mine

noncomputable def defList : List (Str × Arguments × List Stmt × Scope) :=
  PySem.Challenge.pw_ph0013_01.main.body.filterMap fun st => match st with
    | .FunctionDef n a b _ _ _ sc _ _ _ => some (n, a, b, sc)
    | _ => none

noncomputable def FnIs (h : Heap) (a : Addr) (x : Str × Arguments × List Stmt × Scope) : Prop :=
  ∃ o pm code doc, h.get? a = some o ∧ o.data = .func (docDef x.1 x.2.1 x.2.2.1 x.2.2.2 pm code doc) ∧ h.CodeRec code x.1

structure Glo (mg mb : Str → Option Value) (h : Heap) : Prop where
  g : h.Ns mainGlobals mg
  b : h.Ns builtinsNs mb
  nolimit : h.NoLimit
  fn : ∀ x ∈ defList, ∃ a, mg x.1 = some (.ref a) ∧ FnIs h a x

theorem Glo.keeps {mg mb : Str → Option Value} {h h' : Heap} (x : Glo mg mb h) (hk : ∀ b o, h.get? b = some o → h'.get? b = some o) : Glo mg mb h' :=
  ⟨x.g.keeps hk, x.b.keeps hk, x.nolimit.keeps hk, fun d hd => let ⟨a, h1, o, pm, code, doc, h2, h3, h4⟩ := x.fn d hd; ⟨a, h1, o, pm, code, doc, hk _ _ h2, h3, h4.keeps hk⟩⟩

structure Cx where
  prog : Program
  w : World
  mg : Str → Option Value
  mb : Str → Option Value
noncomputable abbrev Cx.M (c : Cx) : Model := model c.prog c.w

/-- a name's value -/
noncomputable def LoadsV (env : Env) (n : Str) (v : Value) (h : Heap) : Prop :=
  (env.kindOf n = some .local ∧ ∃ m, h.Ns env.locals m ∧ m n = some v) ∨
  ((env.kindOf n = some .cell ∨ (env.kindOf n = some .free ∧ (n == ("__classdict__" : Str)) = false)) ∧ ∃ c, env.cells.lookup n = some c ∧ h.IsCell c (some v))

theorem LoadsV.keeps {env : Env} {n : Str} {v : Value} {h h' : Heap} (x : LoadsV env n v h) (hk : ∀ b o, h.get? b = some o → h'.get? b = some o) : LoadsV env n v h' := by
  rcases x with ⟨a, m, b, d⟩ | ⟨a, c, b, d⟩
  · exact .inl ⟨a, m, b.keeps hk, d⟩
  · exact .inr ⟨a, c, b, d.keeps hk⟩

/-- a name of the block -/
noncomputable def vis (env : Env) (n : Str) : Bool := env.kindOf n == some .local || env.kindOf n == some .cell || env.kindOf n == some .free
structure EnvR (c : Cx) (X : Addr → Prop) (env : Env) (ρ : List (Str × PV)) (s : Shared) : Prop where
  kind : env.scope.kind = .function
  gl : env.globals = mainGlobals
  bl : env.builtins = builtinsNs
  glo : Glo c.mg c.mb s.heap
  live : Live X s.heap
  val : ∀ n p, ρ.lookup n = some p → vis env n = true → ∃ v, LoadsV env n v s.heap ∧ Rep X s.heap v p

theorem EnvR.kp {c : Cx} {X : Addr → Prop} {env : Env} {ρ : List (Str × PV)} {s s' : Shared} (x : EnvR c X env ρ s) (k : Kp s s') : EnvR c X env ρ s' :=
  ⟨x.kind, x.gl, x.bl, x.glo.keeps k.heap, x.live.kp k, fun n p e hv => let ⟨v, a, b⟩ := x.val n p e hv; ⟨v, a.keeps k.heap, b.kp k⟩⟩

noncomputable def Post (X : Addr → Prop) (s : Shared) (p : PV) : Value → Shared → Prop := fun v s' => Kp s s' ∧ Rep X s'.heap v p

noncomputable def EvR (c : Cx) (n : Nat) (X : Addr → Prop) (env : Env) (ρ : List (Str × PV)) (e : Expr) (p : PV) : Prop :=
  ∀ A E s, AOk n A → EnvR c X env ρ s → wpS c.M A (eval e env) (Post X s p) E s
noncomputable def EvT (c : Cx) (n : Nat) (X : Addr → Prop) (env : Env) (ρ : List (Str × PV)) (e : Expr) (b : Bool) : Prop :=
  ∀ A E s, AOk n A → EnvR c X env ρ s → wpS c.M A (isTrue e env (eval e env)) (fun v s' => Kp s s' ∧ v = b) E s
noncomputable def EvL (c : Cx) (n : Nat) (X : Addr → Prop) (env : Env) (ρ : List (Str × PV)) (es : List Expr) (ps : List PV) : Prop :=
  ∀ pos A E s, AOk n A → EnvR c X env ρ s → wpS c.M A (spliced (backTo pos (starEach es env))) (fun vs s' => Kp s s' ∧ RepL X s'.heap vs ps) E s

noncomputable def Bin (c : Cx) (n : Nat) (op : Operator) (a b r : PV) : Prop :=
  ∀ X A E s va vb, AOk n A → Glo c.mg c.mb s.heap → Live X s.heap → Rep X s.heap va a → Rep X s.heap vb b → wpAny c.M A (binaryOp op va vb) (Post X s r) E s
noncomputable def Cmp (c : Cx) (n : Nat) (op : CmpOp) (a b : PV) (r : Bool) : Prop :=
  ∀ A E s va vb, AOk n A → Glo c.mg c.mb s.heap → Rep X0 s.heap va a → Rep X0 s.heap vb b → wpAny c.M A (compareOp op va vb) (fun v s' => Kp s s' ∧ v = .bool r) E s
noncomputable def Una (c : Cx) (n : Nat) (op : UnaryOp) (a r : PV) : Prop :=
  ∀ X A E s va, AOk n A → Glo c.mg c.mb s.heap → Live X s.heap → Rep X s.heap va a → wpAny c.M A (unaryOp op va) (Post X s r) E s
noncomputable def Fn (c : Cx) (n : Nat) (f : Value) (as : List PV) (r : PV) : Prop :=
  ∀ X A E s vs, AOk n A → Glo c.mg c.mb s.heap → Live X s.heap → RepL X s.heap vs as → wpS c.M A (call f vs) (Post X s r) E s
/-- an item -/
noncomputable def Itm (c : Cx) (n : Nat) (o i r : PV) : Prop :=
  ∀ X A E s vo vi, AOk n A → Glo c.mg c.mb s.heap → Live X s.heap → Rep X s.heap vo o → Rep X s.heap vi i → ∃ T id, s.TypeIs vo T ∧ typeLookup (.type T) "__getitem__" = pure (some (.builtin id)) ∧ wpAny c.M A (getItem vo vi) (Post X s r) E s
noncomputable def Truth (c : Cx) (n : Nat) (a : PV) (r : Bool) : Prop :=
  ∀ A E s va, AOk n A → Glo c.mg c.mb s.heap → Rep X0 s.heap va a → wpAny c.M A (truthy va) (fun v s' => Kp s s' ∧ v = r) E s

section
variable {c : Cx} {n : Nat} {X : Addr → Prop} {env : Env} {ρ : List (Str × PV)}

theorem post_mono {s s' : Shared} {p : PV} (k : Kp s s') {v : Value} {s'' : Shared} (h : Post X s' p v s'') : Post X s p v s'' := ⟨k.trans h.1, h.2⟩

theorem ev_int {i : Int} {k : Nat} {pos : Pos} : EvR c n X env ρ (.Constant (.int i) k pos) (.int i) :=
  fun _ _ _ _ _ => lf (wpAny_Constant_int ⟨Kp.tok, .int _ _⟩)
theorem ev_str {x : Str} {k : Nat} {pos : Pos} : EvR c n X env ρ (.Constant (.str x) k pos) (.str x) :=
  fun _ _ _ _ _ => lf (wpAny_Constant_str ⟨Kp.tok, .str _ _⟩)
theorem ev_bool {b : Bool} {k : Nat} {pos : Pos} : EvR c n X env ρ (.Constant (.bool b) k pos) (.bool b) :=
  fun _ _ _ _ _ => lf (wpAny_Constant_bool ⟨Kp.refl _, .bool _⟩)
theorem ev_none {k : Nat} {pos : Pos} : EvR c n X env ρ (.Constant .none k pos) .none :=
  fun _ _ _ _ _ => lf (wpAny_Constant_none ⟨Kp.refl _, .none⟩)
theorem ev_bytes {b : List UInt8} {k : Nat} {pos : Pos} : EvR c n X env ρ (.Constant (.bytes b) k pos) (.bytes b) :=
  fun _ _ s _ _ => lf <| by
    show wpAny _ _ (mkTextBytes b.toArray) _ _ s
    unfold mkTextBytes
    exact wpAny_bind (wpAny_fresh (wpAny_pure ⟨Kp.tok, .bytes _ _⟩))

theorem ev_name {x : Str} {pos : Pos} {p : PV} (h : ρ.lookup x = some p) (hv : vis env x = true) (hd : (x == ("__debug__" : Str)) = false := by decide +kernel) : EvR c n X env ρ (.Name x pos) p :=
  fun A E s _ R => by
    obtain ⟨v, L, r⟩ := R.val x p h hv
    refine lf (wpAny_Name ?_ hd)
    rcases L with ⟨a, m, b, d⟩ | ⟨a, k, b, d⟩
    · exact wpAny_loadName_local R.kind a b d ⟨Kp.refl _, r⟩
    · rcases a with a | ⟨a, a'⟩
      · exact wpAny_loadName_cell R.kind a b d ⟨Kp.refl _, r⟩
      · exact wpAny_loadName_free R.kind a b d ⟨Kp.refl _, r⟩ a'

theorem ev_binop {l r : Expr} {op : Operator} {pos : Pos} {a b d : PV} (hl : EvR c n X env ρ l a) (hr : EvR c n X env ρ r b) (h : Bin c n op a b d) : EvR c n X env ρ (.BinOp l op r pos) d :=
  fun A E s hA R => wpS_BinOp (wpS_mono (hl A E s hA R) (fun _ s₁ h₁ => wpS_mono (hr A E s₁ hA (R.kp h₁.1)) (fun _ s₂ h₂ =>
    wpS_mono (lf <| h X A E s₂ _ _ hA ((R.kp h₁.1).kp h₂.1).glo ((R.kp h₁.1).kp h₂.1).live (h₁.2.kp h₂.1) h₂.2) (fun _ _ h₃ => ⟨h₁.1.trans (h₂.1.trans h₃.1), h₃.2⟩) fun _ _ e => e) fun _ _ e => e) fun _ _ e => e)

theorem ev_unop {x : Expr} {op : UnaryOp} {pos : Pos} {a d : PV} (hx : EvR c n X env ρ x a) (h : Una c n op a d) : EvR c n X env ρ (.UnaryOp op x pos) d :=
  fun A E s hA R => wpS_UnaryOp (wpS_mono (hx A E s hA R) (fun _ s₁ h₁ =>
    wpS_mono (lf <| h X A E s₁ _ hA (R.kp h₁.1).glo (R.kp h₁.1).live h₁.2) (fun _ _ h₃ => ⟨h₁.1.trans h₃.1, h₃.2⟩) fun _ _ e => e) fun _ _ e => e)

theorem ev_cmp {l r : Expr} {op : CmpOp} {pos : Pos} {a b : PV} {d : Bool} (hl : EvR c n X env ρ l a) (hr : EvR c n X env ρ r b) (h : Cmp c n op a b d)
    (hm : behindInMarks op r = false := by with_unfolding_all rfl) : EvR c n X env ρ (.Compare l [op] [r] pos) (.bool d) :=
  fun A E s hA R => wpS_Compare1 (wpS_mono (hl A E s hA R) (fun _ s₁ h₁ => wpS_mono (hr A E s₁ hA (R.kp h₁.1)) (fun _ s₂ h₂ =>
    wpS_mono (lf <| h A E s₂ _ _ hA ((R.kp h₁.1).kp h₂.1).glo (h₁.2.kp h₂.1).x0 h₂.2.x0) (fun _ _ h₃ => ⟨h₁.1.trans (h₂.1.trans h₃.1), h₃.2 ▸ .bool _⟩) fun _ _ e => e) fun _ _ e => e) fun _ _ e => e) hm

theorem evt_cmp {l r : Expr} {op : CmpOp} {pos : Pos} {a b : PV} {d : Bool} (hl : EvR c n X env ρ l a) (hr : EvR c n X env ρ r b) (h : Cmp c n op a b d)
    (hm : behindInMarks op r = false := by with_unfolding_all rfl) : EvT c n X env ρ (.Compare l [op] [r] pos) d :=
  fun A E s hA R => wpS_isTrue_Compare1 (wpS_mono (hl A E s hA R) (fun _ s₁ h₁ => wpS_mono (hr A E s₁ hA (R.kp h₁.1)) (fun _ s₂ h₂ =>
    wpS_mono (lf <| h A E s₂ _ _ hA ((R.kp h₁.1).kp h₂.1).glo (h₁.2.kp h₂.1).x0 h₂.2.x0) (fun v _ h₃ => by
      obtain ⟨k, rfl⟩ := h₃
      exact lf <| wpAny_truthy_bool ⟨h₁.1.trans (h₂.1.trans k), rfl⟩) fun _ _ e => e) fun _ _ e => e) fun _ _ e => e) hm

theorem ev_ifexp {t b o : Expr} {pos : Pos} {d : Bool} {p : PV} (ht : EvT c n X env ρ t d) (hb : d = true → EvR c n X env ρ b p) (ho : d = false → EvR c n X env ρ o p) : EvR c n X env ρ (.IfExp t b o pos) p :=
  fun A E s hA R => wpS_IfExp (wpS_mono (ht A E s hA R) (fun v s₁ h₁ => by
    obtain ⟨k, rfl⟩ := h₁
    cases v with
    | true => exact wpS_mono (hb rfl A E s₁ hA (R.kp k)) (fun _ _ h => post_mono k h) fun _ _ e => e
    | false => exact wpS_mono (ho rfl A E s₁ hA (R.kp k)) (fun _ _ h => post_mono k h) fun _ _ e => e) fun _ _ e => e)

theorem evl_nil : EvL c n X env ρ [] [] := fun _ _ _ _ _ _ => lf (wpAny_items_nil ⟨Kp.refl _, .nil⟩)
theorem evl_cons {e : Expr} {es : List Expr} {p : PV} {ps : List PV} (h1 : EvR c n X env ρ e p) (h2 : EvL c n X env ρ es ps)
    (he : ∀ env, starEach (e :: es) env = (false, eval e env) :: starEach es env := by intro _; exact starEach_no rfl) : EvL c n X env ρ (e :: es) (p :: ps) :=
  fun pos A E s hA R => wpS_items_cons (wpS_mono (h1 A E s hA R) (fun _ s₁ h₁ => wpS_mono (h2 pos A E s₁ hA (R.kp h₁.1)) (fun _ _ h₂ => ⟨h₁.1.trans h₂.1, .cons (h₁.2.kp h₂.1) h₂.2⟩) fun _ _ e => e) fun _ _ e => e) (he env)

theorem rep_new_list {s : Shared} {vs : List Value} {ps : List PV} (hl : Live X s.heap) (h : RepL X s.heap vs ps) :
    Post X s (.list ps) (.ref s.heap.objs.size) { s with heap := s.heap.push { cls := .type "list", data := .seq vs.toArray } } :=
  ⟨Kp.push, .list hl.new ⟨_, Heap.get?_push_size _ rfl⟩ (h.kp Kp.push)⟩

theorem ev_list {es : List Expr} {pos : Pos} {ps : List PV} (h : EvL c n X env ρ es ps) (hz : ps.length ≤ 1000) : EvR c n X env ρ (.List es pos) (.list ps) :=
  fun A E s hA R => wpS_List (wpS_mono (h pos A E s hA R) (fun vs s₁ h₁ => ⟨by
      rw [h₁.2.length]; exact Nat.le_trans hz (by decide), post_mono h₁.1 (rep_new_list (R.kp h₁.1).live h₁.2)⟩) fun _ _ e => e)

theorem wp_subscripted {slice : Expr} {o i : Value} {A : Around} {E : Value → Shared → Prop} {s : Shared} {Q : Value → Shared → Prop} (h : wpS c.M A (getItem o i) Q E s) :
    wpS c.M A (subscripted slice false o i) Q E s := by
  unfold subscripted
  split
  · exact wpS_operating h
  · rename_i h' ; cases h'
  · exact wpS_operating h
end
end Mine
end

section
open PySem PySem.W PySem.Calls PyProof.Rows
set_option Elab.async false
set_option linter.unusedVariables false
namespace Mine
section
variable {c : Cx} {n : Nat} {X : Addr → Prop} {env : Env} {ρ : List (Str × PV)}

theorem ld_glob {A : Around} {E : Value → Shared → Prop} {s : Shared} {Q : Value → Shared → Prop} {x : Str} {pos : Pos} {v : Value} (R : EnvR c X env ρ s) (hk : env.kindOf x = some .globalImplicit) (hg : c.mg x = some v) (h : Q v s)
    (hd : (x == ("__debug__" : Str)) = false := by decide +kernel) : wpS c.M A (eval (.Name x pos) env) Q E s :=
  lf (Name_function_global R.kind hk (loadGlobal_global (mg := c.mg) (R.gl ▸ R.glo.g) hg h) hd)
theorem ld_bi {A : Around} {E : Value → Shared → Prop} {s : Shared} {Q : Value → Shared → Prop} {x : Str} {pos : Pos} {v : Value} (R : EnvR c X env ρ s) (hk : env.kindOf x = some .globalImplicit) (hg : c.mg x = none) (hb : c.mb x = some v) (h : Q v s)
    (hd : (x == ("__debug__" : Str)) = false := by decide +kernel) : wpS c.M A (eval (.Name x pos) env) Q E s :=
  lf (Name_function_global R.kind hk (loadGlobal_builtin (mg := c.mg) (mb := c.mb) (R.gl ▸ R.glo.g) hg (R.bl ▸ R.glo.b) hb h) hd)

/-- a global int -/
theorem ev_gint {x : Str} {pos : Pos} {i : Int} (hk : env.kindOf x = some .globalImplicit) (hg : ∃ t, c.mg x = some (.int i t)) (hd : (x == ("__debug__" : Str)) = false := by decide +kernel) : EvR c n X env ρ (.Name x pos) (.int i) :=
  fun A E s _ R => let ⟨t, hg⟩ := hg; ld_glob R hk hg ⟨Kp.refl _, .int _ t⟩ hd

/-- a built-in type, named -/
theorem ev_tyname {x : Str} {T : String} {pos : Pos} (hg : c.mg x = none) (hb : c.mb x = some (.type T)) (hk : env.kindOf x = some .globalImplicit) (hd : (x == ("__debug__" : Str)) = false := by decide +kernel) : EvR c n X env ρ (.Name x pos) (.ty T) :=
  fun A E s _ R => ld_bi R hk hg hb ⟨Kp.refl _, .ty _⟩ hd

theorem args_cons {A : Around} {E : Value → Shared → Prop} {s : Shared} {f : Value} {pos : Pos} {e : Expr} {es : List Expr} {Q : Args → Shared → Prop}
    (h : wpS c.M A (spliced (backTo pos (starEach (e :: es) env))) (fun vs s' => Q ⟨vs, []⟩ s') E s)
    (he : starEach (e :: es) env = (false, eval e env) :: starEach es env) :
    wpS c.M A (evalArgs f true (backTo pos (starEach (e :: es) env)) []) Q E s := by
  rw [he] at h ⊢
  exact wpS_evalArgs h

/-- a def of the text, called -/
noncomputable def FnD (c : Cx) (n : Nat) (x : Str × Arguments × List Stmt × Scope) (as : List PV) (r : PV) : Prop :=
  ∀ X A E s vs a, AOk n A → Glo c.mg c.mb s.heap → Live X s.heap → c.mg x.1 = some (.ref a) → FnIs s.heap a x → RepL X s.heap vs as → wpS c.M A (call (.ref a) vs) (Post X s r) E s

theorem ev_def {x : Str × Arguments × List Stmt × Scope} {nm : Str} {np pos : Pos} {e : Expr} {es : List Expr} {ps : List PV} {r : PV} (hnm : x.1 = nm) (hx : x ∈ defList) (hk : env.kindOf nm = some .globalImplicit)
    (ha : EvL c n X env ρ (e :: es) ps) (hf : FnD c n x ps r)
    (he : starEach (e :: es) env = (false, eval e env) :: starEach es env := by exact starEach_no rfl)
    (hpl : (backTo pos (starEach (e :: es) env)).any (·.1) = false := by exact plain_no rfl)
    (hd : (nm == ("__debug__" : Str)) = false := by decide +kernel) : EvR c n X env ρ (.Call (.Name nm np) (e :: es) [] pos) r :=
  fun A E s hA R => by
    subst hnm
    obtain ⟨a, hg, hfn⟩ := R.glo.fn x hx
    obtain ⟨o, pm, code, doc, ho, hdt, hcr⟩ := id hfn
    refine wpS_Call_Name (ld_glob R hk hg ?_ hd)
    refine wpS_callWith_function (o := o) hpl (args_cons (wpS_mono (ha pos A E s hA R) (fun vs s₁ h₁ => ⟨⟨h₁.1.heap _ _ ho, hdt⟩, ?_⟩) fun _ _ e => e) he)
    refine wpS_mono (hf X A E s₁ vs a hA (R.kp h₁.1).glo (R.kp h₁.1).live hg ⟨o, pm, code, doc, h₁.1.heap _ _ ho, hdt, hcr.keeps h₁.1.heap⟩ h₁.2) (fun _ _ h => post_mono h₁.1 h) fun _ _ e => e

theorem ev_bi {x : Str} {id : String} {np pos : Pos} {e : Expr} {es : List Expr} {ps : List PV} {r : PV} (hg : c.mg x = none) (hb : c.mb x = some (.builtin id)) (hk : env.kindOf x = some .globalImplicit)
    (ha : EvL c n X env ρ (e :: es) ps) (hf : Fn c n (.builtin id) ps r)
    (he : starEach (e :: es) env = (false, eval e env) :: starEach es env := by exact starEach_no rfl)
    (hpl : (backTo pos (starEach (e :: es) env)).any (·.1) = false := by exact plain_no rfl)
    (hd : (x == ("__debug__" : Str)) = false := by decide +kernel) : EvR c n X env ρ (.Call (.Name x np) (e :: es) [] pos) r :=
  fun A E s hA R => by
    refine wpS_Call_Name (ld_bi R hk hg hb ?_ hd)
    refine wpS_callWith_builtin hpl (args_cons (wpS_mono (ha pos A E s hA R) (fun vs s₁ h₁ => ?_) fun _ _ e => e) he)
    exact wpS_mono (hf X A E s₁ vs hA (R.kp h₁.1).glo (R.kp h₁.1).live h₁.2) (fun _ _ h => post_mono h₁.1 h) fun _ _ e => e

theorem ev_ty {x : Str} {T : String} {np pos : Pos} {e : Expr} {es : List Expr} {ps : List PV} {r : PV} (hg : c.mg x = none) (hb : c.mb x = some (.type T)) (hk : env.kindOf x = some .globalImplicit)
    (ha : EvL c n X env ρ (e :: es) ps) (hf : Fn c n (.type T) ps r)
    (he : starEach (e :: es) env = (false, eval e env) :: starEach es env := by exact starEach_no rfl)
    (hpl : (backTo pos (starEach (e :: es) env)).any (·.1) = false := by exact plain_no rfl)
    (hd : (x == ("__debug__" : Str)) = false := by decide +kernel) : EvR c n X env ρ (.Call (.Name x np) (e :: es) [] pos) r :=
  fun A E s hA R => by
    refine wpS_Call_Name (ld_bi R hk hg hb ?_ hd)
    refine wpS_callWith_type hpl (args_cons (wpS_mono (ha pos A E s hA R) (fun vs s₁ h₁ => ?_) fun _ _ e => e) he)
    exact wpS_mono (hf X A E s₁ vs hA (R.kp h₁.1).glo (R.kp h₁.1).live h₁.2) (fun _ _ h => post_mono h₁.1 h) fun _ _ e => e

/-- a subscript by a plain index -/
theorem ev_item {v i : Expr} {pos : Pos} {o k r : PV} (hv : EvR c n X env ρ v o) (hi : EvR c n X env ρ i k) (h : Itm c n o k r) : EvR c n X env ρ (.Subscript v i pos) r :=
  fun A E s hA R => by
    rw [arm_eval_Subscript]
    refine wpS_bind (wpS_mono (hv A E s hA R) (fun vo s₁ h₁ => wpS_bind (wpS_holding (wpS_mono (hi A E s₁ hA (R.kp h₁.1)) (fun vi s₂ h₂ => wpS_bind (wpS_standAt ?_)) fun _ _ e => e))) fun _ _ e => e)
    obtain ⟨T, id, hT, hl, hg⟩ := h X A E s₂ vo vi hA ((R.kp h₁.1).kp h₂.1).glo ((R.kp h₁.1).kp h₂.1).live (h₁.2.kp h₂.1) h₂.2
    unfold getitemInPython
    refine wpS_bind (lf <| wpAny_bind (wpAny_specialOf hT hl (wpAny_pure ?_)))
    refine wpS_bind (wp_subscripted (wpS_mono (lf hg) (fun r s₃ h₃ => wpS_bind (lf <| wpAny_letTemporaryGo (wpS_pure ⟨h₁.1.trans (h₂.1.trans h₃.1), h₃.2⟩))) fun _ _ e => e))

/-- a part of a slice -/
inductive Prt : PV → Option Int → Prop
  | none : Prt .none Option.none
  | int (i : Int) : Prt (.int i) (some i)
noncomputable def EvP (c : Cx) (n : Nat) (X : Addr → Prop) (env : Env) (ρ : List (Str × PV)) (e : Option Expr) (i : Option Int) : Prop :=
  ∀ A E s, AOk n A → EnvR c X env ρ s → wpS c.M A (evalPart e env) (fun v s' => Kp s s' ∧ IsPart v i) E s
theorem evp_none : EvP c n X env ρ none none := fun _ _ _ _ _ => wpS_pure ⟨Kp.refl _, .none⟩
theorem evp_some {e : Expr} {i : Int} (h : EvR c n X env ρ e (.int i)) : EvP c n X env ρ (some e) (some i) := fun A E s hA R =>
  wpS_mono (h A E s hA R) (fun v s' h' => ⟨h'.1, by cases h'.2; exact .int _ _⟩) fun _ _ e => e

/-- a cut: the value cut, the parts, the piece -/
noncomputable def Cut (c : Cx) (n : Nat) (o : PV) (l u st : Option Int) (r : PV) : Prop :=
  ∀ X A E s vo sl vl vu vs, AOk n A → Glo c.mg c.mb s.heap → Live X s.heap → Rep X s.heap vo o → s.heap.IsSliceOf sl vl vu vs → IsPart vl l → IsPart vu u → IsPart vs st →
    ∃ T id, s.TypeIs vo T ∧ typeLookup (.type T) "__getitem__" = pure (some (.builtin id)) ∧ wpAny c.M A (getItem vo (.ref sl)) (Post X s r) E s

theorem ev_cut {v : Expr} {l u st : Option Expr} {p pos : Pos} {o r : PV} {il iu is : Option Int} (hv : EvR c n X env ρ v o) (hl : EvP c n X env ρ l il) (hu : EvP c n X env ρ u iu) (hs : EvP c n X env ρ st is)
    (h : Cut c n o il iu is r) : EvR c n X env ρ (.Subscript v (.Slice l u st p) pos) r :=
  fun A E s hA R => by
    rw [arm_eval_Subscript]
    refine wpS_bind (wpS_mono (hv A E s hA R) (fun vo s₁ h₁ => wpS_bind (wpS_holding ?_)) fun _ _ e => e)
    refine wpS_Slice (wpS_mono (hl A E s₁ hA (R.kp h₁.1)) (fun vl s₂ h₂ => wpS_mono (hu A E s₂ hA ((R.kp h₁.1).kp h₂.1)) (fun vu s₃ h₃ =>
      wpS_mono (hs A E s₃ hA (((R.kp h₁.1).kp h₂.1).kp h₃.1)) (fun vs s₄ h₄ => wpS_bind (wpS_standAt ?_)) fun _ _ e => e) fun _ _ e => e) fun _ _ e => e)
    have k4 : Kp s₁ s₄ := h₂.1.trans (h₃.1.trans h₄.1)
    have k5 : Kp s₄ { s₄ with heap := s₄.heap.push { cls := .type "slice", data := .fields #[vl, vu, vs] } } := Kp.push
    obtain ⟨T, id, hT, hlk, hg⟩ := h X A E { s₄ with heap := s₄.heap.push { cls := .type "slice", data := .fields #[vl, vu, vs] } } vo s₄.heap.objs.size vl vu vs hA
      (((R.kp h₁.1).kp k4).kp k5).glo (((R.kp h₁.1).kp k4).kp k5).live ((h₁.2.kp k4).kp k5) ⟨_, Heap.get?_push_size _ rfl, rfl, rfl⟩ h₂.2 h₃.2 h₄.2
    unfold getitemInPython
    refine wpS_bind (lf <| wpAny_bind (wpAny_specialOf hT hlk (wpAny_pure ?_)))
    refine wpS_bind (wp_subscripted (wpS_mono (lf hg) (fun r s₃ h₃ => wpS_bind (lf <| wpAny_letTemporaryGo (wpS_pure ⟨h₁.1.trans (k4.trans (k5.trans h₃.1)), h₃.2⟩))) fun _ _ e => e))

theorem evt_val {e : Expr} {p : PV} {b : Bool} (h : EvR c n X env ρ e p) (ht : Truth c n p b) (hp : ∀ whole, isTrue e env whole = (do let v ← whole; holding [v] (truthy v)) := by intro _; rfl) : EvT c n X env ρ e b :=
  fun A E s hA R => by
    rw [hp]
    exact wpS_bind (wpS_mono (h A E s hA R) (fun v s₁ h₁ => wpS_holding (wpS_mono (lf <| ht A E s₁ v hA (R.kp h₁.1).glo h₁.2.x0) (fun _ _ h => ⟨h₁.1.trans h.1, h.2⟩) fun _ _ e => e)) fun _ _ e => e)
theorem truth_bool {b : Bool} : Truth c n (.bool b) b := fun A E s v _ _ r => by cases r; exact wpAny_truthy_bool ⟨Kp.refl _, rfl⟩

theorem evt_not {x : Expr} {pos : Pos} {b : Bool} (h : EvT c n X env ρ x b) : EvT c n X env ρ (.UnaryOp .Not x pos) (!b) :=
  fun A E s hA R => wpS_isTrue_Not (wpS_mono (h A E s hA R) (fun v s₁ h₁ => ⟨h₁.1, by rw [h₁.2]⟩) fun _ _ e => e)
theorem evt_or {x y : Expr} {pos : Pos} {a b : Bool} (hx : EvT c n X env ρ x a) (hy : a = false → EvT c n X env ρ y b) : EvT c n X env ρ (.BoolOp .Or [x, y] pos) (a || b) :=
  fun A E s hA R => wpS_allTrue_cons (wpS_mono (hx A E s hA R) (fun v s₁ h₁ => by
    obtain ⟨k, rfl⟩ := h₁
    cases v with
    | true => exact ⟨k, rfl⟩
    | false => exact wpS_allTrue_cons (wpS_mono (hy rfl A E s₁ hA (R.kp k)) (fun u s₂ h₂ => by
        obtain ⟨k₂, rfl⟩ := h₂
        cases u with
        | true => exact ⟨k.trans k₂, rfl⟩
        | false => exact lf (wpAny_allTrue_Or_nil ⟨k.trans k₂, rfl⟩)) fun _ _ e => e)) fun _ _ e => e)
theorem evt_and {x y : Expr} {pos : Pos} {a b : Bool} (hx : EvT c n X env ρ x a) (hy : a = true → EvT c n X env ρ y b) : EvT c n X env ρ (.BoolOp .And [x, y] pos) (a && b) :=
  fun A E s hA R => wpS_allTrue_cons (wpS_mono (hx A E s hA R) (fun v s₁ h₁ => by
    obtain ⟨k, rfl⟩ := h₁
    cases v with
    | false => exact ⟨k, rfl⟩
    | true => exact wpS_allTrue_cons (wpS_mono (hy rfl A E s₁ hA (R.kp k)) (fun u s₂ h₂ => by
        obtain ⟨k₂, rfl⟩ := h₂
        cases u with
        | false => exact ⟨k.trans k₂, rfl⟩
        | true => exact lf (wpAny_allTrue_And_nil ⟨k.trans k₂, rfl⟩)) fun _ _ e => e)) fun _ _ e => e)
end
end Mine
end

section
open PySem PySem.W PySem.Calls PyProof.Rows
set_option Elab.async false
set_option linter.unusedVariables false
namespace Mine
section
variable {c : Cx} {n : Nat}

theorem bin_add {a b : Int} : Bin c n .Add (.int a) (.int b) (.int (a + b)) := fun X A E s va vb _ _ hl ra rb => by cases ra; cases rb; exact PyProof.Rows.add_int ⟨Kp.tok, .int _ _⟩
theorem bin_sub {a b : Int} : Bin c n .Sub (.int a) (.int b) (.int (a - b)) := fun X A E s va vb _ _ hl ra rb => by cases ra; cases rb; exact PyProof.Rows.sub_int ⟨Kp.tok, .int _ _⟩
theorem bin_mul {a b : Int} (h : a.natAbs < 2 ^ 40) : Bin c n .Mult (.int a) (.int b) (.int (a * b)) := fun X A E s va vb _ _ hl ra rb => by
  cases ra; cases rb
  refine PyProof.Rows.mul_int ⟨Kp.tok, .int _ _⟩ ?_
  exact .of_left (intBits_le_64 (by omega) (by omega))
theorem bin_mod {a b : Int} (hb : b ≠ 0) : Bin c n .Mod (.int a) (.int b) (.int (a.fmod b)) := fun X A E s va vb _ _ hl ra rb => by cases ra; cases rb; exact mod_int' hb ⟨Kp.tok, .int _ _⟩
theorem bin_div {a b : Int} (hb : b ≠ 0) (hs : b.natAbs < 1073741824) : Bin c n .FloorDiv (.int a) (.int b) (.int (a.fdiv b)) := fun X A E s va vb _ _ hl ra rb => by
  cases ra; cases rb; exact floordiv_int hb ⟨Kp.tok, .int _ _⟩ (.inl (PyProof.noPylong_small hs))
theorem bin_subb {p q : Bool} : Bin c n .Sub (.bool p) (.bool q) (.int (b2i p - b2i q)) := fun X A E s va vb _ _ hl ra rb => by cases ra; cases rb; exact sub_bool ⟨Kp.tok, .int _ _⟩
theorem una_neg {a : Int} : Una c n .USub (.int a) (.int (-a)) := fun X A E s va _ _ hl ra => by cases ra; exact PyProof.Rows.neg_int ⟨Kp.tok, .int _ _⟩

theorem cmp_eq {a b : Int} : Cmp c n .Eq (.int a) (.int b) (a == b) := fun A E s va vb _ _ ra rb => by cases ra; cases rb; exact PyProof.Rows.eq_int ⟨Kp.refl _, rfl⟩
theorem cmp_ne {a b : Int} : Cmp c n .NotEq (.int a) (.int b) (a != b) := fun A E s va vb _ _ ra rb => by cases ra; cases rb; exact PyProof.Rows.ne_int ⟨Kp.refl _, rfl⟩
theorem cmp_lt {a b : Int} : Cmp c n .Lt (.int a) (.int b) (decide (a < b)) := fun A E s va vb _ _ ra rb => by cases ra; cases rb; exact PyProof.Rows.lt_int ⟨Kp.refl _, rfl⟩
theorem cmp_le {a b : Int} : Cmp c n .LtE (.int a) (.int b) (decide (a ≤ b)) := fun A E s va vb _ _ ra rb => by cases ra; cases rb; exact PyProof.Rows.le_int ⟨Kp.refl _, rfl⟩
theorem cmp_lts {a b : Str} : Cmp c n .Lt (.str a) (.str b) (decide (a.cps.toList < b.cps.toList)) := fun A E s va vb _ _ ra rb => by cases ra; cases rb; exact PyProof.Rows.lt_str ⟨Kp.refl _, rfl⟩
theorem cmp_gts {a b : Str} : Cmp c n .Gt (.str a) (.str b) (decide (b.cps.toList < a.cps.toList)) := fun A E s va vb _ _ ra rb => by cases ra; cases rb; exact P.gt_str ⟨Kp.refl _, rfl⟩
theorem cmp_eqb {a b : List UInt8} : Cmp c n .Eq (.bytes a) (.bytes b) (a == b) := fun A E s va vb _ _ ra rb => by cases ra; cases rb; exact eq_bytes ⟨Kp.refl _, rfl⟩
theorem cmp_neb {a b : List UInt8} : Cmp c n .NotEq (.bytes a) (.bytes b) (a != b) := fun A E s va vb _ _ ra rb => by cases ra; cases rb; exact ne_bytes ⟨Kp.refl _, rfl⟩
theorem cmp_isnone {p : PV} {b : Bool} (h : b = (match p with | .none => true | _ => false)) : Cmp c n .Is p .none b := fun A E s va vb _ _ ra rb => by
  cases rb
  subst h
  cases ra <;> exact is_none ⟨Kp.refl _, rfl⟩

theorem AOk.u64 {A : Around} (x : AOk n A) : A.units + 64 < cLine := by have := x.hu; unfold cLine; omega
theorem AOk.u0 {A : Around} (x : AOk n A) : A.units < cLine := by have := x.hu; unfold cLine; omega

/-- lists of ints -/
noncomputable abbrev intsV (ns : List Int) : PV := .list (ns.map .int)
theorem cmp_eqL {a b : List Int} : Cmp c n .Eq (intsV a) (intsV b) (decide (a = b)) := fun A E s va vb hA _ ra rb => by
  cases ra with | list _ ho hr => cases rb with | list _ ho' hr' => exact eq_intsK ho.isList hr.ints ho'.isList hr'.ints hA.u64 ⟨Kp.refl _, rfl⟩
theorem cmp_neL {a b : List Int} : Cmp c n .NotEq (intsV a) (intsV b) (!decide (a = b)) := fun A E s va vb hA _ ra rb => by
  cases ra with | list _ ho hr => cases rb with | list _ ho' hr' => exact ne_intsK ho.isList hr.ints ho'.isList hr'.ints hA.u64 ⟨Kp.refl _, rfl⟩

theorem bin_addL {a b : List PV} (h : a.length + b.length ≤ 10000) : Bin c n .Add (.list a) (.list b) (.list (a ++ b)) := fun X A E s va vb hA _ hl ra rb => by
  cases ra with
  | list _ ho hr => cases rb with
    | list _ ho' hr' =>
      rename_i l vs l' vs'
      obtain ⟨k, ho⟩ := ho
      obtain ⟨k', ho'⟩ := ho'
      refine P.add_list ho ho' ?_ (by
        have := hr.length; have := hr'.length
        simp only [List.size_toArray]; rw [sizeLine_eq]; omega)
      rw [List.append_toArray]
      exact rep_new_list hl (hr.append hr')
theorem len_list' {a : List PV} (h : a.length ≤ 10000) : Fn c n (.builtin "len") [.list a] (.int a.length) := fun X A E s vs hA _ hl ra => by
  cases ra with | cons r1 r2 => cases r2; cases r1 with
  | list _ ho hr =>
    have e := hr.length
    refine lf <| PyProof.Rows.len_list ho.isList (by simp only [List.size_toArray]; omega) ?_
    simp only [List.size_toArray, e]
    exact ⟨Kp.tok, .int _ _⟩
theorem len_bytes' {a : List UInt8} (h : a.length ≤ 10000) : Fn c n (.builtin "len") [.bytes a] (.int a.length) := fun X A E s vs hA _ hl ra => by
  cases ra with | cons r1 r2 => cases r2; cases r1 with
  | bytes =>
    refine lf <| len_bytes (by simp only [List.size_toArray]; omega) ?_
    simp only [List.size_toArray]
    exact ⟨Kp.tok, .int _ _⟩
theorem itm_list {a : List PV} {i : Int} {p : PV} (h0 : 0 ≤ i) (hi : a[i.toNat]? = some p) (hs : i < 2 ^ 62) : Itm c n (.list a) (.int i) p := fun X A E s vo vi hA _ hl ra rb => by
  cases rb
  cases ra with
  | list _ ho hr =>
    obtain ⟨v, hv, rv⟩ := hr.get hi
    exact ⟨_, _, ho.isList.typeIs, slot_list_getitem.lookup, wpAny_getItem_list ho.isList h0 (by omega) (by simpa using hv) ⟨Kp.refl _, rv⟩⟩
theorem itm_list_neg {a : List PV} {i : Int} {p : PV} (h0 : i < 0) (h1 : -(a.length : Int) ≤ i) (hi : a[(i + a.length).toNat]? = some p) (hs : -(2 ^ 62) < i) : Itm c n (.list a) (.int i) p := fun X A E s vo vi hA _ hl ra rb => by
  cases rb
  cases ra with
  | list _ ho hr =>
    have e := hr.length
    obtain ⟨v, hv, rv⟩ := hr.get hi
    exact ⟨_, _, ho.isList.typeIs, slot_list_getitem.lookup, wpAny_getItem_list_neg ho.isList h0 (by simp only [List.size_toArray, e]; exact h1) (by omega) (by simp only [List.size_toArray, e]; simpa using hv) ⟨Kp.refl _, rv⟩⟩
theorem itm_bytes {a : List UInt8} {i : Int} (h0 : 0 ≤ i) (h1 : i < a.length) (hs : a.length ≤ 10000) : Itm c n (.bytes a) (.int i) (.int (a.getD i.toNat 0).toNat) := fun X A E s vo vi hA _ hl ra rb => by
  cases rb
  cases ra
  exact ⟨_, _, typeIs_bytes _ _ _, FB.slot_bytes_getitem.lookup, getItem_bytes (by omega) h0 h1 ⟨Kp.tok, .int _ _⟩⟩

theorem repL_pick {X : Addr → Prop} {h : Heap} {vs : List Value} {ps : List PV} (hr : RepL X h vs ps) : ∀ (is : List Nat), RepL X h (is.filterMap (vs[·]?)) (is.filterMap (ps[·]?))
  | [] => .nil
  | i :: is => by
    cases hv : vs[i]? with
    | none =>
      have hp : ps[i]? = none := by
        rw [List.getElem?_eq_none_iff] at hv ⊢
        rw [← hr.length]; exact hv
      simp only [List.filterMap_cons, hv, hp]
      exact repL_pick hr is
    | some v =>
      obtain ⟨p, hp, rp⟩ := hr.getv hv
      simp only [List.filterMap_cons, hv, hp]
      exact .cons rp (repL_pick hr is)

noncomputable def pick {α : Type} (xs : List α) (lo hi st : Option Int) : List α :=
  (sliceRange (sliceBounds lo hi st xs.length).1 (sliceBounds lo hi st xs.length).2.1 (sliceBounds lo hi st xs.length).2.2).filterMap (xs[·]?)
theorem cut_list {a : List PV} {l u st : Option Int} (h0 : st ≠ some 0) (hs : a.length ≤ 10000) : Cut c n (.list a) l u st (.list (pick a l u st)) := fun X A E s vo sl vl vu vs hA _ hl ra hsl pl pu ps => by
  cases ra with
  | list _ ho hr =>
    have e := hr.length
    refine ⟨_, _, ho.isList.typeIs, slot_list_getitem.lookup, wpAny_getItem_list_slice ho.isList hsl pl pu ps h0 ?_ (by simp only [List.size_toArray]; rw [sizeLine_eq]; omega)⟩
    unfold slicePick
    simp only [List.size_toArray, e, List.getElem?_toArray]
    exact rep_new_list hl (repL_pick hr _)
end
end Mine
end

section
open PySem PySem.W PySem.Calls PyProof.Rows
set_option Elab.async false
set_option linter.unusedVariables false
namespace Mine
theorem RepL.one {X : Addr → Prop} {h : Heap} {vs : List Value} {p : PV} (x : RepL X h vs [p]) : ∃ v, vs = [v] ∧ Rep X h v p := by
  cases x with | cons r1 r2 => cases r2; exact ⟨_, rfl, r1⟩
theorem RepL.two {X : Addr → Prop} {h : Heap} {vs : List Value} {p q : PV} (x : RepL X h vs [p, q]) : ∃ v u, vs = [v, u] ∧ Rep X h v p ∧ Rep X h u q := by
  cases x with | cons r1 r2 => obtain ⟨u, rfl, r3⟩ := r2.one; exact ⟨_, _, rfl, r1, r3⟩
theorem RepL.three {X : Addr → Prop} {h : Heap} {vs : List Value} {p q r : PV} (x : RepL X h vs [p, q, r]) : ∃ v u y, vs = [v, u, y] ∧ Rep X h v p ∧ Rep X h u q ∧ Rep X h y r := by
  cases x with | cons r1 r2 => obtain ⟨u, y, rfl, r4, r3⟩ := r2.two; exact ⟨_, _, _, rfl, r1, r4, r3⟩
theorem Rep.listI {X : Addr → Prop} {h : Heap} {v : Value} {xs : List PV} (x : Rep X h v (.list xs)) : ∃ a vs, v = .ref a ∧ h.PlainList a vs.toArray ∧ RepL X h vs xs ∧ ¬ X a := by
  cases x with | list hx ho hr => exact ⟨_, _, rfl, ho, hr, hx⟩
theorem Rep.intI {X : Addr → Prop} {h : Heap} {v : Value} {i : Int} (x : Rep X h v (.int i)) : ∃ t, v = .int i t := by cases x; exact ⟨_, rfl⟩
theorem Rep.strI {X : Addr → Prop} {h : Heap} {v : Value} {i : Str} (x : Rep X h v (.str i)) : ∃ t, v = .str i t := by cases x; exact ⟨_, rfl⟩
theorem Rep.bytesI {X : Addr → Prop} {h : Heap} {v : Value} {i : List UInt8} (x : Rep X h v (.bytes i)) : ∃ t, v = .bytes i.toArray t := by cases x; exact ⟨_, rfl⟩

noncomputable def rng (a b c : Int) : List Int := (List.range (Builtin.Range.rangeSize a b c).toNat).map fun (i : Nat) => a + i * c

noncomputable def Iter (c : Cx) (X : Addr → Prop) (p : PV) (xs : List PV) : Prop :=
  ∀ A E s v (Q : Value → Shared → Prop), A.handled = none → Live X s.heap → Rep X s.heap v p →
    (∀ (I : Addr) (s₂ : Shared) (fp wr : List Addr) (P : Nat → Value → Prop) (St : Nat → Heap → Prop), Kp s s₂ →
      (∀ A' : Around, A'.handled = none → Walks c.prog c.w A' I fp wr xs.length P St) → St 0 s₂.heap → s.heap.objs.size ≤ s₂.heap.objs.size → (∀ b ∈ fp, b < s₂.heap.objs.size) → (∀ b ∈ wr, s.heap.get? b = none) →
      (∀ b ∈ fp, b ∈ wr ∨ ¬ X b) → (∀ i h, St i h → (∀ b ∈ wr, ∃ o, h.get? b = some o ∧ IsIt o) ∧ ∀ b ∈ fp, ∃ o, h.get? b = some o ∧ Dt o) → (∀ i u, P i u → ∃ q, xs[i]? = some q ∧ Rep X s.heap u q) → Q (.ref I) s₂) → wpAny c.M A (pyIter v) Q E s

section
variable {c : Cx} {n : Nat}
theorem iter_list {X : Addr → Prop} {xs : List PV} : Iter c X (.list xs) xs := fun A E s v Q hh hl r h => by
  obtain ⟨a, vs, rfl, ho, hr, hxa⟩ := r.listI
  · refine wpAny_pyIter_list ho.isList (h s.heap.objs.size _ [s.heap.objs.size, a] [s.heap.objs.size] (fun i v => vs.toArray[i]? = some v)
      (fun i h => h.IsListIter s.heap.objs.size a i ∧ h.IsList a vs.toArray) Kp.push (fun A' hh' => ?_) ?_ (by rw [Heap.size_push]; exact Nat.le_succ _) ?_ ?_ ?_ ?_ ?_)
    · have hne : a ≠ s.heap.objs.size := by
        obtain ⟨k, e⟩ := ho
        exact Nat.ne_of_lt (Heap.lt_size e)
      have := Walks.list (prog := c.prog) (w := c.w) hh' s.heap.objs.size a hne vs.toArray
      have e : vs.toArray.size = xs.length := by rw [List.size_toArray, hr.length]
      rwa [e] at this
    · exact ⟨⟨_, Heap.get?_push_size _ rfl, rfl, rfl⟩, ho.isList.push _⟩
    · intro b hb
      rw [Heap.size_push]
      obtain ⟨k, e⟩ := ho
      have := Heap.lt_size e
      simp at hb
      rcases hb with rfl | rfl
      · exact Nat.lt_succ_self _
      · exact Nat.lt_succ_of_lt this
    · intro b hb
      simp at hb
      subst hb
      exact get_size _
    · intro b hb
      simp at hb
      rcases hb with rfl | rfl
      · exact .inl (by simp)
      · exact .inr hxa
    · rintro i h ⟨⟨o, ho, hc, hd⟩, o2, ho2, hc2, n2, hd2⟩
      refine ⟨fun b hb => ?_, fun b hb => ?_⟩
      · simp at hb; subst hb
        exact ⟨o, ho, ⟨_, hd⟩, by rw [hc]; decide⟩
      · simp at hb
        rcases hb with rfl | rfl
        · exact ⟨o, ho, by unfold Dt; rw [hd]; trivial⟩
        · exact ⟨o2, ho2, by unfold Dt; rw [hd2]; trivial⟩
    · intro i u hu
      simp at hu
      exact hr.getv hu
theorem iter_range {X : Addr → Prop} {a b d : Int} (hs : Builtin.Range.small a b d = true) : Iter c X (.range a b d) ((rng a b d).map .int) := fun A E s v Q hh hl r h => by
  cases r with
  | range _ ho =>
    refine wpAny_pyIter_range ho hs (h s.heap.objs.size _ [s.heap.objs.size] [s.heap.objs.size] (fun i v => i < (Builtin.Range.rangeSize a b d).toNat ∧ ∃ t, v = .int (a + i * d) t)
      (fun i h => IsRangeIter h s.heap.objs.size (a + (i : Nat) * d) (((Builtin.Range.rangeSize a b d).toNat : Int) - (i : Nat)) d) Kp.push (fun A' hh' => ?_) ?_ (by rw [Heap.size_push]; exact Nat.le_succ _) ?_ ?_ ?_ ?_ ?_)
    · have W := Walks.range (prog := c.prog) (w := c.w) hh' s.heap.objs.size a d (Builtin.Range.rangeSize a b d).toNat
      have e : ((rng a b d).map PV.int).length = (Builtin.Range.rangeSize a b d).toNat := by simp [rng]
      rw [e]
      exact ⟨W.sub, W.frame, fun i s Q E hi st hQ => W.item i s Q E hi st fun v h' tk hv => hQ v h' tk ⟨hi, hv⟩, W.done, W.self⟩
    · have hz : (((Builtin.Range.rangeSize a b d).toNat : Nat) : Int) = Builtin.Range.rangeSize a b d := by
        have : 0 ≤ Builtin.Range.rangeSize a b d := by
          unfold Builtin.Range.rangeSize
          split
          · split
            · have := Int.ediv_nonneg (show 0 ≤ b - a - 1 by omega) (show 0 ≤ d by omega); omega
            · omega
          · split
            · have := Int.ediv_nonneg (show 0 ≤ a - b - 1 by omega) (show 0 ≤ -d by omega); omega
            · omega
        omega
      simp only [hz]
      refine (?_ : IsRangeIter _ _ _ _ _)
      have e1 : a + ((0 : Nat) : Int) * d = a := by simp
      have e2 : Builtin.Range.rangeSize a b d - ((0 : Nat) : Int) = Builtin.Range.rangeSize a b d := by simp
      rw [e1, e2]
      exact Heap.get?_push_size _ rfl
    · intro b hb
      simp at hb
      subst hb
      rw [Heap.size_push]; exact Nat.lt_succ_self _
    · intro b hb
      simp at hb
      subst hb
      exact get_size _
    · exact fun b hb => .inl hb
    · rintro i h ho
      refine ⟨fun b hb => ?_, fun b hb => ?_⟩
      · simp at hb; subst hb
        exact ⟨_, ho, ⟨_, rfl⟩, by show (Value.type "range_iterator") ≠ Value.type "range"; decide⟩
      · simp at hb; subst hb
        exact ⟨_, ho, trivial⟩
    · rintro i u ⟨hi, t, rfl⟩
      refine ⟨.int (a + i * d), ?_, .int _ _⟩
      simp [rng, hi]
theorem iter_bytes {X : Addr → Prop} {b : List UInt8} : Iter c X (.bytes b) (b.map fun x => .int x.toNat) := fun A E s v Q hh hl r h => by
  cases r with
  | bytes _ t =>
    refine KBw.pyIter_bytes (h s.heap.objs.size _ [s.heap.objs.size] [s.heap.objs.size] (fun i v => ∃ c u, b.toArray[i]? = some c ∧ v = .int (c.toNat : Int) u)
      (fun i h => KBw.IsBytesIter h s.heap.objs.size b.toArray t i) Kp.push (fun A' hh' => ?_) ?_ (by rw [Heap.size_push]; exact Nat.le_succ _) ?_ ?_ ?_ ?_ ?_)
    · have W := KBw.walks (prog := c.prog) (w := c.w) hh' s.heap.objs.size b.toArray t
      simpa using W
    · exact ⟨_, Heap.get?_push_size _ rfl, rfl, rfl⟩
    · intro b hb
      simp at hb
      subst hb
      rw [Heap.size_push]; exact Nat.lt_succ_self _
    · intro b hb
      simp at hb
      subst hb
      exact get_size _
    · exact fun b hb => .inl hb
    · rintro i h ⟨o, ho, hc, hd⟩
      refine ⟨fun b hb => ?_, fun b hb => ?_⟩
      · simp at hb; subst hb
        exact ⟨o, ho, ⟨_, hd⟩, by rw [hc]; decide⟩
      · simp at hb; subst hb
        exact ⟨o, ho, by unfold Dt; rw [hd]; trivial⟩
    · rintro i u ⟨c, t, hc, rfl⟩
      simp at hc
      exact ⟨.int c.toNat, by simp [hc], .int _ _⟩

theorem fn_range1 {a : Int} : Fn c n (.type "range") [.int a] (.range 0 a 1) := fun X A E s vs hA _ hl ra => by
  obtain ⟨v, rfl, r⟩ := ra.one
  cases r
  exact lf <| call_range_1 ⟨Kp.of fun _ _ e => Heap.get?_push_of_some _ e, .range hl.new (Heap.get?_push_size _ rfl)⟩
theorem fn_range2 {a b : Int} : Fn c n (.type "range") [.int a, .int b] (.range a b 1) := fun X A E s vs hA _ hl ra => by
  obtain ⟨v, u, rfl, r1, r2⟩ := ra.two
  cases r1; cases r2
  exact lf <| call_range_2 ⟨Kp.of fun _ _ e => Heap.get?_push_of_some _ e, .range hl.new (Heap.get?_push_size _ rfl)⟩
theorem fn_range3 {a b d : Int} (hd : d ≠ 0) (hs : d.natAbs < 1073741824) : Fn c n (.type "range") [.int a, .int b, .int d] (.range a b d) := fun X A E s vs hA _ hl ra => by
  obtain ⟨v, u, y, rfl, r1, r2, r3⟩ := ra.three
  cases r1; cases r2; cases r3
  exact lf <| call_range_3 hd ⟨Kp.ofH fun _ _ e => Heap.get?_push_of_some _ e, .range hl.new (Heap.get?_push_size _ rfl)⟩ (.inl (PyProof.noPylong_small hs))

theorem preSum_eq (ns : List Int) (val : Nat → Int) (h : ∀ (i : Nat) x, ns[i]? = some x → val i = x) : preSum val ns.length = ns.sum := by
  have aux : ∀ k, k ≤ ns.length → preSum val k = (ns.take k).sum := by
    intro k
    induction k with
    | zero => intro _; rfl
    | succ k ih =>
      intro hk
      have hk' : k < ns.length := hk
      rw [preSum, ih (Nat.le_of_lt hk'), h k ns[k] (List.getElem?_eq_getElem hk'), List.take_add_one, List.getElem?_eq_getElem hk', List.sum_append]
      simp
  rw [aux _ (Nat.le_refl _), List.take_length]
theorem fn_sum {ns : List Int} : Fn c n (.builtin "sum") [intsV ns] (.int ns.sum) := fun X A E s vs hA _ hl ra => by
  obtain ⟨v, rfl, r1⟩ := ra.one
  refine lf <| call_sum_walkG (iter_list A.in1 E s _ _ hA.hh hl r1 fun I s₂ fp wr P St k W st _ hfp hwr _ _ hP => ?_)
  have hW := W A.in1 hA.hh
  rw [List.length_map] at hW
  refine ⟨I, fp, wr, ns.length, P, St, fun i => ns.getD i 0, rfl, hW, st, hfp, ?_, ?_⟩
  · intro i v hv
    obtain ⟨q, hq, rq⟩ := hP i v hv
    rw [List.getElem?_map] at hq
    cases hn : ns[i]? with
    | none => rw [hn] at hq; cases hq
    | some x =>
      rw [hn] at hq; cases hq
      obtain ⟨t, rfl⟩ := rq.intI
      exact ⟨t, by simp [List.getD_eq_getElem?_getD, hn]⟩
  · intro h' tk t' hk
    rw [preSum_eq ns _ fun i x hx => by simp [List.getD_eq_getElem?_getD, hx]]
    refine ⟨⟨fun b o e => hk b o (fun hb => by rw [hwr b hb] at e; cases e) (k.heap b o e), k.gens, k.bare, k.os⟩, .int _ _⟩
end
end Mine
end

section
open PySem PySem.W PySem.Calls PyProof.Rows
set_option Elab.async false
set_option linter.unusedVariables false
namespace Mine

/-- the data stay -/
structure Dp (X : Addr → Prop) (env : Env) (s s' : Shared) : Prop where
  heap : ∀ b o, ¬ X b → s.heap.get? b = some o → Dt o → s'.heap.get? b = some o
  all : ∀ b o, ¬ X b → b ≠ env.locals → (∀ n, env.cells.lookup n ≠ some b) → s.heap.get? b = some o → s'.heap.get? b = some o
  gens : ∀ (g : Nat) (x : GenState), s.gens[g]? = some x → s'.gens[g]? = some x
  os : s'.os = s.os
theorem Dp.of {X : Addr → Prop} {env : Env} {s s' : Shared} (k : Kp s s') : Dp X env s s' := ⟨fun b o _ e _ => k.heap b o e, fun b o _ _ _ e => k.heap b o e, k.gens, k.os⟩
theorem Dp.trans {X : Addr → Prop} {env : Env} {a b d : Shared} (x : Dp X env a b) (y : Dp X env b d) : Dp X env a d :=
  ⟨fun p o n e k => y.heap p o n (x.heap p o n e k) k, fun p o n h1 h2 e => y.all p o n h1 h2 (x.all p o n h1 h2 e), fun g z e => y.gens g z (x.gens g z e), y.os.trans x.os⟩
theorem Dp.up {X : Addr → Prop} {env : Env} {a b : Shared} (x : Dp X0 env a b) : Dp X env a b := ⟨fun p o _ e k => x.heap p o id e k, fun p o _ h1 h2 e => x.all p o id h1 h2 e, x.gens, x.os⟩
theorem Rep.dp {X : Addr → Prop} {env : Env} {s s' : Shared} {v : Value} {p : PV} (x : Rep X s.heap v p) (k : Dp X env s s') : Rep X s'.heap v p := x.keep fun b o n e kd => k.heap b o n e kd.dt

noncomputable def NameV (env : Env) (m cm : Str → Option Value) (n : Str) (v : Value) : Prop :=
  (env.kindOf n = some .local ∧ m n = some v) ∨ (env.kindOf n = some .cell ∧ (env.cells.lookup n).isSome = true ∧ cm n = some v)

structure FmP (c : Cx) (X : Addr → Prop) (s₀ : Shared) (env : Env) (ρ : List (Str × PV)) (s : Shared) : Prop where
  kind : env.scope.kind = .function
  gl : env.globals = mainGlobals
  bl : env.builtins = builtinsNs
  apart : env.cells.Pairwise fun x y => x.2 ≠ y.2
  above : ∀ n k, (n, k) ∈ env.cells → env.locals < k
  fresh : s₀.heap.objs.size ≤ env.locals
  glo : Glo c.mg c.mb s₀.heap
  kp : Kp s₀ s
  live : Live X s.heap
  xn : ¬ X env.locals
  xc : ∀ n k, env.cells.lookup n = some k → ¬ X k
  fr : ∃ m cm, s.heap.Ns env.locals m ∧ (∀ n k, env.cells.lookup n = some k → s.heap.IsCell k (cm n)) ∧
    ∀ n p, ρ.lookup n = some p → vis env n = true → ∃ v, NameV env m cm n v ∧ Rep X s.heap v p

variable {c : Cx} {n : Nat} {env : Env} {ρ : List (Str × PV)} {X : Addr → Prop} {s₀ s s' : Shared}

theorem FmP.envR (F : FmP c X s₀ env ρ s) : EnvR c X env ρ s := by
  obtain ⟨m, cm, hn, hc, hv⟩ := F.fr
  refine ⟨F.kind, F.gl, F.bl, F.glo.keeps F.kp.heap, F.live, fun n p hp hvis => ?_⟩
  obtain ⟨v, hN, hr⟩ := hv n p hp hvis
  refine ⟨v, ?_, hr⟩
  rcases hN with ⟨a, b⟩ | ⟨a, b, d⟩
  · exact .inl ⟨a, m, hn, b⟩
  · obtain ⟨k, hk⟩ := Option.isSome_iff_exists.mp b
    exact .inr ⟨.inl a, k, hk, d ▸ hc n k hk⟩

theorem FmP.kp' (F : FmP c X s₀ env ρ s) (k : Kp s s') : FmP c X s₀ env ρ s' := by
  obtain ⟨m, cm, hn, hc, hv⟩ := F.fr
  exact ⟨F.kind, F.gl, F.bl, F.apart, F.above, F.fresh, F.glo, F.kp.trans k, F.live.kp k, F.xn, F.xc, m, cm, hn.keeps k.heap, fun n a h => (hc n a h).keeps k.heap, fun n p hp hvis =>
    let ⟨v, a, b⟩ := hv n p hp hvis; ⟨v, a, b.kp k⟩⟩

theorem FmP.drop (F : FmP c X s₀ env ρ s) {ρ' : List (Str × PV)} (h : ∀ n p, ρ'.lookup n = some p → vis env n = true → ρ.lookup n = some p) : FmP c X s₀ env ρ' s := by
  obtain ⟨m, cm, hn, hc, hv⟩ := F.fr
  exact ⟨F.kind, F.gl, F.bl, F.apart, F.above, F.fresh, F.glo, F.kp, F.live, F.xn, F.xc, m, cm, hn, hc, fun n p hp hvis => hv n p (h n p hp hvis) hvis⟩

theorem not_kd_ns {h : Heap} {a : Addr} {m : Str → Option Value} (x : h.Ns a m) {o : Obj} (e : h.get? a = some o) : ¬ Dt o := by
  obtain ⟨o', es, ep, h1, h2, _⟩ := x
  rw [e] at h1; cases h1
  unfold Dt; rw [h2]; exact id
theorem not_kd_cell {h : Heap} {a : Addr} {v : Option Value} (x : h.IsCell a v) {o : Obj} (e : h.get? a = some o) : ¬ Dt o := by
  obtain ⟨o', h1, h2⟩ := x
  rw [e] at h1; cases h1
  unfold Dt; rw [h2]; exact id

theorem lookup_cons_ne {α : Type} {n x : Str} {p : α} {l : List (Str × α)} (h : n ≠ x) : ((x, p) :: l).lookup n = l.lookup n := by
  rw [List.lookup_cons]
  have : (n == x) = false := by simpa using h
  rw [this]
theorem lookup_cons_eq {α : Type} {x : Str} {p : α} {l : List (Str × α)} : ((x, p) :: l).lookup x = some p := by
  rw [List.lookup_cons]; simp

/-- a name may be stored -/
noncomputable def stOk (env : Env) (x : Str) : Bool := env.kindOf x == some .local || (env.kindOf x == some .cell && (env.cells.lookup x).isSome)

theorem st_name {A : Around} {E : Value → Shared → Prop} {Q : Unit → Shared → Prop} {x : Str} {v : Value} {p : PV} (F : FmP c X s₀ env ρ s) (hx : stOk env x = true) (hr : Rep X s.heap v p)
    (h : ∀ s', FmP c X s₀ env ((x, p) :: ρ) s' → Dp X0 env s s' → (∀ b o, X b → s.heap.get? b = some o → s'.heap.get? b = some o) → Q () s') : wpAny c.M A (storeName env x v) Q E s := by
  obtain ⟨m, cm, hn, hc, hv⟩ := F.fr
  unfold stOk at hx
  rw [Bool.or_eq_true, Bool.and_eq_true, beq_iff_eq, beq_iff_eq] at hx
  rcases hx with hx | ⟨hx, hcx⟩
  · refine wpAny_storeName_local hx hn (fun h' hn' hs' => h _ ⟨F.kind, F.gl, F.bl, F.apart, F.above, F.fresh, F.glo, ?_, ?_, F.xn, F.xc, _, cm, hn', fun n k hk => ?_, fun n p' hp hvis => ?_⟩ ⟨fun b o _ e kd => ?_, fun b o _ h1 _ e => hs'.extBut b o h1 e, fun _ _ e => e, rfl⟩ fun b o hb e => hs'.extBut b o (by rintro rfl; exact F.xn hb) e) (by rw [F.kind]; rfl)
    · refine ⟨fun b o e => ?_, F.kp.gens, F.kp.bare, F.kp.os⟩
      exact hs'.extBut b o (Nat.ne_of_lt (Nat.lt_of_lt_of_le (Heap.lt_size e) F.fresh)) (F.kp.heap b o e)
    · intro b hb
      obtain ⟨o, e⟩ := F.live b hb
      exact ⟨o, hs'.extBut b o (by rintro rfl; exact F.xn hb) e⟩
    · exact (hc n k hk).sameBut hs' (Nat.ne_of_gt (F.above n k (mem_of_lookup hk)))
    · have keep : ∀ {w : Value} {q : PV}, Rep X s.heap w q → Rep X h' w q := fun r => r.keep fun b o _ e kd => by
        refine hs'.extBut b o ?_ e
        rintro rfl
        exact not_kd_ns hn e kd.dt
      by_cases hnx : n = x
      · subst hnx
        rw [lookup_cons_eq] at hp
        cases hp
        exact ⟨v, .inl ⟨hx, by simp⟩, keep hr⟩
      · rw [lookup_cons_ne hnx] at hp
        obtain ⟨w, hN, hw⟩ := hv n p' hp hvis
        refine ⟨w, ?_, keep hw⟩
        rcases hN with ⟨a, b⟩ | ⟨a, b, d⟩
        · exact .inl ⟨a, by simp [hnx, b]⟩
        · exact .inr ⟨a, b, d⟩
    · refine hs'.extBut b o ?_ e
      rintro rfl
      exact not_kd_ns hn e kd
  · obtain ⟨a, ha⟩ := Option.isSome_iff_exists.mp hcx
    have hLa := F.above x a (mem_of_lookup ha)
    refine wpAny_storeName_cell F.kind hx ha (hc x a ha) fun h' hc' hs' => h _ ⟨F.kind, F.gl, F.bl, F.apart, F.above, F.fresh, F.glo, ?_, ?_, F.xn, F.xc, m, (fun y => if y = x then some v else cm y), hn.sameBut hs' (Nat.ne_of_lt hLa), fun n k hk => ?_, fun n p' hp hvis => ?_⟩ ⟨fun b o _ e kd => ?_, fun b o _ _ h2 e => hs'.extBut b o (by rintro rfl; exact h2 x ha) e, fun _ _ e => e, rfl⟩ fun b o hb e => hs'.extBut b o (by rintro rfl; exact F.xc x _ ha hb) e
    · refine ⟨fun b o e => ?_, F.kp.gens, F.kp.bare, F.kp.os⟩
      exact hs'.extBut b o (Nat.ne_of_lt (Nat.lt_trans (Nat.lt_of_lt_of_le (Heap.lt_size e) F.fresh) hLa)) (F.kp.heap b o e)
    · intro b hb
      obtain ⟨o, e⟩ := F.live b hb
      exact ⟨o, hs'.extBut b o (by rintro rfl; exact F.xc x _ ha hb) e⟩
    · by_cases hnx : n = x
      · subst hnx
        rw [ha] at hk; cases hk
        simpa using hc'
      · dsimp only
        rw [if_neg hnx]
        exact (hc n k hk).sameBut hs' fun e => hnx (name_of_addr F.apart (mem_of_lookup hk) (e ▸ mem_of_lookup ha))
    · have keep : ∀ {w : Value} {q : PV}, Rep X s.heap w q → Rep X h' w q := fun r => r.keep fun b o _ e kd => by
        refine hs'.extBut b o ?_ e
        rintro rfl
        exact not_kd_cell (hc x _ ha) e kd.dt
      by_cases hnx : n = x
      · subst hnx
        rw [lookup_cons_eq] at hp
        cases hp
        exact ⟨v, .inr ⟨hx, hcx, by simp⟩, keep hr⟩
      · rw [lookup_cons_ne hnx] at hp
        obtain ⟨w, hN, hw⟩ := hv n p' hp hvis
        refine ⟨w, ?_, keep hw⟩
        rcases hN with ⟨a, b⟩ | ⟨a, b, d⟩
        · exact .inl ⟨a, b⟩
        · exact .inr ⟨a, b, by simp [hnx, d]⟩
    · refine hs'.extBut b o ?_ e
      rintro rfl
      exact not_kd_cell (hc x _ ha) e kd

/-- data that hold no address -/
noncomputable def Free (X : Addr → Prop) (p : PV) : Prop := ∀ h v, Rep X0 h v p → Rep X h v p
theorem free0 {p : PV} : Free X0 p := fun _ _ r => r
theorem free_int {i : Int} : Free X (.int i) := fun _ _ r => by cases r; exact .int _ _
theorem free_str {i : Str} : Free X (.str i) := fun _ _ r => by cases r; exact .str _ _
theorem free_bytes {i : List UInt8} : Free X (.bytes i) := fun _ _ r => by cases r; exact .bytes _ _
theorem free_bool {i : Bool} : Free X (.bool i) := fun _ _ r => by cases r; exact .bool _
theorem free_none : Free X .none := fun _ _ r => by cases r; exact .none

/-- one statement that goes on -/
noncomputable def Ex (c : Cx) (n : Nat) (X : Addr → Prop) (s₀ : Shared) (env : Env) (ρ : List (Str × PV)) (st : Stmt) (ρ' : List (Str × PV)) : Prop :=
  ∀ A E s, AOk n A → FmP c X s₀ env ρ s → wpS c.M A (exec st env) (fun f s' => f = .next ∧ FmP c X s₀ env ρ' s' ∧ Dp X env s s') E s
/-- statements that hand back -/
noncomputable def ExR (c : Cx) (n : Nat) (X : Addr → Prop) (s₀ : Shared) (env : Env) (ρ : List (Str × PV)) (sts : List Stmt) (p : PV) : Prop :=
  ∀ A E s, AOk n A → FmP c X s₀ env ρ s → wpS c.M A (execs sts env) (fun f s' => ∃ v, f = .ret v ∧ Kp s₀ s' ∧ Rep X s'.heap v p) E s

theorem ex_assign {x : Str} {xp pos : Pos} {e : Expr} {p : PV} (he : EvR c n X env ρ e p) (hx : stOk env x = true)
    (hs : swapsWith e (some (.Name x xp)) pos.line env = pure false := by rfl) : Ex c n X s₀ env ρ (.Assign [.Name x xp] e pos) ((x, p) :: ρ) :=
  fun A E s hA F => wpS_Assign_Name (wpS_mono (he A E s hA F.envR) (fun v s₁ h₁ => lf <| st_name (F.kp' h₁.1) hx h₁.2 fun s' F' D _ => ⟨rfl, F', (Dp.of h₁.1).trans D.up⟩) fun _ _ e => e) hs

theorem ex_skip {t : Expr} {body : List Stmt} {pos : Pos} (ht : EvT c n X env ρ t false) : Ex c n X s₀ env ρ (.If t body [] pos) ρ :=
  fun A E s hA F => wpS_If (wpS_mono (ht A E s hA F.envR) (fun v s₁ h₁ => by
    obtain ⟨k, rfl⟩ := h₁
    exact wpS_execs_nil ⟨rfl, F.kp' k, Dp.of k⟩) fun _ _ e => e)

theorem exr_cons {st : Stmt} {rest : List Stmt} {ρ' : List (Str × PV)} {p : PV} (h1 : Ex c n X s₀ env ρ st ρ') (h2 : ExR c n X s₀ env ρ' rest p) : ExR c n X s₀ env ρ (st :: rest) p :=
  fun A E s hA F => wpS_execs_cons (wpS_mono (h1 A E s hA F) (fun f s₁ h₁ => by
    obtain ⟨rfl, F', _⟩ := h₁
    exact h2 A E s₁ hA F') fun _ _ e => e)
theorem exr_ret {e : Expr} {pos : Pos} {p : PV} (he : EvR c n X env ρ e p) {rest : List Stmt} : ExR c n X s₀ env ρ (.Return (some e) pos :: rest) p :=
  fun A E s hA F => wpS_execs_cons (wpS_Return (wpS_mono (he A E s hA F.envR) (fun v s₁ h₁ => ⟨v, rfl, F.kp.trans h₁.1, h₁.2⟩) fun _ _ e => e))
/-- statements that go on -/
noncomputable def Exs (c : Cx) (n : Nat) (X : Addr → Prop) (s₀ : Shared) (env : Env) (ρ : List (Str × PV)) (sts : List Stmt) (ρ' : List (Str × PV)) : Prop :=
  ∀ A E s, AOk n A → FmP c X s₀ env ρ s → wpS c.M A (execs sts env) (fun f s' => f = .next ∧ FmP c X s₀ env ρ' s' ∧ Dp X env s s') E s
theorem exs_nil : Exs c n X s₀ env ρ [] ρ := fun A E s hA F => wpS_execs_nil ⟨rfl, F, Dp.of (Kp.refl _)⟩
theorem exs_cons {st : Stmt} {rest : List Stmt} {ρ' ρ'' : List (Str × PV)} (h1 : Ex c n X s₀ env ρ st ρ') (h2 : Exs c n X s₀ env ρ' rest ρ'') : Exs c n X s₀ env ρ (st :: rest) ρ'' :=
  fun A E s hA F => wpS_execs_cons (wpS_mono (h1 A E s hA F) (fun f s₁ h₁ => by
    obtain ⟨rfl, F', D⟩ := h₁
    exact wpS_mono (h2 A E s₁ hA F') (fun _ _ h => ⟨h.1, h.2.1, D.trans h.2.2⟩) fun _ _ e => e) fun _ _ e => e)
theorem exs_drop {sts : List Stmt} {ρ' ρ'' : List (Str × PV)} (h : Exs c n X s₀ env ρ sts ρ') (hd : ∀ n p, ρ''.lookup n = some p → vis env n = true → ρ'.lookup n = some p) : Exs c n X s₀ env ρ sts ρ'' :=
  fun A E s hA F => wpS_mono (h A E s hA F) (fun _ _ h => ⟨h.1, h.2.1.drop hd, h.2.2⟩) fun _ _ e => e
theorem ex_take {t : Expr} {body orelse : List Stmt} {pos : Pos} {ρ' : List (Str × PV)} (ht : EvT c n X env ρ t true) (hb : Exs c n X s₀ env ρ body ρ') : Ex c n X s₀ env ρ (.If t body orelse pos) ρ' :=
  fun A E s hA F => wpS_If (wpS_mono (ht A E s hA F.envR) (fun v s₁ h₁ => by
    obtain ⟨k, rfl⟩ := h₁
    exact wpS_mono (hb A E s₁ hA (F.kp' k)) (fun _ _ h => ⟨h.1, h.2.1, (Dp.of k).trans h.2.2⟩) fun _ _ e => e) fun _ _ e => e)

end Mine
end

section
open PySem PySem.W PySem.Calls PyProof.Rows
set_option Elab.async false
set_option linter.unusedVariables false
namespace Mine
variable {c : Cx} {n : Nat} {env : Env} {ρ : List (Str × PV)} {X : Addr → Prop} {s₀ s s' : Shared}

/-- an iterator's step -/
theorem FmP.iter (F : FmP c X s₀ env ρ s) {wr : List Addr} {h' : Heap} {tk : Nat} (h0 : ∀ b ∈ wr, s₀.heap.get? b = none) (hxw : ∀ b ∈ wr, ¬ X b) (hi : ∀ b ∈ wr, ∃ o, s.heap.get? b = some o ∧ IsIt o)
    (hk : ∀ b o, b ∉ wr → s.heap.get? b = some o → h'.get? b = some o) : FmP c X s₀ env ρ { s with heap := h', toks := tk } := by
  obtain ⟨m, cm, hn, hc, hv⟩ := F.fr
  have notW : ∀ b o, s.heap.get? b = some o → ¬ IsIt o → h'.get? b = some o := fun b o e hno => hk b o (fun hb => by
    obtain ⟨o', e', it⟩ := hi b hb
    rw [e] at e'; cases e'
    exact hno it) e
  have kd : ∀ b o, s.heap.get? b = some o → Kd o → h'.get? b = some o := fun b o e k => notW b o e fun it => it.notKd k
  refine ⟨F.kind, F.gl, F.bl, F.apart, F.above, F.fresh, F.glo, ⟨fun b o e => ?_, F.kp.gens, F.kp.bare, F.kp.os⟩, fun b hb => ?_, F.xn, F.xc, m, cm, ?_, fun x k hx => ?_, fun x p hp hvis => ?_⟩
  · exact hk b o (fun hb => by rw [h0 b hb] at e; cases e) (F.kp.heap b o e)
  · obtain ⟨o, e⟩ := F.live b hb
    by_cases hw : b ∈ wr
    · exact absurd hb (hxw b hw)
    · exact ⟨o, hk b o hw e⟩
  · obtain ⟨o, es, ep, ho, hd, r⟩ := hn
    exact ⟨o, es, ep, notW _ _ ho (fun it => by obtain ⟨⟨vs, e⟩, _⟩ := it; rw [hd] at e; cases e), hd, r⟩
  · obtain ⟨o, ho, hd⟩ := hc x k hx
    exact ⟨o, notW _ _ ho (fun it => by obtain ⟨⟨vs, e⟩, _⟩ := it; rw [hd] at e; cases e), hd⟩
  · obtain ⟨v, hN, hr⟩ := hv x p hp hvis
    exact ⟨v, hN, hr.keep fun b o _ e k => kd b o e k⟩

/-- a for loop: J is what holds between the turns of the owned things -/
theorem for_core {x : Str} {xp pos : Pos} {it : Expr} {body : List Stmt} {p : PV} {xs : List PV} (J : Nat → Shared → Prop)
    (hJ : ∀ i s s', J i s → (∀ b o, X b → s.heap.get? b = some o → s'.heap.get? b = some o) → J i s')
    (hi : EvR c n X env ρ it p) (hI : Iter c X p xs) (hx : stOk env x = true)
    (hb : ∀ A E s (i : Nat) q, AOk n A → xs[i]? = some q → FmP c X s₀ env ((x, q) :: ρ) s → J i s → wpS c.M A (execs body env) (fun f s' => (f = .next ∨ f = .cont) ∧ FmP c X s₀ env ρ s' ∧ J (i + 1) s' ∧ Dp X env s s') E s)
    (hfs : ∀ v, foldedSetIterable it env v = pure v) {A : Around} {E : Value → Shared → Prop} (hA : AOk n A) (F : FmP c X s₀ env ρ s) (h0 : J 0 s) :
    wpS c.M A (exec (.For (.Name x xp) it body [] pos) env) (fun f s' => f = .next ∧ FmP c X s₀ env ρ s' ∧ J xs.length s' ∧ Dp X env s s') E s := by
  refine wpS_For (wpS_mono (hi A E s hA F.envR) (fun v s₁ h₁ => lf <| hI A E s₁ v _ hA.hh (F.kp' h₁.1).live h₁.2 fun I s₂ fp wr P St k W st _ hfp hwr hfX hIt hP => ?_) fun _ _ e => e) hfs
  have F1 := F.kp' h₁.1
  have F2 := F1.kp' k
  have hW := W A hA.hh
  have h00 : ∀ b ∈ wr, s₀.heap.get? b = none := fun b hb => by
    cases e : s₀.heap.get? b with
    | none => rfl
    | some o => have := F1.kp.heap b o e; rw [hwr b hb] at this; cases this
  have hwX : ∀ b ∈ wr, ¬ X b := fun b hb => F1.live.no (hwr b hb)
  have hfX' : ∀ b ∈ fp, ¬ X b := fun b hb => (hfX b hb).elim (hwX b) id
  have J2 : J 0 s₂ := hJ 0 s s₂ h0 fun b o _ e => k.heap b o (h₁.1.heap b o e)
  refine codeS_forLoop (fun j s' => ∃ i, j = xs.length - i ∧ i ≤ xs.length ∧ St i s'.heap ∧ FmP c X s₀ env ρ s' ∧ J i s' ∧ Dp X env s₁ s') ?_ (xs.length) ⟨0, by omega, by omega, st, F2, J2, Dp.of k⟩
  rintro j s' ⟨i, rfl, hi', st', F', J', D'⟩
  have step : ∀ {h' : Heap} {tk : Nat}, (∀ b o, b ∉ wr → s'.heap.get? b = some o → h'.get? b = some o) →
      FmP c X s₀ env ρ { s' with heap := h', toks := tk } ∧ J i { s' with heap := h', toks := tk } ∧ Dp X env s₁ { s' with heap := h', toks := tk } := fun {h'} {tk} hk =>
    ⟨F'.iter h00 hwX (hIt i _ st').1 hk, hJ i s' _ J' fun b o hx e => hk b o (fun hb => hwX b hb hx) e,
      ⟨fun b o nx e dt => hk b o (fun hb => by rw [hwr b hb] at e; cases e) (D'.heap b o nx e dt), fun b o nx h1 h2 e => hk b o (fun hb => by rw [hwr b hb] at e; cases e) (D'.all b o nx h1 h2 e), D'.gens, D'.os⟩⟩
  by_cases hlt : i < xs.length
  · refine lf <| hW.item i s' _ _ hlt st' fun u h' tk hPu st1 hk => ?_
    obtain ⟨q, hq, rq⟩ := hP i u hPu
    obtain ⟨F3, J3, D3⟩ := step (tk := tk) hk
    have rq' : Rep X h' u q := rq.dp D3
    refine wpS_assign_Name (lf <| st_name F3 hx rq' fun s4 F4 D4 X4 => ?_)
    have J4 : J i s4 := hJ i _ s4 J3 X4
    have st4 : St (i + 1) s4.heap := hW.frame _ _ _ st1 fun b hb o e => D4.heap b o id e (by
      obtain ⟨o', e', dt⟩ := (hIt _ _ st1).2 b hb
      rw [e] at e'; cases e'; exact dt)
    refine wpS_mono (hb A _ s4 i q hA hq F4 J4) (fun f s5 h5 => ?_) fun _ _ e => e
    obtain ⟨hf, F5, J5, D5⟩ := h5
    have st5 : St (i + 1) s5.heap := hW.frame _ _ _ st4 fun b hb o e => D5.heap b o (hfX' b hb) e (by
      obtain ⟨o', e', dt⟩ := (hIt _ _ st4).2 b hb
      rw [e] at e'; cases e'; exact dt)
    have goal : ∃ m, m < xs.length - i ∧ ∃ i_1, m = xs.length - i_1 ∧ i_1 ≤ xs.length ∧ St i_1 s5.heap ∧ FmP c X s₀ env ρ s5 ∧ J i_1 s5 ∧ Dp X env s₁ s5 :=
      ⟨xs.length - (i + 1), by omega, i + 1, rfl, by omega, st5, F5, J5, (D3.trans D4.up).trans D5⟩
    rcases hf with rfl | rfl
    · exact goal
    · exact goal
  · have : i = xs.length := by omega
    subst this
    refine lf <| hW.done s' _ _ st' fun h' tk hk => ?_
    obtain ⟨F3, J3, D3⟩ := step (tk := tk) hk
    refine ⟨rfl, F3, J3, ?_⟩
    exact (Dp.of h₁.1).trans D3

/-- a for loop that owns nothing and forgets what it stores -/
theorem ex_for {x : Str} {xp pos : Pos} {it : Expr} {body : List Stmt} {p : PV} {xs : List PV} (hi : EvR c n X env ρ it p) (hI : Iter c X p xs) (hx : stOk env x = true)
    (hb : ∀ (i : Nat) q, xs[i]? = some q → ∃ ρ', Exs c n X s₀ env ((x, q) :: ρ) body ρ' ∧ ∀ m r, ρ.lookup m = some r → vis env m = true → ρ'.lookup m = some r)
    (hfs : ∀ v, foldedSetIterable it env v = pure v := by intro _; rfl) : Ex c n X s₀ env ρ (.For (.Name x xp) it body [] pos) ρ :=
  fun A E s hA F => wpS_mono (for_core (fun _ _ => True) (fun _ _ _ _ _ => trivial) hi hI hx (fun A E s i q hA hq F _ => by
    obtain ⟨ρ', h1, h2⟩ := hb i q hq
    exact wpS_mono (h1 A E s hA F) (fun f s' h => ⟨.inl h.1, h.2.1.drop h2, trivial, h.2.2⟩) fun _ _ e => e) hfs hA F trivial) (fun f s' h => ⟨h.1, h.2.1, h.2.2.2⟩) fun _ _ e => e
end Mine
end

section
open PySem PySem.W PySem.Calls PyProof.Rows
set_option Elab.async false
set_option linter.unusedVariables false
namespace Mine
noncomputable abbrev Dfn := Str × Arguments × List Stmt × Scope
noncomputable def fdD (x : Dfn) (pm code doc : Value) : FuncData := docDef x.1 x.2.1 x.2.2.1 x.2.2.2 pm code doc
noncomputable def envD (x : Dfn) (L a : Addr) (pm code doc : Value) : Env := callEnvC (fdD x pm code doc) L a

theorem bindL_other (k : Str → Option NameKind) : ∀ (bs : List (Str × Value)) (m : Str → Option Value) (n : Str), (∀ v, (n, v) ∉ bs) → bindL k bs m n = m n
  | [], m, n, _ => rfl
  | (x, v) :: r, m, n, h => by
    have hx : n ≠ x := fun e => h v (by rw [e]; exact List.mem_cons_self)
    rw [bindL, bindL_other k r _ n fun v' hm => h v' (List.mem_cons_of_mem _ hm)]
    split <;> simp [hx]
theorem bindC_other (k : Str → Option NameKind) : ∀ (bs : List (Str × Value)) (m : Str → Option Value) (n : Str), (∀ v, (n, v) ∉ bs) → bindC k bs m n = m n
  | [], m, n, _ => rfl
  | (x, v) :: r, m, n, h => by
    have hx : n ≠ x := fun e => h v (by rw [e]; exact List.mem_cons_self)
    rw [bindC, bindC_other k r _ n fun v' hm => h v' (List.mem_cons_of_mem _ hm)]
    split <;> simp [hx]

theorem not_mem_zip {α : Type} {n : Str} : ∀ {ns : List Str} {vs : List α}, n ∉ ns → ∀ v, (n, v) ∉ ns.zip vs
  | [], _, _, v, h => by simp at h
  | x :: ns, [], _, v, h => by simp at h
  | x :: ns, y :: vs, hn, v, h => by
    rw [List.zip_cons_cons, List.mem_cons] at h
    rcases h with h | h
    · exact hn (by cases h; exact List.mem_cons_self)
    · exact not_mem_zip (fun hm => hn (List.mem_cons_of_mem _ hm)) v h

theorem bind_zip {X : Addr → Prop} {h : Heap} {k : Str → Option NameKind} : ∀ {ns : List Str} {vs : List Value} {ps : List PV} (m cm : Str → Option Value), ns.Nodup → RepL X h vs ps → ns.length = vs.length →
    ∀ n p, (ns.zip ps).lookup n = some p → ∃ v, Rep X h v p ∧ (k n = some .local → bindL k (ns.zip vs) m n = some v) ∧ (k n ≠ some .local → bindC k (ns.zip vs) cm n = some v)
  | [], _, _, _, _, _, _, _, n, p, e => by simp at e
  | x :: ns, v :: vs, q :: ps, m, cm, hd, .cons h1 h2, hl, n, p, e => by
    rw [List.nodup_cons] at hd
    rw [List.zip_cons_cons] at e
    by_cases hn : n = x
    · subst hn
      rw [lookup_cons_eq] at e; cases e
      refine ⟨v, h1, fun hk => ?_, fun hk => ?_⟩
      · rw [List.zip_cons_cons, bindL, bindL_other _ _ _ _ (not_mem_zip hd.1), if_pos hk]; simp
      · rw [List.zip_cons_cons, bindC, bindC_other _ _ _ _ (not_mem_zip hd.1), if_neg hk]; simp
    · rw [lookup_cons_ne hn] at e
      obtain ⟨w, hw, a, b⟩ := bind_zip (if k x = some .local then fun y => if y = x then some v else m y else m) (if k x = some .local then cm else fun y => if y = x then some v else cm y) hd.2 h2 (by simpa using hl) n p e
      exact ⟨w, hw, fun hk => by rw [List.zip_cons_cons, bindL]; exact a hk, fun hk => by rw [List.zip_cons_cons, bindC]; exact b hk⟩

noncomputable def parOk (sc : Scope) (k : Nat) (n : Str) : Bool := sc.names.lookup n == some .local || (sc.names.lookup n == some .cell && ((cellsFrom k sc.names []).lookup n).isSome)

variable {c : Cx} {n : Nat}

theorem mem_zip_fst {α : Type} : ∀ {ns : List Str} {vs : List α} {x : Str × α}, x ∈ ns.zip vs → x.1 ∈ ns
  | [], _, x, h => by simp at h
  | y :: ns, [], x, h => by simp at h
  | y :: ns, v :: vs, x, h => by
    rw [List.zip_cons_cons, List.mem_cons] at h
    rcases h with rfl | h
    · exact List.mem_cons_self
    · exact List.mem_cons_of_mem _ (mem_zip_fst h)

/-- a def's contract by its body -/
theorem fnD_of {x : Dfn} {ns : List Str} {as : List PV} {r : PV} {ρ : List (Str × PV)} (hρ : ρ = ns.zip as) (hlen : as.length = ns.length) (hnd : ns.Nodup)
    (hbind : ∀ pm code doc vals, vals.length = ns.length → bindArgs (fdD x pm code doc) ⟨vals, []⟩ = pure (ns.zip vals))
    (hpar : ∀ k, ns.all (parOk x.2.2.2 k) = true) (hco : x.2.2.2.isCoroutine = false) (hgen : x.2.2.2.isGenerator = false) (hk : x.2.2.2.kind = .function)
    (hb : ∀ X s₀ L a pm code doc, ExR c n X s₀ (envD x L a pm code doc) ρ x.2.2.1 r) : FnD c (n + 1) x as r := by
  subst hρ
  intro X A E s vs a hA G hl hg hfn hr
  obtain ⟨o, pm, code, doc, ho, hd, hcr⟩ := hfn
  refine wpS_call (codeS_call_cells (fd := fdD x pm code doc) (body := x.2.2.1) hA.room ho hd G.nolimit hcr rfl (hbind pm code doc vs (by rw [hr.length, hlen])) rfl ?_ ?_ hco hgen hk)
  · intro y hy
    have hm := mem_zip_fst hy
    have := List.all_eq_true.mp (hpar (s.heap.objs.size + 1)) y.1 hm
    unfold parOk at this
    rw [Bool.or_eq_true, Bool.and_eq_true, beq_iff_eq, beq_iff_eq] at this
    exact this
  · intro s₁ I
    obtain ⟨h', tk, rfl⟩ := I.toInCall.same
    have F : FmP c X s (envD x s.heap.objs.size a pm code doc) (ns.zip as) { s with heap := h', toks := tk } :=
      ⟨hk, rfl, rfl, I.apart, I.above, I.toInCall.fresh, G, Kp.of I.toInCall.keep, hl.kp (Kp.of I.toInCall.keep), hl.no (get_ge I.toInCall.fresh), fun y k hm => hl.no (get_ge (Nat.le_of_lt (Nat.lt_of_le_of_lt I.toInCall.fresh (I.above y k (mem_of_lookup hm))))), _, _, I.toInCall.ns, I.cell, fun y p hp hvis => by
        obtain ⟨v, rv, a1, a2⟩ := bind_zip (k := (envD x s.heap.objs.size a pm code doc).kindOf) (fun _ => none) (fun _ => none) hnd hr (by rw [hr.length, hlen]) y p hp
        refine ⟨v, ?_, rv.keep fun b o _ e _ => I.toInCall.keep b o e⟩
        by_cases hl : (envD x s.heap.objs.size a pm code doc).kindOf y = some .local
        · exact .inl ⟨hl, a1 hl⟩
        · refine .inr ?_
          have hy : y ∈ ns := mem_zip_fst (mem_of_lookup hp)
          have := List.all_eq_true.mp (hpar (s.heap.objs.size + 1)) y hy
          unfold parOk at this
          rw [Bool.or_eq_true, Bool.and_eq_true, beq_iff_eq, beq_iff_eq] at this
          rcases this with h1 | ⟨h1, h2⟩
          · exact absurd h1 hl
          · exact ⟨h1, h2, a2 hl⟩⟩
    refine wpS_mono (hb X s s.heap.objs.size a pm code doc _ _ _ hA.deeper F) (fun f s' h => ?_) fun _ _ e => e
    obtain ⟨v, rfl, k, rv⟩ := h
    exact ⟨k, rv⟩
end Mine
end

section
open PySem PySem.W PySem.Calls PyProof.Rows
set_option Elab.async false
set_option linter.unusedVariables false
set_option linter.unusedSimpArgs false
namespace Mine

noncomputable def clGo (env : Env) : List (Str × NameKind) → List (Str × Addr) → List (Str × Addr)
  | [], acc => acc
  | (n, k) :: r, acc => clGo env r (if k == .free then (match env.cells.lookup n with | some a => (n, a) :: acc | none => acc) else acc)

theorem clGo_forIn {env : Env} (f : Str × NameKind → List (Str × Addr) → Sem (ForInStep (List (Str × Addr))))
    (hf : ∀ n k cs, f (n, k) cs = if k == .free then (do let a ← cellOf env n; pure (.yield ((n, a) :: cs))) else pure (.yield cs)) :
    ∀ (names : List (Str × NameKind)) (acc : List (Str × Addr)), (∀ x ∈ names, x.2 = .free → (env.cells.lookup x.1).isSome = true) → forIn names acc f = pure (clGo env names acc)
  | [], acc, _ => by rw [List.forIn_nil]; rfl
  | (n, k) :: r, acc, h => by
    have hr : ∀ x ∈ r, x.2 = .free → (env.cells.lookup x.1).isSome = true := fun x hx => h x (List.mem_cons_of_mem _ hx)
    rw [List.forIn_cons, hf, clGo]
    by_cases hk : k = .free
    · subst hk
      obtain ⟨a, ha⟩ := Option.isSome_iff_exists.mp (h (n, .free) List.mem_cons_self rfl)
      simp only [beq_self_eq_true, if_true, ha]
      unfold cellOf
      simp only [ha, pure_bind]
      exact clGo_forIn f hf r _ hr
    · have : (k == NameKind.free) = false := by simpa using hk
      simp only [this, Bool.false_eq_true, if_false, pure_bind]
      exact clGo_forIn f hf r _ hr

theorem closureFor_eq {scope : Scope} {env : Env} (h : ∀ x ∈ scope.names, x.2 = .free → (env.cells.lookup x.1).isSome = true) : closureFor scope env = pure (clGo env scope.names []) := by
  unfold closureFor
  dsimp only
  rw [clGo_forIn (env := env) _ (fun n k cs => by cases hk : k == NameKind.free <;> simp [hk]) scope.names [] h]
  rfl

theorem clGo_good {env : Env} : ∀ (names : List (Str × NameKind)) (acc : List (Str × Addr)), (∀ x ∈ acc, env.cells.lookup x.1 = some x.2) → ∀ x ∈ clGo env names acc, env.cells.lookup x.1 = some x.2
  | [], acc, h, x, hx => h x hx
  | (n, k) :: r, acc, h, x, hx => by
    rw [clGo] at hx
    refine clGo_good r _ ?_ x hx
    split
    · split
      · rename_i a ha
        intro y hy
        rcases List.mem_cons.mp hy with rfl | hy
        · exact ha
        · exact h y hy
      · exact h
    · exact h
theorem clGo_mono {env : Env} : ∀ (names : List (Str × NameKind)) (acc : List (Str × Addr)), ∀ x ∈ acc, x ∈ clGo env names acc
  | [], acc, x, hx => hx
  | (n, k) :: r, acc, x, hx => by
    rw [clGo]
    refine clGo_mono r _ x ?_
    split
    · split
      · exact List.mem_cons_of_mem _ hx
      · exact hx
    · exact hx
theorem clGo_has {env : Env} {n : Str} {a : Addr} (ha : env.cells.lookup n = some a) : ∀ (names : List (Str × NameKind)) (acc : List (Str × Addr)), (n, NameKind.free) ∈ names → (n, a) ∈ clGo env names acc
  | [], acc, h => by cases h
  | (m, k) :: r, acc, h => by
    rw [clGo]
    rcases List.mem_cons.mp h with e | h
    · cases e
      refine clGo_mono r _ _ ?_
      simp only [beq_self_eq_true, if_true, ha]
      exact List.mem_cons_self
    · exact clGo_has ha r _ h
theorem lookup_good {f : Str → Option Addr} {n : Str} {a : Addr} : ∀ (l : List (Str × Addr)), (∀ x ∈ l, f x.1 = some x.2) → (n, a) ∈ l → l.lookup n = f n
  | [], _, h => by cases h
  | (m, b) :: r, hg, h => by
    by_cases hm : n = m
    · subst hm
      rw [lookup_cons_eq, hg (n, b) List.mem_cons_self]
    · rw [lookup_cons_ne hm]
      rcases List.mem_cons.mp h with e | h
      · cases e; exact absurd rfl hm
      · exact lookup_good r (fun x hx => hg x (List.mem_cons_of_mem _ hx)) h

noncomputable def compOk (scope : Scope) (env : Env) (ρ : List (Str × PV)) : Bool :=
  scope.kind == .function && scope.names.all fun x => match x.2 with
    | .cell => false
    | .free => (env.cells.lookup x.1).isSome && (env.kindOf x.1 == some .cell || env.kindOf x.1 == some .free) && x.1 != ("__classdict__" : Str)
    | .local => scope.names.lookup x.1 == some .local && (ρ.lookup x.1).isNone
    | _ => true

theorem mem_of_lookup' {α : Type} : ∀ {l : List (Str × α)} {n : Str} {v : α}, l.lookup n = some v → (n, v) ∈ l := fun h => mem_of_lookup h

theorem lookup_relabel (scope : Scope) (env : Env) (n : Str) : (relabel scope env).names.lookup n =
    (scope.names.lookup n).map fun k => if (k == .free && env.scope.kind == .function && env.kindOf n == some .cell) then .cell else k := by
  unfold relabel
  dsimp only
  generalize scope.names = l
  induction l with
  | nil => rfl
  | cons y r ih =>
    obtain ⟨m, k⟩ := y
    rw [List.map_cons]
    by_cases hm : n = m
    · subst hm
      rw [lookup_cons_eq, Option.map_some]
      by_cases hc : (k == NameKind.free && env.scope.kind == .function && env.kindOf n == some .cell) = true
      · dsimp only; rw [if_pos hc, lookup_cons_eq]; rw [if_pos hc]
      · dsimp only; rw [if_neg hc, lookup_cons_eq]; rw [if_neg hc]
    · rw [lookup_cons_ne hm, ← ih]
      by_cases hc : (k == NameKind.free && env.scope.kind == .function && env.kindOf m == some .cell) = true
      · dsimp only; rw [if_pos hc, lookup_cons_ne hm]
      · dsimp only; rw [if_neg hc, lookup_cons_ne hm]

variable {c : Cx} {n : Nat} {X : Addr → Prop} {env : Env} {ρ : List (Str × PV)}

theorem envR_comp {s : Shared} {scope : Scope} {C : Addr} {m : Str → Option Value} {σ : List (Str × PV)} (R : EnvR c X env ρ s) (hok : compOk scope env ρ = true) (hn : s.heap.Ns C m)
    (hσ : ∀ x q, σ.lookup x = some q → scope.names.lookup x = some .local ∧ ∃ v, m x = some v ∧ Rep X s.heap v q) :
    EnvR c X (compEnvC scope (clGo env scope.names []) C env) (σ ++ ρ) s := by
  unfold compOk at hok
  rw [Bool.and_eq_true, beq_iff_eq, List.all_eq_true] at hok
  obtain ⟨hk, hall⟩ := hok
  refine ⟨hk, R.gl, R.bl, R.glo, R.live, fun x p hp hvis => ?_⟩
  have hkd : (compEnvC scope (clGo env scope.names []) C env).kindOf x = (scope.names.lookup x).map fun k => if (k == .free && env.scope.kind == .function && env.kindOf x == some .cell) then .cell else k := lookup_relabel scope env x
  rw [List.lookup_append] at hp
  cases hl : scope.names.lookup x with
  | none => unfold vis at hvis; rw [hkd, hl] at hvis; simp at hvis
  | some k =>
    have hx := hall (x, k) (mem_of_lookup hl)
    rw [hl] at hkd
    cases k with
    | «local» =>
      rw [show (Option.map (fun k => if (k == .free && env.scope.kind == .function && env.kindOf x == some .cell) = true then NameKind.cell else k) (some NameKind.local)) = some .local from rfl] at hkd
      cases hs : σ.lookup x with
      | none =>
        rw [hs] at hp
        simp only [Bool.and_eq_true, Option.isNone_iff_eq_none] at hx
        rw [hx.2] at hp; cases hp
      | some q =>
        rw [hs] at hp
        cases hp
        obtain ⟨_, v, hv, hr⟩ := hσ x _ hs
        exact ⟨v, .inl ⟨hkd, m, hn, hv⟩, hr⟩
    | free =>
      have hs : σ.lookup x = none := by
        cases hs : σ.lookup x with
        | none => rfl
        | some q => have := (hσ x q hs).1; rw [hl] at this; cases this
      rw [hs] at hp
      simp only [Bool.and_eq_true, Bool.or_eq_true, beq_iff_eq, bne_iff_ne] at hx
      obtain ⟨⟨hcell, hkind⟩, hcd⟩ := hx
      have hv : vis env x = true := by unfold vis; rcases hkind with h | h <;> simp [h]
      obtain ⟨v, L, hr⟩ := R.val x p (by simpa using hp) hv
      rcases L with ⟨a, _⟩ | ⟨_, ad, had, hcl⟩
      · rcases hkind with h | h <;> rw [h] at a <;> cases a
      · refine ⟨v, .inr ⟨?_, ad, ?_, hcl⟩, hr⟩
        · rw [hkd]
          by_cases hc : (NameKind.free == NameKind.free && env.scope.kind == .function && env.kindOf x == some .cell) = true
          · left; simp only [Option.map_some, hc, if_true]
          · right
            refine ⟨by simp only [Option.map_some, hc]; rfl, by simpa using hcd⟩
        · show (clGo env scope.names []).lookup x = some ad
          rw [lookup_good (f := fun y => env.cells.lookup y) _ (clGo_good scope.names [] (by intro y hy; cases hy)) (clGo_has had scope.names [] (mem_of_lookup hl)), had]
    | cell => cases hx
    | globalImplicit => unfold vis at hvis; rw [hkd] at hvis; simp at hvis
    | globalExplicit => unfold vis at hvis; rw [hkd] at hvis; simp at hvis
end Mine
end

section
open PySem PySem.W PySem.Calls PyProof.Rows
set_option Elab.async false
set_option linter.unusedVariables false
set_option linter.unusedSimpArgs false
namespace Mine
variable {c : Cx} {n : Nat} {X : Addr → Prop} {env : Env} {ρ : List (Str × PV)}

noncomputable def EvTs (c : Cx) (n : Nat) (X : Addr → Prop) (env : Env) (ρ : List (Str × PV)) (ifs : List Expr) (b : Bool) : Prop :=
  ∀ A E s, AOk n A → EnvR c X env ρ s → wpS c.M A (forIn ifs true fun c r => if r = true then do let ok ← isTrue c env (eval c env); pure (ForInStep.yield ok) else pure (ForInStep.yield r)) (fun v s' => Kp s s' ∧ v = b) E s
theorem evts_nil : EvTs c n X env ρ [] true := fun A E s _ _ => lf <| wpAny_tests_nil ⟨Kp.refl _, rfl⟩
theorem evts_one {e : Expr} {b : Bool} (h : EvT c n X env ρ e b) : EvTs c n X env ρ [e] b := fun A E s hA R => by
  simp only [List.forIn_cons, List.forIn_nil, if_true]
  exact wpS_bind (wpS_bind (wpS_mono (h A E s hA R) (fun b s' hb => wpS_pure (wpS_pure hb)) fun _ _ x => x))

theorem comp_loop {α : Type} {A : Around} {elt it : Expr} {x : Str} {px pos : Pos} {ifs : List Expr} {scope : Scope} {I D C : Addr} {fp wr : List Addr} {P : Nat → Value → Prop} {St : Nat → Heap → Prop}
    {l : List α} {f : α → PV} {t : α → Bool} {g : α → PV} {sb s : Shared} {m : Str → Option Value} {R : Result → Shared → Prop}
    (hA : AOk n A) (W : Walks c.prog c.w A I fp wr l.length P St) (hP : ∀ i u, P i u → ∃ a, l[i]? = some a ∧ Rep X sb.heap u (f a)) (R0 : EnvR c X env ρ sb) (hok : compOk scope env ρ = true)
    (hx : scope.names.lookup x = some .local) (hwr : ∀ b ∈ wr, sb.heap.get? b = none) (hIt : ∀ i h, St i h → ∀ b ∈ wr, ∃ o, h.get? b = some o ∧ IsIt o) (hD : sb.heap.get? D = none) (hC : sb.heap.get? C = none) (hDC : D ≠ C) (hDf : D ∉ fp) (hCf : C ∉ fp) (hlen : l.length ≤ 10000)
    (k0 : Kp sb s) (st0 : St 0 s.heap) (hD0 : s.heap.PlainList D #[]) (hC0 : s.heap.Ns C m)
    (hev : ∀ X' a, (∀ b, X b → X' b) → a ∈ l → EvTs c n X' (compEnvC scope (clGo env scope.names []) C env) ((x, f a) :: ρ) ifs (t a) ∧ (t a = true → EvR c n X' (compEnvC scope (clGo env scope.names []) C env) ((x, f a) :: ρ) elt (g a)))
    (hR : ∀ s' ys m', Kp sb s' → s'.heap.PlainList D ys.toArray → RepL (fun b => X b ∨ b = D) s'.heap ys ((l.filter t).map g) → s'.heap.Ns C m' → R (.ok .next) s') :
    codeS c.M A (.compLoop (.ListComp elt [⟨.Name x px, it, ifs, 0⟩] scope pos) 0 (.ref I) (.ref D) (compEnvC scope (clGo env scope.names []) C env)) R s := by
  have hkind : scope.kind = .function := by
    unfold compOk at hok
    rw [Bool.and_eq_true, beq_iff_eq] at hok
    exact hok.1
  refine codeS_compLoop (fun k s' => ∃ i ys m', k = l.length + 1 - i ∧ i ≤ l.length ∧ St i s'.heap ∧ s'.heap.PlainList D ys.toArray ∧ s'.heap.Ns C m' ∧
    RepL (fun b => X b ∨ b = D) s'.heap ys (((l.take i).filter t).map g) ∧ Kp sb s') ?_ (l.length + 1) ⟨0, [], m, rfl, Nat.zero_le _, st0, hD0, hC0, by simpa using RepL.nil, k0⟩
  rintro k s' ⟨i, ys, m', rfl, hi, st, hl, hn, hr, kb⟩
  have hx' : (compEnvC scope (clGo env scope.names []) C env).kindOf x = some .local := lookup_relabel_local hx
  have up : ∀ {v : Value} {p : PV}, Rep X sb.heap v p → Rep (fun b => X b ∨ b = D) sb.heap v p := fun r => r.weak fun b o hb e _ h => h.elim hb fun hd => by subst hd; rw [hD] at e; cases e
  have R' : ∀ s'', Kp sb s'' → (∃ o, s''.heap.get? D = some o) → EnvR c (fun b => X b ∨ b = D) env ρ s'' := fun s'' kk hd =>
    ⟨R0.kind, R0.gl, R0.bl, R0.glo.keeps kk.heap, fun b hb => hb.elim (fun hb => (R0.live.kp kk) b hb) fun hb => hb ▸ hd, fun y p hp hv => let ⟨v, a, b⟩ := R0.val y p hp hv; ⟨v, a.keeps kk.heap, (up b).kp kk⟩⟩
  have hDw : D ∉ wr := fun h => hDf (W.sub _ h)
  have hCw : C ∉ wr := fun h => hCf (W.sub _ h)
  by_cases hlt : i < l.length
  · refine lf <| W.item i s' _ _ hlt st fun u h1 tk hu st1 hk1 => ?_
    obtain ⟨a, ha, ra⟩ := hP i u hu
    have kb1 : Kp sb { s' with heap := h1, toks := tk } := ⟨fun b o e => hk1 b o (fun hb => by rw [hwr b hb] at e; cases e) (kb.heap b o e), kb.gens, kb.bare, kb.os⟩
    have hl1 : h1.PlainList D ys.toArray := hl.at fun o e => hk1 _ o hDw e
    have hn1 : h1.Ns C m' := hn.at' fun o e => hk1 _ o hCw e
    have hr1 : RepL (fun b => X b ∨ b = D) h1 ys (((l.take i).filter t).map g) := hr.keep fun b o _ e kd => hk1 b o (fun hb => by
      obtain ⟨o', e', it⟩ := hIt i _ st b hb
      rw [e] at e'; cases e'; exact it.notKd kd) e
    refine wpS_assign_Name (lf <| wpAny_storeName_local hx' hn1 (fun h2 hn2 hs2 => ?_) (by show (scope.kind == .class || (scope.kind == .module && _)) = false; rw [hkind]; rfl))
    have kb2 : Kp sb { s' with heap := h2, toks := tk + 1 } := ⟨fun b o e => hs2.extBut b o (by rintro rfl; rw [hC] at e; cases e) (kb1.heap b o e), kb.gens, kb.bare, kb.os⟩
    have hl2 : h2.PlainList D ys.toArray := hl1.extBut hs2.extBut hDC
    have hr2 : RepL (fun b => X b ∨ b = D) h2 ys (((l.take i).filter t).map g) := hr1.keep fun b o _ e kd => hs2.extBut b o (by rintro rfl; exact not_kd_ns hn1 e kd.dt) e
    have st2 : St (i + 1) h2 := W.frame _ _ _ st1 fun b hb o e => hs2.extBut b o (fun h => hCf ((show b = C from h) ▸ hb)) e
    have R2 := R' { s' with heap := h2, toks := tk + 1 } kb2 (let ⟨_, e⟩ := hl2; ⟨_, e⟩)
    have Rc : EnvR c (fun b => X b ∨ b = D) (compEnvC scope (clGo env scope.names []) C env) ((x, f a) :: ρ) { s' with heap := h2, toks := tk + 1 } :=
      envR_comp (σ := [(x, f a)]) R2 hok hn2 fun y q hy => by
        by_cases hyx : y = x
        · subst hyx
          rw [lookup_cons_eq] at hy; cases hy
          exact ⟨hx, u, by simp, (up ra).kp kb2⟩
        · rw [lookup_cons_ne hyx] at hy; cases hy
    obtain ⟨ht, he⟩ := hev (fun b => X b ∨ b = D) a (fun b hb => .inl hb) (List.mem_of_getElem? ha)
    refine wpS_mono (ht A _ _ hA Rc) (fun ok s3 h3 => ?_) fun _ _ e => e
    obtain ⟨k3, rfl⟩ := h3
    have take1 : (l.take (i + 1)).filter t = (l.take i).filter t ++ (if t a then [a] else []) := take_succ_filter t l i a ha
    have st3 : St (i + 1) s3.heap := W.frame _ _ _ st2 fun b _ o e => k3.heap b o e
    cases hta : t a with
    | false =>
      simp only [Bool.false_eq_true, if_false]
      refine ⟨l.length + 1 - (i + 1), by omega, i + 1, ys, _, rfl, hlt, st3, hl2.at fun o e => k3.heap _ o e, hn2.keeps k3.heap, ?_, kb2.trans k3⟩
      rw [take1, hta]
      simpa using hr2.keep fun b o _ e _ => k3.heap b o e
    | true =>
      simp only [if_true]
      refine wpS_mono (he hta A _ s3 hA (Rc.kp k3)) (fun v s4 h4 => ?_) fun _ _ e => e
      obtain ⟨k4, rv⟩ := h4
      have hys : ys.toArray.size ≤ sizeLine := by
        have e1 := hr.length
        have e2 : ((l.take i).filter t).length ≤ (l.take i).length := List.length_filter_le _ _
        have e3 : (l.take i).length ≤ l.length := by rw [List.length_take]; omega
        rw [List.length_map] at e1
        rw [List.size_toArray, sizeLine_eq]; omega
      refine lf <| wpAny_list_append_plain (hsz := hys) (hl2.at fun o e => k4.heap _ o (k3.heap _ o e)) fun h5 hl5 hs5 => ?_
      refine ⟨l.length + 1 - (i + 1), by omega, i + 1, ys ++ [v], _, rfl, hlt, ?_, by simpa using hl5, (hn2.keeps fun b o e => k4.heap b o (k3.heap b o e)).sameBut hs5 (Ne.symm hDC), ?_, ?_⟩
      · exact W.frame _ _ _ st3 fun b hb o e => hs5.extBut b o (fun h => hDf (h ▸ hb)) (k4.heap b o e)
      · rw [take1, hta]
        simp only [if_true, List.map_append, List.map_cons, List.map_nil]
        have rr : RepL (fun b => X b ∨ b = D) s4.heap (ys ++ [v]) (((l.take i).filter t).map g ++ [g a]) :=
          (hr2.keep fun b o _ e _ => k4.heap b o (k3.heap b o e)).append (.cons rv .nil)
        exact rr.keep fun b o hb e _ => hs5.extBut b o (fun h => hb (.inr h)) e
      · exact ⟨fun b o e => hs5.extBut b o (by rintro rfl; rw [hD] at e; cases e) (k4.heap b o (k3.heap b o (kb2.heap b o e))), fun g' x' e => k4.gens g' x' (k3.gens g' x' (kb2.gens g' x' e)), fun e => k4.bare (k3.bare (kb2.bare e)), k4.os.trans (k3.os.trans kb2.os)⟩
  · have : i = l.length := by omega
    subst this
    refine lf <| W.done s' _ _ st fun h1 tk hk1 => ?_
    refine hR _ ys m' ⟨fun b o e => hk1 b o (fun hb => by rw [hwr b hb] at e; cases e) (kb.heap b o e), kb.gens, kb.bare, kb.os⟩ (hl.at fun o e => hk1 _ o hDw e) ?_ (hn.at' fun o e => hk1 _ o hCw e)
    rw [List.take_length] at hr
    exact hr.keep fun b o _ e kd => hk1 b o (fun hb => by
      obtain ⟨o', e', it⟩ := hIt _ _ st b hb
      rw [e] at e'; cases e'; exact it.notKd kd) e

theorem compOk_parts {scope : Scope} (hok : compOk scope env ρ = true) : scope.kind = .function ∧ (∀ y ∈ scope.names, y.2 ≠ .cell) ∧ (∀ y ∈ scope.names, y.2 = .local → scope.names.lookup y.1 = some .local) ∧
    (∀ y ∈ scope.names, y.2 = .free → (env.cells.lookup y.1).isSome = true) := by
  unfold compOk at hok
  rw [Bool.and_eq_true, beq_iff_eq, List.all_eq_true] at hok
  refine ⟨hok.1, fun y hy e => ?_, fun y hy e => ?_, fun y hy e => ?_⟩
  · have := hok.2 y hy; rw [e] at this; cases this
  · have := hok.2 y hy; rw [e] at this
    simp only [Bool.and_eq_true, beq_iff_eq] at this
    exact this.1
  · have := hok.2 y hy; rw [e] at this
    simp only [Bool.and_eq_true] at this
    exact this.1.1

/-- the block of a comprehension of one clause -/
theorem comp_block {α : Type} {A : Around} {E : Value → Shared → Prop} {elt it : Expr} {x : Str} {px pos : Pos} {ifs : List Expr} {scope : Scope} {I : Addr} {fp wr : List Addr} {P : Nat → Value → Prop} {St : Nat → Heap → Prop}
    {l : List α} {f : α → PV} {t : α → Bool} {g : α → PV} {sb s₂ : Shared} {RR : Value → Addr → Result → Shared → Prop}
    (hA : AOk n A) (W : Walks c.prog c.w A I fp wr l.length P St) (hP : ∀ i u, P i u → ∃ a, l[i]? = some a ∧ Rep X sb.heap u (f a)) (R0 : EnvR c X env ρ sb) (hok : compOk scope env ρ = true)
    (hx : scope.names.lookup x = some .local) (hwr : ∀ b ∈ wr, sb.heap.get? b = none) (hIt : ∀ i h, St i h → ∀ b ∈ wr, ∃ o, h.get? b = some o ∧ IsIt o) (hlen : l.length ≤ 10000)
    (k0 : Kp sb s₂) (hsz : sb.heap.objs.size ≤ s₂.heap.objs.size) (st0 : St 0 s₂.heap) (hfp : ∀ b ∈ fp, b < s₂.heap.objs.size)
    (hev : ∀ C X' a, (∀ b, X b → X' b) → a ∈ l → EvTs c n X' (compEnvC scope (clGo env scope.names []) C env) ((x, f a) :: ρ) ifs (t a) ∧ (t a = true → EvR c n X' (compEnvC scope (clGo env scope.names []) C env) ((x, f a) :: ρ) elt (g a)))
    (hRR : ∀ D C s' ys m', sb.heap.get? D = none → sb.heap.get? C = none → D ≠ C → Kp sb s' → s'.heap.PlainList D ys.toArray → RepL (fun b => X b ∨ b = D) s'.heap ys ((l.filter t).map g) → s'.heap.Ns C m' → RR (.ref D) C (.ok .next) s') :
    wpS c.M A (newList []) (fun acc s₃ => wpS c.M A (newFunctionEnv scope env.globals (clGo env scope.names []) [] env.qual none .none (some env)) (fun cenv s₄ =>
      codeS c.M A (.compStart (.ListComp elt [⟨.Name x px, it, ifs, 0⟩] scope pos) 0 (.ref I) acc { cenv with scope := relabel scope env }) (RR acc cenv.locals) s₄) E s₃) E s₂ := by
  obtain ⟨hkind, hcell, hnames, hfree⟩ := compOk_parts hok
  refine lf <| wpAny_newObj_type (lf <| wpAny_newFunctionEnv hcell (by intro y hy; simp at hy) (fun h₁ hns₁ hsb₁ => ?_) hkind)
  dsimp only at hns₁ hsb₁ ⊢
  generalize hH2 : s₂.heap.push { cls := .type "list", dict := none, data := .seq ([] : List Value).toArray } = H2 at hns₁ hsb₁ ⊢
  have hC : H2.objs.size = s₂.heap.objs.size + 1 := by rw [← hH2, Heap.size_push]
  have hDC : s₂.heap.objs.size ≠ H2.objs.size := by rw [hC]; exact Nat.ne_of_lt (Nat.lt_succ_self _)
  have below : ∀ b, b < s₂.heap.objs.size → b ≠ H2.objs.size ∧ b ≠ s₂.heap.objs.size := fun b hb => ⟨by rw [hC]; exact Nat.ne_of_lt (Nat.lt_succ_of_lt hb), Nat.ne_of_lt hb⟩
  have hDf : s₂.heap.objs.size ∉ fp := fun hm => Nat.lt_irrefl _ (hfp _ hm)
  have hCf : H2.objs.size ∉ fp := fun hm => by have := hfp _ hm; rw [hC] at this; exact Nat.lt_irrefl _ (Nat.lt_of_succ_lt this)
  have old : ∀ b o, s₂.heap.get? b = some o → h₁.get? b = some o := fun b o e => hsb₁.extBut b o (below b (Heap.lt_size e)).1 (Heap.get?_push_of_some _ (hH2 ▸ Heap.get?_push_of_some _ e))
  have hacc : h₁.PlainList s₂.heap.objs.size #[] := ⟨_, hsb₁.extBut _ _ hDC (Heap.get?_push_of_some _ (hH2 ▸ Heap.get?_push_size _ rfl))⟩
  have hst₁ : St 0 h₁ := W.frame _ _ _ st0 fun b _ o e => old b o e
  have fD : sb.heap.get? s₂.heap.objs.size = none := get_ge hsz
  have fC : sb.heap.get? H2.objs.size = none := get_ge (by rw [hC]; exact Nat.le_succ_of_le hsz)
  have loop : ∀ s₃ : Shared, s₃ = { s₂ with heap := h₁, toks := s₂.toks + ([] : List (Str × Value)).length } →
      codeS c.M A (.compLoop (.ListComp elt [⟨.Name x px, it, ifs, 0⟩] scope pos) 0 (.ref I) (.ref s₂.heap.objs.size) (compEnvC scope (clGo env scope.names []) H2.objs.size env))
        (RR (.ref s₂.heap.objs.size) H2.objs.size) s₃ := by
    rintro s₃ rfl
    exact comp_loop hA W hP R0 hok hx hwr hIt fD fC hDC hDf hCf hlen (k0.trans (Kp.of old)) hst₁ hacc hns₁ (hev _) fun s' ys m' k hl hr hn => hRR _ _ s' ys m' fD fC hDC k hl hr hn
  exact codeS_compStart (loop _ rfl) (lf <| W.self 0 _ _ _ hst₁ (loop _ rfl))

theorem ev_comp {α : Type} {elt it : Expr} {x : Str} {px pos : Pos} {ifs : List Expr} {scope : Scope} {p : PV} (l : List α) (f : α → PV) (t : α → Bool) (g : α → PV)
    (hi : EvR c n X env ρ it p) (hI : ∀ X', Iter c X' p (l.map f)) (hok : compOk scope env ρ = true) (hx : scope.names.lookup x = some .local) (hlen : l.length ≤ 10000)
    (hev : ∀ C X' a, (∀ b, X b → X' b) → a ∈ l → EvTs c n X' (compEnvC scope (clGo env scope.names []) C env) ((x, f a) :: ρ) ifs (t a) ∧ (t a = true → EvR c n X' (compEnvC scope (clGo env scope.names []) C env) ((x, f a) :: ρ) elt (g a)))
    (hs : ∀ v, foldedSetIterable it env v = pure v := by intro _; rfl) : EvR c n X env ρ (.ListComp elt [⟨.Name x px, it, ifs, 0⟩] scope pos) (.list ((l.filter t).map g)) := by
  intro A E s hA R
  obtain ⟨hkind, hcell, hnames, hfree⟩ := compOk_parts hok
  rw [eval_ListComp]
  refine wpS_comprehension (use := none) rfl hs (closureFor_eq hfree) hkind hnames (wpS_mono (hi A E s hA R) (fun xv s₁ h₁ => ?_) fun _ _ e => e)
  refine lf <| hI X A E s₁ xv _ hA.hh (R.kp h₁.1).live h₁.2 fun I s₂ fp wr P St k W st hsz hfp hwr hfX hIt hP => ?_
  have hWA := W A hA.hh
  rw [List.length_map] at hWA
  refine comp_block (RR := fun acc C => compPostS c.M A E none (Post X s (.list ((l.filter t).map g))) acc C) hA hWA ?_ (R.kp h₁.1) hok hx hwr (fun i h hst => (hIt i h hst).1) hlen k hsz st hfp hev ?_
  · intro i u hu
    obtain ⟨q, hq, rq⟩ := hP i u hu
    rw [List.getElem?_map] at hq
    cases hl : l[i]? with
    | none => rw [hl] at hq; cases hq
    | some a => rw [hl] at hq; cases hq; exact ⟨a, rfl, rq⟩
  · intro D C s' ys m' hD hC hDC k' hl hr hn
    refine ⟨m', hn, fun h' hs' => ⟨h₁.1.trans ⟨fun b o e => hs'.extBut b o (by rintro rfl; rw [hC] at e; cases e) (k'.heap b o e), k'.gens, k'.bare, k'.os⟩, ?_⟩⟩
    refine .list ((R.kp h₁.1).live.no hD) (hl.extBut hs'.extBut hDC) ?_
    exact (hr.anti fun b hb => .inl hb).keep fun b o _ e kd => hs'.extBut b o (by rintro rfl; exact not_kd_ns hn e kd.dt) e

/-- a list comprehension stored under a local name -/
theorem ex_comp {α : Type} {s₀ : Shared} {elt it : Expr} {x y : Str} {px py pos spos : Pos} {ifs : List Expr} {scope : Scope} {p : PV} (l : List α) (f : α → PV) (t : α → Bool) (g : α → PV)
    (hi : EvR c n X env ρ it p) (hI : ∀ X', Iter c X' p (l.map f)) (hok : compOk scope env ρ = true) (hx : scope.names.lookup x = some .local) (hlen : l.length ≤ 10000)
    (hev : ∀ C X' a, (∀ b, X b → X' b) → a ∈ l → EvTs c n X' (compEnvC scope (clGo env scope.names []) C env) ((x, f a) :: ρ) ifs (t a) ∧ (t a = true → EvR c n X' (compEnvC scope (clGo env scope.names []) C env) ((x, f a) :: ρ) elt (g a)))
    (hy : env.kindOf y = some .local)
    (hsw : swapsWith (.ListComp elt [⟨.Name x px, it, ifs, 0⟩] scope pos) (some (.Name y py)) spos.line env = pure true)
    (hs : ∀ v, foldedSetIterable it env v = pure v := by intro _; rfl) :
    Ex c n X s₀ env ρ (.Assign [.Name y py] (.ListComp elt [⟨.Name x px, it, ifs, 0⟩] scope pos) spos) ((y, .list ((l.filter t).map g)) :: ρ) := by
  intro A E s hA F
  have R := F.envR
  obtain ⟨hkind, hcell, hnames, hfree⟩ := compOk_parts hok
  rw [exec_Assign_Name_used _ _ _ _ hsw]
  refine wpS_bind (wpS_standAt (wpS_bind ?_))
  show wpS _ A (do let _ ← comprehension (.ListComp elt [⟨.Name x px, it, ifs, 0⟩] scope pos) scope env _ (newList []) false (eval it env) (some (assign (.Name y py) env))) _ _ s
  refine wpS_bind (wpS_mono (wpS_comprehension (use := some (assign (.Name y py) env)) (Q := fun _ s' => FmP c X s₀ env ((y, .list ((l.filter t).map g)) :: ρ) s' ∧ Dp X env s s') rfl hs (closureFor_eq hfree) hkind hnames
    (wpS_mono (hi A E s hA R) (fun xv s₁ h₁ => ?_) fun _ _ e => e)) (fun _ s' hq => wpS_pure (wpS_pure ⟨rfl, hq⟩)) fun _ _ e => e)
  refine lf <| hI X A E s₁ xv _ hA.hh (R.kp h₁.1).live h₁.2 fun I s₂ fp wr P St k W st hsz hfp hwr hfX hIt hP => ?_
  have hWA := W A hA.hh
  rw [List.length_map] at hWA
  refine comp_block (RR := fun acc C => compPostS c.M A E (some (assign (.Name y py) env)) (fun _ s' => FmP c X s₀ env ((y, .list ((l.filter t).map g)) :: ρ) s' ∧ Dp X env s s') acc C) hA hWA ?_ (R.kp h₁.1) hok hx hwr (fun i h hst => (hIt i h hst).1) hlen k hsz st hfp hev ?_
  · intro i u hu
    obtain ⟨q, hq, rq⟩ := hP i u hu
    rw [List.getElem?_map] at hq
    cases hl : l[i]? with
    | none => rw [hl] at hq; cases hq
    | some a => rw [hl] at hq; cases hq; exact ⟨a, rfl, rq⟩
  · intro D C s' ys m' hD hC hDC k' hl hr hn
    have F1 := F.kp' h₁.1
    have F' := F1.kp' k'
    have hXD : ¬ X D := F1.live.no hD
    have rD : Rep X s'.heap (.ref D) (.list ((l.filter t).map g)) := .list hXD hl (hr.anti fun b hb => .inl hb)
    obtain ⟨mL, cm, hnL, hcL, hvL⟩ := F'.fr
    have hLC : env.locals ≠ C := by
      obtain ⟨mL1, cm1, hnL1, _⟩ := F1.fr
      rintro rfl
      obtain ⟨o, _, _, ho, _⟩ := hnL1
      rw [hC] at ho; cases ho
    have hcC : ∀ z kk, env.cells.lookup z = some kk → kk ≠ C := by
      obtain ⟨mL1, cm1, hnL1, hc1, _⟩ := F1.fr
      rintro z kk hz rfl
      obtain ⟨o, ho, _⟩ := hc1 z kk hz
      rw [hC] at ho; cases ho
    have hX0 : ¬ X C := F1.live.no hC
    have h0C : s₀.heap.get? C = none := by
      cases e : s₀.heap.get? C with
      | none => rfl
      | some o => have := F1.kp.heap C o e; rw [hC] at this; cases this
    refine wpS_assign_Name (lf <| wpAny_storeName_local hy hnL (fun h₂ hn₂ hs₂ => ?_) (by rw [F.kind]; rfl))
    refine ⟨m', hn.sameBut hs₂ (Ne.symm hLC), fun h₃ hs₃ => ?_⟩
    have kd3 : ∀ b o, s'.heap.get? b = some o → Dt o → h₃.get? b = some o := fun b o e dt =>
      hs₃.extBut b o (by rintro rfl; exact not_kd_ns hn e dt) (hs₂.extBut b o (by rintro rfl; exact not_kd_ns hnL e dt) e)
    have keep : ∀ {w : Value} {q : PV}, Rep X s'.heap w q → Rep X h₃ w q := fun r => r.keep fun b o _ e kd => kd3 b o e kd.dt
    refine ⟨⟨F.kind, F.gl, F.bl, F.apart, F.above, F.fresh, F.glo, ⟨fun b o e => ?_, F'.kp.gens, F'.kp.bare, F'.kp.os⟩, fun b hb => ?_, F.xn, F.xc, _, cm, hn₂.sameBut hs₃ hLC, fun z kk hz => ?_, fun z p' hp hvis => ?_⟩, ?_⟩
    · exact hs₃.extBut b o (by rintro rfl; rw [h0C] at e; cases e) (hs₂.extBut b o (Nat.ne_of_lt (Nat.lt_of_lt_of_le (Heap.lt_size e) F.fresh)) (F'.kp.heap b o e))
    · obtain ⟨o, e⟩ := F'.live b hb
      exact ⟨o, hs₃.extBut b o (by rintro rfl; exact hX0 hb) (hs₂.extBut b o (by rintro rfl; exact F.xn hb) e)⟩
    · exact ((hcL z kk hz).sameBut hs₂ (Nat.ne_of_gt (F.above z kk (mem_of_lookup hz)))).sameBut hs₃ (hcC z kk hz)
    · by_cases hzy : z = y
      · subst hzy
        rw [lookup_cons_eq] at hp; cases hp
        exact ⟨_, .inl ⟨hy, by simp⟩, keep rD⟩
      · rw [lookup_cons_ne hzy] at hp
        obtain ⟨w, hN, hw⟩ := hvL z p' hp hvis
        refine ⟨w, ?_, keep hw⟩
        rcases hN with ⟨a, b⟩ | ⟨a, b, d⟩
        · exact .inl ⟨a, by simp [hzy, b]⟩
        · exact .inr ⟨a, b, d⟩
    · refine ⟨fun b o _ e dt => kd3 b o (k'.heap _ _ (h₁.1.heap _ _ e)) dt, fun b o _ h1 _ e => ?_, fun g' x' e => k'.gens _ _ (h₁.1.gens _ _ e), k'.os.trans h₁.1.os⟩
      have e1 := h₁.1.heap _ _ e
      exact hs₃.extBut b o (by rintro rfl; rw [hC] at e1; cases e1) (hs₂.extBut b o h1 (k'.heap _ _ e1))
end Mine
end

section
open PySem PySem.W PySem.Calls PyProof.Rows
open Sem (wp)
set_option Elab.async false
set_option linter.unusedVariables false
namespace Mine

theorem wp_of_wpS {M : Model} {Γ : Ctx} {A : Around} {t : Sem Fin} {s : Shared} {R : Result → Shared → Prop} (hΓ : Γ.In A) (hC : Cln Γ)
    (h : wpS M A t (fun fin s' => ∃ f, fin = .done f ∧ R (.ok f) s') (fun e s' => R (.error e) s') s) (p : Pos) :
    wp M Γ t (Sem.finPost M Γ R) (fun e _ s' => R (.error e) s') p s :=
  Sem.wp_mono M Γ t (fun fin p' s' h' => by obtain ⟨f, rfl, h'⟩ := h'; exact h') (fun _ _ _ h' => h') p s (h Γ p hΓ hC)

theorem thread_ends {prog : Program} {w : World} {t : Sem Fin} {s : Shared} {R : Result → Shared → Prop} (hreg : s.asleep)
    (h : wpS (model prog w) callerA t (fun fin s' => ∃ f, fin = .done f ∧ (R (.ok f) s' ∧ leftWithCleanup s'.gens = false)) (fun e s' => R (.error e) s' ∧ leftWithCleanup s'.gens = false) s) :
    ∃ n r s' s'', runN (denote table) prog w n s ⟨t, .builtin "claim.caller" {}, default, []⟩ = .halted (outcomeOf r) s' ∧
      schedN (denote table) prog w n (.single s ⟨t, .builtin "claim.caller" {}, default, []⟩) = .halted (outcomeOf r) s' ∧ s'.forget = s''.forget ∧ R r s'' := by
  obtain ⟨n, r, s₁, s₂, hs, hn, hfo, hR⟩ := wp_halts_full (M := model prog w) (R := R) hreg (wp_of_wpS (R := fun r s' => R r s' ∧ leftWithCleanup s'.gens = false) caller_in ⟨by decide +kernel, fun x hx => by cases hx⟩ h default)
  exact ⟨n, r, s₂, s₁, hn, hs, hfo, hR⟩

noncomputable abbrev WalkS (q : Program) (loose : List Str) (XP : (Str → Option Value) → Heap → Prop) (YP : World → Heap → Prop) (r : RowW) (d : DefRec) (kwd : List (Str × Expr)) : Prop :=
  ∀ (w : World) (s₀ s₁ : Shared) (mg mb : Str → Option Value), Ground q loose r.records XP w s₀ mg mb s₁.heap → YP w s₁.heap → ∀ (a : Addr) (o : Obj) (pm cd doc dV kV : Value), s₁.heap.get? a = some o →
    o.data = .func { docDef d.name d.params d.body d.scope pm cd doc with defaults := dV, kwdefaults := kV } → s₁.heap.CodeRec cd d.name → Dflts mg s₁.heap d.params kwd dV kV → mg d.name = some (.ref a) → s₁.gens = #[] →
    ∀ (args : List WData) (vals : List Value) (as : List Addr), r.claim.pre args = true → WData.layableAll args = true → ReadsAllW r.records (classAt s₀.heap) s₁.heap vals args as → WellAll w.params s₁.heap vals args → (∀ a ∈ as, (a == sysModules) = false) →
      wpS (model r.prog w) callerA (PySem.call (.ref a) vals) (fun v s' => GoodWG r.claim (classAt s₀.heap) (ExcName.means s₀.heap) args s₁ (.ok (.ret v)) s')
        (fun e s' => GoodWG r.claim (classAt s₀.heap) (ExcName.means s₀.heap) args s₁ (.error e) s') s₁

theorem callFrom {c : ClaimW} {tree : List Value → Sem Fin} {w : World} {s : Shared} {free : Addr → Prop} {gens : Prop} {kept : Heap → Prop} (hz : s.asleep) (hgens : s.gens = #[])
    (hspec : ∀ args, c.pre args = true → WData.layableAll args = true → ∀ ord : List DictEntry → List DictEntry, (∀ l, (ord l).Perm l) →
      ∃ vs s₁, layAllW c.records (classAt s.heap) w.params ord args s = some (vs, s₁) ∧
        wpS (model c.prog w) callerA (tree vs) (fun fin s' => ∃ f, fin = .done f ∧ (c.Ends s args vs s₁ (.ok f) s' ∧ s'.os = s.os ∧ AllBare s'.gens ∧ kept s'.heap))
          (fun e s' => c.Ends s args vs s₁ (.error e) s' ∧ s'.os = s.os ∧ AllBare s'.gens ∧ kept s'.heap) s₁) :
    c.CallFrom (fun vs => ⟨tree vs, .builtin "claim.caller" {}, default, []⟩) w free gens kept s := by
  intro args hpre hlay ord hord
  obtain ⟨vs, s₁, hlaid, hcode⟩ := hspec args hpre hlay ord hord
  have hal := layAllW_rest _ _ _ hlaid
  obtain ⟨k, r, s', s'', hrun, hsched, hfo, hcase, hos, hkp⟩ := thread_ends (prog := c.prog) (w := w) (t := tree vs) (s := s₁) (R := fun r s' => c.Ends s args vs s₁ r s' ∧ s'.os = s.os ∧ kept s'.heap)
    (Shared.asleep_of_life hal.2.2.2 hz)
    (wpS_mono hcode (fun fin s' ⟨f, e, h1, h2, h3, h4⟩ => ⟨f, e, ⟨h1, h2, h4⟩, leftWithCleanup_false_of_bare h3⟩) fun e s' ⟨h1, h2, h3, h4⟩ => ⟨⟨h1, h2, h4⟩, leftWithCleanup_false_of_bare h3⟩)
  obtain ⟨eh, _, _, eo, _⟩ := Shared.forget_eq hfo
  have hcase := hcase.congr eh
  rw [← eh] at hkp
  rw [← eo] at hos
  have hlife : s'.heap.life = s.heap.life := (runN_life _ _ _ hrun).trans hal.2.2.2
  refine ⟨vs, s₁, hlaid, k, _, s', hsched, ?_, (fun _ i x hx => by rw [hgens] at hx; simp at hx), hkp, by rw [hlife], Shared.rest_eq hos⟩
  rcases hcase with ⟨v, rfl, d1, d2, d3, d4, d5⟩ | ⟨e, ob, cls, rfl, d1, d2, d3, d4, d5⟩
  · exact .inl ⟨v, rfl, d1, d2, d3, fun b o y _ => d4 b o y, d5⟩
  · exact .inr ⟨e, ob, cls, rfl, d1, d2, d3, d4, fun b o y _ => d5 b o y⟩

/-- the head, with the walk in clean contexts alone -/
theorem holds_openS {r : OpenRow} {q : Program} {loose : List Str} {Xt : Shared → Bool} {XP : (Str → Option Value) → Heap → Prop} {α : Type} {Yf : Shared → α} {Ya : World → α} {YP : World → Heap → Prop} {d : DefRec} {kwd : List (Str × Expr)} {N : Nat}
    (left : LeftO r.prog q loose Xt Yf Ya N) (hY : ∀ w s, Yf s = Ya w → YP w s.heap) (hYk : ∀ w h h', YP w h → (∀ b o, h.get? b = some o → h'.get? b = some o) → YP w h')
    (hX : ∀ s, Xt s = true → XP (s.heap.nsMap mainGlobals) s.heap) (hXk : ∀ mg h h', XP mg h → (∀ b o, h.get? b = some o → h'.get? b = some o) → XP mg h')
    (hdef : defOf q r.name = some (d, kwd)) (hp : r.prog.theDef r.name = some (d.params, d.body, d.scope)) (hk : kwWritten? d.params.kwonlyargs d.params.kw_defaults = some kwd) (hRf : ∀ s, Xt s = true → RecFacts r.records s.heap) (hwr : (!r.writes || r.records.isEmpty) = true)
    (k1 : r.wellSaid = true) (ok : (chainsOk q && opensWell r.prog && (frees r.toRowW && r.within.isEmpty)) = true) (hb : r.prog.bare) (hw : r.toRowW.promised)
    (call : WalkS q loose XP YP r.toRowW d kwd) : r.Holds := by
  obtain ⟨ok, k5⟩ := Bool.and_eq_true_iff.mp ok
  obtain ⟨hch, o1⟩ := Bool.and_eq_true_iff.mp ok
  obtain ⟨k5, k6⟩ := Bool.and_eq_true_iff.mp k5
  obtain ⟨hsame, hu, ha, hap, hm⟩ := frees_parts k5
  refine ⟨k1, hw, ⟨⟨hb, o1, by show r.makers.map _ = []; rw [hm]; rfl⟩, hw.witness, fun w => ⟨(left.behind hX hch w).1, fun s' hs' => ?_⟩⟩⟩
  obtain ⟨s₀, hf, hg0, s, hT, hz, hgens, hg, G00, y⟩ := (left.behind (XP := fun mg h => XP mg h ∧ RecFacts r.records h) (fun s hs => ⟨hX s hs, hRf s hs⟩) hch w).2 s' hs'
  have G0 : Ground q loose [] XP w s (s.heap.nsMap mainGlobals) (s.heap.nsMap builtinsNs) s.heap := ⟨G00.T, G00.B, G00.D, G00.TE, G00.TD, G00.W, G00.X.1, G00.cls, G00.has, G00.apart, G00.once, G00.K⟩
  have RF := G00.X.2
  refine ⟨s₀, hf, hg0, s, hT, fun n hn => ?_, RF.1, RF.2.1, ?_⟩
  · obtain rfl : n = r.name := by split at hn <;> simp_all
    exact pinned_of_view hg G0 hdef hp hk
  have hgens : s.gens = #[] := Array.eq_empty_of_size_eq_zero (beq_iff_eq.mp hgens)
  have G : Ground q loose r.records XP w s _ _ s.heap := RF.ground G0
  refine callFrom (c := r.claim) (tree := fun vs => do match ← nsGet mainNs r.name with
      | some f => do ret (← PySem.call f vs)
      | none => unsupported "claim.caller:no-such-global") hz hgens fun args hpre hlay ord hord => ?_
  obtain ⟨⟨vs, s₁⟩, hlaid⟩ := Option.isSome_iff_exists.mp (layAllW_isSome (P := w.params) (ord := ord) G.has args r.args s (pre_splitW hpre).1)
  have keeps := layAllW_keeps _ _ _ hlaid
  have hal := layAllW_rest _ _ _ hlaid
  obtain ⟨as, hrd, hin, hold⟩ := reads_layAllW hord _ _ _ hlaid hlay s₁.heap (fun _ _ e => e)
  have L : Laid r.records w s s₁ args vs as := ⟨⟨ord, hord, hlaid⟩, hrd, hin, hold, keeps, hal.1.trans hgens, hal.2.2.1⟩
  have G₁ := G.keeps hXk keeps
  obtain ⟨a, o, pm, cd, doc, dV, kV, h1, h2, h3, h4, h5⟩ := G₁.fn hdef
  have h := call w s s₁ _ _ G₁ (hYk _ _ _ (hY w s y) keeps) a o pm cd doc dV kV h2 h3 h4 h5 (defOf_name hdef ▸ h1) L.gens args vs as hpre hlay L.reads L.well (L.low G.low)
  have hi := ident_freeW hu ha hap
  have hwi : r.claim.within = [] := List.isEmpty_iff.mp k6
  refine ⟨vs, s₁, hlaid, wpS_bind (lf (wpAny_nsGet G₁.T.g ?_))⟩
  rw [h1]
  refine wpS_bind (wpS_mono h (fun v s' g => wpS_pure ⟨_, rfl, ?_⟩) fun e s' g => ?_)
  · have z := g.laid (c := r.claim) hsame hwi hi L
    exact ⟨z.1, z.2.1, z.2.2, fun q => ⟨namesKept_of hT hg _ keeps g.2.1.old, noTable hwr q⟩⟩
  · have z := g.laid (c := r.claim) hsame hwi hi L
    exact ⟨z.1, z.2.1, z.2.2, fun q => ⟨namesKept_of hT hg _ keeps g.2.1.old, noTable hwr q⟩⟩
end Mine
end

section
open PySem PySem.W PySem.Calls PyProof.Rows
open Sem (wp)
set_option Elab.async false
set_option maxRecDepth 100000
set_option linter.unusedVariables false
set_option linter.deprecated false
namespace Mine
namespace B
theorem no_bytes : typeLookup (.type "bytearray") "__bytes__" = pure none := by rw [typeLookup_type, builtinLookup_eq_fast]; kernel_rfl
theorem noIndex : typeLookup (.type "bytearray") "__index__" = pure none := by rw [typeLookup_type, builtinLookup_eq_fast]; kernel_rfl
theorem buffer : typeLookup (.type "bytearray") "__buffer__" = pure (some (.builtin "bytearray.__buffer__")) := by rw [typeLookup_type, builtinLookup_eq_fast]; kernel_rfl
theorem release : typeLookup (.type "bytearray") "__release_buffer__" = pure (some (.builtin "bytearray.__release_buffer__")) := by rw [typeLookup_type, builtinLookup_eq_fast]; kernel_rfl
theorem sub : isSubtype (.type "bytearray") (.type "bytearray") = pure true := by rw [isSubtype_type]; kernel_rfl
theorem ends1 : ("bytearray.__buffer__".endsWith ("." ++ "__buffer__")) = true := by decide +kernel
theorem ends2 : ("bytearray.__release_buffer__".endsWith ("." ++ "__release_buffer__")) = true := by decide +kernel
theorem drop1 : ("bytearray.__buffer__".dropRight ("__buffer__".length + 1)) = "bytearray" := by decide +kernel
theorem drop2 : ("bytearray.__release_buffer__".dropRight ("__release_buffer__".length + 1)) = "bytearray" := by decide +kernel
theorem slot_len : Slot "bytearray" "__len__" "bytearray.__len__" :=
  .of (owner := "bytearray") (n := "__len__") (by rw [typeLookup_type, builtinLookup_eq_fast]; kernel_rfl) (by decide +kernel) (by decide +kernel) (by decide +kernel)
    (by first | exact .inl (by decide +kernel) | exact .inr (by decide +kernel)) (by rw [isSubtype_type]; kernel_rfl)
theorem slot_getitem : Slot "bytearray" "__getitem__" "bytearray.__getitem__" :=
  .of (owner := "bytearray") (n := "__getitem__") (by rw [typeLookup_type, builtinLookup_eq_fast]; kernel_rfl) (by decide +kernel) (by decide +kernel) (by decide +kernel)
    (by first | exact .inl (by decide +kernel) | exact .inr (by decide +kernel)) (by rw [isSubtype_type]; kernel_rfl)
theorem slot_setitem : Slot "bytearray" "__setitem__" "bytearray.__setitem__" :=
  .of (owner := "bytearray") (n := "__setitem__") (by rw [typeLookup_type, builtinLookup_eq_fast]; kernel_rfl) (by decide +kernel) (by decide +kernel) (by decide +kernel)
    (by first | exact .inl (by decide +kernel) | exact .inr (by decide +kernel)) (by rw [isSubtype_type]; kernel_rfl)
theorem slot_init : Slot "bytearray" "__init__" "bytearray.__init__" :=
  .of (owner := "bytearray") (n := "__init__") (by rw [typeLookup_type, builtinLookup_eq_fast]; kernel_rfl) (by decide +kernel) (by decide +kernel) (by decide +kernel)
    (by first | exact .inl (by decide +kernel) | exact .inr (by decide +kernel)) (by rw [isSubtype_type]; kernel_rfl)
theorem slot_iter : Slot "bytearray" "__iter__" "bytearray.__iter__" :=
  .of (owner := "bytearray") (n := "__iter__") (by rw [typeLookup_type, builtinLookup_eq_fast]; kernel_rfl) (by decide +kernel) (by decide +kernel) (by decide +kernel)
    (by first | exact .inl (by decide +kernel) | exact .inr (by decide +kernel)) (by rw [isSubtype_type]; kernel_rfl)
theorem entry_len : entryFor table "bytearray.__len__" = some Builtin.«bytearray.__len__» := by first | exact entryFor_of_fast (by kernel_rfl) | exact entryFor_of_tree (by kernel_rfl)
theorem entry_getitem : entryFor table "bytearray.__getitem__" = some Builtin.«bytearray.__getitem__» := by first | exact entryFor_of_fast (by kernel_rfl) | exact entryFor_of_tree (by kernel_rfl)
theorem entry_setitem : entryFor table "bytearray.__setitem__" = some Builtin.«bytearray.__setitem__» := by first | exact entryFor_of_fast (by kernel_rfl) | exact entryFor_of_tree (by kernel_rfl)
theorem entry_init : entryFor table "bytearray.__init__" = some Builtin.«bytearray.__init__» := by first | exact entryFor_of_fast (by kernel_rfl) | exact entryFor_of_tree (by kernel_rfl)
theorem args_len (a : Value) : argsOk "bytearray.__len__" ⟨[a], []⟩ := by unfold argsOk; kernel_rfl
theorem args_getitem (a b : Value) : argsOk "bytearray.__getitem__" ⟨[a, b], []⟩ := by unfold argsOk; kernel_rfl
theorem args_setitem (a b d : Value) : argsOk "bytearray.__setitem__" ⟨[a, b, d], []⟩ := by unfold argsOk; kernel_rfl
theorem args_init (a b : Value) : argsOk "bytearray.__init__" ⟨[a, b], []⟩ := by unfold argsOk; kernel_rfl
end B
end Mine
end

section
open PySem PySem.W PySem.Calls PyProof.Rows
open Sem (wp)
set_option Elab.async false
set_option maxRecDepth 100000
set_option linter.unusedVariables false
set_option linter.deprecated false
namespace Mine
variable {c : Cx} {n : Nat}
section
variable {M : Model} {A : Around} {E : Value → Shared → Prop} {s : Shared} {a : Addr} {b : List UInt8}
theorem wp_payload {Q : Array UInt8 → Shared → Prop} (h : IsBA s.heap a b) (hq : Q b.toArray s) : wpAny M A (Builtin.Bytes.payload (.ref a)) Q E s := by
  unfold Builtin.Bytes.payload Builtin.Bytes.payload?
  exact wpAny_bind (wpAny_bind (wpAny_load h (wpAny_pure (wpAny_pure hq))))
theorem IsBA.typeIs (h : IsBA s.heap a b) : s.TypeIs (.ref a) "bytearray" := ⟨_, h, rfl⟩
end
section
variable {prog : Program} {w : World} {A : Around} {E : Value → Shared → Prop} {s : Shared} {a : Addr} {b : List UInt8}
theorem len_barr {Q : Value → Shared → Prop} (h : IsBA s.heap a b) (hz : b.length ≤ 10000) (hq : Q (.int b.length (s.toks + 1)) { s with toks := s.toks + 1 + 1 }) : wpAny (model prog w) A (call (.builtin "len") [.ref a]) Q E s := by
  refine call_len_slot (n := (b.length : Int)) h.typeIs B.slot_len (fun Q' hq' => ?_) (by omega) (by omega) hq
  refine wpAny_call_entry B.slot_len h.typeIs B.entry_len ?_ (B.args_len _)
  show wpAny _ _ (Builtin.Bytes.payload (.ref a) >>= fun x => retInt x.size) _ _ s
  refine wpAny_bind (wp_payload h ?_)
  unfold retInt
  refine wpAny_bind (wpAny_mkInt (wpAny_pure ⟨_, rfl, ?_⟩))
  simpa using hq'
theorem wp_subscript {M : Model} {i : Int} {u : Tok} {Q : Option Int → Shared → Prop} (hf : Builtin.Bytes.fitsIndex i = true) (hq : Q (some i) s) : wpAny M A (Builtin.Bytes.subscript? (.int i u)) Q E s := by
  unfold Builtin.Bytes.subscript?
  refine wpAny_bind (wpAny_specialOf (typeIs_int s i u) F.slot_int_index.lookup ?_)
  show wpAny M A (if (!Builtin.Bytes.fitsIndex i) = true then _ else pure (some i)) _ E s
  rw [hf]
  exact wpAny_pure hq
theorem fits_of {i : Int} (h0 : 0 ≤ i) (h1 : i < 100000) : Builtin.Bytes.fitsIndex i = true := by
  simp only [Builtin.Bytes.fitsIndex, Bool.and_eq_true, decide_eq_true_eq]; omega
theorem seqIndex_of {i : Int} {k : Nat} (h0 : 0 ≤ i) (h1 : i < k) : seqIndex? i k = some i.toNat := by
  have hn : ¬ i < 0 := by omega
  simp [seqIndex?, hn, h0, h1]
theorem item_barr {i : Int} {u : Tok} {Q : Value → Shared → Prop} (h : IsBA s.heap a b) (hz : b.length ≤ 10000) (h0 : 0 ≤ i) (h1 : i < b.length) (hq : Q (.int (b.getD i.toNat 0).toNat s.toks) { s with toks := s.toks + 1 }) :
    wpAny (model prog w) A (getItem (.ref a) (.int i u)) Q E s := by
  refine wpAny_getItem_slot h.typeIs (by decide) B.slot_getitem (wpAny_call_entry B.slot_getitem h.typeIs B.entry_getitem ?_ (B.args_getitem _ _))
  show wpAny _ _ (Builtin.Bytes.subscript? (.int i u) >>= _) _ _ s
  refine wpAny_bind (wp_subscript (fits_of h0 (by omega)) ?_)
  refine wpAny_bind (wp_payload h ?_)
  have e : (seqIndex? i b.toArray.size).bind (b.toArray[·]?) = some (b.getD i.toNat 0) := by
    rw [List.size_toArray, seqIndex_of h0 h1]
    have hl : i.toNat < b.length := by omega
    simp [hl]
  rw [e]
  show wpAny _ _ (retInt ((b.getD i.toNat 0).toNat : Int)) _ _ s
  unfold retInt
  exact wpAny_bind (wpAny_mkInt (wpAny_pure ⟨_, rfl, hq⟩))
end
theorem len_barr' {a : List UInt8} (h : a.length ≤ 10000) : Fn c n (.builtin "len") [.barr a] (.int a.length) := fun X A E s vs hA _ hl ra => by
  obtain ⟨v, rfl, r⟩ := ra.one
  cases r with | barr _ ho => exact lf <| len_barr ho h ⟨Kp.tok, .int _ _⟩
theorem itm_barr {a : List UInt8} {i : Int} (h0 : 0 ≤ i) (h1 : i < a.length) (hs : a.length ≤ 10000) : Itm c n (.barr a) (.int i) (.int (a.getD i.toNat 0).toNat) := fun X A E s vo vi hA _ hl ra rb => by
  cases rb
  cases ra with | barr _ ho => exact ⟨_, _, ho.typeIs, B.slot_getitem.lookup, item_barr ho hs h0 h1 ⟨Kp.tok, .int _ _⟩⟩
end Mine
end

section
open PySem PySem.W PySem.Calls PyProof.Rows
open Sem (wp)
set_option Elab.async false
set_option maxRecDepth 100000
set_option linter.unusedVariables false
set_option linter.deprecated false
namespace Mine
variable {c : Cx} {n : Nat}
section
variable {prog : Program} {w : World} {A : Around} {E : Value → Shared → Prop} {s : Shared} {a : Addr} {b : List UInt8}

theorem wp_part {M : Model} {v : Value} {i : Option Int} {Q : Value → Shared → Prop} (hp : IsPart v i) (hq : Q (rawPart i) s) :
    wpAny M A (do
      if v == .none then return .none
      if (← specialOf v "__index__").isNone then
        rule "bytes.slice.part-no-index"; raiseError "TypeError" "slice indices must be integers or None or have an __index__ method"
      return rawInt (← asIndex v) : Sem Value) Q E s := by
  cases hp with
  | none => exact wpAny_pure hq
  | int k t =>
    show wpAny M A (if (Value.int k t == Value.none) = true then _ else _) _ _ _
    rw [if_neg (by simp)]
    refine wpAny_bind (wpAny_specialOf (typeIs_int s k t) F.slot_int_index.lookup ?_)
    exact wpAny_pure hq
theorem wp_sliceParts {M : Model} {sl : Addr} {vl vu : Value} {lo hi : Option Int} {Q : Value × Value × Value → Shared → Prop} (hs : s.heap.IsSliceOf sl vl vu .none) (pl : IsPart vl lo) (pu : IsPart vu hi)
    (hq : Q (rawPart lo, rawPart hi, .none) s) : wpAny M A (Builtin.Bytes.sliceParts (.ref sl)) Q E s := by
  obtain ⟨o, ho, hc, hd⟩ := hs
  unfold Builtin.Bytes.sliceParts
  refine wpAny_bind (wpAny_field (x := .none) ho hd rfl ?_)
  refine wpAny_bind (wp_part (i := none) .none ?_)
  show wpAny M A (if (Value.none == rawInt 0) = true then _ else _) _ _ _
  rw [if_neg (by decide)]
  refine wpAny_bind (wpAny_field (x := vl) ho hd rfl (wpAny_bind (wp_part pl ?_)))
  refine wpAny_bind (wpAny_field (x := vu) ho hd rfl (wpAny_bind (wp_part pu ?_)))
  exact wpAny_pure hq

theorem cut_barr_raw {sl : Addr} {vl vu : Value} {lo hi : Option Int} {Q : Value → Shared → Prop} (h : IsBA s.heap a b) (hz : b.length ≤ 10000) (hs : s.heap.IsSliceOf sl vl vu .none) (pl : IsPart vl lo) (pu : IsPart vu hi)
    (hq : Q (.ref s.heap.objs.size) { s with heap := s.heap.push { cls := .type "bytearray", data := .bytearray (KBy.picked b.toArray lo hi) 0 } }) : wpAny (model prog w) A (getItem (.ref a) (.ref sl)) Q E s := by
  refine wpAny_getItem_slot h.typeIs (by decide) B.slot_getitem (wpAny_call_entry B.slot_getitem h.typeIs B.entry_getitem ?_ (B.args_getitem _ _))
  obtain ⟨o, ho, hc, hd⟩ := id hs
  have hT : s.TypeIs (.ref sl) "slice" := ⟨o, ho, hc⟩
  show wpAny _ _ (Builtin.Bytes.subscript? (.ref sl) >>= _) _ _ s
  refine wpAny_bind ?_
  unfold Builtin.Bytes.subscript?
  refine wpAny_bind (wpAny_specialOf hT slice_no_index (wpAny_pure ?_))
  refine wpAny_bind (wpAny_typeOf hT ?_)
  show wpAny _ _ (Builtin.Bytes.sliceParts (.ref sl) >>= _) _ _ s
  refine wpAny_bind (wp_sliceParts hs pl pu ?_)
  refine wpAny_bind (wp_payload h ?_)
  refine wpAny_bind (wpAny_of_eq (sliceIndices_raw lo hi none b.toArray.size (fun e => nomatch e)) ?_)
  refine wpAny_bind ?_
  unfold Builtin.Bytes.newBytearray
  refine wpAny_newObj_type (wpAny_pure ⟨_, rfl, hq⟩) ?_
  have e : b.toArray.size ≤ sizeLine := by rw [List.size_toArray, sizeLine_eq]; omega
  exact Nat.le_trans (KBc.size_picked_le b.toArray lo hi) e

theorem cut_bytes_raw {sl : Addr} {vl vu : Value} {t : Tok} {lo hi : Option Int} {Q : Value → Shared → Prop} (hz : b.length ≤ 10000) (hs : s.heap.IsSliceOf sl vl vu .none) (pl : IsPart vl lo) (pu : IsPart vu hi)
    (hq : ∀ t' k, Q (.bytes (KBy.picked b.toArray lo hi) t') { s with toks := k }) : wpAny (model prog w) A (getItem (.bytes b.toArray t) (.ref sl)) Q E s := by
  refine getItem_meets (typeIs_bytes _ _ _) (by decide) FB.slot_bytes_getitem FB.entry_bytes_getitem (FB.args_bytes_getitem_2 _ _) (KBc.meets_slice2 b.toArray t sl pl pu) ⟨hs, ?_, fun t' k => hq t' k⟩
  have e : b.toArray.size ≤ sizeLine := by rw [List.size_toArray, sizeLine_eq]; omega
  exact Nat.le_trans (KBc.size_picked_le b.toArray lo hi) e
end
noncomputable def cutL {α : Type} (xs : List α) (lo hi : Option Int) : List α := (xs.drop (lo.elim 0 (clipAt xs.length))).take (hi.elim xs.length (clipAt xs.length) - lo.elim 0 (clipAt xs.length))
theorem picked_cut (b : List UInt8) (lo hi : Option Int) : KBy.picked b.toArray lo hi = (cutL b lo hi).toArray := by
  rw [KBc.picked_eq]; simp [cutL]
theorem cut_bytes {a : List UInt8} {l u : Option Int} (hs : a.length ≤ 10000) : Cut c n (.bytes a) l u none (.bytes (cutL a l u)) := fun X A E s vo sl vl vu vs hA _ hl ra hsl pl pu ps => by
  cases ra; cases ps
  refine ⟨_, _, typeIs_bytes _ _ _, FB.slot_bytes_getitem.lookup, cut_bytes_raw hs hsl pl pu fun t' k => ?_⟩
  rw [picked_cut]
  exact ⟨Kp.tok, .bytes _ _⟩
theorem cut_barr {a : List UInt8} {l u : Option Int} (hs : a.length ≤ 10000) : Cut c n (.barr a) l u none (.barr (cutL a l u)) := fun X A E s vo sl vl vu vs hA _ hl ra hsl pl pu ps => by
  cases ps
  cases ra with
  | barr _ ho =>
    refine ⟨_, _, ho.typeIs, B.slot_getitem.lookup, cut_barr_raw ho hs hsl pl pu ?_⟩
    rw [picked_cut]
    exact ⟨Kp.push, .barr hl.new (Heap.get?_push_size _ rfl)⟩

/-- an octet stored -/
theorem store_barr {prog : Program} {w : World} {A : Around} {E : Value → Shared → Prop} {s : Shared} {a : Addr} {b : List UInt8} {i v : Int} {u t : Tok} {Q : Unit → Shared → Prop} (h : IsBA s.heap a b) (hz : b.length ≤ 10000) (h0 : 0 ≤ i) (h1 : i < b.length) (hv0 : 0 ≤ v) (hv1 : v < 256)
    (hq : ∀ h', IsBA h' a (b.set i.toNat v.toNat.toUInt8) → Heap.SameBut a s.heap h' → Q () { s with heap := h' }) : wpAny (model prog w) A (setItem (.ref a) (.int i u) (.int v t)) Q E s := by
  unfold setItem
  refine wpAny_holding ?_
  refine wpAny_bind (wpAny_sequenceKey h.typeIs (by decide) ?_)
  refine wpAny_bind (wpAny_callSpecial?_slot (name := Str.ofString "__setitem__") h.typeIs B.slot_setitem (wpAny_call_entry B.slot_setitem h.typeIs B.entry_setitem ?_ (B.args_setitem _ _ _)))
  show wpAny _ _ (Builtin.Bytes.subscript? (.int i u) >>= _) _ _ s
  refine wpAny_bind (wp_subscript (fits_of h0 (by omega)) ?_)
  show wpAny _ _ (Builtin.Bytes.byteValue (.int v t) >>= _) _ _ s
  refine wpAny_bind ?_
  unfold Builtin.Bytes.byteValue
  refine wpAny_bind (wpAny_of_eq (a := v) rfl ?_)
  rw [if_neg (by simp; omega)]
  refine wpAny_pure ?_
  refine wpAny_bind (wp_payload h ?_)
  rw [List.size_toArray, seqIndex_of h0 h1]
  show wpAny _ _ (updateBytearray a (·.setIfInBounds i.toNat v.toNat.toUInt8) >>= fun _ => ret .none) _ _ s
  refine wpAny_bind ?_
  unfold updateBytearray
  refine wpAny_bind (wpAny_load h ?_)
  refine wpAny_bind (wpAny_update h ?_)
  have hS : IsBA (s.heap.update a (Obj.mapBytearray (·.setIfInBounds i.toNat v.toNat.toUInt8))) a (b.set i.toNat v.toNat.toUInt8) := by
    unfold IsBA
    rw [Heap.get?_update_self (Obj.mapBytearray (·.setIfInBounds i.toNat v.toNat.toUInt8)) h rfl]
    simp [Obj.mapBytearray]
  refine wpAny_lookBehind hS ?_ (wpAny_pure ⟨_, rfl, wpAny_pure (hq _ hS (Heap.SameBut.update ..))⟩)
  show (if (b.set i.toNat v.toNat.toUInt8).toArray.size > sizeLine then some "bytearray:memory" else none) = none
  rw [if_neg]
  rw [List.size_toArray, List.length_set, sizeLine_eq]; omega
end Mine
end

section
open PySem PySem.W PySem.Calls PyProof.Rows
open Sem (wp)
set_option Elab.async false
set_option maxRecDepth 100000
set_option linter.unusedVariables false
set_option linter.deprecated false
namespace Mine
section
variable {M : Model} {A : Around} {E : Value → Shared → Prop} {s : Shared}
theorem dec_any {self : Value} : ∀ st : List (Code × Pos), (∀ x ∈ st, Dec x.1 = false) → (st.any fun
    | (.builtin "bytearray.__contains__" ⟨v :: _, _⟩, _) | (.builtin "bytearray.__mod__" ⟨v :: _, _⟩, _)
    | (.builtin "bytearray.__rmod__" ⟨_ :: v :: _, _⟩, _) | (.builtin "_struct.pack_into.held" ⟨v :: _, _⟩, _) => Builtin.Bytes.sameRef v self
    | (.builtin "bytearray.find.held" ⟨_ :: _ :: held, _⟩, _) => held.any (Builtin.Bytes.sameRef self)
    | (.builtin id ⟨v :: _, _⟩, _) => Builtin.Bytes.sameRef v self && Builtin.Bytes.decodersThatHold.contains id
    | _ => false) = false := by
  intro st h
  rw [List.any_eq_false]
  rintro ⟨c, p⟩ hx
  have hd := h _ hx
  unfold Dec at hd
  split
  all_goals first
    | (rename_i e; cases e; simp at hd; done)
    | skip
  · rename_i e1 e2 e3 e4 e5
    cases e5
    simp only [Bool.or_eq_false_iff] at hd
    rw [hd.1]; simp
  · simp
theorem wpS_exported {self : Value} {Q : Bool → Shared → Prop} (h : Q false s) : wpS M A (Builtin.Bytes.exported self) Q E s := fun Γ p hΓ hC => by
  unfold Builtin.Bytes.exported
  show wp M Γ (Sem.bind stack _) _ _ p s
  unfold stack
  rw [Sem.wp_bind, Sem.wp_stack]
  show Q _ s
  have e := dec_any (self := self) ((Γ.code, p) :: Γ.below) (fun x hx => by
    rcases List.mem_cons.mp hx with rfl | hx
    · exact hC.1
    · exact hC.2 x hx)
  exact (congrArg (Q · s) e).mpr h
end
end Mine
end

section
open PySem PySem.W PySem.Calls PyProof.Rows
open Sem (wp)
set_option Elab.async false
set_option maxRecDepth 100000
set_option linter.unusedVariables false
set_option linter.deprecated false
namespace Mine
theorem plain_dec {id : String} {args : Args} (h : (Builtin.Bytes.decodersThatHold.contains id || ["bytearray.__contains__", "bytearray.__mod__", "bytearray.__rmod__", "_struct.pack_into.held", "bytearray.find.held"].contains id) = false) : Dec (.builtin id args) = false := h
section
variable {prog : Program} {w : World} {A : Around} {E : Value → Shared → Prop} {s : Shared} {R : Result → Shared → Prop}
theorem codeS_builtin {id : String} {args : Args} {b : Builtin} (hb : entryFor table id = some b)
    (h : wpS (model prog w) (A.under (.builtin id args)) (b args)
      (fun fin s' => match fin with | .done f => R (.ok f) s' | .again c' => c'.quiet = true ∧ Dec c' = false ∧ codeS (model prog w) A c' R s') (fun e s' => R (.error e) s') s) :
    codeS (model prog w) A (.builtin id args) R s := by
  refine codeS_of_tree ?_
  show wpS _ _ (match entryFor table id with | some b => b args | none => unsupported ((withoutEnding? id "#data").getD id)) _ _ s
  rw [hb]; exact h
theorem codeS_call_builtin {id : String} {args : Args} {b : Builtin} (hq : plainId id = true) (hd : Dec (.builtin id args) = false) (hb : entryFor table id = some b)
    (h : wpAny (model prog w) A.in1 (checkBuiltinCall id args) (fun _ s₁ => wpS (model prog w) A.in1 (b args)
      (fun fin s' => match fin with | .done f => R (.ok f) s' | .again c' => c'.quiet = true ∧ Dec c' = false ∧ codeS (model prog w) A c' R s') (fun e s' => R (.error e) s') s₁)
      (fun e s' => R (.error e) s') s) : codeS (model prog w) A (.call (.builtin id) args) R s := by
  refine codeS_of_tree ?_
  show wpS _ A.in1 (do checkBuiltinCall id args; again (.builtin id args)) _ _ s
  refine wpS_bind (wpS_mono (lf h) (fun _ s₁ h₁ => wpS_pure (And.intro (plainId_quiet hq args) (And.intro hd (codeS_builtin hb ?_)))) fun _ _ h' => h')
  rw [Around.under_plainId hq args]; exact h₁
theorem wpS_ite_false {α : Type} {M : Model} {c : Bool} {a b : Sem α} {Q : α → Shared → Prop} (hc : c = false) (h : wpS M A b Q E s) : wpS M A (if c = true then a else b) Q E s := by
  subst hc; exact h
theorem wpS_ite_true {α : Type} {M : Model} {c : Bool} {a b : Sem α} {Q : α → Shared → Prop} (hc : c = true) (h : wpS M A a Q E s) : wpS M A (if c = true then a else b) Q E s := by
  subst hc; exact h
theorem wpS_of_eq {α : Type} {M : Model} {m : Sem α} {a : α} {Q : α → Shared → Prop} (h : m = pure a) (hq : Q a s) : wpS M A m Q E s := by subst h; exact wpS_pure hq
theorem wpS_rule {M : Model} {r : String} {Q : Unit → Shared → Prop} (h : Q () s) : wpS M A (rule r) Q E s := lf (wpAny_rule h)
theorem wpS_callSpecial?_slot {M : Model} {self : Value} {T : String} {name : Str} {id : String} {args : List Value} {kw : List (Str × Value)}
    {Q : Option Value → Shared → Prop} (hT : s.TypeIs self T) (h : Slot T name id)
    (hc : wpS M A (call (.builtin id) (self :: args) kw) (fun v => Q (some v)) E s) : wpS M A (callSpecial? self name args kw) Q E s := by
  simp only [callSpecial?]
  refine wpS_bind (lf (wpAny_specialOf hT h.lookup ?_))
  simp only [h.bind]
  exact wpS_holding (wpS_bind (wpS_pure (wpS_bind (wpS_mono hc (fun v s' h' => wpS_pure h') fun _ _ h' => h'))))
theorem callTypeS {T newId initId : String} {Bi : Builtin} {args : List Value} {Q Q₁ : Value → Shared → Prop} (ft : TypeCalled T newId initId)
    (hct : checkTypeCall T ⟨args, []⟩ = pure ()) (entryI : entryFor table initId = some Bi) (hdi : ∀ a, Dec (.builtin initId a) = false)
    (hnew : codeAny (model prog w) A.in1 (.call (.builtin newId) ⟨.type T :: args, []⟩) (fun r s₁ => ∃ v, r = .ok (.ret v) ∧ Q₁ v s₁) s)
    (hnext : ∀ obj s₁, Q₁ obj s₁ → s₁.TypeIs obj T ∧ argsOk initId ⟨obj :: args, []⟩ ∧
      wpS (model prog w) A.in1.in1 (Bi ⟨obj :: args, []⟩) (fun fin s' => fin = .done (.ret .none) ∧ Q obj s') (fun e s' => E e s') s₁) :
    wpS (model prog w) A (call (.type T) args) Q E s := by
  obtain ⟨c, tl, hmro⟩ := ft.mro
  have hmade := ft.made
  have hsub := ft.sub
  refine wpS_call (codeS_of_tree ?_)
  show wpS _ _ (callAny (.type T) _) _ _ _
  refine wpS_pure (And.intro (Code.quiet_builtin _ (by decide +kernel)) (And.intro (plain_dec (by decide +kernel)) (codeS_builtin F.entry_type_call ?_)))
  rw [Around.under_plain (weight_type_call_type T args []) rfl]
  have h1 := ft.notType
  have h2 := ft.canCreate
  unfold Builtin.«type.__call__»
  refine wpS_ite_false h1 ?_
  show wpS _ _ (if _ = true then _ else _) _ _ _
  refine wpS_ite_false h2 ?_
  refine wpS_bind (wpS_of_eq hct ?_)
  refine wpS_bind (wpS_of_eq hmro ?_)
  refine wpS_ite_false rfl ?_
  refine wpS_bind (wpS_of_eq hmade ?_)
  refine wpS_bind (wpS_pure ?_)
  refine wpS_bind (wpS_holding (wpS_call (codeS_mono (lfc hnew) fun r s₁ hr => ?_)))
  obtain ⟨obj, rfl, hr⟩ := hr
  obtain ⟨hT, hok, hsi⟩ := hnext _ _ hr
  show wpS _ _ _ _ _ _
  refine wpS_bind (lf (wpAny_isInstance hT hsub ?_))
  refine wpS_ite_false rfl ?_
  refine wpS_bind (wpS_holding (wpS_callSpecial?_slot hT ft.init (wpS_call (codeS_call_builtin ft.init.plain (hdi _) entryI (ft.init.check _ _ _ _ _ _ _ _ hT hok (wpS_mono hsi (fun fin s' h' => ?_) fun _ _ e => e))))))
  obtain ⟨rfl, hq⟩ := h'
  show wpS _ _ _ _ _ _
  refine wpS_ite_false rfl ?_
  exact wpS_pure hq
end
end Mine
end

section
open PySem PySem.W PySem.Calls PyProof.Rows
open Sem (wp)
set_option Elab.async false
set_option maxRecDepth 100000
set_option linter.unusedVariables false
set_option linter.deprecated false
namespace Mine
namespace B
theorem mro : mroOf (.type "bytearray") = pure [.type "bytearray", .type "object"] := by rw [mroOf_type]; kernel_rfl
theorem lookup_new : typeLookup (.type "bytearray") "__new__" = pure (some (.builtin "bytearray.__new__")) := by rw [typeLookup_type, builtinLookup_eq_fast]; kernel_rfl
theorem called : TypeCalled "bytearray" "bytearray.__new__" "bytearray.__init__" :=
  ⟨by decide +kernel, by decide +kernel, ⟨_, _, mro⟩, madeBy_type mro lookup_new (by decide +kernel), by decide +kernel, by rw [isSubtype_type]; kernel_rfl, slot_init⟩
theorem typeCall (a : Value) : checkTypeCall "bytearray" ⟨[a], []⟩ = pure () := by kernel_rfl
theorem newCall (a : Value) : checkBuiltinCall "bytearray.__new__" ⟨[.type "bytearray", a], []⟩ = pure () := by kernel_rfl
theorem entry_new : entryFor table "bytearray.__new__" = some Builtin.«list.__new__» :=   entryFor_alias (id' := "list.__new__") (by kernel_rfl) (by first | rfl | decide +kernel) (by decide +kernel) (by kernel_rfl)
theorem plain_new : plainId "bytearray.__new__" = true := by decide +kernel
theorem bind (v : Value) : Builtin.Bytes.bindOptional "bytearray.__init__" "bytearray" ["source", "encoding", "errors"] [v] [] = pure [some v, none, none] := by kernel_rfl
end B
set_option maxHeartbeats 4000000 in
theorem owner_new : ("bytearray.__new__".splitOn ".__new__").headD "" = "bytearray" := by simp +decide [String.splitOn, String.splitOnAux]
theorem dec_init (a : Args) : Dec (.builtin "bytearray.__init__" a) = false := plain_dec (by decide +kernel)
section
variable {prog : Program} {w : World} {A : Around} {E : Value → Shared → Prop} {s : Shared} {a : Addr} {b : List UInt8}
theorem code_new (x : Value) {Q₁ : Value → Shared → Prop}
    (h : Q₁ (.ref s.heap.objs.size) { s with heap := s.heap.push { cls := .type "bytearray", data := .bytearray #[] 0 } }) :
    codeAny (model prog w) A (.call (.builtin "bytearray.__new__") ⟨[.type "bytearray", x], []⟩) (wants Q₁ E) s := by
  refine codeAny_of_tree ?_
  show wpAny _ A.in1 (do checkBuiltinCall "bytearray.__new__" ⟨[.type "bytearray", x], []⟩; again (.builtin "bytearray.__new__" ⟨[.type "bytearray", x], []⟩)) _ _ s
  refine wpAny_bind (wpAny_of_eq (B.newCall x) (wpAny_pure ⟨plainId_quiet B.plain_new _, codeAny_builtin_stack B.entry_new rfl fun p st => ?_⟩))
  rw [Around.under_plainId B.plain_new _]
  have hsub := B.sub
  have hown := owner_new
  obtain ⟨hp, g, d, tk, os⟩ := s
  simp only [hown]
  wp_walk
  exact h
/-- the octets written anew -/
theorem wp_write {M : Model} {f : Array UInt8 → Array UInt8} {b' : List UInt8} {Q : Unit → Shared → Prop} (h : IsBA s.heap a b) (hf : f b.toArray = b'.toArray) (hz : b'.length ≤ 10000)
    (hq : ∀ h', IsBA h' a b' → Heap.SameBut a s.heap h' → Q () { s with heap := h' }) : wpAny M A (Builtin.Bytes.write (.ref a) f) Q E s := by
  show wpAny _ _ (updateBytearray a f) _ _ s
  unfold updateBytearray
  refine wpAny_bind (wpAny_load h ?_)
  refine wpAny_bind (wpAny_update h ?_)
  have hS : IsBA (s.heap.update a (Obj.mapBytearray f)) a b' := by
    unfold IsBA
    rw [Heap.get?_update_self (Obj.mapBytearray f) h rfl]
    simp [Obj.mapBytearray, hf]
  refine wpAny_lookBehind hS ?_ (hq _ hS (Heap.SameBut.update ..))
  show (if b'.toArray.size > sizeLine then some "bytearray:memory" else none) = none
  rw [if_neg]
  rw [List.size_toArray, sizeLine_eq]; omega
theorem wp_ownRelease {M : Model} {Q : Bool → Shared → Prop} (h : IsBA s.heap a b) (hq : Q false s) : wpAny M A (Builtin.Bytes.ownRelease (.ref a)) Q E s := by
  unfold Builtin.Bytes.ownRelease Builtin.Bytes.slotIsOwn
  refine wpAny_bind (wpAny_bind (wpAny_specialOf h.typeIs B.release ?_))
  dsimp only
  rw [B.ends2, B.drop2]
  refine wpAny_isInstance h.typeIs B.sub ?_
  exact wpAny_pure hq
theorem wp_exportsOf {M : Model} {Q : Nat → Shared → Prop} (h : IsBA s.heap a b) (hq : Q 0 s) : wpAny M A (Builtin.Bytes.exportsOf (.ref a)) Q E s := by
  show wpAny _ _ (load a >>= _) _ _ _
  exact wpAny_bind (wpAny_load h (wpAny_pure hq))
theorem wp_asStr_int {M : Model} {i : Int} {t : Tok} {Q : Option Str → Shared → Prop} (hq : Q none s) : wpAny M A (asStr? (.int i t)) Q E s := by
  exact wpAny_pure hq

theorem init_int {n : Int} {t : Tok} {Q : Fin → Shared → Prop} (h : IsBA s.heap a []) (h0 : 0 ≤ n) (h1 : n ≤ 10000)
    (hq : ∀ h', IsBA h' a (List.replicate n.toNat 0) → Heap.SameBut a s.heap h' → Q (.done (.ret .none)) { s with heap := h' }) :
    wpS (model prog w) A (Builtin.«bytearray.__init__» ⟨[.ref a, .int n t], []⟩) Q E s := by
  unfold Builtin.«bytearray.__init__»
  refine wpS_bind (lf (wp_ownRelease h ?_))
  refine wpS_ite_false rfl ?_
  refine wpS_bind (wpS_of_eq (B.bind _) ?_)
  refine wpS_bind (wpS_of_eq (a := ()) rfl ?_)
  refine wpS_bind (wpS_of_eq (a := ()) rfl ?_)
  refine wpS_bind (wpS_bind (wpS_exported ?_))
  show wpS _ _ _ _ _ _
  refine wpS_bind (m := Builtin.Bytes.exportsOf (.ref a)) (lf (wp_exportsOf h ?_))
  refine wpS_pure ?_
  refine wpS_ite_false rfl ?_
  refine wpS_bind (lf (wp_write (b' := []) h rfl (by simp) fun h2 hb2 hs2 => ?_))
  refine wpS_bind (wpS_of_eq (a := none) rfl ?_)
  refine wpS_ite_false rfl ?_
  refine wpS_bind (wpS_of_eq (a := ()) rfl ?_)
  refine wpS_bind (lf (wpAny_specialOf (typeIs_int _ n t) F.slot_int_index.lookup ?_))
  refine wpS_ite_true rfl ?_
  refine wpS_bind (wpS_attempt (wpS_of_eq (a := n) rfl ?_))
  dsimp only
  have hf : (!Builtin.Bytes.fitsIndex n) = false := by rw [fits_of h0 (by omega)]; rfl
  refine wpS_ite_false hf ?_
  rw [if_neg (by omega), if_neg (by simp; omega)]
  have ht : Builtin.Str.tooLong n.toNat = false := by
    unfold Builtin.Str.tooLong
    simp only [decide_eq_false_iff_not, sizeLine_eq]; omega
  refine wpS_ite_false ht ?_
  refine wpS_bind (wpS_rule ?_)
  by_cases hn : n > 0
  · rw [if_pos hn]
    refine wpS_bind (lf (wp_write (b' := List.replicate n.toNat 0) hb2 (by simp) (by simp; omega) fun h3 hb3 hs3 => ?_))
    exact wpS_pure (hq _ hb3 (hs2.trans hs3))
  · rw [if_neg hn]
    have : n.toNat = 0 := by omega
    rw [this] at hq
    exact wpS_bind (wpS_pure (wpS_pure (hq _ hb2 hs2)))
theorem call_barr_int {n : Int} {t : Tok} {Q : Value → Shared → Prop} (h0 : 0 ≤ n) (h1 : n ≤ 10000)
    (hq : ∀ h', IsBA h' s.heap.objs.size (List.replicate n.toNat 0) → (∀ b o, s.heap.get? b = some o → h'.get? b = some o) → Q (.ref s.heap.objs.size) { s with heap := h' }) :
    wpS (model prog w) A (call (.type "bytearray") [.int n t]) Q E s := by
  refine callTypeS (Q₁ := fun v s₁ => v = .ref s.heap.objs.size ∧ s₁ = { s with heap := s.heap.push { cls := .type "bytearray", data := .bytearray #[] 0 } }) B.called (B.typeCall _) B.entry_init dec_init
    (codeAny_mono (code_new (E := fun _ _ => False) _ (Q₁ := fun v s₁ => v = .ref s.heap.objs.size ∧ s₁ = { s with heap := s.heap.push { cls := .type "bytearray", data := .bytearray #[] 0 } }) ⟨rfl, rfl⟩) fun r s₁ hr => ?_) ?_
  · cases r with
    | error e => exact hr.elim
    | ok f => cases f with
      | ret v => exact ⟨v, rfl, hr⟩
      | _ => exact hr.elim
  · rintro obj s₁ ⟨rfl, rfl⟩
    have hb : IsBA (s.heap.push { cls := .type "bytearray", data := .bytearray #[] 0 }) s.heap.objs.size [] := Heap.get?_push_size _ rfl
    refine ⟨IsBA.typeIs hb, B.args_init _ _, init_int hb h0 h1 fun h' hb' hs' => ⟨rfl, hq h' hb' fun b o e => hs'.extBut b o (Nat.ne_of_lt (Heap.lt_size e)) (Heap.get?_push_of_some _ e)⟩⟩

noncomputable def octs (ns : List Int) : List UInt8 := ns.map fun n => n.toNat.toUInt8
theorem good_all : ∀ {vs : List Value} {ns : List Int}, IntsAre vs ns → (∀ n ∈ ns, 0 ≤ n ∧ n < 256) → (vs.takeWhile fun | .int i _ => 0 ≤ i && i < 256 | _ => false) = vs
  | _, _, .nil, _ => rfl
  | _, _, .cons n t h2, h => by
    have hn := h n List.mem_cons_self
    rw [List.takeWhile_cons]
    simp only [hn.1, hn.2, decide_true, Bool.and_self, if_true]
    rw [good_all h2 fun m hm => h m (List.mem_cons_of_mem _ hm)]
theorem good_octs : ∀ {vs : List Value} {ns : List Int}, IntsAre vs ns → (vs.filterMap fun | .int i _ => some i.toNat.toUInt8 | _ => none) = octs ns
  | _, _, .nil => rfl
  | _, _, .cons n t h2 => by
    rw [List.filterMap_cons]
    simp only [octs, List.map_cons]
    exact congrArg _ (good_octs h2)
theorem init_list {l : Addr} {vs : List Value} {ns : List Int} {Q : Fin → Shared → Prop} (h : IsBA s.heap a []) (hl : s.heap.IsList l vs.toArray) (hi : IntsAre vs ns) (hr : ∀ n ∈ ns, 0 ≤ n ∧ n < 256) (hz : ns.length ≤ 10000) (hla : l ≠ a)
    (hq : ∀ h', IsBA h' a (octs ns) → Heap.SameBut a s.heap h' → Q (.done (.ret .none)) { s with heap := h' }) :
    wpS (model prog w) A (Builtin.«bytearray.__init__» ⟨[.ref a, .ref l], []⟩) Q E s := by
  unfold Builtin.«bytearray.__init__»
  refine wpS_bind (lf (wp_ownRelease h ?_))
  refine wpS_ite_false rfl ?_
  refine wpS_bind (wpS_of_eq (B.bind _) ?_)
  refine wpS_bind (wpS_of_eq (a := ()) rfl ?_)
  refine wpS_bind (wpS_of_eq (a := ()) rfl ?_)
  refine wpS_bind (wpS_bind (wpS_exported ?_))
  show wpS _ _ _ _ _ _
  refine wpS_bind (m := Builtin.Bytes.exportsOf (.ref a)) (lf (wp_exportsOf h ?_))
  refine wpS_pure ?_
  refine wpS_ite_false rfl ?_
  refine wpS_bind (lf (wp_write (b' := []) h rfl (by simp) fun h2 hb2 hs2 => ?_))
  have hl2 : h2.IsList l vs.toArray := hl.extBut hs2.extBut hla
  have hT2 : ({ s with heap := h2 } : Shared).TypeIs (.ref l) "list" := Heap.IsList.typeIs (s := { s with heap := h2 }) hl2
  obtain ⟨ol, hol, hoc, nl, hod⟩ := id hl2
  refine wpS_bind ?_
  show wpS _ _ (load l >>= _) _ _ _
  refine wpS_bind (lf (wpAny_load hol ?_))
  rw [hod]
  refine wpS_pure ?_
  refine wpS_ite_false rfl ?_
  refine wpS_bind (wpS_of_eq (a := ()) rfl ?_)
  refine wpS_bind (lf (wpAny_specialOf hT2 F.bm_no_index ?_))
  refine wpS_ite_false rfl ?_
  refine wpS_bind ?_
  unfold Builtin.Bytes.buffer?
  refine wpS_bind (lf (wpAny_specialOf hT2 F.bm_no_buffer ?_))
  refine wpS_bind (lf (wpAny_specialOf hT2 F.bm_no_buffer ?_))
  refine wpS_pure ?_
  refine wpS_bind (lf (wpAny_typeOf hT2 ?_))
  refine wpS_ite_true (by decide) ?_
  refine wpS_bind ?_
  show wpS _ _ (load l >>= _) _ _ _
  refine wpS_bind (lf (wpAny_load hol ?_))
  rw [hod]
  refine wpS_pure ?_
  dsimp only
  generalize hg : List.takeWhile _ vs = g
  have e1 : g = vs := hg.symm.trans (good_all hi hr)
  subst e1
  have e2 : g.toArray[g.length]? = none := by simp
  rw [e2]
  refine wpS_bind (wpS_rule ?_)
  refine wpS_bind (lf (wp_write (b' := octs ns) hb2 ?_ (by simpa [octs] using hz) fun h3 hb3 hs3 => ?_))
  · exact congrArg List.toArray (good_octs hi)
  · exact wpS_pure (hq _ hb3 (hs2.trans hs3))
theorem call_barr_list {l : Addr} {vs : List Value} {ns : List Int} {Q : Value → Shared → Prop} (hl : s.heap.IsList l vs.toArray) (hi : IntsAre vs ns) (hr : ∀ n ∈ ns, 0 ≤ n ∧ n < 256) (hz : ns.length ≤ 10000)
    (hq : ∀ h', IsBA h' s.heap.objs.size (octs ns) → (∀ b o, s.heap.get? b = some o → h'.get? b = some o) → Q (.ref s.heap.objs.size) { s with heap := h' }) :
    wpS (model prog w) A (call (.type "bytearray") [.ref l]) Q E s := by
  refine callTypeS (Q₁ := fun v s₁ => v = .ref s.heap.objs.size ∧ s₁ = { s with heap := s.heap.push { cls := .type "bytearray", data := .bytearray #[] 0 } }) B.called (B.typeCall _) B.entry_init dec_init
    (codeAny_mono (code_new (E := fun _ _ => False) _ (Q₁ := fun v s₁ => v = .ref s.heap.objs.size ∧ s₁ = { s with heap := s.heap.push { cls := .type "bytearray", data := .bytearray #[] 0 } }) ⟨rfl, rfl⟩) fun r s₁ hr => ?_) ?_
  · cases r with
    | error e => exact hr.elim
    | ok f => cases f with
      | ret v => exact ⟨v, rfl, hr⟩
      | _ => exact hr.elim
  · rintro obj s₁ ⟨rfl, rfl⟩
    have hb : IsBA (s.heap.push { cls := .type "bytearray", data := .bytearray #[] 0 }) s.heap.objs.size [] := Heap.get?_push_size _ rfl
    have hne : l ≠ s.heap.objs.size := by
      obtain ⟨o, ho, _⟩ := hl
      exact Nat.ne_of_lt (Heap.lt_size ho)
    refine ⟨IsBA.typeIs hb, B.args_init _ _, init_list hb (hl.push _) hi hr hz hne fun h' hb' hs' => ⟨rfl, hq h' hb' fun b o e => hs'.extBut b o (Nat.ne_of_lt (Heap.lt_size e)) (Heap.get?_push_of_some _ e)⟩⟩
end
end Mine
end

section
open PySem PySem.W PySem.Calls PyProof.Rows
open Sem (wp)
set_option Elab.async false
set_option maxRecDepth 100000
set_option linter.unusedVariables false
set_option linter.deprecated false
namespace Mine
variable {c : Cx} {n : Nat}
section
variable {prog : Program} {w : World} {A : Around} {E : Value → Shared → Prop} {s : Shared} {a : Addr} {b : List UInt8}
theorem new_of_barr {Q : Value → Shared → Prop} (h : IsBA s.heap a b) (hz : b.length ≤ 10000)
    (hQ : ∀ t k, Q (.bytes b.toArray t) { s with toks := k }) :
    codeAny (model prog w) A (.call (.builtin "bytes.__new__") ⟨[.type "bytes", .ref a], []⟩) (wants Q E) s := by
  refine codeAny_of_tree ?_
  show wpAny _ A.in1 (do checkBuiltinCall "bytes.__new__" ⟨[.type "bytes", .ref a], []⟩; again (.builtin "bytes.__new__" ⟨[.type "bytes", .ref a], []⟩)) _ _ s
  refine wpAny_bind (wpAny_of_eq (F.bm_newCall _) (wpAny_pure ⟨plainId_quiet F.bm_plain _, codeAny_builtin F.bm_entry ?_⟩))
  rw [Around.under_plainId F.bm_plain _]
  have hT := h.typeIs
  unfold Builtin.«bytes.__new__»
  refine wpAny_bind (wpAny_of_eq (a := true) rfl ?_)
  refine bm_if_false rfl ?_
  refine wpAny_bind (wpAny_of_eq F.bm_sub ?_)
  refine bm_if_false rfl ?_
  refine wpAny_bind (wpAny_of_eq (F.bm_bind _) ?_)
  refine wpAny_bind (wpAny_of_eq (a := ()) rfl ?_)
  refine wpAny_bind (wpAny_of_eq (a := ()) rfl ?_)
  refine bm_if_false rfl ?_
  refine wpAny_bind (wpAny_specialOf hT B.no_bytes ?_)
  refine wpAny_bind (wpAny_bind ?_)
  show wpAny _ _ (load a >>= _) _ _ _
  refine wpAny_bind (wpAny_load h ?_)
  refine wpAny_pure (wpAny_pure ?_)
  refine bm_if_false rfl ?_
  refine wpAny_bind (wpAny_specialOf hT B.noIndex ?_)
  refine bm_if_true rfl ?_
  show wpAny _ _ (Builtin.Bytes.buffer? "bytes.__new__" (.ref a) true >>= _) _ _ _
  refine wpAny_bind ?_
  unfold Builtin.Bytes.buffer?
  refine wpAny_bind (wpAny_specialOf hT B.buffer ?_)
  dsimp only
  refine wpAny_bind ?_
  unfold Builtin.Bytes.slotIsOwn
  refine wpAny_bind (wpAny_specialOf hT B.buffer ?_)
  dsimp only
  rw [B.ends1, B.drop1]
  refine wpAny_isInstance hT B.sub ?_
  refine bm_if_false rfl ?_
  refine wpAny_bind (wpAny_specialOf hT B.buffer ?_)
  refine wpAny_bind (wp_ownRelease h ?_)
  refine bm_if_false rfl ?_
  refine wpAny_bind (wp_payload h (wpAny_pure ?_))
  refine wpAny_bind (wpAny_rule ?_)
  refine wpAny_bind (wpAny_mkBytes ?_ (by rw [List.size_toArray, sizeLine_eq]; omega))
  show wpAny _ _ (ret _) _ _ _
  exact wpAny_pure (hQ _ _)
theorem call_bytes_barr {Q : Value → Shared → Prop} (h : IsBA s.heap a b) (hz : b.length ≤ 10000) (hQ : ∀ t k, Q (.bytes b.toArray t) { s with toks := k }) : wpAny (model prog w) A (call (.type "bytes") [.ref a]) Q E s := by
  refine callType_codes (Q₁ := fun obj s₁ => s₁.TypeIs obj "bytes" ∧ Q obj s₁) F.bm_called (F.bm_typeCall _) F.entry_object_init
    (new_of_barr h hz fun t k => ⟨PySem.W.typeIs_bytes _ _ _, hQ t k⟩) fun obj s₁ h₁ => ?_
  exact ⟨h₁.1, F.args_object_init_2 obj _, object_init_meets F.bm_called.init.lookup F.bm_called.made (by decide) prog w A.in1 _ s₁ ⟨h₁.1, rfl, h₁.2⟩⟩
end
theorem fn_barr_int {k : Int} (h0 : 0 ≤ k) (h1 : k ≤ 10000) : Fn c n (.type "bytearray") [.int k] (.barr (List.replicate k.toNat 0)) := fun X A E s vs hA _ hl ra => by
  obtain ⟨v, rfl, r⟩ := ra.one
  cases r
  exact call_barr_int h0 h1 fun h' hb hk => ⟨Kp.ofH hk, .barr hl.new hb⟩
theorem fn_barr_list {ns : List Int} (hr : ∀ n ∈ ns, 0 ≤ n ∧ n < 256) (hz : ns.length ≤ 10000) : Fn c n (.type "bytearray") [intsV ns] (.barr (octs ns)) := fun X A E s vs hA _ hl ra => by
  obtain ⟨v, rfl, r⟩ := ra.one
  obtain ⟨a, vs, rfl, ho, hrl, hxa⟩ := r.listI
  exact call_barr_list ho.isList hrl.ints hr hz fun h' hb hk => ⟨Kp.ofH hk, .barr hl.new hb⟩
theorem fn_bytes_list {ns : List Int} (hr : ∀ n ∈ ns, 0 ≤ n ∧ n < 256) (hz : ns.length ≤ 10000) : Fn c n (.type "bytes") [intsV ns] (.bytes (octs ns)) := fun X A E s vs hA _ hl ra => by
  obtain ⟨v, rfl, r⟩ := ra.one
  obtain ⟨a, vs, rfl, ho, hrl, hxa⟩ := r.listI
  refine lf <| call_bytes_ints ho.isList hrl.ints hr ?_ hA.hh fun h' t k hk => ⟨Kp.of hk, .bytes _ _⟩
  have := hrl.length
  rw [List.length_map] at this
  rw [sizeLine_eq]; omega
theorem fn_bytes_barr {b : List UInt8} (hz : b.length ≤ 10000) : Fn c n (.type "bytes") [.barr b] (.bytes b) := fun X A E s vs hA _ hl ra => by
  obtain ⟨v, rfl, r⟩ := ra.one
  cases r with | barr hx ho => exact lf <| call_bytes_barr ho hz fun t k => ⟨Kp.tok, .bytes _ _⟩
end Mine
end

section
open PySem PySem.W PySem.Calls PyProof.Rows
open Sem (wp)
set_option Elab.async false
set_option maxRecDepth 100000
set_option linter.unusedVariables false
set_option linter.deprecated false
namespace Mine
section
variable {c : Cx} {n : Nat} {X : Addr → Prop} {env : Env} {ρ : List (Str × PV)}
/-- a method of a built-in type, called -/
theorem ev_meth {o : Expr} {name : Str} {apos pos : Pos} {e : Expr} {es : List Expr} {T id : String} {po r : PV} {ps : List PV} (ho : EvR c n X env ρ o po) (ha : EvL c n X env ρ (e :: es) ps)
    (pa : PlainAttrs T) (slot : Slot T name id) (hty : typeOf (.builtin id) = pure (.type "method_descriptor"))
    (hT : ∀ (s : Shared) (v : Value), Rep X s.heap v po → s.TypeIs v T ∧ (∀ a, v = .ref a → ∃ ob, s.heap.get? a = some ob ∧ ob.dict = none))
    (hf : Fn c n (.builtin id) (po :: ps) r)
    (hbase : attributeBase o name env (eval o env) = eval o env := by rfl)
    (hfew : ((backTo pos (starEach (e :: es) env)).all (fun x => !x.1) && (backToKw pos (keywordEach [] env)).all (fun x => x.1.isSome)
      && decide ((e :: es).length + ([] : List Keyword).length + (if ([] : List Keyword).isEmpty then 0 else 1) < 30)) = true := by rfl)
    (hline : (apos.endLine == pos.line) = true := by rfl)
    (he : starEach (e :: es) env = (false, eval e env) :: starEach es env := by exact starEach_no rfl)
    (hpl : (backTo pos (starEach (e :: es) env)).any (·.1) = false := by exact plain_no rfl) : EvR c n X env ρ (.Call (.Attribute o name apos) (e :: es) [] pos) r :=
  fun A E s hA R => by
    rw [arm_eval_Call, hbase]
    refine wpS_bind (wpS_mono (ho A E s hA R) (fun ov s₁ h₁ => wpS_bind (wpS_standAt ?_)) fun _ _ e => e)
    obtain ⟨hT1, hd1⟩ := hT s₁ ov h₁.2
    have hform : methodCallForm ((e :: es).length + ([] : List Keyword).length) (backTo pos (starEach (e :: es) env)) (backToKw pos (keywordEach [] env)) = true := hfew
    have hpos : methodCallPos true o env apos pos = pure pos := by unfold methodCallPos; simp [hline]
    unfold methodCall
    rw [hform]
    refine wpS_bind (wpS_holding (lf (getMethod_builtin hT1 pa slot hty hd1 ?_)))
    refine wpS_bind (wpS_of_eq hpos ?_)
    refine wpS_callWith_builtin hpl (args_cons (wpS_mono (ha pos A E s₁ hA (R.kp h₁.1)) (fun vs s₂ h₂ => ?_) fun _ _ e => e) he)
    exact wpS_mono (hf X A E s₂ (ov :: vs) hA ((R.kp h₁.1).kp h₂.1).glo ((R.kp h₁.1).kp h₂.1).live (.cons (h₁.2.kp h₂.1) h₂.2)) (fun _ _ h => post_mono (h₁.1.trans h₂.1) h) fun _ _ e => e
theorem tyList {X : Addr → Prop} {xs : List PV} : ∀ (s : Shared) (v : Value), Rep X s.heap v (.list xs) → s.TypeIs v "list" ∧ (∀ a, v = .ref a → ∃ ob, s.heap.get? a = some ob ∧ ob.dict = none) := fun s v r => by
  obtain ⟨a, vs, rfl, ho, _, _⟩ := r.listI
  refine ⟨ho.isList.typeIs, fun b e => ?_⟩
  cases e
  obtain ⟨k, e⟩ := ho
  exact ⟨_, e, rfl⟩
theorem tyStr {X : Addr → Prop} {x : Str} : ∀ (s : Shared) (v : Value), Rep X s.heap v (.str x) → s.TypeIs v "str" ∧ (∀ a, v = .ref a → ∃ ob, s.heap.get? a = some ob ∧ ob.dict = none) := fun s v r => by
  cases r
  exact ⟨PySem.typeIs_str _ _ _, fun b e => nomatch e⟩
theorem tyBytes {X : Addr → Prop} {x : List UInt8} : ∀ (s : Shared) (v : Value), Rep X s.heap v (.bytes x) → s.TypeIs v "bytes" ∧ (∀ a, v = .ref a → ∃ ob, s.heap.get? a = some ob ∧ ob.dict = none) := fun s v r => by
  cases r
  exact ⟨PySem.W.typeIs_bytes _ _ _, fun b e => nomatch e⟩
theorem fn_index {ns : List Int} {k : Int} (hlay : PyData.layable0 (.list (ns.map .int)) = true) (hk : k ∈ ns) : Fn c n (.builtin "list.index") [intsV ns, .int k] (.int (ns.idxOf k : Nat)) := fun X A E s vs hA _ hl ra => by
  obtain ⟨v, u, rfl, r1, r2⟩ := ra.two
  obtain ⟨a, vs, rfl, ho, hr, _⟩ := r1.listI
  cases r2
  exact lf <| index_list_ints ho.isList hr.ints hlay hk ⟨Kp.tok, .int _ _⟩
theorem fn_chr {i : Int} (h0 : 0 ≤ i) (h1 : i ≤ 1114111) : Fn c n (.builtin "chr") [.int i] (.str ⟨#[i.toNat]⟩) := fun X A E s vs hA _ hl ra => by
  obtain ⟨v, rfl, r⟩ := ra.one
  cases r
  exact lf <| chr_of_range h0 h1 ⟨Kp.tok, .str _ _⟩
theorem fn_min {ns : List Int} {m : Int} (hm : m ∈ ns) (hle : ∀ a ∈ ns, m ≤ a) : Fn c n (.builtin "min") [intsV ns] (.int m) := fun X A E s vs hA _ hl ra => by
  obtain ⟨v, rfl, r⟩ := ra.one
  obtain ⟨a, vs, rfl, ho, hr, _⟩ := r.listI
  have hi := hr.ints
  obtain ⟨xs, e⟩ := hi.allInts.items
  have hns : ns = xs.toList.map (·.1) := by
    rw [← hi.numsOf, ← nums_intItems, ← e]
  have hsz : 0 < xs.size := by
    have h3 : 0 < ns.length := List.length_pos_of_mem hm
    rw [hns, List.length_map, Array.length_toList] at h3; exact h3
  have hL := ho.isList
  rw [e] at hL
  refine lf <| min_intList hA.hh hL hsz fun v h' tk hv hk => ?_
  obtain ⟨t, rfl⟩ := intItems_at hv
  obtain ⟨h1, h2⟩ := argBest_lt (numAt xs) (xs.size - 1)
  have e1 : numAt xs (argBest (fun i j => decide (numAt xs i < numAt xs j)) (xs.size - 1)) ∈ ns := by
    rw [hns, numAt_eq]; exact getD_mem (by rw [List.length_map, Array.length_toList]; omega)
  have e2 : ∀ a ∈ ns, numAt xs (argBest (fun i j => decide (numAt xs i < numAt xs j)) (xs.size - 1)) ≤ a := fun a ha => by
    rw [hns] at ha
    obtain ⟨j, hj, rfl⟩ := mem_getD ha
    rw [List.length_map, Array.length_toList] at hj
    rw [← numAt_eq]; exact h2 j (by omega)
  have : numAt xs (argBest (fun i j => decide (numAt xs i < numAt xs j)) (xs.size - 1)) = m := Int.le_antisymm (e2 _ hm) (hle _ e1)
  rw [this]
  exact ⟨Kp.of hk, .int _ _⟩
theorem fn_max {ns : List Int} {m : Int} (hm : m ∈ ns) (hle : ∀ a ∈ ns, a ≤ m) : Fn c n (.builtin "max") [intsV ns] (.int m) := fun X A E s vs hA _ hl ra => by
  obtain ⟨v, rfl, r⟩ := ra.one
  obtain ⟨a, vs, rfl, ho, hr, _⟩ := r.listI
  have hi := hr.ints
  obtain ⟨xs, e⟩ := hi.allInts.items
  have hns : ns = xs.toList.map (·.1) := by
    rw [← hi.numsOf, ← nums_intItems, ← e]
  have hsz : 0 < xs.size := by
    have h3 : 0 < ns.length := List.length_pos_of_mem hm
    rw [hns, List.length_map, Array.length_toList] at h3; exact h3
  have hL := ho.isList
  rw [e] at hL
  refine lf <| max_intList hA.hh hL hsz fun v h' tk hv hk => ?_
  obtain ⟨t, rfl⟩ := intItems_at hv
  obtain ⟨h1, h2⟩ := argBest_gt (numAt xs) (xs.size - 1)
  have e1 : numAt xs (argBest (fun i j => decide (numAt xs i > numAt xs j)) (xs.size - 1)) ∈ ns := by
    rw [hns, numAt_eq]; exact getD_mem (by rw [List.length_map, Array.length_toList]; omega)
  have e2 : ∀ a ∈ ns, a ≤ numAt xs (argBest (fun i j => decide (numAt xs i > numAt xs j)) (xs.size - 1)) := fun a ha => by
    rw [hns] at ha
    obtain ⟨j, hj, rfl⟩ := mem_getD ha
    rw [List.length_map, Array.length_toList] at hj
    rw [← numAt_eq]; exact h2 j (by omega)
  have : numAt xs (argBest (fun i j => decide (numAt xs i > numAt xs j)) (xs.size - 1)) = m := Int.le_antisymm (hle _ e1) (e2 _ hm)
  rw [this]
  exact ⟨Kp.of hk, .int _ _⟩
end
end Mine
end

section
open PySem PySem.W PySem.Calls PyProof.Rows PySem.SeqAt
open Sem (wp)
set_option Elab.async false
set_option maxRecDepth 100000
set_option linter.unusedVariables false
set_option linter.deprecated false
namespace Mine
section
variable {c : Cx} {n : Nat} {X : Addr → Prop} {env : Env} {ρ : List (Str × PV)}
/-- an int in a written tuple of ints -/
theorem evt_in_tup {l : Expr} {es : List Expr} {k : Nat} {p1 pos : Pos} {i : Int} {ns : List Int} (hl : EvR c n X env ρ l (.int i)) (hr : EvL c n X env ρ es (ns.map .int)) (hz : ns.length ≤ 1000) :
    EvT c n X env ρ (.Compare l [.In] [.Tuple es k p1] pos) (ns.any (· == i)) :=
  fun A E s hA R => wpS_isTrue_Compare1 (wpS_mono (hl A E s hA R) (fun v s₁ h₁ => by
    rw [arm_eval_Tuple]
    refine wpS_bind (wpS_standAt (wpS_bind (wpS_mono (hr _ A E s₁ hA (R.kp h₁.1)) (fun vs s₂ h₂ => ?_) fun _ _ e => e)))
    obtain ⟨t, rfl⟩ := h₁.2.intI
    have hlen := h₂.2.length
    rw [List.length_map] at hlen
    refine lf (wpAny_newObj_type ?_ (by show vs.toArray.size ≤ sizeLine; rw [List.size_toArray, sizeLine_eq]; omega))
    have hi := h₂.2.ints
    have hT : (s₂.heap.push { cls := .type "tuple", data := .seq vs.toArray }).IsTuple s₂.heap.objs.size vs.toArray := ⟨_, Heap.get?_push_size _ rfl, rfl, _, rfl⟩
    refine lf (in_tupleAt (isInt i) hT (fun y hy => (eq_isInt i t hi y (by simpa using hy)).at _ _) ?_)
    rw [← Array.any_toList, show vs.toArray.toList = vs from rfl, any_isInt i hi]
    exact lf (wpAny_truthy_bool ⟨h₁.1.trans (h₂.1.trans Kp.push), rfl⟩)) fun _ _ e => e) rfl

noncomputable def isB (k : List UInt8) : Value → Bool
  | .bytes b _ => b.toList == k
  | _ => false
theorem eqB {A : Around} {s : Shared} {b k : List UInt8} {t u : Tok} : EqAt A s (.bytes b.toArray t) (.bytes k.toArray u) (b == k) := fun prog w E Q h => by
  unfold eqBool
  refine wpAny_holding ?_
  show wpAny _ _ (if (Value.bytes b.toArray t == Value.bytes k.toArray u) = true then _ else _) Q E s
  by_cases hab : (Value.bytes b.toArray t == Value.bytes k.toArray u) = true
  · rw [if_pos hab]
    have e : b.toArray = k.toArray := by have := eq_of_beq hab; injection this
    have e : b = k := by simpa using e
    subst e
    exact wpAny_bind (wpAny_rule (wpAny_pure (by simpa using h)))
  · rw [if_neg hab]
    exact wpAny_bind (PySem.W.eq_bytes (wpAny_truthy_bool (by simpa using h)))
noncomputable abbrev bytesV (bs : List (List UInt8)) : PV := .list (bs.map .bytes)
theorem any_isB {X : Addr → Prop} {h : Heap} (k : List UInt8) : ∀ {vs : List Value} {bs : List (List UInt8)}, RepL X h vs (bs.map .bytes) → vs.any (isB k) = bs.any (· == k)
  | [], [], _ => rfl
  | _, b :: bs, .cons h1 h2 => by
    cases h1
    simp only [List.any_cons, isB, any_isB k h2]
theorem eq_isB {X : Addr → Prop} {h : Heap} {A : Around} {s : Shared} (k : List UInt8) (t : Tok) : ∀ {vs : List Value} {bs : List (List UInt8)}, RepL X h vs (bs.map .bytes) → ∀ y, y ∈ vs → EqAt A s y (.bytes k.toArray t) (isB k y)
  | [], [], _, _, hy => nomatch hy
  | _, b :: bs, .cons h1 h2, y, hy => by
    rcases List.mem_cons.mp hy with rfl | hy
    · cases h1
      exact eqB
    · exact eq_isB k t h2 y hy
theorem cmp_notin_bytes {k : List UInt8} {bs : List (List UInt8)} : Cmp c n .NotIn (.bytes k) (bytesV bs) (!(bs.any (· == k))) := fun A E s va vb hA _ ra rb => by
  obtain ⟨t, rfl⟩ := ra.bytesI
  obtain ⟨a, vs, rfl, ho, hr, _⟩ := rb.listI
  refine notIn_listAt (isB k) ho.isList (fun y hy => eq_isB k t hr y (by simpa using hy)) ?_
  rw [← Array.any_toList, show vs.toArray.toList = vs from rfl, any_isB k hr]
  exact ⟨Kp.refl _, rfl⟩
theorem fn_isi {v : PV} {T : String} {b : Bool} (hv : (match v with | .int _ => (T = "int" ∧ b = true) ∨ (T = "bool" ∧ b = false) | .bytes _ => T = "bytes" ∧ b = true | _ => False)) : Fn c n (.builtin "isinstance") [v, .ty T] (.bool b) := fun X A E s vs hA _ hl ra => by
  obtain ⟨x, u, rfl, r1, r2⟩ := ra.two
  cases r2
  cases r1 with
  | int i t =>
    rcases hv with ⟨rfl, rfl⟩ | ⟨rfl, rfl⟩
    · exact lf <| IsiPair.int_int ⟨Kp.refl _, .bool _⟩
    · exact lf <| IsiPair.int_bool ⟨Kp.tok, .bool _⟩
  | bytes b t =>
    obtain ⟨rfl, rfl⟩ := hv
    exact lf <| call_isinstance_yes (PySem.W.typeIs_bytes _ _ _) F.isi_meta_bytes F.sub_bytes_bytes ⟨Kp.refl _, .bool _⟩
  | _ => exact hv.elim
theorem bin_mulL {a : List PV} {k : Int} (h0 : 0 ≤ k) (h1 : k ≤ 100) (hz : a.length ≤ 100) : Bin c n .Mult (.list a) (.int k) (.list (List.replicate k.toNat a).flatten) := fun X A E s va vb hA _ hl ra rb => by
  cases rb
  obtain ⟨l, vs, rfl, ⟨m, ho⟩, hr, hx⟩ := ra.listI
  rename_i u
  have hlen := hr.length
  have hh : vs.toArray.size * k.toNat ≤ 10000 := by
    rw [List.size_toArray, hlen]
    exact Nat.le_trans (Nat.mul_le_mul hz (show k.toNat ≤ 100 by omega)) (by decide)
  refine wpAny_binaryOp_repeat_ref (T := "list") (U := "int") (by decide) ⟨_, ho, rfl⟩ (fun s' => typeIs_int s' k u) noFill_list_mul F.fills_int_mul F.slot_int_rmul repeat_list F.slot_int_index.lookup
    (call_meets F.slot_int_rmul (typeIs_int s k u) F.entry_int_rmul (F.args_int_rmul_2 _ _) (int___rmul___int_list k u l vs.toArray m)
      ⟨ho, rfl, ⟨_, ho, rfl⟩, call_meets F.slot_list_mul ⟨_, ho, rfl⟩ F.entry_list_mul (F.args_list_mul_2 _ _)
        (AutoListH.list___mul___list_int_3 l vs.toArray m k u (by simp [Builtin.List.listFitsIndex]; omega) (by omega) (by simp [Builtin.List.listTooLong, sizeLine] at hh ⊢; omega))
        ⟨ho, ?_⟩⟩)
  have e : (List.foldl (fun x1 x2 => x1 ++ x2) #[] (List.replicate (if vs.toArray.isEmpty = true then 0 else k.toNat) vs.toArray)) = ((List.replicate k.toNat vs).flatten).toArray := by
    have aux : ∀ (j : Nat) (acc : List Value), List.foldl (fun x1 x2 => x1 ++ x2) acc.toArray (List.replicate j vs.toArray) = (acc ++ (List.replicate j vs).flatten).toArray := by
      intro j
      induction j with
      | zero => intro acc; simp
      | succ j ih => intro acc; rw [List.replicate_succ, List.foldl_cons, List.append_toArray, ih, List.replicate_succ, List.flatten_cons, List.append_assoc]
    by_cases hv : vs = []
    · subst hv; simp
    · have hne : vs.toArray.isEmpty = false := by cases vs <;> simp_all
      rw [hne]
      simpa using aux k.toNat []
  rw [e]
  refine rep_new_list hl ?_
  have rep : ∀ j : Nat, RepL X s.heap (List.replicate j vs).flatten (List.replicate j a).flatten := by
    intro j
    induction j with
    | zero => exact .nil
    | succ j ih => rw [List.replicate_succ, List.replicate_succ, List.flatten_cons, List.flatten_cons]; exact hr.append ih
  exact rep _
end
end Mine
end

section
open PySem PySem.W PySem.Calls PyProof.Rows PySem.SeqAt
open Sem (wp)
set_option Elab.async false
set_option maxRecDepth 100000
set_option linter.unusedVariables false
set_option linter.deprecated false
namespace Mine
section
variable {prog : Program} {w : World} {A : Around} {E : Value → Shared → Prop} {s : Shared} {R : Result → Shared → Prop}
/-- list(x) by the walk of x -/
theorem call_list_walk {v : Value} {T id : String} {nn : Nat} {P : Nat → Value → Prop} {Q : Value → Shared → Prop} (hh : A.handled = none) (hnn : nn ≤ sizeLine) (o : Obj) (fp : Addr → List Addr) (St : Addr → Nat → Heap → Prop)
    (hT : ∀ h' tk, (∀ b o, s.heap.get? b = some o → h'.get? b = some o) → ({ s with heap := h', toks := tk } : Shared).TypeIs v T) (hTl : (Value.type T == Value.type "list") = false) (hTt : (Value.type T == Value.type "tuple") = false)
    (hlen : typeLookup (.type T) "__len__" = pure (some (.builtin id))) (hsp : splitId id = some (T, "__len__")) (hsub : isSubtype (.type T) (.type T) = pure true)
    (hv : ∀ S, v = .ref S → ∃ o, s.heap.get? S = some o)
    (hhint : ∀ (s₂ : Shared) (Q' : Bool → Shared → Prop), s₂.TypeIs v T → Q' false s₂ → wpAny (model prog w) A.in1.in1 (Builtin.List.listLengthHint v) Q' E s₂)
    (hres : (["set", "frozenset", "dict", "dict_keys", "dict_values", "dict_items"].any fun x => Value.type T == .type x) = false)
    (hI : ∀ (h' : Heap) (Q' : Value → Shared → Prop), (∀ b o, s.heap.get? b = some o → h'.get? b = some o) → Q' (.ref h'.objs.size) { s with heap := h'.push o } → wpAny (model prog w) A.in1.in1 (pyIter v) Q' E { s with heap := h' })
    (hW : ∀ (h' : Heap), (∀ b o, s.heap.get? b = some o → h'.get? b = some o) → s.heap.objs.size < h'.objs.size → s.heap.objs.size ∉ fp h'.objs.size ∧ St h'.objs.size 0 (h'.push o) ∧ Walks prog w A.in1.in1 h'.objs.size (fp h'.objs.size) [h'.objs.size] nn P (St h'.objs.size))
    (hQ : ∀ s' vs, Kp s s' → s'.heap.PlainList s.heap.objs.size vs → ItemsOf P vs nn → Q (.ref s.heap.objs.size) s') :
    wpAny (model prog w) A (call (.type "list") [v]) Q E s := by
  refine callType_codes (Q₁ := fun obj s₁ => obj = .ref s.heap.objs.size ∧ s₁ = { s with heap := s.heap.push { cls := .type "list", data := .seq #[] } }) F.called_list (F.typeCall_list_1 _) F.entry_list_init
    (code_list_new _ ⟨rfl, rfl⟩) fun obj s₁ h₁ => ?_
  obtain ⟨rfl, rfl⟩ := h₁
  have hS : (s.heap.push { cls := .type "list", data := .seq #[] }).get? s.heap.objs.size = some { cls := .type "list", data := .seq #[] } := Heap.get?_push_size _ rfl
  refine ⟨⟨_, hS, rfl⟩, F.args_list_init_2 _ _, ?_⟩
  show wpAny _ A.in1.in1 (do let old ← Builtin.List.listItems (.ref s.heap.objs.size); Builtin.List.listUpdate (.ref s.heap.objs.size) (fun _ => #[]); letGo old.toList.reverse; Builtin.List.listExtendWith (.ref s.heap.objs.size) v .none) _ _ _
  refine wpAny_bind ?_
  unfold Builtin.List.listItems
  refine wpAny_bind (wpAny_seqItems hS rfl (wpAny_pure ?_))
  show wpAny _ A.in1.in1 (updateSeq s.heap.objs.size (fun _ => #[]) >>= fun _ => letGo (#[] : Array Value).toList.reverse >>= fun _ => Builtin.List.listExtendWith (.ref s.heap.objs.size) v .none) _ _ _
  refine wpAny_bind (wpAny_updateSeq hS rfl ?_)
  have hS₂ := Heap.get?_update_self (Obj.mapSeq (fun _ => (#[] : Array Value))) hS rfl
  generalize hH : ((s.heap.push { cls := .type "list", data := .seq #[] }).update s.heap.objs.size (Obj.mapSeq (fun _ => (#[] : Array Value)))) = H at hS₂ ⊢
  have old : ∀ b o, s.heap.get? b = some o → H.get? b = some o := fun b o e => by
    rw [← hH]
    exact (Heap.get?_update_other _ _ (Nat.ne_of_gt (Heap.lt_size e))).trans (Heap.get?_push_of_some _ e)
  have hHs : s.heap.objs.size < H.objs.size := by rw [← hH, Heap.size_update, Heap.size_push]; exact Nat.lt_succ_self _
  refine wpAny_bind (wpAny_letGo ?_)
  unfold Builtin.List.listExtendWith
  have hT2 := hT H s.toks old
  refine wpAny_bind (wpAny_typeOf hT2 ?_)
  have h1 : Builtin.List.listSameRef (.ref s.heap.objs.size) v = false := by
    cases v with
    | ref a =>
      obtain ⟨o', e⟩ := hv a rfl
      simpa [Builtin.List.listSameRef] using Nat.ne_of_gt (Heap.lt_size e)
    | _ => rfl
  simp only [h1, hTl, hTt, Bool.or_false, Bool.false_eq_true, if_false]
  refine wpAny_bind (hI H _ old ?_)
  refine wpAny_bind (wpAny_holding (hhint _ _ (hT (H.push o) s.toks fun b o' e => Heap.get?_push_of_some _ (old b o' e)) ?_))
  obtain ⟨hSf, st, W⟩ := hW H old hHs
  rw [if_neg (by rw [Bool.false_or]; exact fun e => absurd (hres.symm.trans e) (by simp))]
  refine wpAny_pure ⟨plainId_quiet F.plain_extend_loop _, codeAny_extend_loopS W.toS hnn _ hSf _ nn 0 _ _ _ rfl (Nat.zero_le _) st (Heap.get?_push_of_some _ hS₂) (ItemsOf.nil P) fun s' acc' c' hm hS' hacc => ?_⟩
  refine ⟨rfl, hQ s' acc' ⟨fun b ob e => hm.heap b ob (fun hb => ?_) (Heap.get?_push_of_some _ (old b ob e)), fun g x e => by rw [show s'.gens = s.gens from hm.gens]; exact e, fun e => by rw [show s'.gens = s.gens from hm.gens]; exact e, hm.os⟩ ⟨c', hS'⟩ hacc⟩
  have hlt := Heap.lt_size e
  rcases List.mem_cons.mp hb with h | h
  · exact absurd hlt (h ▸ Nat.lt_irrefl _)
  · rw [List.mem_singleton.mp h] at hlt; exact absurd (Nat.lt_trans hlt hHs) (Nat.lt_irrefl _)
theorem hint_plain {v : Value} {T id : String} {Q : Bool → Shared → Prop} (hT : s.TypeIs v T) (hlen : typeLookup (.type T) "__len__" = pure (some (.builtin id))) (hsp : splitId id = some (T, "__len__")) (hsub : isSubtype (.type T) (.type T) = pure true)
    (hsil : (["list", "tuple", "dict", "str", "bytes", "bytearray", "set", "frozenset", "dict_keys", "dict_values", "dict_items"].map (· ++ ".__len__") ++
  ["list_iterator", "list_reverseiterator", "tuple_iterator", "range_iterator", "str_iterator", "str_ascii_iterator", "bytes_iterator",
   "bytearray_iterator", "set_iterator", "dict_keyiterator", "dict_valueiterator", "dict_itemiterator"].map (· ++ ".__length_hint__")).contains id = true) (h : Q false s) : wpAny (model prog w) A (Builtin.List.listLengthHint v) Q E s := by
  unfold Builtin.List.listLengthHint
  refine wpAny_bind (wpAny_specialOf hT hlen ?_)
  dsimp only
  rw [hsp]
  dsimp only
  refine wpAny_bind (wpAny_isInstance hT hsub ?_)
  refine bm_if_false rfl ?_
  refine bm_if_true hsil ?_
  refine wpAny_bind (wpAny_typeOf hT ?_)
  exact wpAny_pure h
end
theorem repL_items {X : Addr → Prop} {h : Heap} {P : Nat → Value → Prop} {xs : Array Value} {ps : List PV} {nn : Nat} (hn : nn = ps.length) (hi : ItemsOf P xs nn) (hP : ∀ i v, P i v → ∃ p, ps[i]? = some p ∧ Rep X h v p) : RepL X h xs.toList ps := by
  subst hn
  obtain ⟨hs, hp⟩ := hi
  refine RepL.of_get (by simpa using hs) fun i v p hv hpi => ?_
  obtain ⟨q, hq, rq⟩ := hP i v (hp i v (by simpa using hv))
  rw [hpi] at hq
  cases hq
  exact rq
theorem bytes_len_lookup : typeLookup (.type "bytes") "__len__" = pure (some (.builtin "bytes.__len__")) := by rw [typeLookup_type, builtinLookup_eq_fast]; kernel_rfl
theorem fn_list_bytes {c : Cx} {n : Nat} {b : List UInt8} (hz : b.length ≤ 10000) : Fn c n (.type "list") [.bytes b] (.list (b.map fun x => .int x.toNat)) := fun X A E s vs hA _ hl ra => by
  obtain ⟨v, rfl, r⟩ := ra.one
  cases r with
  | bytes _ t =>
  refine lf (call_list_walk (T := "bytes") (id := "bytes.__len__") (nn := b.toArray.size) (P := fun i v => ∃ c u, b.toArray[i]? = some c ∧ v = .int (c.toNat : Int) u) hA.hh (by rw [List.size_toArray, sizeLine_eq]; omega) { cls := .type "bytes_iterator", data := .fields #[.bytes b.toArray t, .int 0 0] } (fun I => [I])
    (fun I i h => KBw.IsBytesIter h I b.toArray t i) (fun _ _ _ => PySem.W.typeIs_bytes _ _ _) (by decide) (by decide) bytes_len_lookup (by decide +kernel) F.bm_sub (fun S e => nomatch e)
    (fun s₂ Q' hT h => hint_plain hT bytes_len_lookup (by decide +kernel) F.bm_sub (by decide +kernel) h) (by decide) (fun h' Q' _ h => KBw.pyIter_bytes h) (fun h' hk hlt => ⟨by simpa using Nat.ne_of_lt hlt, ⟨_, Heap.get?_push_size _ rfl, rfl, rfl⟩, KBw.walks (prog := c.prog) (w := c.w) (A := A.in1.in1) hA.hh h'.objs.size b.toArray t⟩) ?_)
  intro s' vs k hp hit
  obtain ⟨m, hp⟩ := hp
  refine ⟨k, .list (vs := vs.toList) hl.new ⟨m, hp⟩ (repL_items (by simp) hit ?_)⟩
  rintro i v ⟨c, u, hc, rfl⟩
  simp at hc
  exact ⟨.int c.toNat, by simp [hc], .int _ _⟩
namespace BI
theorem slot_next : Slot "bytearray_iterator" "__next__" "bytearray_iterator.__next__" :=
  .of (owner := "bytearray_iterator") (n := "__next__") (by rw [typeLookup_type, builtinLookup_eq_fast]; kernel_rfl) (by decide +kernel) (by decide +kernel) (by decide +kernel)
    (by first | exact .inl (by decide +kernel) | exact .inr (by decide +kernel)) (by rw [isSubtype_type]; kernel_rfl)
theorem slot_self : Slot "bytearray_iterator" "__iter__" "bytearray_iterator.__iter__" :=
  .of (owner := "bytearray_iterator") (n := "__iter__") (by rw [typeLookup_type, builtinLookup_eq_fast]; kernel_rfl) (by decide +kernel) (by decide +kernel) (by decide +kernel)
    (by first | exact .inl (by decide +kernel) | exact .inr (by decide +kernel)) (by rw [isSubtype_type]; kernel_rfl)
theorem entry_iter : entryFor table "bytearray.__iter__" = some Builtin.«bytearray.__iter__» := by first | exact entryFor_of_fast (by kernel_rfl) | exact entryFor_of_tree (by kernel_rfl)
theorem entry_next : entryFor table "bytearray_iterator.__next__" = some Builtin.«bytearray_iterator.__next__» := by first | exact entryFor_of_fast (by kernel_rfl) | exact entryFor_of_tree (by kernel_rfl)
theorem entry_self : entryFor table "bytearray_iterator.__iter__" = some Builtin.«dict_keyiterator.__iter__» := entryFor_alias (id' := "dict_keyiterator.__iter__") (by kernel_rfl) rfl (by decide +kernel) (by kernel_rfl)
theorem args_iter (a : Value) : argsOk "bytearray.__iter__" ⟨[a], []⟩ := by unfold argsOk; kernel_rfl
theorem args_next (a : Value) : argsOk "bytearray_iterator.__next__" ⟨[a], []⟩ := by unfold argsOk; kernel_rfl
theorem args_self (a : Value) : argsOk "bytearray_iterator.__iter__" ⟨[a], []⟩ := by unfold argsOk; kernel_rfl
noncomputable def IsIter (h : Heap) (I a : Addr) (i : Nat) : Prop := ∃ o, h.get? I = some o ∧ o.cls = .type "bytearray_iterator" ∧ o.data = .fields #[.ref a, .int i 0]
section
variable {prog : Program} {w : World} {A : Around} {E : Value → Shared → Prop} {s : Shared} {a it : Addr} {b : List UInt8}
theorem typeIs {i : Nat} (y : IsIter s.heap it a i) : s.TypeIs (.ref it) "bytearray_iterator" := let ⟨o, ho, hc, _⟩ := y; ⟨o, ho, hc⟩
theorem pyIter_barr {Q : Value → Shared → Prop} (hb : IsBA s.heap a b) (hQ : Q (.ref s.heap.objs.size) { s with heap := s.heap.push { cls := .type "bytearray_iterator", data := .fields #[.ref a, .int 0 0] } }) : wpAny (model prog w) A (pyIter (.ref a)) Q E s := by
  refine wpAny_pyIter_slot hb.typeIs B.slot_iter (wpAny_call_entry B.slot_iter hb.typeIs entry_iter ?_ (args_iter _))
  show wpAny _ _ (do ret (← newFields "bytearray_iterator" [.ref a, rawInt 0])) _ _ s
  exact wpAny_bind (wpAny_newObj_type (wpAny_pure ⟨_, rfl, "bytearray_iterator", _, ⟨_, Heap.get?_push_size _ rfl, rfl⟩, slot_next.lookup, hQ⟩))
theorem pyIter_self {i : Nat} {Q : Value → Shared → Prop} (hit : IsIter s.heap it a i) (h : Q (.ref it) s) : wpAny (model prog w) A (pyIter (.ref it)) Q E s := by
  refine wpAny_pyIter_slot (typeIs hit) slot_self (wpAny_call_entry slot_self (typeIs hit) entry_self ?_ (args_self _))
  show wpAny _ _ (ret (.ref it)) _ _ s
  exact wpAny_pure ⟨_, rfl, "bytearray_iterator", _, typeIs hit, slot_next.lookup, h⟩
theorem next_item {i : Nat} {c : UInt8} {Q : Option Value → Shared → Prop} (hit : IsIter s.heap it a i) (hb : IsBA s.heap a b) (hx : b.toArray[i]? = some c)
    (hQ : ∀ h', IsIter h' it a (i + 1) → Heap.SameBut it s.heap h' → Q (some (.int (c.toNat : Int) s.toks)) { s with heap := h', toks := s.toks + 1 }) : wpAny (model prog w) A (pyNext (.ref it)) Q E s := by
  obtain ⟨o, ho, hc, hd⟩ := id hit
  unfold pyNext
  refine wpAny_bind (wpAny_attempt (wpAny_callSpecial?_slot (name := PySem.Str.ofString "__next__") (typeIs hit) slot_next
    (wpAny_call_entry slot_next (typeIs hit) entry_next ?_ (args_next _))))
  show wpAny _ _ (field (.ref it) 0 >>= _) _ _ s
  refine wpAny_bind (wpAny_field ho hd (x := .ref a) rfl ?_)
  show wpAny _ _ (load a >>= _) _ _ s
  refine wpAny_bind (wpAny_load hb ?_)
  show wpAny _ _ (field (.ref it) 1 >>= _) _ _ s
  refine wpAny_bind (wpAny_field ho hd (x := .int i 0) rfl ?_)
  simp only [Int.toNat_natCast, hx]
  refine wpAny_bind (wpAny_setField ho hd (by simp) (wpAny_bind (wpAny_mkInt (wpAny_pure ⟨_, rfl, wpAny_pure (hQ _ ?_ (Heap.SameBut.update ..))⟩))))
  exact ⟨_, Heap.get?_update_self _ ho (Obj.isFreed_of_fields (Obj.data_mapFields hd _)), (Obj.cls_mapFields ..).trans hc, by
    rw [Obj.data_mapFields hd]; simp [rawInt]⟩
theorem next_end {i : Nat} {Q : Option Value → Shared → Prop} (hh : A.handled = none) (hit : IsIter s.heap it a i) (hb : IsBA s.heap a b) (hx : b.toArray[i]? = none)
    (hQ : ∀ h', Heap.ExtBut it s.heap h' → Q none { s with heap := h' }) : wpAny (model prog w) A (pyNext (.ref it)) Q E s := by
  obtain ⟨o, ho, hc, hd⟩ := id hit
  unfold pyNext
  refine wpAny_bind (wpAny_attempt (wpAny_callSpecial?_slot (name := PySem.Str.ofString "__next__") (typeIs hit) slot_next
    (wpAny_call_entry slot_next (typeIs hit) entry_next ?_ (args_next _))))
  show wpAny _ _ (field (.ref it) 0 >>= _) _ _ s
  refine wpAny_bind (wpAny_field ho hd (x := .ref a) rfl ?_)
  show wpAny _ _ (load a >>= _) _ _ s
  refine wpAny_bind (wpAny_load hb ?_)
  show wpAny _ _ (field (.ref it) 1 >>= _) _ _ s
  refine wpAny_bind (wpAny_field ho hd (x := .int i 0) rfl ?_)
  simp only [Int.toNat_natCast, hx]
  refine wpAny_bind (wpAny_rule (wpAny_bind (wpAny_setField ho hd (by simp) (wpAny_bind (wpAny_letGo ?_)))))
  show wpAny _ _ (newExc (.type "StopIteration") [] >>= _) _ _ _
  refine wpAny_bind ?_
  simp only [newExc, newTuple]
  refine wpAny_bind (wpAny_newObj_type ?_ (by size_fits))
  refine wpAny_bind (m := firstArgMember _ _) (wpAny_of_eq (a := Value.none) (by first | rfl | (simp only [firstArgMember]; rfl)) ?_)
  refine wpAny_newObj_type ?_ (by size_fits)
  simp only [raiseNew]
  refine wpAny_bind (wpAny_handled ?_)
  rw [show A.in1.handled = none from hh]
  refine wpAny_bind (wpAny_pure (wpAny_throw ?_))
  refine wpAny_bind (wpAny_isInstance (T := "StopIteration") (b := true) ⟨_, Heap.get?_push_size _ rfl, rfl⟩ isSubtype_stop ?_)
  exact wpAny_pure (hQ _ (((Heap.SameBut.update ..).extBut.push _).push _))
theorem walks (hh : A.handled = none) (I a : Addr) (b : List UInt8) (hIa : a ≠ I) :
    Walks prog w A I [I, a] [I] b.toArray.size (fun i v => ∃ c u, b.toArray[i]? = some c ∧ v = .int (c.toNat : Int) u) (fun i h => IsIter h I a i ∧ IsBA h a b) where
  sub := fun _ hb => by simp at hb; simp [hb]
  frame := fun _ _ _ st hk => let ⟨⟨o, ho, r⟩, hb⟩ := st; ⟨⟨o, hk I (by simp) o ho, r⟩, hk a (by simp) _ hb⟩
  item := fun i s Q E hi st hQ => by
    refine next_item st.1 st.2 (c := b.toArray[i]) (by simp [hi]) fun h' hit' hs' => ?_
    exact hQ _ h' (s.toks + 1) ⟨_, _, by simp [hi], rfl⟩ ⟨hit', hs'.extBut a _ hIa st.2⟩ fun b o hb e => hs'.extBut b o (fun h => hb (by simp [h])) e
  done := fun s Q E st hQ => next_end hh st.1 st.2 (by simp) fun h' he' => hQ h' s.toks fun b o hb e => he' b o (fun h => hb (by simp [h])) e
  self := fun _ _ _ _ st hQ => pyIter_self st.1 hQ
end
end BI
theorem fn_list_barr {c : Cx} {n : Nat} {b : List UInt8} (hz : b.length ≤ 10000) : Fn c n (.type "list") [.barr b] (.list (b.map fun x => .int x.toNat)) := fun X A E s vs hA _ hl ra => by
  obtain ⟨v, rfl, r⟩ := ra.one
  cases r with
  | @barr a _ hx ho =>
  refine lf (call_list_walk (T := "bytearray") (id := "bytearray.__len__") (nn := b.toArray.size) (P := fun i v => ∃ c u, b.toArray[i]? = some c ∧ v = .int (c.toNat : Int) u) hA.hh (by rw [List.size_toArray, sizeLine_eq]; omega) { cls := .type "bytearray_iterator", data := .fields #[.ref a, .int 0 0] } (fun I => [I, a])
    (fun I i h => BI.IsIter h I a i ∧ IsBA h a b) (fun h' tk hk => IsBA.typeIs (hk _ _ ho)) (by decide) (by decide) B.slot_len.lookup (by decide +kernel) B.sub (fun S e => by cases e; exact ⟨_, ho⟩)
    (fun s₂ Q' hT h => hint_plain hT B.slot_len.lookup (by decide +kernel) B.sub (by decide +kernel) h) (by decide) (fun h' Q' hk h => BI.pyIter_barr (hk _ _ ho) h)
    (fun h' hk hlt => ⟨by simpa using ⟨Nat.ne_of_lt hlt, Nat.ne_of_gt (Heap.lt_size ho)⟩, ⟨⟨_, Heap.get?_push_size _ rfl, rfl, rfl⟩, Heap.get?_push_of_some _ (hk _ _ ho)⟩, BI.walks (prog := c.prog) (w := c.w) (A := A.in1.in1) hA.hh h'.objs.size a b (Nat.ne_of_lt (Nat.lt_trans (Heap.lt_size ho) hlt))⟩) ?_)
  intro s' vs k hp hit
  obtain ⟨m, hp⟩ := hp
  refine ⟨k, .list (vs := vs.toList) hl.new ⟨m, hp⟩ (repL_items (by simp) hit ?_)⟩
  rintro i v ⟨c, u, hc, rfl⟩
  simp at hc
  exact ⟨.int c.toNat, by simp [hc], .int _ _⟩
end Mine
end

section
open PySem PySem.W PySem.Calls PyProof.Rows PySem.SeqAt
open Sem (wp)
set_option Elab.async false
set_option maxRecDepth 100000
set_option linter.unusedVariables false
set_option linter.deprecated false
namespace Mine
theorem pick_cut {α : Type} (xs : List α) (lo hi : Option Int) : pick xs lo hi none = cutL xs lo hi := by
  unfold pick cutL
  rw [sliceBounds_plain]
  simp only [sliceRange_one]
  have := pick_run xs.toArray (lo.elim 0 (clipAt xs.length)) (hi.elim xs.length (clipAt xs.length) - lo.elim 0 (clipAt xs.length))
  simpa using this
variable {c : Cx} {n : Nat} {X : Addr → Prop} {env : Env} {ρ : List (Str × PV)}
theorem cut_list' {a : List PV} {l u : Option Int} (hs : a.length ≤ 10000) : Cut c n (.list a) l u none (.list (cutL a l u)) := by
  rw [← pick_cut]
  exact cut_list (by simp) hs
theorem pick_rev {α : Type} (xs : List α) : pick xs none none (some (-1)) = xs.reverse := by
  unfold pick
  have e : sliceRange (sliceBounds none none (some (-1)) xs.length).1 (sliceBounds none none (some (-1)) xs.length).2.1 (sliceBounds none none (some (-1)) xs.length).2.2 = Builtin.Str.strSliceIndices none none (-1) xs.length := rfl
  rw [e, picked_rev]
  apply List.ext_getElem?
  intro i
  by_cases hi : i < xs.length
  · rw [List.filterMap_map]
    have aux : ∀ k, k ≤ xs.length → ((List.range k).filterMap ((fun x => xs[x]?) ∘ fun k => xs.length - 1 - k)) = (xs.reverse).take k := by
      intro k
      induction k with
      | zero => intro _; simp
      | succ k ih =>
        intro hk
        rw [List.range_succ, List.filterMap_append, ih (by omega), List.take_add_one]
        congr 1
        have h1 : xs.length - 1 - k < xs.length := by omega
        have h2 : k < xs.reverse.length := by simp; omega
        simp [h1, List.getElem?_eq_getElem h2, List.getElem_reverse]
    rw [aux xs.length (Nat.le_refl _), List.take_of_length_le (by simp)]
  · have aux : ((List.range xs.length).map (fun k => xs.length - 1 - k)).filterMap (fun x => xs[x]?) = [] ∨ True := .inr trivial
    rw [List.getElem?_eq_none, List.getElem?_eq_none]
    · simpa using Nat.le_of_not_lt hi
    · refine Nat.le_trans (List.length_filterMap_le _ _) ?_
      simpa using Nat.le_of_not_lt hi
theorem cut_rev {a : List PV} (hs : a.length ≤ 10000) : Cut c n (.list a) none none (some (-1)) (.list a.reverse) := by
  rw [← pick_rev]
  exact cut_list (by simp) hs
theorem part_opt {v : Value} {i : Option Int} (h : IsPart v i) : ∃ o : Option (Int × Tok), v = partValue o ∧ o.map (·.1) = i := by
  cases h with
  | none => exact ⟨none, rfl, rfl⟩
  | int i t => exact ⟨some (i, t), rfl, rfl⟩
theorem str_cut (x : Str) (l u : Option Int) : (⟨((Builtin.Str.strSliceIndices l u 1 x.length).filterMap (x.cps[·]?)).toArray⟩ : Str) = ⟨(cutL x.cps.toList l u).toArray⟩ := by
  rw [← pick_cut]
  unfold pick
  have e : Builtin.Str.strSliceIndices l u 1 x.length = sliceRange (sliceBounds l u none x.cps.toList.length).1 (sliceBounds l u none x.cps.toList.length).2.1 (sliceBounds l u none x.cps.toList.length).2.2 := by
    cases l <;> cases u <;> rfl
  rw [e]
  simp
theorem cutL_len {α : Type} (xs : List α) (l u : Option Int) : (cutL xs l u).length ≤ xs.length := by
  unfold cutL
  rw [List.length_take, List.length_drop]; omega
theorem clip_le (m : Nat) (i : Int) : clipAt m i ≤ m := by
  have := clipAt_cast m i
  omega
theorem idx_len {α : Type} (xs : List α) (l u : Option Int) : (Builtin.Str.strSliceIndices l u 1 xs.length).length = (cutL xs l u).length := by
  have e : Builtin.Str.strSliceIndices l u 1 xs.length = sliceRange (sliceBounds l u none xs.length).1 (sliceBounds l u none xs.length).2.1 (sliceBounds l u none xs.length).2.2 := by
    cases l <;> cases u <;> rfl
  rw [e, sliceBounds_plain]
  simp only [sliceRange_one]
  unfold cutL
  rw [List.length_map, List.length_range, List.length_take, List.length_drop]
  have : u.elim xs.length (clipAt xs.length) ≤ xs.length := by
    cases u with
    | none => exact Nat.le_refl _
    | some i => exact clip_le _ _
  omega
theorem cut_whole {x : Str} {l u : Option Int} (h : (cutL x.cps.toList l u).length = x.length) : (⟨(cutL x.cps.toList l u).toArray⟩ : Str) = x := by
  apply Str.ext'
  have hx : x.length = x.cps.toList.length := by simp [Str.length]
  unfold cutL at h ⊢
  rw [List.length_take, List.length_drop] at h
  have h0 : x.cps.toList.length - (l.elim 0 (clipAt x.cps.toList.length)) ≥ x.cps.toList.length := by omega
  by_cases hz : x.cps.toList = []
  · simp [hz, Array.toList_eq_nil_iff.mp hz]
  · have hp : 0 < x.cps.toList.length := List.length_pos_iff.mpr hz
    have h1 : l.elim 0 (clipAt x.cps.toList.length) = 0 := by omega
    rw [h1, List.drop_zero, List.take_of_length_le (by omega)]
theorem cut_str {x : Str} {l u : Option Int} (hs : x.length ≤ 10000) : Cut c n (.str x) l u none (.str ⟨(cutL x.cps.toList l u).toArray⟩) := fun X A E s vo sl vl vu vs hA _ hl ra hsl pl pu ps => by
  obtain ⟨t, rfl⟩ := ra.strI
  cases ps
  obtain ⟨ol, rfl, el⟩ := part_opt pl
  obtain ⟨ou, rfl, eu⟩ := part_opt pu
  refine ⟨_, _, typeIs_str _ _ _, PySem.F.slot_str_getitem.lookup, wpAny_getItem_str_slice (l := ol) (u := ou) (st := none) hsl rfl ?_⟩
  have hsl : slicePicked x ol ou none = Builtin.Str.strSliceIndices l u 1 x.length := by
    unfold slicePicked
    rw [el, eu]; rfl
  have hlen : (Builtin.Str.strSliceIndices l u 1 x.length).length = (cutL x.cps.toList l u).length := idx_len x.cps.toList l u
  unfold sliceMade
  rw [hsl, str_cut]
  split
  · rename_i h
    rw [Bool.and_eq_true, beq_iff_eq, beq_iff_eq] at h
    rw [cut_whole (hlen ▸ h.2)]
    exact ⟨Kp.refl _, .str _ _⟩
  · refine ⟨?_, Kp.tok, .str _ _⟩
    have := cutL_len x.cps.toList l u
    show (cutL x.cps.toList l u).toArray.size ≤ sizeLine
    simp [Str.length] at hs this ⊢
    rw [sizeLine_eq]; omega
end Mine
end

section
open PySem PySem.W PySem.Calls PyProof.Rows PySem.SeqAt
open Sem (wp)
set_option Elab.async false
set_option maxRecDepth 100000
set_option linter.unusedVariables false
set_option linter.deprecated false
namespace Mine
variable {c : Cx} {n : Nat} {X : Addr → Prop} {env : Env} {ρ : List (Str × PV)}
theorem bin_addB {a b : List UInt8} (h : a.length + b.length ≤ 10000) : Bin c n .Add (.bytes a) (.bytes b) (.bytes (a ++ b)) := fun X A E s va vb hA _ hl ra rb => by
  obtain ⟨t, rfl⟩ := ra.bytesI
  obtain ⟨u, rfl⟩ := rb.bytesI
  exact bytes_add_K (by simp; omega) rfl fun t' k => ⟨Kp.tok, .bytes _ _⟩
theorem RepL.strs {X : Addr → Prop} {h : Heap} : ∀ {vs : List Value} {ss : List Str}, RepL X h vs (ss.map .str) → StrsAre vs ss
  | [], [], _ => .nil
  | _, n :: ns, .cons h1 h2 => by
    cases h1
    exact .cons _ _ (RepL.strs h2)
theorem RepL.of_strs {X : Addr → Prop} {h : Heap} : ∀ {vs : List Value} {ns : List Str}, StrsAre vs ns → RepL X h vs (ns.map .str)
  | [], [], _ => .nil
  | _, _, .cons _ _ h2 => .cons (.str _ _) (RepL.of_strs h2)
noncomputable abbrev strsV (ss : List Str) : PV := .list (ss.map .str)
theorem sum_ones : ∀ l : List Nat, ((l.map fun k => (⟨#[k]⟩ : Str)).map (·.length)).sum = l.length
  | [] => rfl
  | k :: l => by
    have := sum_ones l
    simp only [List.map_cons, List.sum_cons, List.length_cons] at this ⊢
    rw [this]
    show 1 + l.length = l.length + 1
    omega
theorem fn_join {l : List Nat} (hz : l.length ≤ 10000) : Fn c n (.builtin "str.join") [.str ⟨#[]⟩, strsV (l.map fun k => ⟨#[k]⟩)] (.str ⟨l.toArray⟩) := fun X A E s vs hA _ hl ra => by
  obtain ⟨v, u, rfl, r1, r2⟩ := ra.two
  obtain ⟨t, rfl⟩ := r1.strI
  obtain ⟨a, vs, rfl, ho, hr, _⟩ := r2.listI
  refine lf (join_list ho.isList hr.strs ?_ fun t' k => ?_)
  · rw [sum_ones]
    show l.length + _ * 0 ≤ _
    omega
  · have e : Txt.join ⟨#[]⟩ (l.map fun k => (⟨#[k]⟩ : Str)) = ⟨l.toArray⟩ := (StrLaws.glued_eq_join _ _).trans (join_ones l)
    rw [e]
    exact ⟨Kp.tok, .str _ _⟩
theorem fn_sorted {ns ms : List Int} (hz : ns.length < 64) (hp : ms.Perm ns) (hs : ms.Pairwise (· ≤ ·)) : Fn c n (.builtin "sorted") [intsV ns] (intsV ms) := fun X A E s vs hA _ hl ra => by
  obtain ⟨v, rfl, r1⟩ := ra.one
  obtain ⟨a, vs, rfl, ho, hr, _⟩ := r1.listI
  have hlen := hr.length
  rw [List.length_map] at hlen
  refine lf (sorted_ints ho.isList hr.ints (by omega) fun out ns' h1 h2 h3 => ?_)
  obtain ⟨e, he⟩ := sortedAll_at s.heap vs out
  have heq : ns' = ms := List.Perm.eq_of_pairwise (fun x y _ _ h1 h2 => Int.le_antisymm h1 h2) h3 hs (h2.trans hp.symm)
  subst heq
  refine ⟨Kp.ofH fun b o hb => sortedAll_old hb, .list (vs := out.toList) (hl.no ?_) ⟨e, he⟩ (RepL.of_ints h1)⟩
  exact get_ge (Nat.le_succ _)
theorem readsAll_strs {h : Heap} : ∀ {vs : List Value} {ss : List Str}, StrsAre vs ss → ReadsAll h vs (ss.map PyData.str) []
  | _, _, .nil => .nil
  | _, _, .cons k t r => by
    have := ReadsAll.cons (Reads.str (h := h) k t) (readsAll_strs (h := h) r)
    simpa using this
theorem reads_strs {h : Heap} {a : Addr} {vs : List Value} {ss : List Str} (hl : h.IsList a vs.toArray) (hi : StrsAre vs ss) : Reads h (.ref a) (.list (ss.map PyData.str)) [a] := by
  obtain ⟨o, ho, hc, n, hd⟩ := hl
  exact Reads.list ho hc hd (by simpa using readsAll_strs hi)
theorem canLay_strs : ∀ ss : List Str, (∀ x ∈ ss, PyData.strOk x = true) → PyData.canLayAll0 (ss.map PyData.str) = true
  | [], _ => by simp [PyData.canLayAll0]
  | n :: r, h => by simp [PyData.canLayAll0, PyData.canLay0, canLay_strs r fun x hx => h x (List.mem_cons_of_mem _ hx), h n List.mem_cons_self]
theorem depth_strs : ∀ ns : List Str, PyData.depthAll (ns.map PyData.str) ≤ 1
  | [] => by simp [PyData.depthAll]
  | n :: r => by
    have := depth_strs r
    simp only [List.map_cons, PyData.depthAll, PyData.depth]
    omega
theorem shaped_strs (ns : List Str) (hok : ∀ x ∈ ns, PyData.strOk x = true) : shaped (.list (ns.map PyData.str)) = true := by
  have h1 := depth_strs ns
  have h2 : PyData.depth (.list (ns.map PyData.str)) ≤ 64 := by simp only [PyData.depth]; omega
  show (PyData.canLay0 (.list (ns.map PyData.str)) && decide (PyData.depth (.list (ns.map PyData.str)) ≤ 64)) = true
  rw [Bool.and_eq_true]
  exact ⟨by simp only [PyData.canLay0]; exact canLay_strs ns hok, decide_eq_true h2⟩
theorem noMix_strs : ∀ ns ms : List Str, noMixAll (ns.map PyData.str) (ms.map PyData.str) = true
  | [], [] => by simp [noMixAll]
  | [], _ :: _ => by simp [noMixAll]
  | _ :: _, [] => by simp [noMixAll]
  | _ :: r, _ :: q => by simp [noMixAll, noMix, noMix_strs r q]
theorem same_strs : ∀ ns ms : List Str, PySem.Spec.sameAll (ns.map PyData.str) (ms.map PyData.str) = decide (ns = ms)
  | [], [] => by simp [PySem.Spec.sameAll]
  | [], _ :: _ => by simp [PySem.Spec.sameAll]
  | _ :: _, [] => by simp [PySem.Spec.sameAll]
  | n :: r, k :: q => by
    simp only [List.map_cons, PySem.Spec.sameAll, PySem.Spec.same, same_strs r q]
    by_cases h : n = k <;> simp [h]
theorem cmp_neSs {a b : List Str} (ha : ∀ x ∈ a, PyData.strOk x = true) (hb : ∀ x ∈ b, PyData.strOk x = true) : Cmp c n .NotEq (strsV a) (strsV b) (!decide (a = b)) := fun A E s va vb hA _ ra rb => by
  obtain ⟨l, vs, rfl, ho, hr, _⟩ := ra.listI
  obtain ⟨l', vs', rfl, ho', hr', _⟩ := rb.listI
  refine ne_dataH_same (reads_strs ho.isList hr.strs) (reads_strs ho'.isList hr'.strs) (shaped_strs a ha) (shaped_strs b hb) hA.u64 (by simp only [noMix]; exact noMix_strs a b) ?_
  simp only [PySem.Spec.same]
  rw [same_strs]
  exact ⟨Kp.refl _, rfl⟩

namespace BJ
theorem slot : Slot "bytes" "join" "bytes.join" :=
  .of (owner := "bytes") (n := "join") (by rw [typeLookup_type, builtinLookup_eq_fast]; kernel_rfl) (by decide +kernel) (by decide +kernel) (by decide +kernel)
    (by first | exact .inl (by decide +kernel) | exact .inr (by decide +kernel)) (by rw [isSubtype_type]; kernel_rfl)
theorem ty : typeOf (.builtin "bytes.join") = pure (.type "method_descriptor") := by show builtinType _ = _; rw [builtinType_eq_fast]; kernel_rfl
theorem entry : entryFor table "bytes.join" = some Builtin.«bytes.join» := by first | exact entryFor_of_fast (by kernel_rfl) | exact entryFor_of_tree (by kernel_rfl)
theorem args (a b : Value) : argsOk "bytes.join" ⟨[a, b], []⟩ := by unfold argsOk; kernel_rfl
theorem buf : typeLookup (.type "bytes") "__buffer__" = pure (some (.builtin "bytes.__buffer__")) := by rw [typeLookup_type, builtinLookup_eq_fast]; kernel_rfl
theorem rel : typeLookup (.type "bytes") "__release_buffer__" = pure none := by rw [typeLookup_type, builtinLookup_eq_fast]; kernel_rfl
theorem ends1 : ("bytes.__buffer__".endsWith ("." ++ "__buffer__")) = true := by decide +kernel
theorem drop1 : ("bytes.__buffer__".dropRight ("__buffer__".length + 1)) = "bytes" := by decide +kernel
section
variable {prog : Program} {w : World} {A : Around} {E : Value → Shared → Prop} {s : Shared}
theorem take {id : String} {b : List UInt8} {t : Tok} {Q : Option (Array UInt8 × Option Value) → Shared → Prop} (hq : Q (some (b.toArray, none)) s) :
    wpAny (model prog w) A (Builtin.Bytes.takeBufferQuiet? id (.bytes b.toArray t) 0) Q E s := by
  have hT : s.TypeIs (.bytes b.toArray t) "bytes" := PySem.W.typeIs_bytes _ _ _
  have own : ∀ {Q' : Bool → Shared → Prop}, Q' true s → wpAny (model prog w) A (Builtin.Bytes.slotIsOwn (.bytes b.toArray t) "__buffer__") Q' (fun _ _ => False) s := fun h => by
    unfold Builtin.Bytes.slotIsOwn
    refine wpAny_bind (wpAny_specialOf hT buf ?_)
    dsimp only
    rw [ends1, drop1]
    exact wpAny_isInstance hT F.bm_sub h
  unfold Builtin.Bytes.takeBufferQuiet?
  refine wpAny_bind (wpAny_attempt (wpAny_mono (?_ : wpAny _ _ _ (fun r s' => r = some (b.toArray, none) ∧ s' = s) (fun _ _ => False) s) (fun r s' h => by obtain ⟨rfl, rfl⟩ := h; exact wpAny_pure hq) fun _ _ h => h.elim))
  unfold Builtin.Bytes.takeBuffer?
  refine wpAny_bind (wpAny_specialOf hT buf ?_)
  try dsimp only
  refine wpAny_bind (own ?_)
  refine bm_if_false rfl ?_
  refine wpAny_bind (wpAny_specialOf hT buf ?_)
  try dsimp only
  refine wpAny_bind ?_
  unfold Builtin.Bytes.buffer?
  refine wpAny_bind (wpAny_specialOf hT buf ?_)
  try dsimp only
  refine wpAny_bind (own ?_)
  refine bm_if_false rfl ?_
  refine wpAny_bind (wpAny_specialOf hT buf ?_)
  try dsimp only
  refine wpAny_bind ?_
  unfold Builtin.Bytes.ownRelease Builtin.Bytes.slotIsOwn
  refine wpAny_bind (wpAny_bind (wpAny_specialOf hT rel (wpAny_pure (wpAny_pure ?_))))
  refine bm_if_false rfl ?_
  refine wpAny_bind ?_
  unfold Builtin.Bytes.payload Builtin.Bytes.payload?
  exact wpAny_bind (wpAny_pure (wpAny_pure (wpAny_pure (wpAny_pure ⟨rfl, rfl⟩))))
theorem letGo_ : ∀ (taken : List (Value × Option Value)) (keep : List Value) {Q : Unit → Shared → Prop}, (∀ x ∈ taken, x.2 = none) → Q () s → wpAny (model prog w) A (Builtin.Bytes.joinLetGo taken keep) Q E s
  | [], _, _, _, h => wpAny_pure h
  | (x, u) :: r, keep, Q, hn, h => by
    have hu : u = none := hn _ List.mem_cons_self
    subst hu
    unfold Builtin.Bytes.joinLetGo
    refine wpAny_bind (wpAny_letGo ?_)
    exact letGo_ r keep (fun y hy => hn y (List.mem_cons_of_mem _ hy)) h
theorem range_fold {β : Type} (I : Nat → β → Prop) {f : Nat → β → Sem (ForInStep β)} {Q : β → Shared → Prop} : ∀ (m i : Nat) (b : β), I i b → (∀ j b, i ≤ j → j < i + m → I j b → wpAny (model prog w) A (f j b) (fun r s' => s' = s ∧ ∃ b', r = .yield b' ∧ I (j + 1) b') E s) →
    (∀ b, I (i + m) b → Q b s) → wpAny (model prog w) A (forIn (List.range' i m) b f) Q E s
  | 0, i, b, hI, _, done => by
    rw [List.range'_zero, List.forIn_nil]
    exact wpAny_pure (done b (by simpa using hI))
  | m + 1, i, b, hI, step, done => by
    rw [List.range'_succ, List.forIn_cons]
    refine wpAny_bind (wpAny_mono (step i b (Nat.le_refl _) (by omega) hI) (fun r s' h => ?_) fun _ _ e => e)
    obtain ⟨hs, b', rfl, hI'⟩ := h
    rw [hs]
    exact range_fold I m (i + 1) b' hI' (fun j b h1 h2 => step j b (by omega) (by omega)) (fun b hb => done b (by rwa [show i + (m + 1) = i + 1 + m by omega]))
end
end BJ
end Mine
end

section
open PySem PySem.W PySem.Calls PyProof.Rows PySem.SeqAt
open Sem (wp)
set_option Elab.async false
set_option maxRecDepth 100000
set_option linter.unusedVariables false
set_option linter.deprecated false
namespace Mine
namespace BJ
section
variable {prog : Program} {w : World} {A : Around} {E : Value → Shared → Prop} {s : Shared}
theorem size_sum : ∀ (bs : List (List UInt8)) (k : Nat), Array.foldl (fun x1 x2 => x1 + x2.size) k (bs.map List.toArray).toArray = k + bs.flatten.length := by
  intro bs
  simp only [List.size_toArray, List.foldl_toArray']
  induction bs with
  | nil => intro k; simp
  | cons b r ih => intro k; simp only [List.map_cons, List.foldl_cons, List.flatten_cons, List.length_append]; rw [ih]; simp; omega
theorem joined_nil : ∀ bs : List (List UInt8), Builtin.Bytes.joined #[] (bs.map List.toArray) = bs.flatten.toArray := by
  intro bs
  unfold Builtin.Bytes.joined
  have aux : ∀ (bs : List (List UInt8)) (i : Nat) (acc : List UInt8), ((bs.map List.toArray).zipIdx i).foldl (fun out (x : Array UInt8 × Nat) => (if x.2 > 0 then out ++ #[] else out) ++ x.1) acc.toArray = (acc ++ bs.flatten).toArray := by
    intro bs
    induction bs with
    | nil => intro i acc; simp
    | cons b r ih =>
      intro i acc
      rw [List.map_cons, List.zipIdx_cons, List.foldl_cons]
      have e : ((if i > 0 then acc.toArray ++ #[] else acc.toArray) ++ b.toArray) = (acc ++ b).toArray := by
        split <;> simp
      dsimp only
      rw [e, ih, List.flatten_cons, List.append_assoc]
  simpa using aux bs 0 []
set_option maxHeartbeats 1000000 in
theorem run {l : Addr} {vs : List Value} {bs : List (List UInt8)} {t : Tok} {Q : Fin → Shared → Prop} {X : Addr → Prop} (hl : s.heap.IsList l vs.toArray) (hr : RepL X s.heap vs (bs.map .bytes)) (hz : bs.flatten.length ≤ 10000)
    (hQ : ∀ t' k, Q (.done (.ret (.bytes bs.flatten.toArray t'))) { s with toks := k }) :
    wpAny (model prog w) A (Builtin.«bytes.join» ⟨[.bytes #[] t, .ref l], []⟩) Q E s := by
  obtain ⟨o, ho, hc, m, hd⟩ := id hl
  have seq : ∀ {Q' : Option (Array Value) → Shared → Prop}, Q' (some vs.toArray) s → wpAny (model prog w) A (seqItems? (.ref l)) Q' E s := fun h => by
    unfold seqItems?
    refine wpAny_bind (wpAny_load ho ?_)
    rw [hd]
    exact wpAny_pure h
  have hlen := hr.length
  rw [List.length_map] at hlen
  unfold Builtin.«bytes.join» Builtin.Bytes.joinM
  refine wpAny_bind (wpAny_of_eq (a := (Value.bytes #[] t, Value.ref l)) rfl ?_)
  show wpAny _ _ (Builtin.Bytes.joinItems (.ref l) >>= _) _ _ _
  refine wpAny_bind ?_
  unfold Builtin.Bytes.joinItems
  refine wpAny_bind (wpAny_typeOf hl.typeIs ?_)
  refine bm_if_true (by decide) ?_
  refine wpAny_pure ?_
  refine wpAny_bind (seq ?_)
  dsimp only
  refine bm_if_true (by decide) ?_
  by_cases h1 : vs.length = 1
  · obtain ⟨v, rfl⟩ := List.length_eq_one_iff.mp h1
    obtain ⟨b, rfl⟩ : ∃ b, bs = [b] := List.length_eq_one_iff.mp (by rw [← hlen]; rfl)
    obtain ⟨tt, rfl⟩ : ∃ tt, v = .bytes b.toArray tt := by
      cases hr with | cons h _ => exact h.bytesI
    refine wpAny_bind (wpAny_typeOf (PySem.W.typeIs_bytes _ _ _) ?_)
    refine bm_if_true (by decide) ?_
    refine wpAny_bind (wpAny_rule (wpAny_pure ?_))
    have := hQ tt s.toks
    have e : [b].flatten = b := by simp
    rw [e] at this
    exact this
  · have hm : ∀ {α : Type} (f : Value → α) (g : Array Value → α), (match vs.toArray with | #[x] => f x | x => g x) = g vs.toArray := by
      intro α f g
      rcases vs with _ | ⟨v, _ | ⟨u, r⟩⟩
      · rfl
      · exact absurd rfl h1
      · rfl
    refine (congrArg (fun t => wpAny _ _ t _ _ _) (hm _ _)).mpr ?_
    · rw [Std.Legacy.Range.forIn_eq_forIn_range']
      refine wpAny_bind ?_
      refine range_fold (fun j (b : Array (Array UInt8) × List (Value × Option Value)) => b.1 = ((bs.take j).map List.toArray).toArray ∧ b.2 = (vs.take j).map fun v => (v, none)) _ 0 _ ⟨by simp, by simp⟩ ?_ ?_
      · rintro j ⟨parts, taken⟩ _ hj ⟨e1, e2⟩
        simp only at e1 e2
        subst e1 e2
        have hj' : j < vs.length := by simpa using hj
        dsimp only
        refine wpAny_bind (seq ?_)
        obtain ⟨p, hp, rp⟩ := hr.getv (List.getElem?_eq_getElem hj')
        rw [List.getElem?_map] at hp
        obtain ⟨b, hb, rfl⟩ : ∃ b, bs[j]? = some b ∧ PV.bytes b = p := by
          cases hb : bs[j]? with
          | none => rw [hb] at hp; cases hp
          | some b => rw [hb] at hp; cases hp; exact ⟨b, rfl, rfl⟩
        obtain ⟨tt, hv⟩ := rp.bytesI
        have hx : vs.toArray.getD j Value.none = .bytes b.toArray tt := by
          simp [Array.getD, hj', hv]
        dsimp only
        rw [hx]
        refine bm_if_false ?_ ?_
        · rw [Bool.or_eq_false_iff]
          refine ⟨by decide, ?_⟩
          rw [List.any_eq_false]
          intro y hy
          obtain ⟨u, hu, rfl⟩ := List.mem_map.mp hy
          have hu' := List.mem_of_mem_take hu
          obtain ⟨i, hi, rfl⟩ := List.getElem_of_mem hu'
          obtain ⟨q, hq, rq⟩ := hr.getv (List.getElem?_eq_getElem hi)
          rw [List.getElem?_map] at hq
          cases hb2 : bs[i]? with
          | none => rw [hb2] at hq; cases hq
          | some b2 =>
            rw [hb2] at hq; cases hq
            obtain ⟨t2, h2⟩ := rq.bytesI
            rw [h2]; exact Bool.false_ne_true
        refine wpAny_bind (wpAny_holding (take ?_))
        dsimp only
        refine wpAny_bind (seq ?_)
        dsimp only
        refine bm_if_false (by simp) ?_
        refine wpAny_pure ⟨rfl, _, rfl, ?_, ?_⟩
        · simp only
          rw [List.take_add_one, hb]
          simp
        · simp only
          rw [List.take_add_one, List.getElem?_eq_getElem hj', hv]
          simp
      · rintro ⟨parts, taken⟩ ⟨e1, e2⟩
        simp only [Nat.zero_add] at e1 e2
        have hb : bs.take vs.toArray.size = bs := List.take_of_length_le (by simp; omega)
        have e3 : [:vs.toArray.size].size = vs.toArray.size := by simp [Std.Legacy.Range.size]
        rw [e3, hb] at e1
        subst e1 e2
        dsimp only
        refine wpAny_bind ?_
        unfold Builtin.Bytes.payload Builtin.Bytes.payload?
        refine wpAny_bind (wpAny_pure (wpAny_pure ?_))
        refine bm_if_false ?_ ?_
        · rw [size_sum]
          unfold Builtin.Bytes.tooLong
          simp only [decide_eq_false_iff_not, sizeLine_eq]
          show ¬ (0 * _ + bs.flatten.length > _)
          rw [Nat.zero_mul, Nat.zero_add]
          omega
        · refine wpAny_bind ?_
          show wpAny _ _ (mkBytes _) _ _ _
          rw [joined_nil]
          refine wpAny_mkBytes ?_ (by rw [List.size_toArray, sizeLine_eq]; omega)
          refine wpAny_bind (wpAny_holding (wpAny_point ?_))
          refine wpAny_bind (letGo_ _ _ (by simp) ?_)
          exact wpAny_pure (hQ _ _)
end
end BJ
variable {c : Cx} {n : Nat}
theorem fn_bjoin {bs : List (List UInt8)} (hz : bs.flatten.length ≤ 10000) : Fn c n (.builtin "bytes.join") [.bytes [], bytesV bs] (.bytes bs.flatten) := fun X A E s vs hA _ hl ra => by
  obtain ⟨v, u, rfl, r1, r2⟩ := ra.two
  obtain ⟨t, rfl⟩ := r1.bytesI
  obtain ⟨a, vs, rfl, ho, hr, _⟩ := r2.listI
  refine lf (wpAny_call_entry BJ.slot (PySem.W.typeIs_bytes _ _ _) BJ.entry (BJ.run ho.isList hr hz fun t' k => ⟨_, rfl, Kp.tok, .bytes _ _⟩) (BJ.args _ _))
end Mine
end

section
open PySem PySem.W PySem.Calls PyProof.Rows
open Sem (wp)
set_option Elab.async false
set_option linter.unusedVariables false
namespace Mine
variable {c : Cx} {n : Nat} {env : Env} {ρ : List (Str × PV)} {X : Addr → Prop} {D : Addr} {s₀ s s' : Shared} {p : PV} {x : Str}

noncomputable abbrev XD (X : Addr → Prop) (D : Addr) : Addr → Prop := fun b => X b ∨ b = D
/-- what an own object holds -/
noncomputable def OwnV (D : Addr) (p : PV) (s : Shared) : Prop := match p with
  | .list ps => ∃ vs : List Value, s.heap.PlainList D vs.toArray ∧ ∀ (X : Addr → Prop) (h : Heap), RepL X h vs ps
  | .barr b => IsBA s.heap D b
  | _ => False
theorem OwnV.keep (x : OwnV D p s) (hk : ∀ o, s.heap.get? D = some o → s'.heap.get? D = some o) : OwnV D p s' := by
  unfold OwnV at *
  cases p with
  | list ps => obtain ⟨vs, ⟨m, ho⟩, hr⟩ := x; exact ⟨vs, ⟨m, hk _ ho⟩, hr⟩
  | barr b => exact hk _ x
  | _ => exact x.elim
theorem OwnV.stands (x : OwnV D p s) : ∃ o, s.heap.get? D = some o := by
  unfold OwnV at x
  cases p with
  | list ps => obtain ⟨vs, ⟨m, ho⟩, hr⟩ := x; exact ⟨_, ho⟩
  | barr b => exact ⟨_, x⟩
  | _ => exact x.elim
theorem OwnV.rep (x : OwnV D p s) (hx : ¬ X D) : Rep X s.heap (.ref D) p := by
  unfold OwnV at x
  cases p with
  | list ps => obtain ⟨vs, ho, hr⟩ := x; exact .list hx ho (hr _ _)
  | barr b => exact .barr hx x
  | _ => exact x.elim
theorem OwnV.dt (x : OwnV D p s) {o : Obj} (e : s.heap.get? D = some o) : Kd o := by
  unfold OwnV at x
  cases p with
  | list ps => obtain ⟨vs, ⟨m, ho⟩, hr⟩ := x; rw [ho] at e; cases e; exact trivial
  | barr b => have x : s.heap.get? D = _ := x; rw [x] at e; cases e; exact trivial
  | _ => exact x.elim
structure FmO (c : Cx) (X : Addr → Prop) (D : Addr) (s₀ : Shared) (env : Env) (ρ : List (Str × PV)) (p : PV) (s : Shared) : Prop where
  fm : FmP c (XD X D) s₀ env ρ s
  nx : ¬ X D
  n0 : s₀.heap.get? D = none
  own : OwnV D p s

theorem FmO.kp' (F : FmO c X D s₀ env ρ p s) (k : Kp s s') : FmO c X D s₀ env ρ p s' := ⟨F.fm.kp' k, F.nx, F.n0, F.own.keep fun o e => k.heap _ o e⟩
/-- the frame, read with the own thing in it -/
theorem FmO.readR (F : FmO c X D s₀ env ρ p s) (hx : ρ.lookup x = some (.own D)) : EnvR c X env ((x, p) :: ρ) s := by
  have R := F.fm.envR
  refine ⟨R.kind, R.gl, R.bl, R.glo, fun b hb => R.live b (.inl hb), fun y q hy hv => ?_⟩
  by_cases hyx : y = x
  · subst hyx
    rw [lookup_cons_eq] at hy; cases hy
    obtain ⟨v, L, r⟩ := R.val y _ hx hv
    cases r
    exact ⟨_, L, F.own.rep F.nx⟩
  · rw [lookup_cons_ne hyx] at hy
    obtain ⟨v, L, r⟩ := R.val y q hy hv
    exact ⟨v, L, r.anti fun b hb => .inl hb⟩
/-- the own thing turned -/
theorem FmO.turn (F : FmO c X D s₀ env ρ p s) {h' : Heap} {p' : PV} (hs : Heap.SameBut D s.heap h') (ho : OwnV D p' { s with heap := h' }) : FmO c X D s₀ env ρ p' { s with heap := h' } := by
  obtain ⟨m, cm, hn, hc, hv⟩ := F.fm.fr
  have hD : ∀ b o, b ≠ D → s.heap.get? b = some o → h'.get? b = some o := fun b o hb e => hs.extBut b o hb e
  refine ⟨⟨F.fm.kind, F.fm.gl, F.fm.bl, F.fm.apart, F.fm.above, F.fm.fresh, F.fm.glo, ⟨fun b o e => hD b o (fun h => by rw [h, F.n0] at e; cases e) (F.fm.kp.heap b o e), F.fm.kp.gens, F.fm.kp.bare, F.fm.kp.os⟩, fun b hb => ?_, F.fm.xn, F.fm.xc, m, cm,
    hn.sameBut hs (fun h => F.fm.xn (.inr h)), fun y k hy => (hc y k hy).sameBut hs (fun h => F.fm.xc y k hy (.inr h)), fun y q hy hvis => ?_⟩, F.nx, F.n0, ho⟩
  · by_cases h : b = D
    · exact h ▸ ho.stands
    · obtain ⟨o, e⟩ := F.fm.live b hb
      exact ⟨o, hD b o h e⟩
  · obtain ⟨v, hN, hr⟩ := hv y q hy hvis
    exact ⟨v, hN, hr.keep fun b o hb e _ => hD b o (fun h => hb (.inr h)) e⟩
theorem FmO.dp (F : FmO c X D s₀ env ρ p s) {h' : Heap} (hs : Heap.SameBut D s.heap h') : Dp (XD X D) env s { s with heap := h' } :=
  ⟨fun b o hb e _ => hs.extBut b o (fun h => hb (.inr h)) e, fun b o hb _ _ e => hs.extBut b o (fun h => hb (.inr h)) e, fun _ _ e => e, rfl⟩

/-- an expression whose value is a new object that nothing holds -/
noncomputable def EvN (c : Cx) (n : Nat) (X : Addr → Prop) (env : Env) (ρ : List (Str × PV)) (e : Expr) (p : PV) : Prop :=
  ∀ A E s, AOk n A → EnvR c X env ρ s → wpS c.M A (eval e env) (fun v s' => ∃ D, v = .ref D ∧ s.heap.get? D = none ∧ Kp s s' ∧ OwnV D p s') E s

/-- statements that hand back, with an own object -/
noncomputable def ExRO (c : Cx) (n : Nat) (X : Addr → Prop) (D : Addr) (s₀ : Shared) (env : Env) (ρ : List (Str × PV)) (p : PV) (sts : List Stmt) (r : PV) : Prop :=
  ∀ A E s, AOk n A → FmO c X D s₀ env ρ p s → wpS c.M A (execs sts env) (fun f s' => ∃ v, f = .ret v ∧ Kp s₀ s' ∧ Rep X s'.heap v r) E s
/-- one statement that goes on, with an own object -/
noncomputable def ExO (c : Cx) (n : Nat) (X : Addr → Prop) (D : Addr) (s₀ : Shared) (env : Env) (ρ : List (Str × PV)) (p : PV) (st : Stmt) (ρ' : List (Str × PV)) (p' : PV) : Prop :=
  ∀ A E s, AOk n A → FmO c X D s₀ env ρ p s → wpS c.M A (exec st env) (fun f s' => f = .next ∧ FmO c X D s₀ env ρ' p' s' ∧ Dp (XD X D) env s s') E s
noncomputable def ExOs (c : Cx) (n : Nat) (X : Addr → Prop) (D : Addr) (s₀ : Shared) (env : Env) (ρ : List (Str × PV)) (p : PV) (sts : List Stmt) (ρ' : List (Str × PV)) (p' : PV) : Prop :=
  ∀ A E s, AOk n A → FmO c X D s₀ env ρ p s → wpS c.M A (execs sts env) (fun f s' => f = .next ∧ FmO c X D s₀ env ρ' p' s' ∧ Dp (XD X D) env s s') E s

/-- an own object is made and stored -/
theorem exr_own {xp pos : Pos} {e : Expr} {rest : List Stmt} {r : PV} (he : EvN c n X env ρ e p) (hx : stOk env x = true) (hb : ∀ D, ExRO c n X D s₀ env ((x, .own D) :: ρ) p rest r)
    (hs : swapsWith e (some (.Name x xp)) pos.line env = pure false := by rfl) : ExR c n X s₀ env ρ (.Assign [.Name x xp] e pos :: rest) r :=
  fun A E s hA F => wpS_execs_cons (wpS_Assign_Name (wpS_mono (he A E s hA F.envR) (fun v s₁ h₁ => by
    obtain ⟨D, rfl, hD, k, ho⟩ := h₁
    have nX : ¬ X D := F.live.no hD
    have n0 : s₀.heap.get? D = none := by
      cases e : s₀.heap.get? D with
      | none => rfl
      | some o => have := F.kp.heap D o e; rw [hD] at this; cases this
    obtain ⟨m, cm, hn, hc, hv⟩ := F.fr
    have F1 : FmP c (XD X D) s₀ env ρ s₁ := by
      refine ⟨F.kind, F.gl, F.bl, F.apart, F.above, F.fresh, F.glo, F.kp.trans k, ?_, ?_, ?_, m, cm, hn.keeps k.heap, fun y kk hy => (hc y kk hy).keeps k.heap, fun y q hy hvis => ?_⟩
      · rintro b (hb | rfl)
        · exact (F.live.kp k) b hb
        · exact ho.stands
      · rintro (h | h)
        · exact F.xn h
        · obtain ⟨o, _, _, e, _⟩ := hn
          rw [h, hD] at e; cases e
      · rintro y kk hy (h | h)
        · exact F.xc y kk hy h
        · obtain ⟨o, e, _⟩ := hc y kk hy
          rw [h, hD] at e; cases e
      · obtain ⟨v, hN, hr⟩ := hv y q hy hvis
        exact ⟨v, hN, (hr.weak (Y := XD X D) fun b o hb e _ h => h.elim hb fun h => by rw [h, hD] at e; cases e).kp k⟩
    refine lf (st_name F1 hx (.own D) fun s' F' D' X' => ?_)
    exact hb D A E s' hA ⟨F', nX, n0, ho.keep fun o e => X' D o (.inr rfl) e⟩) fun _ _ e => e) hs)

theorem Kp.fresh (k : Kp s s') : s.heap.get? s'.heap.objs.size = none := by
  cases e : s.heap.get? s'.heap.objs.size with
  | none => rfl
  | some o => have := k.heap _ _ e; rw [get_size] at this; cases this
/-- a new list -/
theorem evn_list {es : List Expr} {pos : Pos} {ps : List PV} (h : EvL c n X env ρ es ps) (hflat : ∀ (X X' : Addr → Prop) (h h' : Heap) vs, RepL X h vs ps → RepL X' h' vs ps) (hz : ps.length ≤ 1000) : EvN c n X env ρ (.List es pos) (.list ps) :=
  fun A E s hA R => wpS_List (wpS_mono (h pos A E s hA R) (fun vs s₁ h₁ => ⟨by
      rw [h₁.2.length]; exact Nat.le_trans hz (by decide), s₁.heap.objs.size, rfl, h₁.1.fresh, h₁.1.trans Kp.push, vs, ⟨_, Heap.get?_push_size _ rfl⟩, fun X' h' => hflat _ _ _ _ _ h₁.2⟩) fun _ _ e => e)
/-- a new bytearray of noughts -/
theorem evn_barr {f : Str} {np pos : Pos} {e : Expr} {k : Int} (hg : c.mg f = none) (hb : c.mb f = some (.type "bytearray")) (hk : env.kindOf f = some .globalImplicit) (he : EvR c n X env ρ e (.int k)) (h0 : 0 ≤ k) (h1 : k ≤ 10000)
    (hes : ∀ env, starEach [e] env = (false, eval e env) :: starEach [] env := by intro _; exact starEach_no rfl)
    (hpl : (backTo pos (starEach [e] env)).any (·.1) = false := by exact plain_no rfl)
    (hd : (f == ("__debug__" : Str)) = false := by decide +kernel) : EvN c n X env ρ (.Call (.Name f np) [e] [] pos) (.barr (List.replicate k.toNat 0)) :=
  fun A E s hA R => by
    refine wpS_Call_Name (ld_bi R hk hg hb ?_ hd)
    refine wpS_callWith_type hpl (args_cons (wpS_mono (evl_cons he evl_nil hes pos A E s hA R) (fun vs s₁ h₁ => ?_) fun _ _ e => e) (hes env))
    obtain ⟨v, rfl, r⟩ := h₁.2.one
    obtain ⟨t, rfl⟩ := r.intI
    exact call_barr_int h0 h1 fun h' hb hk => ⟨_, rfl, h₁.1.fresh, h₁.1.trans (Kp.ofH hk), hb⟩

theorem exro_cons {st : Stmt} {rest : List Stmt} {ρ' : List (Str × PV)} {p' r : PV} (h1 : ExO c n X D s₀ env ρ p st ρ' p') (h2 : ExRO c n X D s₀ env ρ' p' rest r) : ExRO c n X D s₀ env ρ p (st :: rest) r :=
  fun A E s hA F => wpS_execs_cons (wpS_mono (h1 A E s hA F) (fun f s₁ h₁ => by
    obtain ⟨rfl, F', _⟩ := h₁
    exact h2 A E s₁ hA F') fun _ _ e => e)
theorem exro_ret {e : Expr} {pos : Pos} {r : PV} {rest : List Stmt} (hx : ρ.lookup x = some (.own D)) (he : EvR c n X env ((x, p) :: ρ) e r) : ExRO c n X D s₀ env ρ p (.Return (some e) pos :: rest) r :=
  fun A E s hA F => wpS_execs_cons (wpS_Return (wpS_mono (he A E s hA (F.readR hx)) (fun v s₁ h₁ => ⟨v, rfl, F.fm.kp.trans h₁.1, h₁.2⟩) fun _ _ e => e))
theorem exos_nil : ExOs c n X D s₀ env ρ p [] ρ p := fun A E s hA F => wpS_execs_nil ⟨rfl, F, Dp.of (Kp.refl _)⟩
theorem exos_cons {st : Stmt} {rest : List Stmt} {ρ' ρ'' : List (Str × PV)} {p' p'' : PV} (h1 : ExO c n X D s₀ env ρ p st ρ' p') (h2 : ExOs c n X D s₀ env ρ' p' rest ρ'' p'') : ExOs c n X D s₀ env ρ p (st :: rest) ρ'' p'' :=
  fun A E s hA F => wpS_execs_cons (wpS_mono (h1 A E s hA F) (fun f s₁ h₁ => by
    obtain ⟨rfl, F', Dd⟩ := h₁
    exact wpS_mono (h2 A E s₁ hA F') (fun _ _ h => ⟨h.1, h.2.1, Dd.trans h.2.2⟩) fun _ _ e => e) fun _ _ e => e)
/-- a name stored, the own thing not read -/
theorem exo_assign {y : Str} {xp pos : Pos} {e : Expr} {q : PV} (he : EvR c n (XD X D) env ρ e q) (hy : stOk env y = true)
    (hs : swapsWith e (some (.Name y xp)) pos.line env = pure false := by rfl) : ExO c n X D s₀ env ρ p (.Assign [.Name y xp] e pos) ((y, q) :: ρ) p :=
  fun A E s hA F => wpS_Assign_Name (wpS_mono (he A E s hA F.fm.envR) (fun v s₁ h₁ => lf <| st_name (F.fm.kp' h₁.1) hy h₁.2 fun s' F' Dd X' =>
    ⟨rfl, ⟨F', F.nx, F.n0, (F.own.keep fun o e => h₁.1.heap _ _ e).keep fun o e => X' D o (.inr rfl) e⟩, (Dp.of h₁.1).trans Dd.up⟩) fun _ _ e => e) hs
theorem exo_if {t : Expr} {body orelse : List Stmt} {pos : Pos} {b : Bool} {ρ' : List (Str × PV)} {p' : PV} (hx : ρ.lookup x = some (.own D)) (ht : EvT c n X env ((x, p) :: ρ) t b) (h1 : b = true → ExOs c n X D s₀ env ρ p body ρ' p') (h0 : b = false → ExOs c n X D s₀ env ρ p orelse ρ' p') :
    ExO c n X D s₀ env ρ p (.If t body orelse pos) ρ' p' :=
  fun A E s hA F => wpS_If (wpS_mono (ht A E s hA (F.readR hx)) (fun v s₁ h₁ => by
    obtain ⟨k, rfl⟩ := h₁
    cases v with
    | true => exact wpS_mono (h1 rfl A E s₁ hA (F.kp' k)) (fun _ _ h => ⟨h.1, h.2.1, (Dp.of k).trans h.2.2⟩) fun _ _ e => e
    | false => exact wpS_mono (h0 rfl A E s₁ hA (F.kp' k)) (fun _ _ h => ⟨h.1, h.2.1, (Dp.of k).trans h.2.2⟩) fun _ _ e => e) fun _ _ e => e)
theorem exo_drop {st : Stmt} {ρ' ρ'' : List (Str × PV)} {p' : PV} (h : ExO c n X D s₀ env ρ p st ρ' p') (hd : ∀ n p, ρ''.lookup n = some p → vis env n = true → ρ'.lookup n = some p) : ExO c n X D s₀ env ρ p st ρ'' p' :=
  fun A E s hA F => wpS_mono (h A E s hA F) (fun _ _ h => ⟨h.1, ⟨h.2.1.fm.drop hd, h.2.1.nx, h.2.1.n0, h.2.1.own⟩, h.2.2⟩) fun _ _ e => e
theorem exos_drop {st : List Stmt} {ρ' ρ'' : List (Str × PV)} {p' : PV} (h : ExOs c n X D s₀ env ρ p st ρ' p') (hd : ∀ n p, ρ''.lookup n = some p → vis env n = true → ρ'.lookup n = some p) : ExOs c n X D s₀ env ρ p st ρ'' p' :=
  fun A E s hA F => wpS_mono (h A E s hA F) (fun _ _ h => ⟨h.1, ⟨h.2.1.fm.drop hd, h.2.1.nx, h.2.1.n0, h.2.1.own⟩, h.2.2⟩) fun _ _ e => e
/-- data that hold no address -/
noncomputable def flatP : PV → Bool
  | .int _ | .str _ | .bytes _ | .bool _ | .none => true
  | _ => false
theorem flatP.rep {q : PV} (hq : flatP q = true) {X X' : Addr → Prop} {h h' : Heap} {v : Value} (r : Rep X h v q) : Rep X' h' v q := by
  cases r with
  | int i t => exact .int _ _
  | str i t => exact .str _ _
  | bytes i t => exact .bytes _ _
  | bool b => exact .bool _
  | none => exact .none
  | _ => cases hq
/-- append -/
theorem exo_append {xp apos cpos pos : Pos} {e : Expr} {ps : List PV} {q : PV} (hx : ρ.lookup x = some (.own D)) (hv : vis env x = true) (he : EvR c n X env ((x, .list ps) :: ρ) e q) (hq : flatP q = true) (hz : ps.length ≤ 10000)
    (hi : interactive env = false := by rfl) (hsw : swapsWith (.Call (.Attribute (.Name x xp) "append" apos) [e] [] cpos) none pos.line env = pure false := by rfl)
    (hfew : ((backTo cpos (starEach [e] env)).all (fun x => !x.1) && (backToKw cpos (keywordEach [] env)).all (fun x => x.1.isSome)
      && decide ([e].length + ([] : List Keyword).length + (if ([] : List Keyword).isEmpty then 0 else 1) < 30)) = true := by rfl)
    (hline : (apos.endLine == cpos.line) = true := by rfl)
    (hes : ∀ env, starEach [e] env = (false, eval e env) :: starEach [] env := by intro _; exact starEach_no rfl)
    (hpl : (backTo cpos (starEach [e] env)).any (·.1) = false := by exact plain_no rfl) (hd : (x == ("__debug__" : Str)) = false := by decide +kernel) :
    ExO c n X D s₀ env ρ (.list ps) (.Expr (.Call (.Attribute (.Name x xp) "append" apos) [e] [] cpos) pos) ρ (.list (ps ++ [q])) :=
  fun A E s hA F => by
    rw [exec_Expr env _ _ hi hsw]
    refine wpS_bind (wpS_standAt (wpS_bind ?_))
    rw [arm_eval_Call, show attributeBase (.Name x xp) "append" env (eval (.Name x xp) env) = eval (.Name x xp) env from rfl]
    refine wpS_bind (wpS_mono (ev_name (n := n) (pos := xp) hx hv hd A E s hA F.fm.envR) (fun ov s₁ h₁ => wpS_bind (wpS_standAt ?_)) fun _ _ e => e)
    obtain ⟨k1, r1⟩ := h₁
    cases r1
    have F1 := F.kp' k1
    obtain ⟨vs, ⟨m, ho⟩, hr⟩ := F1.own
    have hform : methodCallForm ([e].length + ([] : List Keyword).length) (backTo cpos (starEach [e] env)) (backToKw cpos (keywordEach [] env)) = true := hfew
    have hpos : methodCallPos true (.Name x xp) env apos cpos = pure cpos := by unfold methodCallPos; simp [hline]
    unfold methodCall
    rw [hform]
    refine wpS_bind (wpS_holding (lf (getMethod_list_append ho rfl rfl ?_)))
    refine wpS_bind (wpS_of_eq hpos ?_)
    refine wpS_callWith_builtin hpl (args_cons (wpS_mono (evl_cons he evl_nil hes cpos A E s₁ hA (F1.readR hx)) (fun as s₂ h₂ => ?_) fun _ _ e => e) (hes env))
    obtain ⟨v, rfl, rv⟩ := h₂.2.one
    have F2 := F1.kp' h₂.1
    obtain ⟨vs2, hl2, hr2⟩ := F2.own
    have hlen := (hr2 X0 s.heap).length
    refine lf (wpAny_list_append_plain (hsz := by rw [List.size_toArray, sizeLine_eq]; omega) hl2 fun h' hl' hs' => ?_)
    have ho' : OwnV D (.list (ps ++ [q])) { s₂ with heap := h' } := ⟨vs2 ++ [v], by simpa using hl', fun X' h'' => (hr2 X' h'').append (.cons (flatP.rep hq rv) .nil)⟩
    exact wpS_pure ⟨rfl, F2.turn hs' ho', (Dp.of (k1.trans h₂.1)).trans (F2.dp hs')⟩
/-- a for loop whose turns turn the own thing -/
theorem exo_for {y : Str} {xp pos : Pos} {it : Expr} {body : List Stmt} {q : PV} {xs : List PV} (f : Nat → PV)
    (hi : EvR c n (XD X D) env ρ it q) (hI : Iter c (XD X D) q xs) (hy : stOk env y = true)
    (hb : ∀ (i : Nat) u, xs[i]? = some u → ∃ ρ', ExOs c n X D s₀ env ((y, u) :: ρ) (f i) body ρ' (f (i + 1)) ∧ ∀ m r, ρ.lookup m = some r → vis env m = true → ρ'.lookup m = some r)
    (hfs : ∀ v, foldedSetIterable it env v = pure v := by intro _; rfl) : ExO c n X D s₀ env ρ (f 0) (.For (.Name y xp) it body [] pos) ρ (f xs.length) :=
  fun A E s hA F => wpS_mono (for_core (fun i s => OwnV D (f i) s) (fun i s s' J hk => J.keep fun o e => hk D o (.inr rfl) e) hi hI hy (fun A E s i u hA hu F1 J => by
    obtain ⟨ρ', h1, h2⟩ := hb i u hu
    exact wpS_mono (h1 A E s hA ⟨F1, F.nx, F.n0, J⟩) (fun g s' h => ⟨.inl h.1, h.2.1.fm.drop h2, h.2.1.own, h.2.2⟩) fun _ _ e => e) hfs hA F.fm F.own) (fun g s' h => ⟨h.1, ⟨h.2.1, F.nx, F.n0, h.2.2.1⟩, h.2.2.2⟩) fun _ _ e => e

/-- an octet of the own bytearray stored -/
theorem exo_store {xp p1 pos : Pos} {e ie : Expr} {b : List UInt8} {v k : Int} (hx : ρ.lookup x = some (.own D)) (hv : vis env x = true) (he : EvR c n (XD X D) env ρ e (.int v)) (hi : EvR c n (XD X D) env ρ ie (.int k)) (hz : b.length ≤ 10000)
    (h0 : 0 ≤ k) (h1 : k < b.length) (hv0 : 0 ≤ v) (hv1 : v < 256)
    (hs : swapsWith e (some (.Subscript (.Name x xp) ie p1)) pos.line env = pure false := by rfl) (hns : (match ie with | .Slice _ _ none _ => true | _ => false) = false := by rfl)
    (hd : (x == ("__debug__" : Str)) = false := by decide +kernel) :
    ExO c n X D s₀ env ρ (.barr b) (.Assign [.Subscript (.Name x xp) ie p1] e pos) ρ (.barr (b.set k.toNat v.toNat.toUInt8)) :=
  fun A E s hA F => by
    rw [exec_Assign_Subscript _ _ _ _ _ hs]
    refine wpS_bind (wpS_standAt (wpS_bind (wpS_mono (he A E s hA F.fm.envR) (fun v1 s₁ h₁ => ?_) fun _ _ e => e)))
    obtain ⟨k1, r1⟩ := h₁
    obtain ⟨t1, rfl⟩ := r1.intI
    have F1 := F.kp' k1
    rw [PySem.assign_Subscript]
    refine wpS_bind (wpS_bind (wpS_holding (wpS_mono (ev_name (n := n) (pos := xp) hx hv hd A E s₁ hA F1.fm.envR) (fun ov s₂ h₂ => ?_) fun _ _ e => e)))
    obtain ⟨k2, r2⟩ := h₂
    cases r2
    have F2 := F1.kp' k2
    refine wpS_bind (wpS_holding (wpS_mono (hi A E s₂ hA F2.fm.envR) (fun iv s₃ h₃ => ?_) fun _ _ e => e))
    obtain ⟨k3, r3⟩ := h₃
    obtain ⟨t3, rfl⟩ := r3.intI
    have F3 := F2.kp' k3
    refine wpS_bind (wpS_standAt (wpS_bind (wpS_holding (lf (store_barr F3.own hz h0 h1 hv0 hv1 fun h' hb' hs' => ?_)))))
    have F4 := F3.turn (p' := .barr (b.set k.toNat v.toNat.toUInt8)) hs' hb'
    intro Γ q hΓ hC
    rw [Sem.wp_release]
    exact wpS_pure ⟨rfl, F4, (Dp.of (k1.trans (k2.trans k3))).trans (F3.dp hs')⟩
end Mine
end

section
open PySem PySem.W PySem.Calls PyProof.Rows
open Sem (wp)
set_option Elab.async false
set_option maxRecDepth 100000
set_option linter.unusedVariables false
namespace Mine
noncomputable def nthD (i : Nat) : Dfn := defList.getD i ("", ⟨[], [], none, [], [], none, []⟩, [], { kind := .function, names := [], isGenerator := false, isCoroutine := false, more := [] })
theorem nthD_mem {i : Nat} (h : i < 11) : nthD i ∈ defList := by
  have hl : defList.length = 11 := by decide +kernel
  have hi : i < defList.length := by omega
  have e : nthD i = defList[i] := by
    unfold nthD
    rw [List.getD_eq_getElem?_getD, List.getElem?_eq_getElem hi]; rfl
  rw [e]
  exact List.getElem_mem _
structure IsBi (c : Cx) (x : Str) (v : Value) : Prop where
  g : c.mg x = none
  b : c.mb x = some v
noncomputable abbrev biT : List (Str × Value) := [("len", .builtin "len"), ("range", .type "range"), ("bytes", .type "bytes"), ("isinstance", .builtin "isinstance"), ("sum", .builtin "sum"), ("chr", .builtin "chr"), ("min", .builtin "min"), ("max", .builtin "max"),
  ("sorted", .builtin "sorted"), ("bytearray", .type "bytearray"), ("list", .type "list"), ("int", .type "int"), ("bool", .type "bool"), ("str", .type "str"), ("ValueError", .type "ValueError")]
structure CxOk (c : Cx) : Prop where
  bi : ∀ x v, biT.lookup x = some v → IsBi c x v
  charMax : ∃ t, c.mg "CHAR_MAX" = some (.int 127 t)
section
variable {c : Cx} {n : Nat} {X : Addr → Prop} {env : Env} {ρ : List (Str × PV)}
/-- ints, one after another -/
theorem evli_nil : EvL c n X env ρ [] (([] : List Int).map .int) := evl_nil
theorem evli_cons {e : Expr} {es : List Expr} {i : Int} {ns : List Int} (h1 : EvR c n X env ρ e (.int i)) (h2 : EvL c n X env ρ es (ns.map .int))
    (he : ∀ env, starEach (e :: es) env = (false, eval e env) :: starEach es env := by intro _; exact starEach_no rfl) : EvL c n X env ρ (e :: es) ((i :: ns).map .int) := evl_cons h1 h2 he
theorem ev_listI {es : List Expr} {pos : Pos} {ns : List Int} (h : EvL c n X env ρ es (ns.map .int)) (hz : ns.length ≤ 1000) : EvR c n X env ρ (.List es pos) (intsV ns) := ev_list h (by simpa using hz)
theorem tc {e : Expr} {p : PV} (h : EvR c n X env ρ e p) : EvR c n X env ρ e p := h
theorem ev_bi' (hC : CxOk c) {x : Str} {id : String} {np pos : Pos} {e : Expr} {es : List Expr} {ps : List PV} {r : PV} (hl : biT.lookup x = some (.builtin id)) (hk : env.kindOf x = some .globalImplicit)
    (ha : EvL c n X env ρ (e :: es) ps) (hf : Fn c n (.builtin id) ps r)
    (he : starEach (e :: es) env = (false, eval e env) :: starEach es env := by exact starEach_no rfl)
    (hpl : (backTo pos (starEach (e :: es) env)).any (·.1) = false := by exact plain_no rfl)
    (hd : (x == ("__debug__" : Str)) = false := by decide +kernel) : EvR c n X env ρ (.Call (.Name x np) (e :: es) [] pos) r :=
  ev_bi (hC.bi _ _ hl).g (hC.bi _ _ hl).b hk ha hf he hpl hd
theorem ev_ty' (hC : CxOk c) {x : Str} {T : String} {np pos : Pos} {e : Expr} {es : List Expr} {ps : List PV} {r : PV} (hl : biT.lookup x = some (.type T)) (hk : env.kindOf x = some .globalImplicit)
    (ha : EvL c n X env ρ (e :: es) ps) (hf : Fn c n (.type T) ps r)
    (he : starEach (e :: es) env = (false, eval e env) :: starEach es env := by exact starEach_no rfl)
    (hpl : (backTo pos (starEach (e :: es) env)).any (·.1) = false := by exact plain_no rfl)
    (hd : (x == ("__debug__" : Str)) = false := by decide +kernel) : EvR c n X env ρ (.Call (.Name x np) (e :: es) [] pos) r :=
  ev_ty (hC.bi _ _ hl).g (hC.bi _ _ hl).b hk ha hf he hpl hd
theorem ev_tyname' (hC : CxOk c) {x : Str} {T : String} {pos : Pos} (hl : biT.lookup x = some (.type T)) (hk : env.kindOf x = some .globalImplicit) (hd : (x == ("__debug__" : Str)) = false := by decide +kernel) : EvR c n X env ρ (.Name x pos) (.ty T) :=
  ev_tyname (hC.bi _ _ hl).g (hC.bi _ _ hl).b hk hd
theorem ev_def' {i : Nat} (hi : i < 11) {nm : Str} {np pos : Pos} {e : Expr} {es : List Expr} {ps : List PV} {r : PV} (hnm : (nthD i).1 = nm) (hk : env.kindOf nm = some .globalImplicit)
    (ha : EvL c n X env ρ (e :: es) ps) (hf : FnD c n (nthD i) ps r)
    (he : starEach (e :: es) env = (false, eval e env) :: starEach es env := by exact starEach_no rfl)
    (hpl : (backTo pos (starEach (e :: es) env)).any (·.1) = false := by exact plain_no rfl)
    (hd : (nm == ("__debug__" : Str)) = false := by decide +kernel) : EvR c n X env ρ (.Call (.Name nm np) (e :: es) [] pos) r :=
  ev_def hnm (nthD_mem hi) hk ha hf he hpl hd
end
end Mine
end

section
open PySem PySem.W PySem.Calls PyProof.Rows
open Sem (wp)
set_option Elab.async false
set_option maxRecDepth 100000
set_option linter.unusedVariables false
namespace Mine
variable {c : Cx} {n : Nat}
theorem coll_c {a b : Str} : FnD c (n + 1) (nthD 0) [.str a, .str b] (.int (b2i (decide (b.cps.toList < a.cps.toList)) - b2i (decide (a.cps.toList < b.cps.toList)))) := by
  refine fnD_of (ns := ["a", "b"]) (ρ := [("a", .str a), ("b", .str b)]) rfl rfl (by decide +kernel) ?_ (fun k => rfl) rfl rfl rfl ?_
  · intro pm code doc vals h
    match vals, h with
    | [u, v], _ => rfl
  · intro X s₀ L ad pm code doc
    
    exact exr_ret (ev_binop (ev_cmp (ev_name lookup_cons_eq (by kernel_rfl)) (ev_name ((lookup_cons_ne (by decide +kernel)).trans lookup_cons_eq) (by kernel_rfl)) cmp_gts) (ev_cmp (ev_name lookup_cons_eq (by kernel_rfl)) (ev_name ((lookup_cons_ne (by decide +kernel)).trans lookup_cons_eq) (by kernel_rfl)) cmp_lts) bin_subb)
theorem xfrm_c {a : PV} : FnD c (n + 1) (nthD 1) [a] a := by
  refine fnD_of (ns := ["s"]) (ρ := [("s", a)]) rfl rfl (by decide +kernel) ?_ (fun k => rfl) rfl rfl rfl ?_
  · intro pm code doc vals h
    match vals, h with
    | [u], _ => rfl
  · intro X s₀ L ad pm code doc
    
    exact exr_ret (ev_name lookup_cons_eq (by kernel_rfl))
end Mine
end

section
open PySem PySem.W PySem.Calls PyProof.Rows
open Sem (wp)
set_option Elab.async false
set_option maxRecDepth 100000
set_option linter.unusedVariables false
namespace Mine
variable {c : Cx} {n : Nat}
/-- octets, the one kind or the other -/
noncomputable def Bb (k : Bool) (b : List UInt8) : PV := if k then .barr b else .bytes b
theorem len_bb {k : Bool} {a : List UInt8} (h : a.length ≤ 10000) : Fn c n (.builtin "len") [Bb k a] (.int a.length) := by
  cases k
  · exact len_bytes' h
  · exact len_barr' h
theorem itm_bb {k : Bool} {a : List UInt8} {i : Int} (h0 : 0 ≤ i) (h1 : i < a.length) (hs : a.length ≤ 10000) : Itm c n (Bb k a) (.int i) (.int (a.getD i.toNat 0).toNat) := by
  cases k
  · exact itm_bytes h0 h1 hs
  · exact itm_barr h0 h1 hs
theorem cut_bb {k : Bool} {a : List UInt8} {l u : Option Int} (hs : a.length ≤ 10000) : Cut c n (Bb k a) l u none (Bb k (cutL a l u)) := by
  cases k
  · exact cut_bytes hs
  · exact cut_barr hs
theorem list_bb {k : Bool} {b : List UInt8} (hz : b.length ≤ 10000) : Fn c n (.type "list") [Bb k b] (.list (b.map fun x => .int x.toNat)) := by
  cases k
  · exact fn_list_bytes hz
  · exact fn_list_barr hz
theorem exos_nil_eq {env : Env} {ρ : List (Str × PV)} {X : Addr → Prop} {D : Addr} {s₀ : Shared} {p p' : PV} (h : p = p') : ExOs c n X D s₀ env ρ p [] ρ p' := h ▸ exos_nil
theorem exro_eq {env : Env} {ρ : List (Str × PV)} {X : Addr → Prop} {D : Addr} {s₀ : Shared} {p p' r : PV} {sts : List Stmt} (h : p = p') (hx : ExRO c n X D s₀ env ρ p' sts r) : ExRO c n X D s₀ env ρ p sts r := h ▸ hx
theorem drop1 {x : Str} {p : PV} {ρ : List (Str × PV)} {m : Str} {r : PV} (h : ρ.lookup m = some r) (hx : ρ.lookup x = none) : ((x, p) :: ρ).lookup m = some r := by
  rw [lookup_cons_ne (by rintro rfl; rw [hx] at h; cases h)]; exact h
theorem rsize1 (a b : Int) : (Builtin.Range.rangeSize a b 1).toNat = (b - a).toNat := by
  unfold Builtin.Range.rangeSize
  simp only [show (1 : Int) > 0 by decide, if_true, Int.ediv_one]
  split <;> omega
theorem rng1 (a b : Int) : rng a b 1 = (List.range (b - a).toNat).map fun (i : Nat) => a + i := by
  unfold rng
  rw [rsize1]
  simp
theorem rng_some {a b d : Int} {i : Nat} {u : PV} (h : ((rng a b d).map PV.int)[i]? = some u) : i < (Builtin.Range.rangeSize a b d).toNat ∧ u = .int (a + i * d) := by
  unfold rng at h
  simp only [List.getElem?_map] at h
  cases hr : (List.range (Builtin.Range.rangeSize a b d).toNat)[i]? with
  | none => rw [hr] at h; cases h
  | some j =>
    rw [hr] at h
    obtain ⟨hlt, e⟩ := List.getElem?_eq_some_iff.mp hr
    rw [List.getElem_range] at e
    subst e
    simp only [List.length_range] at hlt
    exact ⟨hlt, by cases h; rfl⟩
theorem rng_len (a b d : Int) : ((rng a b d).map PV.int).length = (Builtin.Range.rangeSize a b d).toNat := by simp [rng]
theorem small_ok {a b d : Int} (h1 : -(10 ^ 9 : Int) ≤ a ∧ a ≤ 10 ^ 9 ∧ -(10 ^ 9 : Int) ≤ b ∧ b ≤ 10 ^ 9) (h2 : 0 < d ∧ d ≤ 10 ^ 9) : Builtin.Range.small a b d = true := by
  have h3 : 0 ≤ Builtin.Range.rangeSize a b d ∧ Builtin.Range.rangeSize a b d ≤ 10 ^ 10 := by
    unfold Builtin.Range.rangeSize
    rw [if_pos h2.1]
    split
    · have e1 := Int.ediv_nonneg (show 0 ≤ b - a - 1 by omega) (show 0 ≤ d by omega)
      have e2 := Int.ediv_le_self d (show 0 ≤ b - a - 1 by omega)
      omega
    · omega
  unfold Builtin.Range.small Builtin.Range.rangeFitsLong
  rw [if_pos h2.1]
  simp only [Bool.and_eq_true, Bool.or_eq_true, decide_eq_true_eq, beq_iff_eq]
  omega
/-- what the two loops write -/
noncomputable def swI (b : List UInt8) (w o : Nat) (B : List UInt8) : Nat → List UInt8
  | 0 => B
  | j + 1 => (swI b w o B j).set (o + w - 1 - j) (b.getD (o + j) 0)
noncomputable def swO (b : List UInt8) (w : Nat) : Nat → List UInt8
  | 0 => List.replicate b.length 0
  | i + 1 => swI b w (i * w) (swO b w i) w
theorem swI_len (b : List UInt8) (w o : Nat) (B : List UInt8) : ∀ j, (swI b w o B j).length = B.length
  | 0 => rfl
  | j + 1 => by rw [swI, List.length_set, swI_len b w o B j]
theorem swO_len (b : List UInt8) (w : Nat) : ∀ i, (swO b w i).length = b.length
  | 0 => by simp [swO]
  | i + 1 => by rw [swO, swI_len, swO_len b w i]
theorem rsizeW {L w m : Nat} (hw : 0 < w) (e : L = w * m) : (Builtin.Range.rangeSize 0 (L : Int) (w : Int)).toNat = m := by
  unfold Builtin.Range.rangeSize
  rw [if_pos (by omega)]
  subst e
  cases m with
  | zero => simp
  | succ m =>
    have hp : 0 < w * (m + 1) := Nat.mul_pos hw (Nat.succ_pos m)
    rw [if_pos (by omega)]
    have : (((w * (m + 1) : Nat) : Int) - 0 - 1) / (w : Int) = m := by
      have e : (((w * (m + 1) : Nat) : Int) - 0 - 1) = ((w - 1 : Nat) : Int) + (w : Int) * (m : Int) := by
        have h1 : ((w - 1 : Nat) : Int) = (w : Int) - 1 := by omega
        rw [h1]
        simp only [Int.natCast_mul, Int.natCast_add, Int.mul_add]
        simp; omega
      rw [e, Int.add_mul_ediv_left _ _ (by omega), Int.ediv_eq_zero_of_lt (by omega) (by omega)]
      simp
    rw [this]; simp
theorem swap_c {k : Bool} {b : List UInt8} {w m : Nat} (hC : CxOk c) (hw : 0 < w) (hm : b.length = w * m) (hz : b.length ≤ 1000) (hwz : w ≤ 1000) : FnD c (n + 1) (nthD 3) [Bb k b, .int w] (.bytes (swO b w m)) := by
  refine fnD_of (ns := ["data", "width"]) (ρ := [("data", Bb k b), ("width", .int w)]) rfl rfl (by decide +kernel) ?_ (fun k => rfl) rfl rfl rfl ?_
  · intro pm code doc vals h
    match vals, h with
    | [u, v], _ => rfl
  · intro X s₀ L ad pm code doc
    
    refine exr_own (evn_barr (hC.bi _ _ ((lookup_cons_ne (by decide +kernel)).trans ((lookup_cons_ne (by decide +kernel)).trans ((lookup_cons_ne (by decide +kernel)).trans ((lookup_cons_ne (by decide +kernel)).trans ((lookup_cons_ne (by decide +kernel)).trans ((lookup_cons_ne (by decide +kernel)).trans ((lookup_cons_ne (by decide +kernel)).trans ((lookup_cons_ne (by decide +kernel)).trans ((lookup_cons_ne (by decide +kernel)).trans lookup_cons_eq)))))))))).g (hC.bi _ _ ((lookup_cons_ne (by decide +kernel)).trans ((lookup_cons_ne (by decide +kernel)).trans ((lookup_cons_ne (by decide +kernel)).trans ((lookup_cons_ne (by decide +kernel)).trans ((lookup_cons_ne (by decide +kernel)).trans ((lookup_cons_ne (by decide +kernel)).trans ((lookup_cons_ne (by decide +kernel)).trans ((lookup_cons_ne (by decide +kernel)).trans ((lookup_cons_ne (by decide +kernel)).trans lookup_cons_eq)))))))))).b (by kernel_rfl) (ev_bi' hC lookup_cons_eq (by kernel_rfl) (evl_cons (ev_name lookup_cons_eq (by kernel_rfl)) evl_nil) (len_bb ?_)) ?_ ?_) rfl fun D => ?_
    · omega
    · omega
    · omega
    
    have hf0 : PV.barr (List.replicate ((b.length : Int)).toNat 0) = (fun i => PV.barr (swO b w i)) 0 := by simp [swO]
    rw [hf0]
    refine exro_cons (exo_for (fun i => .barr (swO b w i)) (ev_ty' hC ((lookup_cons_ne (by decide +kernel)).trans lookup_cons_eq) (by kernel_rfl) (evl_cons ev_int (evl_cons (ev_bi' hC lookup_cons_eq (by kernel_rfl) (evl_cons (ev_name ((lookup_cons_ne (by decide +kernel)).trans lookup_cons_eq) (by kernel_rfl)) evl_nil) (len_bb ?_)) (evl_cons (ev_name ((lookup_cons_ne (by decide +kernel)).trans ((lookup_cons_ne (by decide +kernel)).trans lookup_cons_eq)) (by kernel_rfl)) evl_nil))) (fn_range3 ?_ ?_)) (iter_range ?_) rfl fun i u hu => ?_) ?_
    · omega
    · omega
    · omega
    · exact small_ok (by omega) (by omega)
    · obtain ⟨hi, rfl⟩ := rng_some hu
      rw [rsizeW hw hm] at hi
      
      refine ⟨_, exos_cons (exo_for (fun j => .barr (swI b w (i * w) (swO b w i) j)) (ev_ty' hC ((lookup_cons_ne (by decide +kernel)).trans lookup_cons_eq) (by kernel_rfl) (evl_cons (ev_name ((lookup_cons_ne (by decide +kernel)).trans ((lookup_cons_ne (by decide +kernel)).trans ((lookup_cons_ne (by decide +kernel)).trans lookup_cons_eq))) (by kernel_rfl)) evl_nil) fn_range1) (iter_range ?_) rfl fun j u hu => ?_) (exos_nil_eq ?_), fun m r hm hv => drop1 hm rfl⟩
      · exact small_ok (by omega) (by omega)
      · obtain ⟨hj, rfl⟩ := rng_some hu
        rw [rsize1] at hj
        have hlen : (swI b w (i * w) (swO b w i) j).length = b.length := by rw [swI_len, swO_len]
        have hle : i * w + w ≤ b.length := by
          rw [hm]
          calc i * w + w = w * (i + 1) := by rw [Nat.mul_add, Nat.mul_comm]; omega
            _ ≤ w * m := Nat.mul_le_mul_left _ hi
        
        refine ⟨_, exos_cons (exo_store ((lookup_cons_ne (by decide +kernel)).trans ((lookup_cons_ne (by decide +kernel)).trans lookup_cons_eq)) (by kernel_rfl) (ev_item (ev_name ((lookup_cons_ne (by decide +kernel)).trans ((lookup_cons_ne (by decide +kernel)).trans ((lookup_cons_ne (by decide +kernel)).trans lookup_cons_eq))) (by kernel_rfl)) (ev_binop (ev_name ((lookup_cons_ne (by decide +kernel)).trans lookup_cons_eq) (by kernel_rfl)) (ev_name lookup_cons_eq (by kernel_rfl)) bin_add) (itm_bb ?_ ?_ ?_)) (ev_binop (ev_binop (ev_binop (ev_name ((lookup_cons_ne (by decide +kernel)).trans lookup_cons_eq) (by kernel_rfl)) (ev_name ((lookup_cons_ne (by decide +kernel)).trans ((lookup_cons_ne (by decide +kernel)).trans ((lookup_cons_ne (by decide +kernel)).trans ((lookup_cons_ne (by decide +kernel)).trans lookup_cons_eq)))) (by kernel_rfl)) bin_add) ev_int bin_sub) (ev_name lookup_cons_eq (by kernel_rfl)) bin_sub) ?_ ?_ ?_ ?_ ?_) (exos_nil_eq ?_), fun m r hm hv => drop1 hm rfl⟩
        · have := Int.mul_nonneg (Int.natCast_nonneg i) (Int.natCast_nonneg w); omega
        · have e := Int.natCast_mul i w; omega
        · omega
        · omega
        · have := Int.mul_nonneg (Int.natCast_nonneg i) (Int.natCast_nonneg w); omega
        · have e := Int.natCast_mul i w; omega
        · omega
        · have := (b.getD (0 + (i : Int) * w + (0 + (j : Int) * 1)).toNat 0).toNat_lt; omega
        · have e := Int.natCast_mul i w
          have e1 : (0 + (i : Int) * w + w - 1 - (0 + (j : Int) * 1)).toNat = i * w + w - 1 - j := by omega
          have e2 : (0 + (i : Int) * w + (0 + (j : Int) * 1)).toNat = i * w + j := by omega
          rw [e1, e2, swI]
          simp
      · rw [rng_len, rsize1]; simp [swO]
    · rw [rng_len, rsizeW hw hm]
      
      refine exro_ret lookup_cons_eq (ev_ty' hC ((lookup_cons_ne (by decide +kernel)).trans ((lookup_cons_ne (by decide +kernel)).trans lookup_cons_eq)) (by kernel_rfl) (evl_cons (ev_name lookup_cons_eq (by kernel_rfl)) evl_nil) (fn_bytes_barr ?_))
      rw [swO_len]; omega
end Mine
end

section
open PySem PySem.W PySem.Calls PyProof.Rows
open Sem (wp)
set_option Elab.async false
set_option maxRecDepth 100000
set_option linter.unusedVariables false
namespace Mine
local macro_rules | `(tactic| walk_at "ar") => `(tactic| first | omega | (simp only [List.length_map, List.length_range, List.length_cons, List.length_nil, List.length_append, List.length_reverse, List.length_replicate, Int.toNat_natCast]; omega))
section
variable {c : Cx} {n : Nat} {X : Addr → Prop} {env : Env} {ρ : List (Str × PV)} {α β : Type}
theorem cutL_map {f : α → β} (xs : List α) (l u : Option Int) : cutL (xs.map f) l u = (cutL xs l u).map f := by
  unfold cutL
  rw [List.length_map, List.map_take, List.map_drop]
theorem cut_map {f : α → PV} {xs : List α} {l u : Option Int} (hs : xs.length ≤ 10000) : Cut c n (.list (xs.map f)) l u none (.list ((cutL xs l u).map f)) := by
  rw [← cutL_map]
  exact cut_list' (by simpa using hs)
theorem rev_map {f : α → PV} {xs : List α} (hs : xs.length ≤ 10000) : Cut c n (.list (xs.map f)) none none (some (-1)) (.list (xs.reverse.map f)) := by
  rw [List.map_reverse]
  exact cut_rev (by simpa using hs)
theorem itm_map {f : α → PV} {xs : List α} {i : Int} {a : α} (h0 : 0 ≤ i) (hi : xs[i.toNat]? = some a) (hs : i < 2 ^ 62) : Itm c n (.list (xs.map f)) (.int i) (f a) :=
  itm_list h0 (by rw [List.getElem?_map, hi]; rfl) hs
theorem itm_map_neg {f : α → PV} {xs : List α} {i : Int} {a : α} (h0 : i < 0) (h1 : -(xs.length : Int) ≤ i) (hi : xs[(i + xs.length).toNat]? = some a) (hs : -(2 ^ 62) < i) : Itm c n (.list (xs.map f)) (.int i) (f a) :=
  itm_list_neg h0 (by simpa using h1) (by rw [List.getElem?_map, List.length_map, hi]; rfl) hs
theorem itm_mapD {f : α → PV} {xs : List α} {i : Int} (d : α) (h0 : 0 ≤ i) (hi : i < xs.length ∧ xs.length ≤ 10000) : Itm c n (.list (xs.map f)) (.int i) (f (xs.getD i.toNat d)) := by
  have hl : i.toNat < xs.length := by omega
  refine itm_map h0 ?_ (by omega)
  rw [List.getD_eq_getElem?_getD, List.getElem?_eq_getElem hl]; rfl
theorem itm_map_last {f : α → PV} {xs : List α} (d : α) (hi : 0 < xs.length ∧ xs.length ≤ 10000) : Itm c n (.list (xs.map f)) (.int (-1)) (f (xs.getD (xs.length - 1) d)) := by
  have hl : xs.length - 1 < xs.length := by omega
  refine itm_map_neg (by omega) (by omega) ?_ (by decide)
  rw [show ((-1 : Int) + xs.length).toNat = xs.length - 1 by omega, List.getD_eq_getElem?_getD, List.getElem?_eq_getElem hl]; rfl
theorem addL_map {f : α → PV} {xs ys : List α} (h : xs.length + ys.length ≤ 10000) : Bin c n .Add (.list (xs.map f)) (.list (ys.map f)) (.list ((xs ++ ys).map f)) := by
  rw [List.map_append]
  exact bin_addL (by simpa using h)
theorem mulL_map {f : α → PV} {a : List α} {k : Int} (h0 : 0 ≤ k) (h1 : k ≤ 100) (hz : a.length ≤ 100) : Bin c n .Mult (.list (a.map f)) (.int k) (.list ((List.replicate k.toNat a).flatten.map f)) := by
  have e : (List.replicate k.toNat a).flatten.map f = (List.replicate k.toNat (a.map f)).flatten := by
    rw [List.map_flatten, List.map_replicate]
  rw [e]
  exact bin_mulL h0 h1 (by simpa using hz)
theorem len_map {f : α → PV} {xs : List α} (h : xs.length ≤ 10000) : Fn c n (.builtin "len") [.list (xs.map f)] (.int xs.length) := by
  have := len_list' (c := c) (n := n) (a := xs.map f) (by simpa using h)
  rwa [List.length_map] at this
theorem ev_ite {F : α → PV} {t b o : Expr} {pos : Pos} {d : Bool} {x y : α} (ht : EvT c n X env ρ t d) (hb : EvR c n X env ρ b (F x)) (ho : EvR c n X env ρ o (F y)) : EvR c n X env ρ (.IfExp t b o pos) (F (if d then x else y)) :=
  ev_ifexp ht (fun e => by rw [e]; exact hb) (fun e => by rw [e]; exact ho)
theorem ev_eq {e : Expr} {p q : PV} (h : p = q) (he : EvR c n X env ρ e p) : EvR c n X env ρ e q := h ▸ he
/-- a comprehension of one clause with a test -/
theorem ev_compF {γ : Type} {elt it : Expr} {x : Str} {px pos : Pos} {ifs : List Expr} {scope : Scope} {p : PV} (l : List α) (f : α → PV) (t : α → Bool) (F : γ → PV) (g : α → γ)
    (hi : EvR c n X env ρ it p) (hI : ∀ X', Iter c X' p (l.map f)) (hok : compOk scope env ρ = true) (hx : scope.names.lookup x = some .local) (hlen : l.length ≤ 10000)
    (hev : ∀ C X' a, (∀ b, X b → X' b) → a ∈ l → EvTs c n X' (compEnvC scope (clGo env scope.names []) C env) ((x, f a) :: ρ) ifs (t a) ∧ (t a = true → EvR c n X' (compEnvC scope (clGo env scope.names []) C env) ((x, f a) :: ρ) elt (F (g a))))
    (hs : ∀ v, foldedSetIterable it env v = pure v := by intro _; rfl) : EvR c n X env ρ (.ListComp elt [⟨.Name x px, it, ifs, 0⟩] scope pos) (.list (((l.filter t).map g).map F)) := by
  rw [List.map_map]
  exact ev_comp l f t (F ∘ g) hi hI hok hx hlen hev hs
/-- a comprehension of one clause without a test -/
theorem ev_compM {γ : Type} {elt it : Expr} {x : Str} {px pos : Pos} {scope : Scope} {p : PV} (l : List α) (f : α → PV) (F : γ → PV) (g : α → γ)
    (hi : EvR c n X env ρ it p) (hI : ∀ X', Iter c X' p (l.map f)) (hok : compOk scope env ρ = true) (hx : scope.names.lookup x = some .local) (hlen : l.length ≤ 10000)
    (hev : ∀ C X' a, (∀ b, X b → X' b) → a ∈ l → EvR c n X' (compEnvC scope (clGo env scope.names []) C env) ((x, f a) :: ρ) elt (F (g a)))
    (hs : ∀ v, foldedSetIterable it env v = pure v := by intro _; rfl) : EvR c n X env ρ (.ListComp elt [⟨.Name x px, it, [], 0⟩] scope pos) (.list ((l.map g).map F)) := by
  have := ev_compF (γ := γ) (ifs := []) (pos := pos) (px := px) l f (fun _ => true) F g hi hI hok hx hlen (fun C X' a h1 h2 => ⟨evts_nil, fun _ => hev C X' a h1 h2⟩) hs
  rwa [List.filter_eq_self.mpr (by simp)] at this
/-- naturals as ints -/
noncomputable abbrev up (xs : List Nat) : List Int := xs.map fun (k : Nat) => (k : Int)
noncomputable abbrev natsV (xs : List Nat) : PV := intsV (up xs)
theorem iter_range1 {X : Addr → Prop} {m : Nat} (hm : m ≤ 1000000) : Iter c X (.range 0 (m : Int) 1) ((List.range m).map fun (k : Nat) => .int (k : Int)) := by
  have h := iter_range (c := c) (X := X) (a := 0) (b := m) (d := 1) (small_ok (by omega) (by omega))
  have e : (rng 0 (m : Int) 1).map PV.int = (List.range m).map fun (k : Nat) => .int (k : Int) := by
    rw [rng1]; simp
  rwa [e] at h
end
variable {c : Cx} {n : Nat}
noncomputable def toldStop (row : List Int) : Nat := row.findIdx fun x => [0, 127].any (· == x)
noncomputable def toldP (row : List Int) (many : Nat) : List Int :=
  cutL (cutL row none (some (toldStop row)) ++ if decide (cutL row (some (toldStop row)) (some ((toldStop row : Int) + 1)) = [0]) then (List.replicate many (cutL row (some ((toldStop row : Int) - 1)) (some (toldStop row)))).flatten else []) none (some many)
theorem told_min (row : List Int) : (toldStop row : Int) ∈ up ((List.range row.length).filter fun k => [0, 127].any (· == row.getD k 0)) ++ [(row.length : Int)] ∧
    ∀ a ∈ up ((List.range row.length).filter fun k => [0, 127].any (· == row.getD k 0)) ++ [(row.length : Int)], (toldStop row : Int) ≤ a := by
  have hle : toldStop row ≤ row.length := List.findIdx_le_length
  constructor
  · by_cases h : toldStop row < row.length
    · refine List.mem_append_left _ (List.mem_map.mpr ⟨_, List.mem_filter.mpr ⟨List.mem_range.mpr h, ?_⟩, rfl⟩)
      have := List.findIdx_getElem (w := h)
      rw [List.getD_eq_getElem?_getD, List.getElem?_eq_getElem h]
      exact this
    · refine List.mem_append_right _ ?_
      have : toldStop row = row.length := by omega
      simp [this]
  · intro a ha
    rcases List.mem_append.mp ha with ha | ha
    · obtain ⟨k, hk, rfl⟩ := List.mem_map.mp ha
      obtain ⟨h1, h2⟩ := List.mem_filter.mp hk
      have hk' : k < row.length := List.mem_range.mp h1
      rw [List.getD_eq_getElem?_getD, List.getElem?_eq_getElem hk'] at h2
      have : ¬ k < toldStop row := fun hlt => by
        have := List.not_of_lt_findIdx hlt
        simp only [Option.getD_some] at h2
        rw [h2] at this; cases this
      omega
    · simp at ha
      omega
theorem told_c {row : List Int} {many : Nat} (hC : CxOk c) (hz : row.length ≤ 50) (hm : many ≤ 100) : FnD c (n + 1) (nthD 4) [intsV row, .int many] (intsV (toldP row many)) := by
  refine fnD_of (ns := ["row", "many"]) (ρ := [("row", intsV row), ("many", .int many)]) rfl rfl (by decide +kernel) ?_ (fun k => rfl) rfl rfl rfl ?_
  · intro pm code doc vals h
    match vals, h with
    | [u, v], _ => rfl
  · intro X s₀ L ad pm code doc
    
    
    have hf := List.length_filter_le (fun k => [0, 127].any (· == row.getD k 0)) (List.range row.length)
    rw [List.length_range] at hf
    refine exr_cons (ex_assign (p := .int (toldStop row)) (ev_bi' hC ((lookup_cons_ne (by decide +kernel)).trans ((lookup_cons_ne (by decide +kernel)).trans ((lookup_cons_ne (by decide +kernel)).trans ((lookup_cons_ne (by decide +kernel)).trans ((lookup_cons_ne (by decide +kernel)).trans ((lookup_cons_ne (by decide +kernel)).trans lookup_cons_eq)))))) (by kernel_rfl) (evl_cons (ev_binop (ev_compF (List.range row.length) (fun (k : Nat) => .int (k : Int)) (fun k => [0, 127].any (· == row.getD k 0)) PV.int (fun (k : Nat) => (k : Int)) (ev_ty' hC ((lookup_cons_ne (by decide +kernel)).trans lookup_cons_eq) (by kernel_rfl) (evl_cons (ev_bi' hC lookup_cons_eq (by kernel_rfl) (evl_cons (ev_name lookup_cons_eq (by kernel_rfl)) evl_nil) (len_map ?_)) evl_nil) fn_range1) (fun _ => iter_range1 ?_) (by kernel_rfl) (by kernel_rfl) ?_ (fun C X' a hX ha => ⟨evts_one (evt_in_tup (ev_item (ev_name ((lookup_cons_ne (by decide +kernel)).trans lookup_cons_eq) (by kernel_rfl)) (ev_name lookup_cons_eq (by kernel_rfl)) (itm_mapD (0 : Int) ?_ ?_)) (evli_cons ev_int (evli_cons ev_int evli_nil)) (by simp)), fun ht => (ev_name lookup_cons_eq (by kernel_rfl))⟩)) (ev_listI (evli_cons (ev_bi' hC lookup_cons_eq (by kernel_rfl) (evl_cons (ev_name lookup_cons_eq (by kernel_rfl)) evl_nil) (len_map ?_)) evli_nil) (by simp)) (addL_map ?_)) evl_nil) (fn_min ?_ ?_)) rfl) ?_
    case refine_8 => exact (told_min row).1
    case refine_9 => exact (told_min row).2
    all_goals try first | walk_at "ar" | (have := List.mem_range.mp ha; walk_at "ar")
    have hle : toldStop row ≤ row.length := List.findIdx_le_length
    have hcut : ∀ l u, (cutL row l u).length ≤ 50 := fun l u => Nat.le_trans (cutL_len _ _ _) hz
    
    refine exr_cons (ex_assign (ev_ite (F := intsV) (evt_cmp (ev_cut (ev_name ((lookup_cons_ne (by decide +kernel)).trans lookup_cons_eq) (by kernel_rfl)) (evp_some (ev_name lookup_cons_eq (by kernel_rfl))) (evp_some (ev_binop (ev_name lookup_cons_eq (by kernel_rfl)) ev_int bin_add)) evp_none (cut_map ?_)) (ev_listI (evli_cons ev_int evli_nil) (by simp)) cmp_eqL) (ev_binop (ev_cut (ev_name ((lookup_cons_ne (by decide +kernel)).trans lookup_cons_eq) (by kernel_rfl)) (evp_some (ev_binop (ev_name lookup_cons_eq (by kernel_rfl)) ev_int bin_sub)) (evp_some (ev_name lookup_cons_eq (by kernel_rfl))) evp_none (cut_map ?_)) (ev_name ((lookup_cons_ne (by decide +kernel)).trans ((lookup_cons_ne (by decide +kernel)).trans lookup_cons_eq)) (by kernel_rfl)) (mulL_map ?_ ?_ ?_)) (ev_listI evli_nil (by simp))) rfl) ?_
    · omega
    · omega
    · omega
    · omega
    · have := hcut (some (toldStop row - 1 : Int)) (some (toldStop row)); omega
    
    refine exr_ret (ev_cut (ev_binop (ev_cut (ev_name ((lookup_cons_ne (by decide +kernel)).trans ((lookup_cons_ne (by decide +kernel)).trans lookup_cons_eq)) (by kernel_rfl)) evp_none (evp_some (ev_name ((lookup_cons_ne (by decide +kernel)).trans lookup_cons_eq) (by kernel_rfl))) evp_none (cut_map ?_)) (ev_name lookup_cons_eq (by kernel_rfl)) (addL_map ?_)) evp_none (evp_some (ev_name ((lookup_cons_ne (by decide +kernel)).trans ((lookup_cons_ne (by decide +kernel)).trans ((lookup_cons_ne (by decide +kernel)).trans lookup_cons_eq))) (by kernel_rfl))) evp_none (cut_map ?_))
    all_goals
      have h1 := hcut none (some (toldStop row))
      have h2 := hcut (some (toldStop row - 1 : Int)) (some (toldStop row))
      have h3 : ((List.replicate (many : Int).toNat (cutL row (some (toldStop row - 1 : Int)) (some (toldStop row)))).flatten).length ≤ 5000 := by
        rw [List.length_flatten, List.map_replicate, List.sum_replicate_nat]
        exact Nat.le_trans (Nat.mul_le_mul (show (many : Int).toNat ≤ 100 by omega) h2) (by decide)
    · omega
    · split
      · omega
      · simp; omega
    · rw [List.length_append]
      split
      · omega
      · simp; omega
/-- the ends of the groups -/
noncomputable def edgesN (told : List Int) (N : Int) : List Int := ((List.range (told.length + 1)).filter fun (k : Nat) => decide ((cutL told none (some (k : Int))).sum < N)).map fun (k : Nat) => N - (cutL told none (some (k : Int))).sum
theorem edges_c {row told ms : List Int} {N : Nat} (hC : CxOk c) (htold : FnD c n (nthD 4) [intsV row, .int N] (intsV told)) (hz : told.length ≤ 50) (hp : ms.Perm (edgesN told N)) (hs : ms.Pairwise (· ≤ ·)) : FnD c (n + 1) (nthD 5) [intsV row, .int N] (intsV (0 :: ms)) := by
  refine fnD_of (ns := ["row", "total"]) (ρ := [("row", intsV row), ("total", .int N)]) rfl rfl (by decide +kernel) ?_ (fun k => rfl) rfl rfl rfl ?_
  · intro pm code doc vals h
    match vals, h with
    | [u, v], _ => rfl
  · intro X s₀ L ad pm code doc
    
    refine exr_cons (ex_assign (ev_def' (i := 4) (by decide) rfl (by kernel_rfl) (evl_cons (ev_name lookup_cons_eq (by kernel_rfl)) (evl_cons (ev_name ((lookup_cons_ne (by decide +kernel)).trans lookup_cons_eq) (by kernel_rfl)) evl_nil)) htold) rfl) ?_
    
    
    have hf : (edgesN told N).length ≤ 51 := by
      unfold edgesN
      rw [List.length_map]
      refine Nat.le_trans (List.length_filter_le _ _) ?_
      simp; omega
    refine exr_ret (ev_binop (ev_listI (evli_cons ev_int evli_nil) (by simp)) (ev_bi' hC ((lookup_cons_ne (by decide +kernel)).trans ((lookup_cons_ne (by decide +kernel)).trans ((lookup_cons_ne (by decide +kernel)).trans ((lookup_cons_ne (by decide +kernel)).trans ((lookup_cons_ne (by decide +kernel)).trans ((lookup_cons_ne (by decide +kernel)).trans ((lookup_cons_ne (by decide +kernel)).trans ((lookup_cons_ne (by decide +kernel)).trans lookup_cons_eq)))))))) (by kernel_rfl) (evl_cons (ev_compF (List.range (told.length + 1)) (fun (k : Nat) => .int (k : Int)) (fun k => decide ((cutL told none (some (k : Int))).sum < N)) PV.int (fun (k : Nat) => (N : Int) - (cutL told none (some (k : Int))).sum) (ev_ty' hC ((lookup_cons_ne (by decide +kernel)).trans lookup_cons_eq) (by kernel_rfl) (evl_cons (ev_binop (ev_bi' hC lookup_cons_eq (by kernel_rfl) (evl_cons (ev_name lookup_cons_eq (by kernel_rfl)) evl_nil) (len_map ?_)) ev_int bin_add) evl_nil) fn_range1) (fun _ => iter_range1 ?_) (by kernel_rfl) (by kernel_rfl) ?_ (fun C X' a hX ha => ⟨evts_one (evt_cmp (ev_bi' hC ((lookup_cons_ne (by decide +kernel)).trans ((lookup_cons_ne (by decide +kernel)).trans ((lookup_cons_ne (by decide +kernel)).trans ((lookup_cons_ne (by decide +kernel)).trans lookup_cons_eq)))) (by kernel_rfl) (evl_cons (ev_cut (ev_name ((lookup_cons_ne (by decide +kernel)).trans lookup_cons_eq) (by kernel_rfl)) evp_none (evp_some (ev_name lookup_cons_eq (by kernel_rfl))) evp_none (cut_map ?_)) evl_nil) fn_sum) (ev_name ((lookup_cons_ne (by decide +kernel)).trans ((lookup_cons_ne (by decide +kernel)).trans ((lookup_cons_ne (by decide +kernel)).trans lookup_cons_eq))) (by kernel_rfl)) cmp_lt), fun ht => (ev_binop (ev_name ((lookup_cons_ne (by decide +kernel)).trans ((lookup_cons_ne (by decide +kernel)).trans ((lookup_cons_ne (by decide +kernel)).trans lookup_cons_eq))) (by kernel_rfl)) (ev_bi' hC ((lookup_cons_ne (by decide +kernel)).trans ((lookup_cons_ne (by decide +kernel)).trans ((lookup_cons_ne (by decide +kernel)).trans ((lookup_cons_ne (by decide +kernel)).trans lookup_cons_eq)))) (by kernel_rfl) (evl_cons (ev_cut (ev_name ((lookup_cons_ne (by decide +kernel)).trans lookup_cons_eq) (by kernel_rfl)) evp_none (evp_some (ev_name lookup_cons_eq (by kernel_rfl))) evp_none (cut_map ?_)) evl_nil) fn_sum) bin_sub)⟩)) evl_nil) (fn_sorted (ms := ms) ?_ hp hs)) (addL_map ?_))
    all_goals try walk_at "ar"
    · exact Nat.lt_of_le_of_lt hf (by decide)
    · have := hp.length_eq
      walk_at "ar"
noncomputable def iterW (way : List Nat) (p : Nat) : Nat → Nat
  | 0 => p
  | k + 1 => way.getD (iterW way p k) 0
noncomputable def walkP (way : List Nat) (p steps : Nat) : List Nat := (List.range (steps + 1)).map (iterW way p)
theorem walk_c {way : List Nat} {p steps : Nat} (hC : CxOk c) (hw : ∀ x ∈ way, x < way.length) (hp : p < way.length) (hz : way.length ≤ 100) (hs : steps ≤ 100) : FnD c (n + 1) (nthD 8) [natsV way, .int p, .int steps] (natsV (walkP way p steps)) := by
  have hlt : ∀ k, iterW way p k < way.length := by
    intro k
    induction k with
    | zero => exact hp
    | succ k ih =>
      rw [iterW, List.getD_eq_getElem?_getD, List.getElem?_eq_getElem ih]
      exact hw _ (List.getElem_mem _)
  refine fnD_of (ns := ["way", "place", "steps"]) (ρ := [("way", natsV way), ("place", .int p), ("steps", .int steps)]) rfl rfl (by decide +kernel) ?_ (fun k => rfl) rfl rfl rfl ?_
  · intro pm code doc vals h
    match vals, h with
    | [u, v, y], _ => rfl
  · intro X s₀ L ad pm code doc
    
    refine exr_own (p := natsV (walkP way p 0)) (evn_list (evl_cons (ev_name ((lookup_cons_ne (by decide +kernel)).trans lookup_cons_eq) (by kernel_rfl)) evl_nil) ?_ (by simp [walkP])) rfl fun D => ?_
    · intro X X' h h' vs r
      cases r with | cons r1 r2 => cases r2; cases r1; exact .cons (.int _ _) .nil
    
    refine exro_cons (exo_for (fun k => natsV (walkP way p k)) (ev_ty' hC ((lookup_cons_ne (by decide +kernel)).trans lookup_cons_eq) (by kernel_rfl) (evl_cons (ev_name ((lookup_cons_ne (by decide +kernel)).trans ((lookup_cons_ne (by decide +kernel)).trans ((lookup_cons_ne (by decide +kernel)).trans lookup_cons_eq))) (by kernel_rfl)) evl_nil) fn_range1) (iter_range1 ?_) rfl fun k u hu => ?_) (exro_eq (p' := natsV (walkP way p steps)) ?_ (exro_ret lookup_cons_eq (ev_name lookup_cons_eq (by kernel_rfl))))
    · omega
    · obtain ⟨hk, rfl⟩ : k < steps ∧ u = .int (k : Int) := by
        rw [List.getElem?_map] at hu
        cases hr : (List.range steps)[k]? with
        | none => rw [hr] at hu; cases hu
        | some j =>
          rw [hr] at hu
          obtain ⟨h1, h2⟩ := List.getElem?_eq_some_iff.mp hr
          rw [List.getElem_range] at h2
          subst h2
          cases hu
          exact ⟨by simpa using h1, rfl⟩
      have hl : (walkP way p k).length = k + 1 := by simp [walkP]
      have e1 : walkP way p (k + 1) = walkP way p k ++ [iterW way p (k + 1)] := by
        unfold walkP
        rw [List.range_succ, List.map_append]; rfl
      have e2 : (up (walkP way p k))[k]? = some ((iterW way p k : Nat) : Int) := by
        simp [walkP]
      have e3 : (up way)[iterW way p k]? = some ((iterW way p (k + 1) : Nat) : Int) := by
        rw [List.getElem?_map, List.getElem?_eq_getElem (hlt k), iterW, List.getD_eq_getElem?_getD, List.getElem?_eq_getElem (hlt k)]; rfl
      have g : (up (walkP way p k)).getD ((up (walkP way p k)).length - 1) 0 = (iterW way p k : Nat) := by
        rw [List.length_map, hl, List.getD_eq_getElem?_getD, Nat.add_sub_cancel, e2]; rfl
      
      refine ⟨_, exos_cons (exo_append (q := .int (iterW way p (k + 1) : Nat)) ((lookup_cons_ne (by decide +kernel)).trans lookup_cons_eq) (by kernel_rfl) (ev_eq ?_ (ev_item (ev_name ((lookup_cons_ne (by decide +kernel)).trans ((lookup_cons_ne (by decide +kernel)).trans ((lookup_cons_ne (by decide +kernel)).trans lookup_cons_eq))) (by kernel_rfl)) (ev_item (ev_name lookup_cons_eq (by kernel_rfl)) (ev_unop ev_int una_neg) (itm_map_last (0 : Int) ?_)) (itm_mapD (0 : Int) ?_ ?_))) rfl ?_) (exos_nil_eq ?_), fun m r hm hv => drop1 hm rfl⟩
      all_goals try walk_at "ar"
      all_goals try rw [g]
      · rw [List.getD_eq_getElem?_getD, show ((iterW way p k : Nat) : Int).toNat = iterW way p k from rfl, e3]; rfl
      all_goals try first | (have := hlt k; walk_at "ar")
      · rw [e1]; simp
    · simp
end Mine
end

section
open PySem PySem.W PySem.Calls PyProof.Rows
open Sem (wp)
set_option Elab.async false
set_option maxRecDepth 100000
set_option linter.unusedVariables false
namespace Mine
/- segments: the statements that the generator's text has -/
section
variable {M : Model} {A : Around} {R : GenEnd} {Y : Protocol} {n : Nat} {s₀ : Shared} {c : Code} {fs : List Frame} {s : Shared} {env : Env}
  {K : Flow → Sem Fin} {H : Value → Sem Fin} {gd : Bool → Bool} {lv : List Value → List Value}
theorem seg_If {test : Expr} {body orelse : List Stmt} {pos : Pos}
    (h : wpAny M (A.over c fs) (isTrue test env (eval test env)) (fun b s' => if b = true then Seg M A R Y n s₀ c ((execs body env).wrap K H gd lv) fs s' else Seg M A R Y n s₀ c ((execs orelse env).wrap K H gd lv) fs s')
      (fun x s' => Seg M A R Y n s₀ c (H x) fs s') s) :
    Seg M A R Y n s₀ c ((exec (.If test body orelse pos) env).wrap K H gd lv) fs s := by
  rw [exec_If]
  refine seg_at (k := fun _ => _) ?_
  show Seg M A R Y n s₀ c (Sem.wrap K H gd lv (isTrue test env (eval test env) >>= fun b => if b = true then execs body env else execs orelse env)) fs s
  rw [Sem.bind_eq_wrap', Sem.wrap_wrap]
  refine seg_wrap (wpAny_mono h (fun b s' hb => ?_) fun _ _ h => h)
  cases b with
  | true => simpa using hb
  | false => simpa using hb
theorem seg_Assign {x : Str} {xp pos : Pos} {e : Expr}
    (h : wpAny M (A.over c fs) (eval e env) (fun v s₁ => wpAny M (A.over c fs) (storeName env x v) (fun _ s₂ => Seg M A R Y n s₀ c (K .next) fs s₂) (fun y s' => Seg M A R Y n s₀ c (H y) fs s') s₁) (fun y s' => Seg M A R Y n s₀ c (H y) fs s') s)
    (hs : swapsWith e (some (.Name x xp)) pos.line env = pure false := by rfl) :
    Seg M A R Y n s₀ c ((exec (.Assign [.Name x xp] e pos) env).wrap K H gd lv) fs s := seg_wrap (wpAny_Assign_Name (Q := fun f s' => Seg M A R Y n s₀ c (K f) fs s') h hs)
theorem seg_Return {pos : Pos} (h : Seg M A R Y n s₀ c (K (.ret .none)) fs s) : Seg M A R Y n s₀ c ((exec (.Return none pos) env).wrap K H gd lv) fs s := by
  rw [exec_Return_none]
  exact seg_at h
/-- the frame of a block that a statement runs -/
noncomputable def retF (env : Env) (K : Flow → Sem Fin) (H : Value → Sem Fin) (gd : Bool → Bool) (lv : List Value → List Value) (c : Code) (p : Pos) : Frame :=
  .ret (fun r => ((match r with | .ok f => (.pure f : Sem Flow) | .error e => .raise e).onRaise fun (x : Value) => do
        if (← field x 1) == Value.none then unsupported "frame.own-activation:exception-without-traceback"
        setFlight x env.frame).wrap K H gd lv) none (gd false) (lv []) c p []
theorem seg_runOwn {c' : Code} (h : ∀ p, Seg M A R Y n s₀ c' (M.den c') (retF env K H gd lv c p :: fs) s) : Seg M A R Y n s₀ c ((runOwn c' env).wrap K H gd lv) fs s := seg_call h
theorem seg_For {target it : Expr} {body orelse : List Stmt} {pos : Pos}
    (h : wpAny M (A.over c fs) (eval it env) (fun x s₁ => wpAny M (A.over c fs) (pyIter x) (fun I s₂ => ∀ p, Seg M A R Y n s₀ (.forLoop target I body orelse env) (M.den (.forLoop target I body orelse env)) (retF env K H gd lv c p :: fs) s₂)
      (fun y s' => Seg M A R Y n s₀ c (H y) fs s') s₁) (fun y s' => Seg M A R Y n s₀ c (H y) fs s') s)
    (hs : ∀ x, foldedSetIterable it env x = pure x := by intro _; rfl) :
    Seg M A R Y n s₀ c ((exec (.For target it body orelse pos) env).wrap K H gd lv) fs s := by
  rw [exec_For]
  refine seg_at (k := fun _ => _) ?_
  show Seg M A R Y n s₀ c (Sem.wrap K H gd lv (eval it env >>= fun v => foldedSetIterable it env v >>= fun x => standAt it.pos >>= fun _ => holding [x] (pyIter x) >>= fun I => runOwn (.forLoop target I body orelse env) env)) fs s
  rw [Sem.bind_eq_wrap', Sem.wrap_wrap]
  refine seg_wrap (wpAny_mono h (fun v s₁ h₁ => ?_) fun _ _ h => h)
  rw [hs v]
  show Seg M A R Y n s₀ c (Sem.wrap K H _ _ (standAt it.pos >>= fun _ => holding [v] (pyIter v) >>= fun I => runOwn (.forLoop target I body orelse env) env)) fs s₁
  refine seg_at (k := fun _ => _) ?_
  show Seg M A R Y n s₀ c (Sem.wrap K H _ _ (holding [v] (pyIter v) >>= fun I => runOwn (.forLoop target I body orelse env) env)) fs s₁
  rw [Sem.bind_eq_wrap', Sem.wrap_wrap]
  refine seg_wrap (wpAny_holding (wpAny_mono h₁ (fun I s₂ h₂ => ?_) fun _ _ h => h))
  exact seg_runOwn h₂
/-- the block's frame taken off -/
theorem seg_pop {f : Flow} {c' : Code} {p : Pos} (h : Seg M A R Y n s₀ c (K f) fs s) : Seg M A R Y n s₀ c' (.pure (.done f)) (retF env K H gd lv c p :: fs) s := by
  have := seg_leaf (M := M) (A := A) (R := R) (Y := Y) (n := n) (s₀ := s₀) (c := c') (fs := fs) (s := s) (k := fun r => ((match r with | .ok f => (.pure f : Sem Flow) | .error e => .raise e).onRaise fun (x : Value) => do
        if (← field x 1) == Value.none then unsupported "frame.own-activation:exception-without-traceback"
        setFlight x env.frame).wrap K H gd lv) (h := none) (g := gd false) (l := lv []) (c₁ := c) (p₁ := p) (kp := []) (.ok f) h
  exact this
end
section
variable {prog : Program} {w : World} {A : Around} {R : GenEnd} {Y : Protocol} {n : Nat} {s₀ : Shared} {fs : List Frame} {s : Shared} {env : Env}
/-- one turn of a for loop in a generator's text -/
theorem seg_forLoop {x : Str} {xp : Pos} {I : Addr} {body : List Stmt}
    (h : wpAny (model prog w) (A.over (.forLoop (.Name x xp) (.ref I) body [] env) fs) (pyNext (.ref I)) (fun r s₁ => match r with
      | none => Seg (model prog w) A R Y n s₀ (.forLoop (.Name x xp) (.ref I) body [] env) (.pure (.again (.block [] env))) fs s₁
      | some v => wpAny (model prog w) (A.over (.forLoop (.Name x xp) (.ref I) body [] env) fs) (storeName env x v) (fun _ s₂ =>
          Seg (model prog w) A R Y n s₀ (.forLoop (.Name x xp) (.ref I) body [] env) ((execs body env).wrap (fun f => match f with
            | .next | .cont => .pure (.again (.forLoop (.Name x xp) (.ref I) body [] env))
            | .brk => .pure (.done .next)
            | .ret v => .pure (.done (.ret v))) (fun e => (do noteFrame e env; theTreesLotGoes e : Sem Unit).wrap (fun _ => .raise e) .raise id id) id id) fs s₂) (fun _ _ => False) s₁) (fun _ _ => False) s) :
    Seg (model prog w) A R Y n s₀ (.forLoop (.Name x xp) (.ref I) body [] env) ((model prog w).den (.forLoop (.Name x xp) (.ref I) body [] env)) fs s := by
  show Seg _ A R Y n s₀ _ ((forTurn (.Name x xp) (.ref I) body [] env).onRaise (fun x => do noteFrame x env; theTreesLotGoes x)) fs s
  simp only [forTurn]
  rw [Sem.onRaise_eq_wrap]
  refine seg_bind_wrap (wpAny_standAt ?_)
  refine seg_bind_wrap (?_ : wpAny _ _ _ _ _ _)
  refine wpAny_mono (?_ : wpAny _ _ _ (fun r s₁ => match r with
      | none => Seg (model prog w) A R Y n s₀ (.forLoop (.Name x xp) (.ref I) body [] env) (.pure (.again (.block [] env))) fs s₁
      | some v => wpAny (model prog w) (A.over (.forLoop (.Name x xp) (.ref I) body [] env) fs) (storeName env x v) (fun _ s₂ =>
          Seg (model prog w) A R Y n s₀ (.forLoop (.Name x xp) (.ref I) body [] env) ((execs body env).wrap (fun f => match f with
            | .next | .cont => .pure (.again (.forLoop (.Name x xp) (.ref I) body [] env))
            | .brk => .pure (.done .next)
            | .ret v => .pure (.done (.ret v))) (fun e => (do noteFrame e env; theTreesLotGoes e : Sem Unit).wrap (fun _ => .raise e) .raise id id) id id) fs s₂) (fun _ _ => False) s₁) (fun _ _ => False) s) (fun r s₁ h₁ => ?_) fun _ _ e => e.elim
  · intro Γ p hΓ
    rw [Sem.wp_onRaise]
    exact Sem.wp_mono _ Γ _ (fun _ _ _ h' => h') (fun e p' s' h' => h'.elim) p s (h Γ p hΓ)
  · cases r with
    | none => exact h₁
    | some v =>
      refine seg_bind_wrap (wpAny_of_eq (rfl : letOwnedTupleGo (.Name x xp) (.ref I) v = pure ()) ?_)
      refine seg_bind_wrap (wpAny_mono (wpAny_assign_Name h₁) (fun _ s₂ h₂ => ?_) fun _ _ e => e.elim)
      rw [Sem.bind_eq_wrap', Sem.wrap_wrap]
      rw [Sem.wrap_congr (execs body env) _ _ (K' := fun f => match f with
            | .next | .cont => .pure (.again (.forLoop (.Name x xp) (.ref I) body [] env))
            | .brk => .pure (.done .next)
            | .ret v => .pure (.done (.ret v))) (H' := (fun e => (do noteFrame e env; theTreesLotGoes e : Sem Unit).wrap (fun _ => .raise e) .raise id id))
        (fun f => by cases f <;> rfl)
        (fun e => by first | exact Sem.bind_eq_wrap _ _ | (show (do noteFrame e env; theTreesLotGoes e : Sem Unit).bind (fun _ => .raise e) = _; rw [Sem.bind_eq_wrap]))]
      exact h₂
theorem seg_block_nil (h : Seg (model prog w) A R Y n s₀ (.block [] env) (.pure (.done .next)) fs s) {c : Code} : Seg (model prog w) A R Y n s₀ c (.pure (.again (.block [] env))) fs s := by
  refine seg_again rfl ?_
  exact h
end
end Mine
end

section
open PySem PySem.W PySem.Calls PyProof.Rows
open Sem (wp)
set_option Elab.async false
set_option maxRecDepth 100000
set_option linter.unusedVariables false
namespace Mine
/-- what the generator hands on from the rest of its sizes -/
noncomputable def strm : List Int → Option Int → Nat → Option Int
  | [], _, _ => none
  | x :: r, last, k => if x = 127 then none else if x = 0 then last else match k with | 0 => some x | k + 1 => strm r (some x) k
/-- changes of the generator's own things alone -/
noncomputable def Ch (O : Addr → Prop) (s₀ s : Shared) : Prop := ∃ h' tk, s = { s₀ with heap := h', toks := tk } ∧ ∀ b o, s₀.heap.get? b = some o → (¬ O b ∨ Kd o) → h'.get? b = some o
theorem Ch.refl (O : Addr → Prop) (s : Shared) : Ch O s s := ⟨s.heap, s.toks, rfl, fun _ _ e _ => e⟩
theorem Ch.step {O : Addr → Prop} {s₀ s : Shared} (x : Ch O s₀ s) {h' : Heap} {tk : Nat} (hk : ∀ b o, s.heap.get? b = some o → (¬ O b ∨ Kd o) → h'.get? b = some o) : Ch O s₀ { s with heap := h', toks := tk } := by
  obtain ⟨h₁, t₁, rfl, k₁⟩ := x
  exact ⟨h', tk, rfl, fun b o e q => hk b o (k₁ b o e q) q⟩
/-- what the user of the generator must keep -/
noncomputable def Pro (O : Addr → Prop) (ra : Addr) (s s'' : Shared) : Prop := ∀ b o, s.heap.get? b = some o → (O b ∨ b = ra ∨ b = mainGlobals) → s''.heap.get? b = some o
noncomputable def genY (O : Addr → Prop) (ra : Addr) (N : Nat) (ys : Nat → Option Int) : Protocol := fun m s₀ v s kap =>
  (∃ y t, ys (N - 1 - m) = some y ∧ v = .int y t) ∧ Ch O s₀ s ∧ (1 ≤ m → ∀ s'', Pro O ra s s'' → kap (.send .none) s'')
noncomputable def genP (O : Addr → Prop) (N : Nat) (ys : Nat → Option Int) (n : Nat) (s₀ s : Shared) : Prop := ys (N - n) = none ∧ Ch O s₀ s
noncomputable abbrev genR (O : Addr → Prop) (N : Nat) (ys : Nat → Option Int) : GenEnd := fun n s₀ r s => r = .ok (.ret .none) ∧ genP O N ys n s₀ s

section
variable {prog : Program} {w : World} {A : Around} {O : Addr → Prop} {ra : Addr} {N : Nat} {ys : Nat → Option Int} {env : Env} {mg : Str → Option Value}
/-- the generator's own state -/
structure GI (O : Addr → Prop) (ra : Addr) (env : Env) (mg : Str → Option Value) (lv : Value) (h : Heap) : Prop where
  ns : ∃ m, h.Ns env.locals m ∧ m "last_interval" = some lv
  g : h.Ns mainGlobals mg
theorem ns_notKd {h : Heap} {a : Addr} {m : Str → Option Value} (x : h.Ns a m) {o : Obj} (e : h.get? a = some o) : ¬ Kd o := fun k => not_kd_ns x e k.dt

/-- the turn of the generator's for loop; its endless loop -/
noncomputable def gBody : List Stmt := match (nthD 2).2.2.1 with
  | [_, .For _ _ b _ _] => b
  | _ => []
noncomputable def gW : Expr × List Stmt := match gBody with
  | [_, .If _ [_, .While t b _ _] _ _, _, _] => (t, b)
  | _ => (.Name "" default, [])
theorem gen_while {fs : List Frame} (hkind : env.scope.kind = .function) (hco : env.scope.isCoroutine = false) (hint : interactive env = false)
    (hlast : env.kindOf "last_interval" = some .local) (hfs : splitAtGen fs = none) (hfg : fs.any Frame.guarded = false) (hL : O env.locals) (hh : A.handled = none) :
    ∀ (n : Nat), 1 ≤ n → n ≤ N → ∀ (s₀ s : Shared) (v : Int) (tv : Tok), Ch O s₀ s → (∃ m, s.heap.Ns env.locals m ∧ m "last_interval" = some (.int v tv)) → (∀ k, ys (N - n + k) = some v) →
      Seg (model prog w) A (genR O N ys) (genY O ra N ys) n s₀ (.whileLoop gW.1 gW.2 [] env)
        ((model prog w).den (.whileLoop gW.1 gW.2 [] env)) fs s := by
  intro n
  induction n with
  | zero => intro h; omega
  | succ n ih =>
    intro _ hN s₀ s v tv hc ⟨m, hn, hm⟩ hys
    refine seg_whileLoop ?_
    refine wpAny_isTrue_value (wpAny_Constant_bool (wpAny_truthy_bool ?_))
    rw [if_pos rfl]
    refine seg_execs_cons (seg_Expr_Yield hfs rfl hfg (wpAny_Name (wpAny_loadName_local hkind hlast hn hm ?_) (by decide +kernel)) hco hint)
    intro kap hkap
    refine ⟨⟨v, tv, by have := hys 0; rw [Nat.add_zero] at this; rwa [show N - 1 - n = N - (n + 1) by omega], rfl⟩, hc, fun hn1 s'' hp => hkap .none s'' ?_⟩
    have hn'' : s''.heap.Ns env.locals m := by
      obtain ⟨o, es, ep, ho, hd, r⟩ := hn
      exact ⟨o, es, ep, hp _ _ ho (.inl hL), hd, r⟩
    show Seg _ A _ _ n s'' _ (.pure (.again _)) fs s''
    refine seg_again rfl (ih hn1 (by omega) s'' s'' v tv (Ch.refl _ _) ⟨m, hn'', hm⟩ fun k => ?_)
    have := hys (k + 1)
    rwa [show N - (n + 1) + (k + 1) = N - n + k by omega] at this

/-- the for loop of the generator -/
theorem gen_for {K : Flow → Sem Fin} {H : Value → Sem Fin} {cf : Code} {p : Pos} {xp : Pos} {I : Addr} {vs : List Value} {row : List Int} (hkind : env.scope.kind = .function) (hgl : env.globals = mainGlobals) (hco : env.scope.isCoroutine = false) (hint : interactive env = false)
    (hlast : env.kindOf "last_interval" = some .local) (hiv : env.kindOf "interval" = some .local) (hcm : env.kindOf "CHAR_MAX" = some .globalImplicit) (hmg : ∃ t, mg "CHAR_MAX" = some (.int 127 t))
    (hL : O env.locals) (hI : O I) (hra : ¬ O ra) (hmn : ¬ O mainGlobals) (hLI : env.locals ≠ I) (hh : A.handled = none) (hi : IntsAre vs row)
    (hK : ∀ n s₀ s f, f = .next ∨ f = .ret .none → genP O N ys n s₀ s → Seg (model prog w) A (genR O N ys) (genY O ra N ys) n s₀ cf (K f) [] s) :
    ∀ (rest : List Int) (i : Nat) (last : Option Int) (n : Nat), row.drop i = rest → i ≤ row.length → (last = none → rest.head? ≠ some 0) → 1 ≤ n → n ≤ N → ∀ (s₀ s : Shared) (lv : Value), (match last with | none => lv = .none | some v => ∃ t, lv = .int v t) →
      Ch O s₀ s → GI O ra env mg lv s.heap → s.heap.IsList ra vs.toArray → s.heap.IsListIter I ra i → (∀ k, ys (N - n + k) = strm rest last k) →
      Seg (model prog w) A (genR O N ys) (genY O ra N ys) n s₀ (.forLoop (.Name "interval" xp) (.ref I) gBody [] env) ((model prog w).den (.forLoop (.Name "interval" xp) (.ref I) gBody [] env)) [retF env K H id id cf p] s := by
  have hLra : env.locals ≠ ra := fun e => hra (e ▸ hL)
  have hLmn : env.locals ≠ mainGlobals := fun e => hmn (e ▸ hL)
  have hIra : ra ≠ I := fun e => hra (e ▸ hI)
  have hImn : mainGlobals ≠ I := fun e => hmn (e ▸ hI)
  have iterNot : ∀ {h : Heap} {i : Nat} {o : Obj}, h.IsListIter I ra i → h.get? I = some o → ¬ Kd o := fun hit e => by
    obtain ⟨o', e', hc, hd⟩ := hit
    rw [e] at e'; cases e'
    exact IsIt.notKd ⟨⟨_, hd⟩, by rw [hc]; decide⟩
  have hW := Walks.list (prog := prog) (w := w) (A := A.over (.forLoop (.Name "interval" xp) (.ref I) gBody [] env) [retF env K H id id cf p]) hh I ra hIra vs.toArray
  have hlen : vs.length = row.length := hi.length
  intro rest
  induction rest with
  | nil =>
    intro i last n hd hile hne hn hN s₀ s lv hlv hc G hl hit hys
    have hil : row.length ≤ i := by simpa using hd
    have hie : i = vs.toArray.size := by simp; omega
    subst hie
    refine seg_forLoop (hW.done s _ _ ⟨hit, hl⟩ fun h1 tk hk1 => ?_)
    refine seg_block_nil (seg_pop (hK n s₀ _ .next (.inl rfl) ⟨?_, hc.step fun b o e hq => hk1 b o ?_ e⟩))
    · have := hys 0
      simpa [strm] using this
    · simp only [List.mem_singleton]
      rintro rfl
      rcases hq with hq | hq
      · exact hq hI
      · exact iterNot hit e hq
  | cons x r ih =>
    intro i last n hd hile hne hn hN s₀ s lv hlv hc G hl hit hys
    have hx : row[i]? = some x := by
      have := congrArg (fun l => l[0]?) hd
      simpa using this
    have hil : i < vs.toArray.size := by
      have := (List.getElem?_eq_some_iff.mp hx).1
      simp; omega
    obtain ⟨m, hns, hm⟩ := G.ns
    refine seg_forLoop (hW.item i s _ _ hil ⟨hit, hl⟩ fun u h1 tk hu st1 hk1 => ?_)
    obtain ⟨hit1, hl1⟩ := st1
    have hu' : vs[i]? = some u := by simpa using hu
    obtain ⟨q, hq, rq⟩ := (RepL.of_ints (X := X0) (h := h1) hi).getv hu'
    rw [List.getElem?_map, hx] at hq
    cases hq
    obtain ⟨tu, rfl⟩ := rq.intI
    have n1 : h1.Ns env.locals m := hns.at' fun o e => hk1 _ o (by simpa using hLI) e
    have g1 : h1.Ns mainGlobals mg := G.g.at' fun o e => hk1 _ o (by simpa using hImn) e
    refine wpAny_storeName_local hiv n1 (fun h2 n2 hs2 => ?_) (by rw [hkind]; rfl)
    have g2 : h2.Ns mainGlobals mg := g1.sameBut hs2 (Ne.symm hLmn)
    have hl2 : h2.IsList ra vs.toArray := hl1.extBut hs2.extBut (Ne.symm hLra)
    have hit2 : h2.IsListIter I ra (i + 1) := by
      obtain ⟨o, e, r⟩ := hit1
      exact ⟨o, hs2.extBut _ _ (Ne.symm hLI) e, r⟩
    have c2 : Ch O s₀ { s with heap := h2, toks := tk + 1 } := hc.step fun b o e hq => by
      have b1 : b ≠ I := by
        rintro rfl
        rcases hq with hq | hq
        · exact hq hI
        · exact iterNot hit e hq
      have b2 : b ≠ env.locals := by
        rintro rfl
        rcases hq with hq | hq
        · exact hq hL
        · exact ns_notKd hns e hq
      exact hs2.extBut _ _ b2 (hk1 _ _ (by simpa using b1) e)
    have hn0 : N - n + 0 = N - n := Nat.add_zero _
    refine seg_execs_cons (seg_If ?_)
    refine wpAny_isTrue_Compare1 (wpAny_Name (wpAny_loadName_local hkind hiv n2 (by simp; rfl) ?_) (by decide +kernel))
    obtain ⟨tc, hcmv⟩ := hmg
    refine Name_function_global hkind hcm (loadGlobal_global (mg := mg) (hgl ▸ g2) hcmv ?_) (by decide +kernel)
    refine PyProof.Rows.eq_int (wpAny_truthy_bool ?_)
    by_cases h127 : x = 127
    · subst h127
      rw [if_pos (show ((127 : Int) == 127) = true from rfl)]
      refine seg_execs_cons (seg_Return ?_)
      exact seg_pop (hK n s₀ _ (.ret .none) (.inr rfl) ⟨by have := hys 0; rw [hn0] at this; rw [this]; simp [strm], c2⟩)
    · rw [if_neg (by simpa using h127)]
      refine seg_execs_nil ?_
      refine seg_execs_cons (seg_If ?_)
      refine wpAny_isTrue_Compare1 (wpAny_Name (wpAny_loadName_local hkind hiv n2 (by simp; rfl) ?_) (by decide +kernel))
      refine wpAny_Constant_int ?_
      refine PyProof.Rows.eq_int (wpAny_truthy_bool ?_)
      by_cases h0 : x = 0
      · subst h0
        rw [if_pos (show ((0 : Int) == 0) = true from rfl)]
        cases last with
        | none => exact absurd rfl (hne rfl)
        | some v =>
          obtain ⟨tv, rfl⟩ := hlv
          have hlm : (fun y => if y = ("interval" : Str) then some (Value.int 0 tu) else m y) "last_interval" = some (.int v tv) := by
            have hne : ("last_interval" : Str) ≠ "interval" := by decide +kernel
            simp only [if_neg hne]; exact hm
          refine seg_execs_cons (seg_If ?_)
          refine wpAny_isTrue_Compare1 (wpAny_Name (wpAny_loadName_local hkind hlast n2 hlm ?_) (by decide +kernel))
          refine wpAny_Constant_none (is_none (wpAny_truthy_bool ?_))
          rw [if_neg (show ¬ ((Value.int v tv == Value.none) = true) from Bool.false_ne_true)]
          refine seg_execs_nil ?_
          refine seg_execs_cons ?_
          rw [exec_While]
          refine seg_at (k := fun _ => _) (seg_runOwn fun p' => ?_)
          refine gen_while hkind hco hint hlast rfl rfl hL hh n hn hN s₀ _ v tv (c2.step fun b o e _ => e) ⟨_, n2, hlm⟩ fun k => ?_
          rw [hys k]
          simp [strm]
      · rw [if_neg (by simpa using h0)]
        refine seg_execs_nil ?_
        obtain ⟨n, rfl⟩ : ∃ n', n = n' + 1 := ⟨n - 1, by omega⟩
        refine seg_execs_cons (seg_Expr_Yield rfl rfl rfl (wpAny_Name (wpAny_loadName_local hkind hiv n2 (by simp; rfl) ?_) (by decide +kernel)) hco hint)
        intro kap hkap
        refine ⟨⟨x, tu, ?_, rfl⟩, c2.step fun b o e _ => e, fun hn1 s'' hp => hkap .none s'' ?_⟩
        · have := hys 0
          rw [hn0, show N - (n + 1) = N - 1 - n by omega] at this
          rw [this]; simp [strm, h127, h0]
        · have hn'' : s''.heap.Ns env.locals (fun y => if y = ("interval" : Str) then some (Value.int x tu) else m y) := n2.at' fun o e => hp _ _ e (.inl hL)
          have g'' : s''.heap.Ns mainGlobals mg := g2.at' fun o e => hp _ _ e (.inr (.inr rfl))
          have hl'' : s''.heap.IsList ra vs.toArray := hl2.at fun o e => hp _ _ e (.inr (.inl rfl))
          have hit'' : s''.heap.IsListIter I ra (i + 1) := by
            obtain ⟨o, e, r⟩ := hit2
            exact ⟨o, hp _ _ e (.inl hI), r⟩
          refine seg_execs_cons (seg_Assign (wpAny_Name (wpAny_loadName_local hkind hiv hn'' (by simp; rfl) ?_) (by decide +kernel)) rfl)
          refine wpAny_storeName_local hlast hn'' (fun h3 n3 hs3 => ?_) (by rw [hkind]; rfl)
          refine seg_execs_nil ?_
          refine seg_again rfl (ih (i + 1) (some x) n ?_ ?_ (fun h => nomatch h) hn1 (by omega) s'' _ _ ⟨tu, rfl⟩ ((Ch.refl _ _).step fun b o e hq => ?_) ⟨⟨_, n3, by simp⟩, g''.sameBut hs3 (Ne.symm hLmn)⟩ (hl''.extBut hs3.extBut (Ne.symm hLra)) ?_ fun k => ?_)
          · rw [← List.tail_drop, hd]; rfl
          · have := (List.getElem?_eq_some_iff.mp hx).1; omega
          · refine hs3.extBut _ _ ?_ e
            rintro rfl
            rcases hq with hq | hq
            · exact hq hL
            · exact ns_notKd hn'' e hq
          · obtain ⟨o, e, r⟩ := hit''
            exact ⟨o, hs3.extBut _ _ (Ne.symm hLI) e, r⟩
          · have := hys (k + 1)
            rw [show N - (n + 1) + (k + 1) = N - n + k by omega] at this
            rw [this]; simp [strm, h127, h0]
end
end Mine
end

section
open PySem PySem.W PySem.Calls PyProof.Rows
open Sem (wp)
set_option Elab.async false
set_option maxRecDepth 100000
set_option linter.unusedVariables false
namespace Mine
section
variable {prog : Program} {w : World} {A : Around} {O : Addr → Prop} {ra : Addr} {N : Nat} {ys : Nat → Option Int} {mg : Str → Option Value}
/-- the generator, woken for the first time -/
theorem gen_func {L a : Addr} {pm code doc : Value} {vs : List Value} {row : List Int} {s : Shared} {m : Str → Option Value} (hmg : ∃ t, mg "CHAR_MAX" = some (.int 127 t))
    (hL : O L) (hO : ∀ b, s.heap.get? b = none → O b) (hra : ¬ O ra) (hmn : ¬ O mainGlobals) (hh : A.handled = none) (hi : IntsAre vs row) (h1 : 1 ≤ N) (hne : row.head? ≠ some 0)
    (hn : s.heap.Ns L m) (hm : m "grouping" = some (.ref ra)) (hl : s.heap.IsList ra vs.toArray) (hg : s.heap.Ns mainGlobals mg) (hys : ∀ k, ys k = strm row none k) :
    Seg (model prog w) A (genR O N ys) (genY O ra N ys) N s (.func (nthD 2).2.2.1 (envD (nthD 2) L a pm code doc)) ((model prog w).den (.func (nthD 2).2.2.1 (envD (nthD 2) L a pm code doc))) [] s := by
  have hLra : L ≠ ra := fun e => hra (e ▸ hL)
  have hLmn : L ≠ mainGlobals := fun e => hmn (e ▸ hL)
  refine seg_func ?_
  refine seg_execs_cons (seg_Assign ?_ rfl)
  refine wpAny_Constant_none (wpAny_storeName_local (env := envD (nthD 2) L a pm code doc) (m := m) rfl hn (fun h2 n2 hs2 => ?_) rfl)
  have hl2 : h2.IsList ra vs.toArray := hl.extBut hs2.extBut (Ne.symm hLra)
  refine seg_execs_cons (seg_For ?_ (fun _ => rfl))
  have hgr : ("grouping" : Str) ≠ "last_interval" := by decide +kernel
  refine wpAny_Name (wpAny_loadName_local (env := envD (nthD 2) L a pm code doc) rfl rfl n2 (v := .ref ra) (by simp only [if_neg hgr]; exact hm) ?_) (by decide +kernel)
  refine wpAny_pyIter_list hl2 fun p => ?_
  have hI0 : h2.get? h2.objs.size = none := get_size _
  have hI : O h2.objs.size := by
    refine hO _ ?_
    cases e : s.heap.get? h2.objs.size with
    | none => rfl
    | some o =>
      by_cases hb : h2.objs.size = L
      · obtain ⟨o', _, _, ho', _⟩ := n2
        rw [hb] at hI0
        exact absurd (hI0.symm.trans ho') (by simp)
      · have := hs2.extBut _ o hb e
        rw [hI0] at this; cases this
  have hLI : L ≠ h2.objs.size := by
    obtain ⟨o', _, _, ho', _⟩ := n2
    exact Nat.ne_of_lt (Heap.lt_size ho')
  refine gen_for (env := envD (nthD 2) L a pm code doc) (vs := vs) (row := row) (mg := mg) rfl rfl rfl rfl rfl rfl rfl hmg hL hI hra hmn hLI hh hi ?_ row 0 none N rfl (Nat.zero_le _) (fun _ => hne) h1 (Nat.le_refl _) s _ .none rfl ?_ ⟨⟨_, n2.push _, by simp⟩, (hg.sameBut hs2 (Ne.symm hLmn)).push _⟩ (hl2.push _) ⟨_, Heap.get?_push_size _ rfl, rfl, rfl⟩ (fun k => by rw [Nat.sub_self, Nat.zero_add]; exact hys k)
  · rintro n s₀ s' f hf hP
    rcases hf with rfl | rfl
    · refine seg_execs_nil ?_
      exact seg_end (.ok (.ret .none)) ⟨rfl, hP⟩
    · exact seg_end (.ok (.ret .none)) ⟨rfl, hP⟩
  · refine (Ch.refl O s).step fun b o e hq => Heap.get?_push_of_some _ (hs2.extBut b o ?_ e)
    rintro rfl
    rcases hq with hq | hq
    · exact hq hL
    · exact ns_notKd hn e hq

/-- the next of a generator's -/
theorem genNext {E : Value → Shared → Prop} {s : Shared} {a : Addr} {g n : Nat} {gs : GenState} {P : Nat → Shared → Shared → Prop} {Y : Protocol} {Q : Option Value → Shared → Prop} (hh : A.handled = none)
    (hl : s.heap.NoLimit) (hroom : A.depth < recursionLimit)
    (hg : s.heap.IsGen a g) (hgs : s.gens[g]? = some gs)
    (hgo : gs.Goes (model prog w) A.in1 (fun n s₀ r s₁ => r = .ok (.ret .none) ∧ P n s₀ s₁) Y n (.send .none) (s.setGen g .running))
    (hY : ∀ v s₁ gs', gs'.bare = true → Y (n - 1) (s.setGen g .running) v s₁ (fun r' s'' => match n with
        | 0 => False
        | m + 1 => gs'.Goes (model prog w) A.in1 (fun n s₀ r s₁ => r = .ok (.ret .none) ∧ P n s₀ s₁) Y m r' s'') → Q (some v) (s₁.setGen g gs'))
    (hP : ∀ s₁, P n (s.setGen g .running) s₁ → ∀ h', (∀ b o, s₁.heap.get? b = some o → h'.get? b = some o) → Q none { s₁.setGen g .finished with heap := h' }) :
    wpAny (model prog w) A (pyNext (.ref a)) Q E s := by
  unfold pyNext
  refine wpAny_bind (wpAny_attempt (wpAny_callSpecial?_slot (name := Str.ofString "__next__") hg.typeIs slot_gen_next
    (wpAny_call_entry slot_gen_next hg.typeIs entry_gen_next ?_ (args_gen_next _))))
  show wpAny _ A.in1 (Builtin.Generator.genWake (.ref a) (.send .none)) _ _ s
  unfold Builtin.Generator.genWake
  refine wpAny_bind (wpAny_holding (wpAny_genNumber hg (wpAny_bind (wpAny_genState hgs ?_))))
  cases gs with
  | running => exact hgo.elim
  | finished => exact hgo.elim
  | _ =>
    refine wpAny_bind (wpAny_roomToWake hl hroom ?_)
    show wpAny _ A.in1 (.resume g (.send .none) [] _) _ _ s
    refine wpAny_resumeQ hgs hgo (fun x s₁ hx => ?_) (fun v s₁ gs' hb hv => ?_)
    · obtain ⟨rfl, hp⟩ := hx
      show wpAny _ A.in1 (newExc (.type "StopIteration") [] >>= _) _ _ _
      refine wpAny_bind ?_
      simp only [newExc, newTuple]
      refine wpAny_bind (wpAny_newObj_type ?_ (by size_fits))
      refine wpAny_bind (m := firstArgMember _ _) (wpAny_of_eq (a := Value.none) (by first | rfl | (simp only [firstArgMember]; rfl)) ?_)
      refine wpAny_newObj_type ?_ (by size_fits)
      simp only [raiseNew]
      refine wpAny_bind (wpAny_bind (wpAny_handled ?_))
      first | rw [show A.in1.handled = none from hh] | rw [hh]
      refine wpAny_throw ?_
      refine wpAny_bind (wpAny_isInstance (T := "StopIteration") (b := true) ⟨_, Heap.get?_push_size _ rfl, rfl⟩ isSubtype_stop ?_)
      exact wpAny_pure (hP s₁ hp _ fun b o hb => Heap.get?_push_of_some _ (Heap.get?_push_of_some _ hb))
    · exact wpAny_pure ⟨v, rfl, wpAny_pure (hY v s₁ gs' hb hv)⟩
end
end Mine
end

section
open PySem PySem.W PySem.Calls PyProof.Rows
open Sem (wp)
set_option Elab.async false
set_option maxRecDepth 100000
set_option linter.unusedVariables false
namespace Mine
variable {c : Cx} {n : Nat} {env : Env} {ρ : List (Str × PV)} {X : Addr → Prop} {D : Addr} {s₀ s s' : Shared} {p : PV} {x : Str}

/-- a generator that is made -/
structure Made (c : Cx) (row : List Int) (X : Addr → Prop) (s s' : Shared) (ga ra L a : Addr) (pm code doc : Value) (vs : List Value) : Prop where
  kp : Kp s s'
  isg : s'.heap.IsGen ga s.gens.size
  gs : s'.gens = s.gens.push (.fresh (.func (nthD 2).2.2.1 (envD (nthD 2) L a pm code doc)))
  newL : s.heap.get? L = none
  newG : s.heap.get? ga = none
  apart : L ≠ ga
  ns : ∃ m, s'.heap.Ns L m ∧ m "grouping" = some (.ref ra)
  ls : s'.heap.IsList ra vs.toArray
  old : ∃ o, s.heap.get? ra = some o
  arei : IntsAre vs row
  nx : ¬ X ra

theorem ev_gen {nm : Str} {np pos : Pos} {e : Expr} {row : List Int} (hnm : (nthD 2).1 = nm) (hk : env.kindOf nm = some .globalImplicit) (he : EvR c n X env ρ e (intsV row))
    (hes : ∀ env, starEach [e] env = (false, eval e env) :: starEach [] env := by intro _; exact starEach_no rfl)
    (hpl : (backTo pos (starEach [e] env)).any (·.1) = false := by exact plain_no rfl) (hd : (nm == ("__debug__" : Str)) = false := by decide +kernel) {A : Around} {E : Value → Shared → Prop} (hA : AOk (n + 1) A) (R : EnvR c X env ρ s) :
    wpS c.M A (eval (.Call (.Name nm np) [e] [] pos) env) (fun v s' => ∃ s₁ ga ra L a pm code doc vs, v = .ref ga ∧ Kp s s₁ ∧ Made c row X s₁ s' ga ra L a pm code doc vs) E s := by
  subst hnm
  obtain ⟨a, hg, hfn⟩ := R.glo.fn (nthD 2) (nthD_mem (by decide))
  obtain ⟨o, pm, code, doc, ho, hdt, hcr⟩ := id hfn
  refine wpS_Call_Name (ld_glob R hk hg ?_ hd)
  refine wpS_callWith_function (o := o) hpl (args_cons (wpS_mono (evl_cons he evl_nil hes pos A E s (hA.mono (Nat.le_succ n)) R) (fun us s₁ h₁ => ⟨⟨h₁.1.heap _ _ ho, hdt⟩, ?_⟩) fun _ _ e => e) (hes env))
  obtain ⟨v, rfl, r⟩ := h₁.2.one
  obtain ⟨ra, vs, rfl, hl, hr, hx⟩ := r.listI
  have R1 := R.kp h₁.1
  refine lf (wpAny_call (codeAny_call_generator (o := o) (fd := fdD (nthD 2) pm code doc) (body := (nthD 2).2.2.1) hA.room (h₁.1.heap _ _ ho) hdt rfl rfl rfl (hcr.keeps h₁.1.heap) ?_))
  refine wpAny_of_eq (a := [(("grouping" : Str), Value.ref ra)]) (show bindArgs (fdD (nthD 2) pm code doc) ⟨[.ref ra], []⟩ = (pure [(("grouping" : Str), Value.ref ra)] : Sem (List (Str × Value))) from rfl) ?_
  refine wpAny_newFunctionEnv_cells (scope := (nthD 2).2.2.2) rfl ?_ fun env' he' s' x => ?_
  · intro y hy
    simp only [List.mem_singleton] at hy
    subst hy
    exact .inl rfl
  · subst he'
    obtain ⟨h', tk, rfl⟩ := x.toInCall.same
    have hLn : s₁.heap.get? s₁.heap.objs.size = none := get_size _
    have hfr : s₁.heap.get? h'.objs.size = none := by
      cases e : s₁.heap.get? h'.objs.size with
      | none => rfl
      | some o => have := x.toInCall.keep _ _ e; rw [get_size] at this; cases this
    refine ⟨R1.glo.nolimit.keeps x.toInCall.keep, s₁, h'.objs.size, ra, s₁.heap.objs.size, a, pm, code, doc, vs, rfl, h₁.1, ⟨fun b o e => Heap.get?_push_of_some _ (x.toInCall.keep _ _ e), fun g z e => ?_, fun hb => hb.push rfl, rfl⟩, ⟨_, _, _, Heap.get?_push_size _ rfl, rfl, rfl, rfl⟩, rfl, hLn, hfr, ?_, ⟨_, x.toInCall.ns.push _, by rfl⟩, (hl.at fun o e => x.toInCall.keep _ _ e).isList.push _, ?_, hr.ints, hx⟩
    · have hlt := (Array.getElem?_eq_some_iff.mp e).1
      show (s₁.gens.push _)[g]? = some z
      rw [Array.getElem?_push_lt hlt]
      exact (Array.getElem?_eq_some_iff.mp e).2 ▸ rfl
    · obtain ⟨o', _, _, ho', _⟩ := x.toInCall.ns
      exact Nat.ne_of_lt (Heap.lt_size ho')
    · obtain ⟨k, e⟩ := hl
      exact ⟨_, e⟩
theorem FmO.gstep {O : Addr → Prop} {st : Shared} {ρ0 : List (Str × PV)} {p0 : PV} (F : FmO c X D s₀ env ρ p s) (F0 : FmO c X D s₀ env ρ0 p0 st) (hO : ∀ b o, st.heap.get? b = some o → ¬ O b)
    (hk : ∀ b o, s.heap.get? b = some o → (¬ O b ∨ Kd o) → s'.heap.get? b = some o) (hg : ∀ (g : Nat) (x : GenState), s₀.gens[g]? = some x → s'.gens[g]? = some x) (hb : AllBare s₀.gens → AllBare s'.gens) (hos : s'.os = s.os) : FmO c X D s₀ env ρ p s' := by
  obtain ⟨m, cm, hn, hc, hv⟩ := F.fm.fr
  obtain ⟨m0, cm0, hn0, hc0, _⟩ := F0.fm.fr
  have oL : ¬ O env.locals := by
    obtain ⟨o, _, _, e, _⟩ := hn0
    exact hO _ _ e
  have oC : ∀ y k, env.cells.lookup y = some k → ¬ O k := fun y k hy => by
    obtain ⟨o, e, _⟩ := hc0 y k hy
    exact hO _ _ e
  have oX : ∀ b, XD X D b → ¬ O b := fun b hb => by
    obtain ⟨o, e⟩ := F0.fm.live b hb
    exact hO _ _ e
  refine ⟨⟨F.fm.kind, F.fm.gl, F.fm.bl, F.fm.apart, F.fm.above, F.fm.fresh, F.fm.glo, ⟨fun b o e => hk b o (F.fm.kp.heap b o e) (.inl (hO _ _ (F0.fm.kp.heap b o e))), hg, hb, hos.trans F.fm.kp.os⟩, fun b hb => ?_, F.fm.xn, F.fm.xc, m, cm,
    hn.at' fun o e => hk _ o e (.inl oL), fun y k hy => ?_, fun y q hy hvis => ?_⟩, F.nx, F.n0, F.own.keep fun o e => hk _ o e (.inl (oX _ (.inr rfl)))⟩
  · obtain ⟨o, e⟩ := F.fm.live b hb
    exact ⟨o, hk b o e (.inl (oX b hb))⟩
  · obtain ⟨o, e, r⟩ := hc y k hy
    exact ⟨o, hk _ o e (.inl (oC y k hy)), r⟩
  · obtain ⟨v, hN, hr⟩ := hv y q hy hvis
    exact ⟨v, hN, hr.keep fun b o hb e kd => hk b o e (.inr kd)⟩

theorem setGen_size (s : Shared) (g : Nat) (y : GenState) : (s.setGen g y).gens.size = s.gens.size := by simp [Shared.setGen]
theorem setGen_other {s : Shared} {g g' : Nat} {y x : GenState} (h : s.gens[g']? = some x) (hne : g' ≠ g) : (s.setGen g y).gens[g']? = some x := by
  simp only [Shared.setGen]
  rw [Array.getElem?_setIfInBounds]
  simp [Ne.symm hne, h]
theorem setGen_self {s : Shared} {g : Nat} {y : GenState} (h : g < s.gens.size) : (s.setGen g y).gens[g]? = some y := by
  simp only [Shared.setGen]
  rw [Array.getElem?_setIfInBounds]
  simp [h]
theorem setGen_bare {s : Shared} {g : Nat} {y : GenState} (h : AllBare s.gens) (hy : y.bare = true) : AllBare (s.setGen g y).gens := by
  intro z hz
  obtain ⟨i, hi⟩ := Array.mem_iff_getElem?.mp hz
  by_cases hg : i = g
  · subst hg
    simp only [Shared.setGen] at hi
    rw [Array.getElem?_setIfInBounds] at hi
    simp only [if_true] at hi
    split at hi
    · cases hi; exact hy
    · cases hi
  · simp only [Shared.setGen] at hi
    rw [Array.getElem?_setIfInBounds, if_neg (Ne.symm hg)] at hi
    exact h z (Array.mem_iff_getElem?.mpr ⟨i, hi⟩)

/-- a for loop over the generator -/
theorem exo_forgen {nm y : Str} {np ip yp pos : Pos} {e : Expr} {body : List Stmt} {row : List Int} (hC : CxOk c) (f : Nat → PV) (fin : PV) (T : Nat) (v : Nat → Int) (hT : T ≤ 100)
    (hnm : (nthD 2).1 = nm) (hk : env.kindOf nm = some .globalImplicit) (he : EvR c n (XD X D) env ρ e (intsV row)) (hy : stOk env y = true) (hne : row.head? ≠ some 0)
    (hv : ∀ k, k < T → strm row none k = some (v k))
    (hb : ∀ k, k < T → ∀ A E s, AOk (n + 1) A → FmO c X D s₀ env ((y, .int (v k)) :: ρ) (f k) s → wpS c.M A (execs body env) (fun g s' => (g = .next ∨ g = .cont) ∧ FmO c X D s₀ env ρ (f (k + 1)) s' ∧ Dp (XD X D) env s s') E s)
    (hend : (strm row none T = none ∧ f T = fin) ∨ (strm row none T = some (v T) ∧ ∀ A E s, AOk (n + 1) A → FmO c X D s₀ env ((y, .int (v T)) :: ρ) (f T) s → wpS c.M A (execs body env) (fun g s' => g = .brk ∧ FmO c X D s₀ env ρ fin s' ∧ Dp (XD X D) env s s') E s))
    (hes : ∀ env, starEach [e] env = (false, eval e env) :: starEach [] env := by intro _; exact starEach_no rfl)
    (hpl : (backTo ip (starEach [e] env)).any (·.1) = false := by exact plain_no rfl) (hd : (nm == ("__debug__" : Str)) = false := by decide +kernel) :
    ExO c (n + 1) X D s₀ env ρ (f 0) (.For (.Name y yp) (.Call (.Name nm np) [e] [] ip) body [] pos) ρ fin := by
  intro A E s hA F
  refine wpS_For (wpS_mono (ev_gen hnm hk he hes hpl hd hA F.fm.envR) (fun u s2 h => ?_) fun _ _ e => e) (fun _ => rfl)
  obtain ⟨s1, ga, ra, L, a, pm, code, doc, vs, rfl, k1, Md⟩ := h
  refine lf (wpAny_pyIter_gen Md.isg ?_)
  have hh : A.in1.handled = none := hA.hh
  have F1 := F.kp' k1
  have F2 := F1.kp' Md.kp
  let O : Addr → Prop := fun b => s2.heap.get? b = none ∨ b = L
  have hO1 : ∀ b o, s1.heap.get? b = some o → ¬ O b := fun b o e h => by
    rcases h with h | h
    · rw [Md.kp.heap _ _ e] at h; cases h
    · rw [h, Md.newL] at e; cases e
  have hmn : ∃ o, s₀.heap.get? mainGlobals = some o := by
    obtain ⟨o, _, _, e, _⟩ := F.fm.glo.g
    exact ⟨o, e⟩
  obtain ⟨om, hom⟩ := hmn
  have hOm : ¬ O mainGlobals := hO1 _ _ (F1.fm.kp.heap _ _ hom)
  have hOr : ¬ O ra := by obtain ⟨o, e⟩ := Md.old; exact hO1 _ _ e
  have hOg : ¬ O ga := by
    obtain ⟨o, _, _, e, _⟩ := Md.isg
    rintro (h | h)
    · rw [e] at h; cases h
    · exact Md.apart h.symm
  let gi := s1.gens.size
  have hgi : ∀ (g : Nat) (z : GenState), s1.gens[g]? = some z → g ≠ gi := fun g z e => Nat.ne_of_lt (Array.getElem?_eq_some_iff.mp e).1
  have notX : ∀ {b : Addr}, s1.heap.get? b = none → ¬ XD X D b := fun e hb => by
    obtain ⟨o, e'⟩ := F1.fm.live _ hb
    rw [e] at e'; cases e'
  have notL : ∀ {b : Addr}, s1.heap.get? b = none → b ≠ env.locals := fun e hb => by
    obtain ⟨m, cm, ⟨o, _, _, e', _⟩, _⟩ := F1.fm.fr
    rw [hb, e'] at e; cases e
  have notC : ∀ {b : Addr}, s1.heap.get? b = none → ∀ n, env.cells.lookup n ≠ some b := fun e n hb => by
    obtain ⟨m, cm, _, hc, _⟩ := F1.fm.fr
    obtain ⟨o, e', _⟩ := hc n _ hb
    rw [e] at e'; cases e'
  have raL : ra ≠ env.locals := by
    rintro rfl
    obtain ⟨m, cm, ⟨o, es, ep, e', hd', _⟩, _⟩ := F2.fm.fr
    obtain ⟨o2, e2, _, _, hd2⟩ := Md.ls
    rw [e'] at e2; cases e2
    rw [hd'] at hd2; cases hd2
  have raC : ∀ n, env.cells.lookup n ≠ some ra := fun n hb => by
    obtain ⟨m, cm, _, hc, _⟩ := F2.fm.fr
    obtain ⟨o, e', hd'⟩ := hc n _ hb
    obtain ⟨o2, e2, _, _, hd2⟩ := Md.ls
    rw [e'] at e2; cases e2
    rw [hd'] at hd2; cases hd2
  -- what holds between the turns
  let At : Nat → Shared → Prop := fun k s' => FmO c X D s₀ env ρ (f k) s' ∧ s'.heap.IsGen ga gi ∧ Dp (XD X D) env s1 s' ∧
    ∃ gs, s'.gens[gi]? = some gs ∧ gs.Goes c.M A.in1 (genR O 1000 (strm row none)) (genY O ra 1000 (strm row none)) ((999 - k) + 1) (.send .none) (s'.setGen gi .running)
  have at0 : At 0 s2 := by
    refine ⟨F2, Md.isg, Dp.of Md.kp, .fresh (.func (nthD 2).2.2.1 (envD (nthD 2) L a pm code doc)), ?_, rfl, ?_⟩
    · rw [Md.gs]; exact Array.getElem?_push_size
    obtain ⟨m, hm1, hm2⟩ := Md.ns
    exact gen_func (mg := c.mg) hC.charMax (.inr rfl) (fun b e => .inl e) hOr hOm hh Md.arei (by decide) hne hm1 hm2 Md.ls F2.fm.envR.glo.g fun _ => rfl
  -- the generator's own step
  have step : ∀ (k : Nat) (s' s'' : Shared), At k s' → (∀ b o, s'.heap.get? b = some o → (¬ O b ∨ Kd o) → s''.heap.get? b = some o) → (∃ y z, z.bare = true ∧ s''.gens = ((s'.setGen gi y).setGen gi z).gens ∧ y.bare = true) → s''.os = s'.os →
      FmO c X D s₀ env ρ (f k) s'' ∧ s''.heap.IsGen ga gi ∧ Dp (XD X D) env s1 s'' := by
    rintro k s' s'' ⟨F', G', D', _⟩ hk' ⟨y, z, hz, hgs, hyb⟩ hos
    have oth : ∀ (g : Nat) (w : GenState), s'.gens[g]? = some w → g ≠ gi → s''.gens[g]? = some w := fun g w e hne => by
      rw [hgs]; exact setGen_other (setGen_other e hne) hne
    refine ⟨F'.gstep F1 hO1 hk' (fun g w e => oth g w (F'.fm.kp.gens g w e) (hgi g w (F1.fm.kp.gens g w e))) (fun hb => ?_) hos, ?_, ⟨fun b o nx e dt => hk' b o (D'.heap b o nx e dt) (.inl (hO1 _ _ e)), fun b o nx h1 h2 e => hk' b o (D'.all b o nx h1 h2 e) (.inl (hO1 _ _ e)), fun g w e => oth g w (D'.gens g w e) (hgi g w e), hos.trans D'.os⟩⟩
    · rw [hgs]
      exact setGen_bare (setGen_bare (F'.fm.kp.bare hb) hyb) hz
    · obtain ⟨o, nm, qn, e, r⟩ := G'
      exact ⟨o, nm, qn, hk' _ _ e (.inl hOg), r⟩
  refine codeS_forLoop (fun j s' => ∃ k, j = T + 1 - k ∧ k ≤ T ∧ At k s') ?_ (T + 1) ⟨0, rfl, Nat.zero_le _, at0⟩
  rintro j s' ⟨k, rfl, hkT, hAt⟩
  obtain ⟨F', G', D', gs, hgs, hgo⟩ := id hAt
  have hsz : gi < s'.gens.size := (Array.getElem?_eq_some_iff.mp hgs).1
  refine lf (genNext (P := genP O 1000 (strm row none)) hA.hh F'.fm.envR.glo.nolimit hA.room G' hgs hgo (fun u s3 gs' hbare hY => ?_) (fun s3 hP h' hk' => ?_))
  · obtain ⟨⟨y', ty, hys, rfl⟩, ⟨h3, tk, rfl, hk3⟩, hkap⟩ := hY
    rw [show 1000 - 1 - ((999 - k) + 1 - 1) = k by omega] at hys
    obtain ⟨F4, G4, D4⟩ := step k s' (({ s'.setGen gi .running with heap := h3, toks := tk } : Shared).setGen gi gs') hAt hk3 ⟨.running, gs', hbare, rfl, rfl⟩ rfl
    refine wpS_assign_Name (lf (st_name F4.fm hy (.int y' ty) fun s5 F5 D5 X5 => ?_))
    have F5' : FmO c X D s₀ env ((y, .int y') :: ρ) (f k) s5 := ⟨F5, F.nx, F.n0, F4.own.keep fun o e => X5 D o (.inr rfl) e⟩
    rcases Nat.lt_or_ge k T with hlt | hge
    · have hvk := hv k hlt
      rw [hys] at hvk
      cases hvk
      refine wpS_mono (hb k hlt A _ s5 hA F5') (fun g s6 h6 => ?_) fun _ _ e => e
      obtain ⟨hg, F6, D6⟩ := h6
      have D46 : Dp (XD X D) env _ s6 := (D5.up).trans D6
      have goal : ∃ m, m < T + 1 - k ∧ ∃ k', m = T + 1 - k' ∧ k' ≤ T ∧ At k' s6 := by
        refine ⟨T + 1 - (k + 1), by omega, k + 1, rfl, hlt, F6, ?_, D4.trans D46, gs', D46.gens _ _ (setGen_self (by show gi < (s'.setGen gi .running).gens.size; rw [setGen_size]; exact hsz)), ?_⟩
        · obtain ⟨o, nm', qn, e, r⟩ := G4
          refine ⟨o, nm', qn, D46.all _ _ (notX Md.newG) (notL Md.newG) (notC Md.newG) e, r⟩
        · have hm : 999 - k = (999 - (k + 1)) + 1 := by omega
          have hfin := hkap (by omega) (s6.setGen gi .running) fun b o e q => ?_
          · rw [← hm]
            exact hfin
          · rcases q with (q | q) | rfl | rfl
            · have q1 : s1.heap.get? b = none := by
                cases e1 : s1.heap.get? b with
                | none => rfl
                | some o1 => rw [Md.kp.heap _ _ e1] at q; cases q
              exact D46.all _ _ (notX q1) (notL q1) (notC q1) e
            · rw [q] at e ⊢
              exact D46.all _ _ (notX Md.newL) (notL Md.newL) (notC Md.newL) e
            · exact D46.all _ _ Md.nx raL raC e
            · have e2 := F4.fm.kp.heap _ _ hom
              have e3 : some o = some om := e.symm.trans e2
              cases e3
              exact F6.fm.kp.heap _ _ hom
      rcases hg with rfl | rfl
      · exact goal
      · exact goal
    · have hkT' : k = T := Nat.le_antisymm hkT hge
      subst hkT'
      rcases hend with ⟨h1, _⟩ | ⟨h1, hbrk⟩
      · rw [hys] at h1; cases h1
      · rw [hys] at h1
        cases h1
        refine wpS_mono (hbrk A _ s5 hA F5') (fun g s6 h6 => ?_) fun _ _ e => e
        obtain ⟨rfl, F6, D6⟩ := h6
        exact ⟨rfl, F6, (Dp.of k1).trans (D4.trans (D5.up.trans D6))⟩
  · obtain ⟨hys, ⟨h3, tk, rfl, hk3⟩⟩ := hP
    rw [show 1000 - ((999 - k) + 1) = k by omega] at hys
    have hkT' : k = T := by
      rcases Nat.lt_or_ge k T with hlt | hge
      · have := hv k hlt; rw [hys] at this; cases this
      · omega
    subst hkT'
    rcases hend with ⟨_, h1⟩ | ⟨h1, _⟩
    · obtain ⟨F4, G4, D4⟩ := step k s' { ({ s'.setGen gi .running with heap := h3, toks := tk } : Shared).setGen gi .finished with heap := h' } hAt (fun b o e q => hk' b o (hk3 b o e q)) ⟨.running, .finished, rfl, rfl, rfl⟩ rfl
      exact ⟨rfl, h1 ▸ F4, (Dp.of k1).trans D4⟩
    · rw [hys] at h1; cases h1
end Mine
end

section
open PySem PySem.W PySem.Calls PyProof.Rows
open Sem (wp)
set_option Elab.async false
set_option maxRecDepth 100000
set_option linter.unusedVariables false
namespace Mine
local macro_rules | `(tactic| walk_at "ar") => `(tactic| first | omega | (simp only [List.length_map, List.length_range, List.length_cons, List.length_nil, List.length_append, List.length_reverse, List.length_replicate, Int.toNat_natCast]; omega))
variable {c : Cx} {n : Nat}
noncomputable def lastE (N : Int) (v : Nat → Int) : Nat → Int
  | 0 => N
  | k + 1 => lastE N v k - v k
noncomputable def endsP (N : Int) (v : Nat → Int) (T : Nat) : List Int := (List.range (T + 1)).map (lastE N v)
noncomputable def piecesP (b : List UInt8) (v : Nat → Int) (T : Nat) : List (List UInt8) :=
  ((List.range (T + 1)).map fun k => cutL b (some ((endsP b.length v T ++ [0]).getD (k + 1) 0)) (some ((endsP b.length v T ++ [0]).getD k 0))).reverse
/-- a break -/
theorem brk_if {env : Env} {ρ : List (Str × PV)} {X : Addr → Prop} {D : Addr} {s₀ : Shared} {p : PV} {x : Str} {t : Expr} {bp pos : Pos} {rest : List Stmt} (hx : ρ.lookup x = some (.own D)) (ht : EvT c n X env ((x, p) :: ρ) t true) {A : Around} {E : Value → Shared → Prop} {s : Shared} (hA : AOk n A) (F : FmO c X D s₀ env ρ p s) :
    wpS c.M A (execs (.If t [.Break bp] [] pos :: rest) env) (fun g s' => g = .brk ∧ FmO c X D s₀ env ρ p s' ∧ Dp (XD X D) env s s') E s := by
  refine wpS_execs_cons (wpS_If (wpS_mono (ht A E s hA (F.readR hx)) (fun v s₁ h₁ => ?_) fun _ _ e => e))
  obtain ⟨k, rfl⟩ := h₁
  simp only [if_true]
  refine wpS_execs_cons ?_
  have e : exec (.Break bp) env = (do standAt bp; pure .brk) := rfl
  rw [e]
  exact wpS_bind (wpS_standAt (wpS_pure ⟨rfl, F.kp' k, Dp.of k⟩))
theorem pieces_c {k : Bool} {b : List UInt8} {row : List Int} {v : Nat → Int} {T : Nat} (hC : CxOk c) (hz : b.length ≤ 1000) (hT : T ≤ 100) (hne : row.head? ≠ some 0)
    (hv : ∀ k, k < T → strm row none k = some (v k) ∧ v k < lastE b.length v k)
    (hend : strm row none T = none ∨ (strm row none T = some (v T) ∧ lastE b.length v T ≤ v T)) : FnD c (n + 2) (nthD 7) [Bb k b, intsV row] (.list ((piecesP b v T).map (Bb k))) := by
  refine fnD_of (ns := ["text", "row"]) (ρ := [("text", Bb k b), ("row", intsV row)]) rfl rfl (by decide +kernel) ?_ (fun k => rfl) rfl rfl rfl ?_
  · intro pm code doc vals h
    match vals, h with
    | [u, v], _ => rfl
  · intro X s₀ L ad pm code doc
    
    have hl : ∀ j, (endsP b.length v j).length = j + 1 := fun j => by simp [endsP]
    have hlast : ∀ j, (endsP b.length v j).getD ((endsP b.length v j).length - 1) 0 = lastE b.length v j := fun j => by
      rw [hl, Nat.add_sub_cancel]
      simp [endsP]
    have hsucc : ∀ j, endsP b.length v (j + 1) = endsP b.length v j ++ [lastE b.length v j - v j] := fun j => by
      unfold endsP
      rw [List.range_succ, List.map_append]; rfl
    refine exr_own (p := intsV (endsP b.length v 0)) (evn_list (evl_cons (ev_bi' hC lookup_cons_eq (by kernel_rfl) (evl_cons (ev_name lookup_cons_eq (by kernel_rfl)) evl_nil) (len_bb ?_)) evl_nil) ?_ (by simp [endsP])) rfl fun D => ?_
    · omega
    · intro X X' h h' vs r
      cases r with | cons r1 r2 => cases r2; cases r1; exact .cons (.int _ _) .nil
    
    refine exro_cons (exo_forgen hC (fun j => intsV (endsP b.length v j)) (intsV (endsP b.length v T)) T v hT rfl (by kernel_rfl) (ev_name ((lookup_cons_ne (by decide +kernel)).trans ((lookup_cons_ne (by decide +kernel)).trans lookup_cons_eq)) (by kernel_rfl)) rfl hne (fun j hj => (hv j hj).1) (fun j hj => ?_) ?_) ?_
    · intro A E s hA F
      
      have hj1 := (hv j hj).2
      refine wpS_mono ((?_ : ExOs c (n + 1) X D s₀ _ _ _ _ [("size", .int (v j)), ("ends", .own D), ("text", Bb k b), ("row", intsV row)] _) A E s hA F) (fun g s' h => ⟨.inl h.1, ⟨h.2.1.fm.drop fun m r hm _ => drop1 hm rfl, h.2.1.nx, h.2.1.n0, h.2.1.own⟩, h.2.2⟩) fun _ _ e => e
      refine exos_cons (exo_if (x := "ends") ((lookup_cons_ne (by decide +kernel)).trans lookup_cons_eq) (evt_cmp (ev_item (ev_name lookup_cons_eq (by kernel_rfl)) (ev_unop ev_int una_neg) (itm_map_last (0 : Int) ?_)) (ev_name ((lookup_cons_ne (by decide +kernel)).trans lookup_cons_eq) (by kernel_rfl)) cmp_le) (fun h => ?_) fun _ => exos_nil) (exos_cons (exo_append ((lookup_cons_ne (by decide +kernel)).trans lookup_cons_eq) (by kernel_rfl) (ev_binop (ev_item (ev_name lookup_cons_eq (by kernel_rfl)) (ev_unop ev_int una_neg) (itm_map_last (0 : Int) ?_)) (ev_name ((lookup_cons_ne (by decide +kernel)).trans lookup_cons_eq) (by kernel_rfl)) bin_sub) rfl ?_) (exos_nil_eq ?_))
      · rw [hl]; omega
      · rw [hlast] at h
        simp at h; omega
      · rw [hl]; omega
      · rw [List.length_map, hl]; omega
      · rw [hlast]
        show PV.list (List.map PV.int _ ++ List.map PV.int [_]) = _
        rw [← List.map_append, ← hsucc]
    · rcases hend with h | ⟨h1, h2⟩
      · exact .inl ⟨h, rfl⟩
      · refine .inr ⟨h1, fun A E s hA F => ?_⟩
        
        have ht : EvT c (n + 1) X (envD (nthD 7) L ad pm code doc) [("ends", intsV (endsP b.length v T)), ("size", .int (v T)), ("ends", .own D), ("text", Bb k b), ("row", intsV row)] (match (nthD 7).2.2.1 with | [_, .For _ _ (.If t _ _ _ :: _) _ _, _, _] => t | _ => .Name "" default) true := by
          have hd : decide ((endsP b.length v T).getD ((endsP b.length v T).length - 1) 0 ≤ v T) = true := by rw [hlast]; simpa using h2
          rw [← hd]
          refine (evt_cmp (ev_item (ev_name lookup_cons_eq (by kernel_rfl)) (ev_unop ev_int una_neg) (itm_map_last (0 : Int) ?_)) (ev_name ((lookup_cons_ne (by decide +kernel)).trans lookup_cons_eq) (by kernel_rfl)) cmp_le)
          rw [hl]; omega
        refine wpS_mono (brk_if (x := "ends") ((lookup_cons_ne (by decide +kernel)).trans lookup_cons_eq) ht hA F) (fun g s' h => ⟨h.1, ⟨h.2.1.fm.drop fun m r hm _ => drop1 hm rfl, h.2.1.nx, h.2.1.n0, h.2.1.own⟩, h.2.2⟩) fun _ _ e => e
    · 
      refine exro_cons (exo_append (q := .int 0) lookup_cons_eq (by kernel_rfl) ev_int rfl ?_) (exro_eq (p' := intsV (endsP b.length v T ++ [0])) (by simp) (exro_ret (x := "ends") lookup_cons_eq ?_))
      · rw [List.length_map, hl]; omega
      
      have hE : (endsP b.length v T ++ [0]).length = T + 2 := by simp [endsP]
      have hlenE : ((endsP b.length v T ++ [0]).length : Int) - 1 = ((T + 1 : Nat) : Int) := by rw [hE]; omega
      
      unfold piecesP
      refine (ev_cut (ev_compM (List.range (T + 1)) (fun (j : Nat) => .int (j : Int)) (Bb k) (fun j => cutL b (some ((endsP b.length v T ++ [0]).getD (j + 1) 0)) (some ((endsP b.length v T ++ [0]).getD j 0))) (ev_ty' hC ((lookup_cons_ne (by decide +kernel)).trans lookup_cons_eq) (by kernel_rfl) (evl_cons (ev_binop (ev_bi' hC lookup_cons_eq (by kernel_rfl) (evl_cons (ev_name lookup_cons_eq (by kernel_rfl)) evl_nil) (len_map ?_)) ev_int bin_sub) evl_nil) fn_range1) (fun _ => ?_) (by kernel_rfl) (by kernel_rfl) ?_ (fun C X' a hX ha => (ev_eq ?_ (ev_cut (ev_name ((lookup_cons_ne (by decide +kernel)).trans ((lookup_cons_ne (by decide +kernel)).trans ((lookup_cons_ne (by decide +kernel)).trans lookup_cons_eq))) (by kernel_rfl)) (evp_some (ev_item (ev_name ((lookup_cons_ne (by decide +kernel)).trans lookup_cons_eq) (by kernel_rfl)) (ev_binop (ev_name lookup_cons_eq (by kernel_rfl)) ev_int bin_add) (itm_mapD (0 : Int) ?_ ?_))) (evp_some (ev_item (ev_name ((lookup_cons_ne (by decide +kernel)).trans lookup_cons_eq) (by kernel_rfl)) (ev_name lookup_cons_eq (by kernel_rfl)) (itm_mapD (0 : Int) ?_ ?_))) evp_none (cut_bb ?_))))) evp_none evp_none (evp_some (ev_unop ev_int una_neg)) ?_)
      all_goals try walk_at "ar"
      · rw [hlenE]
        exact iter_range1 (by omega)
      · rfl
      · have := List.mem_range.mp ha; omega
      · have := List.mem_range.mp ha; omega
      · exact rev_map (f := Bb k) (by walk_at "ar")
end Mine
end

section
open PySem PySem.W PySem.Calls PyProof.Rows
open Sem (wp)
set_option Elab.async false
set_option maxRecDepth 100000
set_option linter.unusedVariables false
namespace Mine
local macro_rules | `(tactic| walk_at "ar") => `(tactic| first | omega | (simp only [List.length_map, List.length_range, List.length_cons, List.length_nil, List.length_append, List.length_reverse, List.length_replicate, Int.toNat_natCast]; omega))
variable {c : Cx} {n : Nat}
/-- a try whose body raises nothing -/
theorem exo_try {env : Env} {ρ ρ' : List (Str × PV)} {X : Addr → Prop} {D : Addr} {s₀ : Shared} {p p' : PV} {body : List Stmt} {h₀ : ExceptHandler} {hs : List ExceptHandler} {pos : Pos} (hb : ExOs c n X D s₀ env ρ p body ρ' p') :
    ExO c n X D s₀ env ρ p (.Try body (h₀ :: hs) [] [] pos) ρ' p' := by
  intro A E s hA F
  rw [arm_exec_Try]
  refine wpS_bind (wpS_standAt ?_)
  unfold tryStmt
  simp only [List.isEmpty_nil, if_true, List.isEmpty_cons, Bool.false_and, Bool.false_eq_true, if_false]
  refine wpS_bind (wpS_attempt (wpS_mono (hb A _ s hA F) (fun f s₁ h₁ => ?_) fun _ _ h => h))
  obtain ⟨rfl, h⟩ := h₁
  exact wpS_execs_nil ⟨rfl, h⟩
theorem exro_eq' {env : Env} {ρ ρ' : List (Str × PV)} {X : Addr → Prop} {D : Addr} {s₀ : Shared} {p p' q : PV} {st : Stmt} (h : p = p') (hx : ExO c n X D s₀ env ρ p' st ρ' q) : ExO c n X D s₀ env ρ p st ρ' q := h ▸ hx
theorem exo_eqr {env : Env} {ρ ρ' : List (Str × PV)} {X : Addr → Prop} {D : Addr} {s₀ : Shared} {p q q' : PV} {st : Stmt} (h : q = q') (hx : ExO c n X D s₀ env ρ p st ρ' q) : ExO c n X D s₀ env ρ p st ρ' q' := h ▸ hx
/-- the sizes told, as far as many -/
theorem front_c {row : List Int} {many : Nat} {v : Nat → Int} {T : Nat} (hC : CxOk c) (hT : T ≤ 100) (hne : row.head? ≠ some 0) (hm : 1 ≤ many)
    (hv : ∀ k, k < T → strm row none k = some (v k) ∧ k + 1 ≠ many)
    (hend : strm row none T = none ∨ (strm row none T = some (v T) ∧ T + 1 = many)) :
    FnD c (n + 2) (nthD 6) [intsV row, .int many] (intsV ((List.range (if strm row none T = none then T else T + 1)).map v)) := by
  refine fnD_of (ns := ["row", "many"]) (ρ := [("row", intsV row), ("many", .int many)]) rfl rfl (by decide +kernel) ?_ (fun k => rfl) rfl rfl rfl ?_
  · intro pm code doc vals h
    match vals, h with
    | [u, v], _ => rfl
  · intro X s₀ L ad pm code doc
    
    refine exr_own (p := intsV ((List.range 0).map v)) (evn_list evl_nil ?_ (by simp)) rfl fun D => ?_
    · intro X X' h h' vs r
      cases r; exact .nil
    
    have hl : ∀ j, ((List.range j).map v).length = j := fun j => by simp
    have hsucc : ∀ j, (List.range (j + 1)).map v = (List.range j).map v ++ [v j] := fun j => by
      rw [List.range_succ, List.map_append]; rfl
    refine exro_cons (exo_try (exos_cons (exo_forgen hC (fun j => intsV ((List.range j).map v)) (intsV ((List.range (if strm row none T = none then T else T + 1)).map v)) T v hT rfl (by kernel_rfl) (ev_name ((lookup_cons_ne (by decide +kernel)).trans lookup_cons_eq) (by kernel_rfl)) rfl hne (fun j hj => (hv j hj).1) (fun j hj => ?_) ?_) exos_nil)) (exro_ret (x := "told") lookup_cons_eq (ev_name lookup_cons_eq (by kernel_rfl)))
    · intro A E s hA F
      have hj1 := (hv j hj).2
      refine wpS_mono ((?_ : ExOs c (n + 1) X D s₀ _ _ _ _ [("size", .int (v j)), ("told", .own D), ("row", intsV row), ("many", .int many)] _) A E s hA F) (fun g s' h => ⟨.inl h.1, ⟨h.2.1.fm.drop fun m r hm _ => drop1 hm rfl, h.2.1.nx, h.2.1.n0, h.2.1.own⟩, h.2.2⟩) fun _ _ e => e
      refine exos_cons (exo_append (q := .int (v j)) ((lookup_cons_ne (by decide +kernel)).trans lookup_cons_eq) (by kernel_rfl) (ev_name ((lookup_cons_ne (by decide +kernel)).trans lookup_cons_eq) (by kernel_rfl)) rfl ?_) (exos_cons (exro_eq' (p' := intsV ((List.range (j + 1)).map v)) ?_ (exo_if (x := "told") ((lookup_cons_ne (by decide +kernel)).trans lookup_cons_eq) (evt_cmp (ev_bi' hC lookup_cons_eq (by kernel_rfl) (evl_cons (ev_name lookup_cons_eq (by kernel_rfl)) evl_nil) (len_map ?_)) (ev_name ((lookup_cons_ne (by decide +kernel)).trans ((lookup_cons_ne (by decide +kernel)).trans ((lookup_cons_ne (by decide +kernel)).trans ((lookup_cons_ne (by decide +kernel)).trans lookup_cons_eq)))) (by kernel_rfl)) cmp_eq) (fun h => ?_) fun _ => exos_nil)) exos_nil)
      · simp; omega
      · rw [hsucc]; simp
      · rw [hl]; omega
      · rw [hl] at h
        simp at h; omega
    · rcases hend with h | ⟨h1, h2⟩
      · exact .inl ⟨h, by rw [if_pos h]⟩
      · refine .inr ⟨h1, fun A E s hA F => ?_⟩
        rw [if_neg (by rw [h1]; simp)]
        have ht : EvT c (n + 1) X (envD (nthD 6) L ad pm code doc) [("told", intsV ((List.range (T + 1)).map v)), ("size", .int (v T)), ("told", .own D), ("row", intsV row), ("many", .int many)] (match (nthD 6).2.2.1 with | [_, .Try (.For _ _ [_, .If t _ _ _] _ _ :: _) _ _ _ _, _] => t | _ => .Name "" default) true := by
          have hd : decide (((((List.range (T + 1)).map v).length : Nat) : Int) = (many : Int)) = true := by rw [hl]; simp; omega
          rw [← hd]
          refine (evt_cmp (ev_bi' hC lookup_cons_eq (by kernel_rfl) (evl_cons (ev_name lookup_cons_eq (by kernel_rfl)) evl_nil) (len_map ?_)) (ev_name ((lookup_cons_ne (by decide +kernel)).trans ((lookup_cons_ne (by decide +kernel)).trans ((lookup_cons_ne (by decide +kernel)).trans ((lookup_cons_ne (by decide +kernel)).trans lookup_cons_eq)))) (by kernel_rfl)) cmp_eq)
          rw [hl]; omega
        refine wpS_execs_cons (wpS_mono ((?_ : ExO c (n + 1) X D s₀ _ _ _ _ [("size", .int (v T)), ("told", .own D), ("row", intsV row), ("many", .int many)] (intsV ((List.range (T + 1)).map v))) A E s hA F) (fun g s1 h => ?_) fun _ _ e => e)
        · refine exo_eqr ?_ (exo_append (q := .int (v T)) ((lookup_cons_ne (by decide +kernel)).trans lookup_cons_eq) (by kernel_rfl) (ev_name ((lookup_cons_ne (by decide +kernel)).trans lookup_cons_eq) (by kernel_rfl)) rfl ?_)
          · rw [hsucc]; simp
          · simp; omega
        · obtain ⟨rfl, F1, D1⟩ := h
          exact wpS_mono (brk_if (x := "told") ((lookup_cons_ne (by decide +kernel)).trans lookup_cons_eq) ht hA F1) (fun g s' h => ⟨h.1, ⟨h.2.1.fm.drop fun m r hm _ => drop1 hm rfl, h.2.1.nx, h.2.1.n0, h.2.1.own⟩, D1.trans h.2.2⟩) fun _ _ e => e
end Mine
end

section
open PySem PySem.W PySem.Calls PyProof.Rows
set_option Elab.async false
set_option linter.unusedVariables false
namespace Mine
theorem getD_set' {α : Type} (l : List α) (i j : Nat) (a d : α) (h : i < l.length) : (l.set i a).getD j d = if i = j then a else l.getD j d := by
  rw [List.getD_eq_getElem?_getD, List.getD_eq_getElem?_getD, List.getElem?_set]
  by_cases e : i = j
  · subst e; simp [h]
  · simp [e]
theorem swI_get (b : List UInt8) (w o : Nat) (B : List UInt8) (hB : o + w ≤ B.length) : ∀ j, j ≤ w → ∀ i, (swI b w o B j).getD i 0 = if o + w - j ≤ i ∧ i < o + w then b.getD (o + (o + w - 1 - i)) 0 else B.getD i 0
  | 0, _, i => by
    rw [swI, if_neg (by omega)]
  | j + 1, hj, i => by
    rw [swI, getD_set' _ _ _ _ _ (by rw [swI_len]; omega), swI_get b w o B hB j (by omega) i]
    by_cases e : o + w - 1 - j = i
    · rw [if_pos e, if_pos (by omega)]
      congr 1; omega
    · rw [if_neg e]
      by_cases h1 : o + w - j ≤ i ∧ i < o + w
      · rw [if_pos h1, if_pos (by omega)]
      · rw [if_neg h1, if_neg (by omega)]
theorem swO_get (b : List UInt8) (w m : Nat) (hw : 0 < w) (hb : b.length = w * m) : ∀ i, i ≤ m → ∀ x, (swO b w i).getD x 0 = if x < i * w then b.getD (x / w * w + (w - 1 - x % w)) 0 else 0
  | 0, _, x => by
    rw [swO, if_neg (by omega), List.getD_eq_getElem?_getD, List.getElem?_replicate]
    split <;> rfl
  | i + 1, hi, x => by
    have hle : i * w + w ≤ b.length := by
      rw [hb]
      calc i * w + w = w * (i + 1) := by rw [Nat.mul_add, Nat.mul_comm]; omega
        _ ≤ w * m := Nat.mul_le_mul_left _ hi
    rw [swO, swI_get b w (i * w) (swO b w i) (by rw [swO_len]; exact hle) w (Nat.le_refl _) x, swO_get b w m hw hb i (by omega) x]
    have e1 : (i + 1) * w = i * w + w := by rw [Nat.add_mul, Nat.one_mul]
    by_cases h1 : i * w + w - w ≤ x ∧ x < i * w + w
    · rw [if_pos h1, if_pos (by omega)]
      have hd : x / w = i := by
        apply Nat.div_eq_of_lt_le
        · omega
        · rw [e1]; omega
      have hm : x % w = x - i * w := by
        have := Nat.div_add_mod x w
        rw [hd, Nat.mul_comm] at this; omega
      rw [hd, hm]
      congr 1; omega
    · rw [if_neg h1]
      by_cases h2 : x < i * w
      · rw [if_pos h2, if_pos (by omega)]
      · rw [if_neg h2, if_neg (by omega)]
theorem ext_getD {α : Type} {l r : List α} (d : α) (hl : l.length = r.length) (h : ∀ i, i < l.length → l.getD i d = r.getD i d) : l = r := by
  apply List.ext_getElem hl
  intro i h1 h2
  have := h i h1
  rw [List.getD_eq_getElem?_getD, List.getD_eq_getElem?_getD, List.getElem?_eq_getElem h1, List.getElem?_eq_getElem h2] at this
  exact this
theorem getD_reverse {α : Type} (l : List α) (d : α) {i : Nat} (h : i < l.length) : l.reverse.getD i d = l.getD (l.length - 1 - i) d := by
  have h2 : l.length - 1 - i < l.length := by omega
  rw [List.getD_eq_getElem?_getD, List.getD_eq_getElem?_getD, List.getElem?_reverse h, List.getElem?_eq_getElem h2]
/-- a single word turned about -/
theorem swO_one (b : List UInt8) (h : 0 < b.length) : swO b b.length 1 = b.reverse := by
  refine ext_getD 0 (by rw [swO_len, List.length_reverse]) fun i hi => ?_
  rw [swO_len] at hi
  rw [swO_get b b.length 1 h (by omega) 1 (Nat.le_refl _) i, if_pos (by omega), getD_reverse _ _ hi, Nat.div_eq_of_lt hi, Nat.mod_eq_of_lt hi]
  congr 1; omega
theorem flat_getD {α : Type} (d : α) (w : Nat) : ∀ (xs : List (List α)), (∀ x ∈ xs, x.length = w) → ∀ k r, r < w → xs.flatten.getD (k * w + r) d = (xs.getD k []).getD r d
  | [], _, k, r, _ => by simp
  | x :: xs, h, 0, r, hr => by
    have hx := h x List.mem_cons_self
    rw [List.flatten_cons, Nat.zero_mul, Nat.zero_add, List.getD_eq_getElem?_getD, List.getElem?_append_left (by omega)]
    rfl
  | x :: xs, h, k + 1, r, hr => by
    have hx := h x List.mem_cons_self
    have e : (k + 1) * w + r = x.length + (k * w + r) := by rw [Nat.add_mul]; omega
    rw [List.flatten_cons, e, List.getD_eq_getElem?_getD, List.getElem?_append_right (by omega), Nat.add_sub_cancel_left, ← List.getD_eq_getElem?_getD]
    exact flat_getD d w xs (fun y hy => h y (List.mem_cons_of_mem _ hy)) k r hr
theorem flat_len {α : Type} (w : Nat) : ∀ (xs : List (List α)), (∀ x ∈ xs, x.length = w) → xs.flatten.length = w * xs.length
  | [], _ => by simp
  | x :: xs, h => by
    rw [List.flatten_cons, List.length_append, h x List.mem_cons_self, flat_len w xs fun y hy => h y (List.mem_cons_of_mem _ hy), List.length_cons, Nat.mul_add]; omega
theorem clip_nat (m i : Nat) (h : i ≤ m) : clipAt m (i : Int) = i := by
  have := clipAt_cast m (i : Int)
  rw [if_neg (by omega)] at this
  omega
theorem cutL_nat {α : Type} (xs : List α) (i j : Nat) (hi : i ≤ xs.length) (hj : j ≤ xs.length) : cutL xs (some (i : Int)) (some (j : Int)) = (xs.drop i).take (j - i) := by
  unfold cutL
  simp only [Option.elim_some]
  rw [clip_nat _ _ hi, clip_nat _ _ hj]
theorem getD_take_drop {α : Type} (xs : List α) (d : α) (i n r : Nat) (h : r < n) : ((xs.drop i).take n).getD r d = xs.getD (i + r) d := by
  rw [List.getD_eq_getElem?_getD, List.getD_eq_getElem?_getD, List.getElem?_take, if_pos h, List.getElem?_drop]
/-- words of one size, turned about each by itself -/
theorem swO_cut (xs : List (List UInt8)) (w : Nat) (hw : 0 < w) (h : ∀ x ∈ xs, x.length = w) (k : Nat) (hk : k < xs.length) :
    cutL (swO xs.flatten w xs.length) (some ((k * w : Nat) : Int)) (some (((k + 1) * w : Nat) : Int)) = (xs.getD k []).reverse := by
  have hF := flat_len w xs h
  have hlen : (swO xs.flatten w xs.length).length = w * xs.length := by rw [swO_len, hF]
  have h1 : (k + 1) * w ≤ w * xs.length := by rw [Nat.mul_comm]; exact Nat.mul_le_mul_left _ hk
  have e1 : (k + 1) * w = k * w + w := by rw [Nat.add_mul, Nat.one_mul]
  have hxk : (xs.getD k []).length = w := by
    rw [List.getD_eq_getElem?_getD, List.getElem?_eq_getElem hk]
    exact h _ (List.getElem_mem _)
  rw [cutL_nat _ _ _ (by omega) (by omega)]
  refine ext_getD 0 ?_ fun r hr => ?_
  · rw [List.length_take, List.length_drop, List.length_reverse, hxk]; omega
  · rw [List.length_take, List.length_drop] at hr
    have hrw : r < w := by omega
    rw [getD_take_drop _ _ _ _ _ (by omega), swO_get _ w xs.length hw hF xs.length (Nat.le_refl _), if_pos (by rw [Nat.mul_comm xs.length]; omega), getD_reverse _ _ (by omega), hxk]
    have hd : (k * w + r) / w = k := Nat.div_eq_of_lt_le (by omega) (by omega)
    have hm : (k * w + r) % w = r := by
      have := Nat.div_add_mod (k * w + r) w
      rw [hd, Nat.mul_comm] at this; omega
    rw [hd, hm, flat_getD 0 w xs h k (w - 1 - r) (by omega)]
end Mine
end

section
open PySem PySem.W PySem.Calls PyProof.Rows
open Sem (wp)
set_option Elab.async false
set_option maxRecDepth 100000
set_option linter.unusedVariables false
namespace Mine
local macro_rules | `(tactic| walk_at "ar") => `(tactic| first | omega | (simp only [List.length_map, List.length_range, List.length_cons, List.length_nil, List.length_append, List.length_reverse, List.length_replicate, Int.toNat_natCast]; omega))
variable {c : Cx} {n : Nat}
noncomputable def stripP (b : List UInt8) (w k : Nat) : List UInt8 := cutL b (some (k : Int)) (some ((k : Int) + (w : Int)))
noncomputable def unI (b : List UInt8) (w : Nat) (f0 : List (List UInt8)) : Nat → List (List UInt8)
  | 0 => f0
  | k + 1 => if ((stripP b w k).reverse == stripP b w k && !((unI b w f0 k).any (· == stripP b w k))) = true then unI b w f0 k ++ [stripP b w k] else unI b w f0 k
noncomputable def unO (b : List UInt8) : Nat → List (List UInt8)
  | 0 => []
  | i + 1 => unI b (i + 1) (unO b i) (b.length - i)
theorem unI_len (b : List UInt8) (w : Nat) (f0 : List (List UInt8)) : ∀ k, (unI b w f0 k).length ≤ f0.length + k
  | 0 => by simp [unI]
  | k + 1 => by
    have := unI_len b w f0 k
    rw [unI]
    split
    · rw [List.length_append]; simp; omega
    · omega
theorem unO_len (b : List UInt8) : ∀ i, (unO b i).length ≤ i * b.length
  | 0 => by simp [unO]
  | i + 1 => by
    have h1 := unO_len b i
    have h2 := unI_len b (i + 1) (unO b i) (b.length - i)
    rw [unO, Nat.add_mul]; omega
theorem stripP_len (b : List UInt8) (w k : Nat) (h : k + w ≤ b.length) : (stripP b w k).length = w := by
  unfold stripP
  rw [show ((k : Int) + (w : Int)) = ((k + w : Nat) : Int) by omega, cutL_nat _ _ _ (by omega) h, List.length_take, List.length_drop]; omega
theorem swap_b {b : List UInt8} {w m : Nat} (hC : CxOk c) (hw : 0 < w) (hm : b.length = w * m) (hz : b.length ≤ 1000) (hwz : w ≤ 1000) : FnD c (n + 1) (nthD 3) [.bytes b, .int w] (.bytes (swO b w m)) := swap_c (k := false) hC hw hm hz hwz
set_option maxHeartbeats 2000000 in
theorem unturned_c {b : List UInt8} (hC : CxOk c) (hz : b.length ≤ 30) : FnD c (n + 2) (nthD 9) [.bytes b] (.list ((unO b b.length).map .bytes)) := by
  refine fnD_of (ns := ["text"]) (ρ := [("text", .bytes b)]) rfl rfl (by decide +kernel) ?_ (fun k => rfl) rfl rfl rfl ?_
  · intro pm code doc vals h
    match vals, h with
    | [u], _ => rfl
  · intro X s₀ L ad pm code doc
    
    refine exr_own (p := bytesV (unO b 0)) (evn_list evl_nil ?_ (by simp [unO])) rfl fun D => ?_
    · intro X X' h h' vs r
      cases r; exact .nil
    
    have hsz : (((b.length : Int) + 1) - 1).toNat = b.length := by omega
    refine exro_cons (exo_for (fun i => bytesV (unO b i)) (ev_ty' hC ((lookup_cons_ne (by decide +kernel)).trans lookup_cons_eq) (by kernel_rfl) (evl_cons ev_int (evl_cons (ev_binop (ev_bi' hC lookup_cons_eq (by kernel_rfl) (evl_cons (ev_name ((lookup_cons_ne (by decide +kernel)).trans lookup_cons_eq) (by kernel_rfl)) evl_nil) (len_bytes' ?_)) ev_int bin_add) evl_nil)) fn_range2) (iter_range ?_) rfl fun i u hu => ?_) (exro_eq (p' := bytesV (unO b b.length)) ?_ (exro_ret (x := "found") lookup_cons_eq (ev_name lookup_cons_eq (by kernel_rfl))))
    · omega
    · exact small_ok (by omega) (by omega)
    · obtain ⟨hi, rfl⟩ := rng_some hu
      rw [rsize1, hsz] at hi
      rw [show (1 + (i : Int) * 1) = ((i + 1 : Nat) : Int) by omega]
      have hlen : ∀ x ∈ ((List.range (b.length - i)).map fun k => stripP b (i + 1) k), x.length = i + 1 := by
        intro x hx
        obtain ⟨k, hk, rfl⟩ := List.mem_map.mp hx
        have := List.mem_range.mp hk
        exact stripP_len _ _ _ (by omega)
      have hF := flat_len (i + 1) _ hlen
      rw [List.length_map, List.length_range] at hF
      have hFz : (i + 1) * (b.length - i) ≤ 900 := Nat.le_trans (Nat.mul_le_mul (show i + 1 ≤ 30 by omega) (show b.length - i ≤ 30 by omega)) (by decide)
      
      
      
      refine ⟨_, exos_cons (exo_assign (q := .range 0 ((b.length - i : Nat) : Int) 1) (ev_eq ?_ (ev_ty' hC ((lookup_cons_ne (by decide +kernel)).trans lookup_cons_eq) (by kernel_rfl) (evl_cons (ev_binop (ev_binop (ev_bi' hC lookup_cons_eq (by kernel_rfl) (evl_cons (ev_name ((lookup_cons_ne (by decide +kernel)).trans ((lookup_cons_ne (by decide +kernel)).trans lookup_cons_eq)) (by kernel_rfl)) evl_nil) (len_bytes' ?_)) (ev_name lookup_cons_eq (by kernel_rfl)) bin_sub) ev_int bin_add) evl_nil) fn_range1)) rfl) (exos_cons (exo_assign (ev_def' (i := 3) (by decide) rfl (by kernel_rfl) (evl_cons (ev_meth ev_bytes (evl_cons (ev_compM (List.range (b.length - i)) (fun (k : Nat) => .int (k : Int)) PV.bytes (fun k => stripP b (i + 1) k) (ev_name lookup_cons_eq (by kernel_rfl)) (fun _ => iter_range1 ?_) (by kernel_rfl) (by kernel_rfl) ?_ (fun C X' a hX ha => (ev_cut (ev_name ((lookup_cons_ne (by decide +kernel)).trans ((lookup_cons_ne (by decide +kernel)).trans ((lookup_cons_ne (by decide +kernel)).trans ((lookup_cons_ne (by decide +kernel)).trans lookup_cons_eq)))) (by kernel_rfl)) (evp_some (ev_name lookup_cons_eq (by kernel_rfl))) (evp_some (ev_binop (ev_name lookup_cons_eq (by kernel_rfl)) (ev_name ((lookup_cons_ne (by decide +kernel)).trans ((lookup_cons_ne (by decide +kernel)).trans lookup_cons_eq)) (by kernel_rfl)) bin_add)) evp_none (cut_bytes ?_)))) evl_nil) FB.plainAttrs_bytes BJ.slot BJ.ty tyBytes (fn_bjoin ?_)) (evl_cons (ev_name ((lookup_cons_ne (by decide +kernel)).trans lookup_cons_eq) (by kernel_rfl)) evl_nil)) (swap_b (w := i + 1) (m := b.length - i) hC ?_ ?_ ?_ ?_)) rfl) (exos_cons (exo_for (fun k => bytesV (unI b (i + 1) (unO b i) k)) (ev_name ((lookup_cons_ne (by decide +kernel)).trans lookup_cons_eq) (by kernel_rfl)) (iter_range1 ?_) rfl fun k u hu => ?_) (exos_nil_eq ?_))), fun m r hm hv => drop1 (drop1 (drop1 hm rfl) rfl) rfl⟩
      · rw [show (b.length : Int) - ((i + 1 : Nat) : Int) + 1 = ((b.length - i : Nat) : Int) by omega]
      · omega
      · omega
      · walk_at "ar"
      · omega
      · omega
      · omega
      · exact hF
      · omega
      · omega
      · omega
      · obtain ⟨hk, rfl⟩ : k < b.length - i ∧ u = .int (k : Int) := by
          rw [List.getElem?_map] at hu
          cases hr : (List.range (b.length - i))[k]? with
          | none => rw [hr] at hu; cases hu
          | some j =>
            rw [hr] at hu
            obtain ⟨h1, h2⟩ := List.getElem?_eq_some_iff.mp hr
            rw [List.getElem_range] at h2
            subst h2
            cases hu
            exact ⟨by simpa using h1, rfl⟩
        have hcut := swO_cut _ (i + 1) (Nat.succ_pos i) hlen k (by rw [List.length_map, List.length_range]; exact hk)
        rw [List.length_map, List.length_range] at hcut
        have hget : ((List.range (b.length - i)).map fun k => stripP b (i + 1) k).getD k [] = stripP b (i + 1) k := by
          simp [hk]
        rw [hget] at hcut
        have hT : (swO ((List.range (b.length - i)).map fun k => stripP b (i + 1) k).flatten (i + 1) (b.length - i)).length = (i + 1) * (b.length - i) := by rw [swO_len, hF]
        generalize hTT : swO ((List.range (b.length - i)).map fun k => stripP b (i + 1) k).flatten (i + 1) (b.length - i) = TT at hcut hT ⊢
        have hul := unI_len b (i + 1) (unO b i) k
        have hol := unO_len b i
        have hil : i * b.length ≤ 900 := Nat.le_trans (Nat.mul_le_mul (show i ≤ 30 by omega) hz) (by decide)
        have e1 : ((k : Int) * ((i + 1 : Nat) : Int)) = ((k * (i + 1) : Nat) : Int) := by rw [Int.natCast_mul]
        have e2 : (((k : Int) + 1) * ((i + 1 : Nat) : Int)) = (((k + 1) * (i + 1) : Nat) : Int) := by rw [Int.natCast_mul, Int.natCast_add]; rfl
        
        refine ⟨_, exos_cons (exo_assign (q := .bytes (stripP b (i + 1) k)) (ev_cut (ev_name ((lookup_cons_ne (by decide +kernel)).trans ((lookup_cons_ne (by decide +kernel)).trans ((lookup_cons_ne (by decide +kernel)).trans ((lookup_cons_ne (by decide +kernel)).trans ((lookup_cons_ne (by decide +kernel)).trans lookup_cons_eq))))) (by kernel_rfl)) (evp_some (ev_name lookup_cons_eq (by kernel_rfl))) (evp_some (ev_binop (ev_name lookup_cons_eq (by kernel_rfl)) (ev_name ((lookup_cons_ne (by decide +kernel)).trans ((lookup_cons_ne (by decide +kernel)).trans ((lookup_cons_ne (by decide +kernel)).trans lookup_cons_eq))) (by kernel_rfl)) bin_add)) evp_none (cut_bytes ?_)) rfl) (exos_cons (exo_if (x := "found") ((lookup_cons_ne (by decide +kernel)).trans ((lookup_cons_ne (by decide +kernel)).trans ((lookup_cons_ne (by decide +kernel)).trans ((lookup_cons_ne (by decide +kernel)).trans ((lookup_cons_ne (by decide +kernel)).trans lookup_cons_eq))))) (evt_and (evt_cmp (ev_cut (ev_name ((lookup_cons_ne (by decide +kernel)).trans ((lookup_cons_ne (by decide +kernel)).trans ((lookup_cons_ne (by decide +kernel)).trans lookup_cons_eq))) (by kernel_rfl)) (evp_some (ev_binop (ev_name ((lookup_cons_ne (by decide +kernel)).trans ((lookup_cons_ne (by decide +kernel)).trans lookup_cons_eq)) (by kernel_rfl)) (ev_name ((lookup_cons_ne (by decide +kernel)).trans ((lookup_cons_ne (by decide +kernel)).trans ((lookup_cons_ne (by decide +kernel)).trans ((lookup_cons_ne (by decide +kernel)).trans ((lookup_cons_ne (by decide +kernel)).trans lookup_cons_eq))))) (by kernel_rfl)) (bin_mul ?_))) (evp_some (ev_binop (ev_binop (ev_name ((lookup_cons_ne (by decide +kernel)).trans ((lookup_cons_ne (by decide +kernel)).trans lookup_cons_eq)) (by kernel_rfl)) ev_int bin_add) (ev_name ((lookup_cons_ne (by decide +kernel)).trans ((lookup_cons_ne (by decide +kernel)).trans ((lookup_cons_ne (by decide +kernel)).trans ((lookup_cons_ne (by decide +kernel)).trans ((lookup_cons_ne (by decide +kernel)).trans lookup_cons_eq))))) (by kernel_rfl)) (bin_mul ?_))) evp_none (cut_bytes ?_)) (ev_name ((lookup_cons_ne (by decide +kernel)).trans lookup_cons_eq) (by kernel_rfl)) cmp_eqb) (fun _ => (evt_cmp (ev_name ((lookup_cons_ne (by decide +kernel)).trans lookup_cons_eq) (by kernel_rfl)) (ev_name lookup_cons_eq (by kernel_rfl)) cmp_notin_bytes))) (fun h => exos_cons (exo_append (q := .bytes (stripP b (i + 1) k)) ((lookup_cons_ne (by decide +kernel)).trans ((lookup_cons_ne (by decide +kernel)).trans ((lookup_cons_ne (by decide +kernel)).trans ((lookup_cons_ne (by decide +kernel)).trans ((lookup_cons_ne (by decide +kernel)).trans lookup_cons_eq))))) (by kernel_rfl) (ev_name ((lookup_cons_ne (by decide +kernel)).trans lookup_cons_eq) (by kernel_rfl)) rfl ?_) (exos_nil_eq ?_)) (fun h => exos_nil_eq ?_)) exos_nil), fun m r hm hv => drop1 (drop1 hm rfl) rfl⟩
        · omega
        · omega
        · omega
        · omega
        · rw [List.length_map]; omega
        · rw [e1, e2, hcut] at h
          rw [unI, if_pos h]; simp
        · rw [e1, e2, hcut] at h
          rw [unI, if_neg (by rw [h]; exact Bool.false_ne_true)]
      · rw [List.length_map, List.length_range, unO]
    · rw [rng_len, rsize1, hsz]
end Mine
end

section
open PySem PySem.W PySem.Calls PyProof.Rows
open Sem (wp)
set_option Elab.async false
set_option maxRecDepth 100000
set_option linter.unusedVariables false
namespace Mine
theorem compTurn_two0 (elt t1 i1 t2 i2 : Expr) (scope : Scope) (pos : Pos) (it acc : Value) (env : Env) :
    compTurn (.ListComp elt [⟨t1, i1, [], 0⟩, ⟨t2, i2, [], 0⟩] scope pos) 0 it acc env = (do
      standAt i1.pos
      match ← pyNext it with
      | none => pure (.done .next)
      | some v =>
        letOwnedTupleGo t1 it v
        assign t1 env v
        let x ← eval i2 env
        standAt i2.pos
        let x ← foldedSetIterable i2 env x
        let I ← holding [x] (pyIter x)
        let _ ← runOwn (.compStart (.ListComp elt [⟨t1, i1, [], 0⟩, ⟨t2, i2, [], 0⟩] scope pos) 1 I acc env) env
        again (.compLoop (.ListComp elt [⟨t1, i1, [], 0⟩, ⟨t2, i2, [], 0⟩] scope pos) 0 it acc env)) := by rfl
theorem compTurn_two1 (elt t1 i1 t2 i2 : Expr) (scope : Scope) (pos : Pos) (it acc : Value) (env : Env) :
    compTurn (.ListComp elt [⟨t1, i1, [], 0⟩, ⟨t2, i2, [], 0⟩] scope pos) 1 it acc env = (do
      standAt i2.pos
      match ← pyNext it with
      | none => pure (.done .next)
      | some v =>
        letOwnedTupleGo t2 it v
        assign t2 env v
        (do let _ ← call (.builtin "list.append") [acc, ← eval elt env])
        again (.compLoop (.ListComp elt [⟨t1, i1, [], 0⟩, ⟨t2, i2, [], 0⟩] scope pos) 1 it acc env)) := by rfl
section
variable {prog : Program} {w : World} {A : Around} {E : Value → Shared → Prop} {s : Shared} {R : Result → Shared → Prop} {elt t1 i1 t2 i2 : Expr} {scope : Scope} {pos : Pos} {it acc : Value} {env : Env}
theorem codeS_compStart2 {d : Nat} (h0 : codeS (model prog w) A (.compLoop (.ListComp elt [⟨t1, i1, [], 0⟩, ⟨t2, i2, [], 0⟩] scope pos) d it acc env) R s)
    (h : wpS (model prog w) A (pyIter it) (fun it' s' => codeS (model prog w) A (.compLoop (.ListComp elt [⟨t1, i1, [], 0⟩, ⟨t2, i2, [], 0⟩] scope pos) d it' acc env) R s') (fun _ _ => False) s) (hd : d = 0 ∨ d = 1) :
    codeS (model prog w) A (.compStart (.ListComp elt [⟨t1, i1, [], 0⟩, ⟨t2, i2, [], 0⟩] scope pos) d it acc env) R s := by
  refine codeS_of_tree ?_
  show wpS _ _ ((compStart (.ListComp elt [⟨t1, i1, [], 0⟩, ⟨t2, i2, [], 0⟩] scope pos) d it acc env).onRaise (fun x => do noteFrame x env; standAt theWindowsPlace)) _ _ s
  refine wpS_onRaise ?_
  rcases hd with rfl | rfl
  all_goals
    unfold compStart
    show wpS _ _ (ask >>= _) _ _ s
    refine wpS_bind (lf (wpAny_askSetting ?_))
    by_cases hb : ((⟨(model prog w).prog, (model prog w).w.params⟩ : Setting).params.followText "comprehension-iter-twice") = true
    · rw [if_pos hb]
      first
        | exact wpS_bind (wpS_pure (wpS_pure (And.intro rfl (And.intro rfl h0))))
        | exact wpS_pure (And.intro rfl (And.intro rfl h0))
    · rw [if_neg hb]
      refine wpS_bind (lf (wpAny_rule ?_))
      show wpS _ _ (standAt _ >>= _) _ _ s
      exact wpS_bind (wpS_standAt (wpS_bind (wpS_mono h (fun it' s' h' => wpS_pure (And.intro rfl (And.intro rfl h'))) fun _ _ x => x)))
theorem codeS_compLoop1 (I : Nat → Shared → Prop)
    (turn : ∀ n s, I n s → wpS (model prog w) A (pyNext it) (fun r s₁ => match r with
      | none => R (.ok .next) s₁
      | some v => wpS (model prog w) A (assign t2 env v) (fun _ s₂ => wpS (model prog w) A (eval elt env) (fun x s₄ =>
          wpS (model prog w) A (call (.builtin "list.append") [acc, x]) (fun _ s₅ => ∃ m, m < n ∧ I m s₅) (fun _ _ => False) s₄) (fun _ _ => False) s₂) (fun _ _ => False) s₁) (fun _ _ => False) s)
    (n : Nat) (h : I n s) (ht : ∀ v, letOwnedTupleGo t2 it v = pure ()) :
    codeS (model prog w) A (.compLoop (.ListComp elt [⟨t1, i1, [], 0⟩, ⟨t2, i2, [], 0⟩] scope pos) 1 it acc env) R s := by
  refine codeS_loop rfl rfl I (fun n s hI => ?_) n h
  show wpS _ A ((compTurn (.ListComp elt [⟨t1, i1, [], 0⟩, ⟨t2, i2, [], 0⟩] scope pos) 1 it acc env).onRaise (fun x => do noteFrame x env; theTreesLotGoes x)) _ _ s
  refine wpS_onRaise ?_
  rw [compTurn_two1]
  refine wpS_bind (wpS_standAt (wpS_bind (wpS_mono (turn n s hI) (fun r s₁ h₁ => ?_) fun _ _ h' => h')))
  cases r with
  | none => exact wpS_pure h₁
  | some v =>
    refine wpS_bind (wpS_of_eq (ht v) ?_)
    refine wpS_bind (wpS_mono h₁ (fun _ s₂ h₂ => ?_) fun _ _ h' => h')
    exact wpS_bind (wpS_bind (wpS_mono h₂ (fun x s₄ h₄ => wpS_bind (wpS_mono h₄ (fun _ s₅ h₅ => wpS_pure (wpS_pure (.inl ⟨rfl, h₅⟩))) fun _ _ h' => h')) fun _ _ h' => h'))
theorem codeS_compLoop0 (I : Nat → Shared → Prop)
    (turn : ∀ n s, I n s → wpS (model prog w) A (pyNext it) (fun r s₁ => match r with
      | none => R (.ok .next) s₁
      | some v => wpS (model prog w) A (assign t1 env v) (fun _ s₂ => wpS (model prog w) A (eval i2 env) (fun x s₃ => wpS (model prog w) A (pyIter x) (fun J s₄ =>
          codeS (model prog w) A (.compStart (.ListComp elt [⟨t1, i1, [], 0⟩, ⟨t2, i2, [], 0⟩] scope pos) 1 J acc env) (fun r s₅ => match r with | .ok _ => ∃ m, m < n ∧ I m s₅ | .error _ => False) s₄) (fun _ _ => False) s₃) (fun _ _ => False) s₂) (fun _ _ => False) s₁) (fun _ _ => False) s)
    (n : Nat) (h : I n s) (ht : ∀ v, letOwnedTupleGo t1 it v = pure ()) (hfs : ∀ x, foldedSetIterable i2 env x = pure x) :
    codeS (model prog w) A (.compLoop (.ListComp elt [⟨t1, i1, [], 0⟩, ⟨t2, i2, [], 0⟩] scope pos) 0 it acc env) R s := by
  refine codeS_loop rfl rfl I (fun n s hI => ?_) n h
  show wpS _ A ((compTurn (.ListComp elt [⟨t1, i1, [], 0⟩, ⟨t2, i2, [], 0⟩] scope pos) 0 it acc env).onRaise (fun x => do noteFrame x env; theTreesLotGoes x)) _ _ s
  refine wpS_onRaise ?_
  rw [compTurn_two0]
  refine wpS_bind (wpS_standAt (wpS_bind (wpS_mono (turn n s hI) (fun r s₁ h₁ => ?_) fun _ _ h' => h')))
  cases r with
  | none => exact wpS_pure h₁
  | some v =>
    refine wpS_bind (wpS_of_eq (ht v) ?_)
    refine wpS_bind (wpS_mono h₁ (fun _ s₂ h₂ => ?_) fun _ _ h' => h')
    refine wpS_bind (wpS_mono h₂ (fun x s₃ h₃ => wpS_bind (wpS_standAt ?_)) fun _ _ h' => h')
    refine wpS_bind (wpS_of_eq (hfs x) ?_)
    refine wpS_bind (wpS_holding (wpS_mono h₃ (fun J s₄ h₄ => ?_) fun _ _ h' => h'))
    refine wpS_bind (wpS_runOwn rfl (codeS_mono h₄ fun r s₅ h₅ => ?_))
    cases r with
    | ok f => exact wpS_pure (.inl ⟨rfl, h₅⟩)
    | error e => exact h₅
end
end Mine
end

section
open PySem PySem.W PySem.Calls PyProof.Rows
open Sem (wp)
set_option Elab.async false
set_option maxRecDepth 100000
set_option linter.unusedVariables false
namespace Mine
variable {c : Cx} {n : Nat} {X : Addr → Prop} {env : Env} {ρ : List (Str × PV)}

/-- the inner loop of a comprehension of two clauses -/
theorem comp_inner {β : Type} {A : Around} {elt i1 i2 : Expr} {x1 x2 : Str} {q1 q2 pos : Pos} {scope : Scope} {J D C : Addr} {fp wr : List Addr} {P : Nat → Value → Prop} {St : Nat → Heap → Prop} {St1 : Heap → Prop} {fp1 : List Addr}
    {l : List β} {f : β → PV} {g : β → PV} {sb sm s : Shared} {m : Str → Option Value} {R : Result → Shared → Prop} {u1 : Value} {p1 : PV} {done : List PV} {ys0 : List Value}
    (hA : AOk n A) (W : Walks c.prog c.w A J fp wr l.length P St) (hP : ∀ i u, P i u → ∃ a, l[i]? = some a ∧ Rep (XD X D) sm.heap u (f a)) (hfl : ∀ a ∈ l, flatP (f a) = true) (hp1 : flatP p1 = true) (R0 : EnvR c X env ρ sb) (hok : compOk scope env ρ = true)
    (hx1 : scope.names.lookup x1 = some .local) (hx2 : scope.names.lookup x2 = some .local) (hne : x1 ≠ x2) (hwr : ∀ b ∈ wr, sm.heap.get? b = none) (hIt : ∀ i h, St i h → ∀ b ∈ wr, ∃ o, h.get? b = some o ∧ IsIt o)
    (hD : sb.heap.get? D = none) (hC : sb.heap.get? C = none) (hDC : D ≠ C) (hDf : D ∉ fp) (hCf : C ∉ fp) (hlen : done.length + l.length ≤ 10000)
    (hst1 : ∀ h h', St1 h → (∀ b ∈ fp1, ∀ o, h.get? b = some o → h'.get? b = some o) → St1 h') (hD1 : D ∉ fp1) (hC1 : C ∉ fp1) (hw1 : ∀ b ∈ fp1, b ∉ wr)
    (kbm : Kp sb sm) (kms : Kp sm s) (st0 : St 0 s.heap) (hD0 : s.heap.PlainList D ys0.toArray) (hC0 : s.heap.Ns C m) (hm : m x1 = some u1) (hr1 : Rep (XD X D) s.heap u1 p1) (hr0 : RepL (XD X D) s.heap ys0 done) (hs1 : St1 s.heap)
    (hev : ∀ X' a, (∀ b, X b → X' b) → a ∈ l → EvR c n X' (compEnvC scope (clGo env scope.names []) C env) ((x2, f a) :: (x1, p1) :: ρ) elt (g a))
    (hR : ∀ s' ys m', Kp sb s' → s'.heap.PlainList D ys.toArray → RepL (XD X D) s'.heap ys (done ++ l.map g) → s'.heap.Ns C m' → St1 s'.heap → R (.ok .next) s') :
    codeS c.M A (.compLoop (.ListComp elt [⟨.Name x1 q1, i1, [], 0⟩, ⟨.Name x2 q2, i2, [], 0⟩] scope pos) 1 (.ref J) (.ref D) (compEnvC scope (clGo env scope.names []) C env)) R s := by
  have hkind : scope.kind = .function := by
    unfold compOk at hok
    rw [Bool.and_eq_true, beq_iff_eq] at hok
    exact hok.1
  refine codeS_compLoop1 (fun k s' => ∃ i ys m', k = l.length - i ∧ i ≤ l.length ∧ St i s'.heap ∧ s'.heap.PlainList D ys.toArray ∧ s'.heap.Ns C m' ∧ m' x1 = some u1 ∧
    RepL (XD X D) s'.heap ys (done ++ (l.take i).map g) ∧ Kp sb s' ∧ St1 s'.heap) ?_ l.length ⟨0, ys0, m, rfl, Nat.zero_le _, st0, hD0, hC0, hm, by simpa using hr0, kbm.trans kms, hs1⟩ (fun _ => rfl)
  rintro k s' ⟨i, ys, m', rfl, hi, st, hl, hn, hm', hr, kb, hst⟩
  have hx2' : (compEnvC scope (clGo env scope.names []) C env).kindOf x2 = some .local := lookup_relabel_local hx2
  have up : ∀ {v : Value} {p : PV}, Rep X sb.heap v p → Rep (XD X D) sb.heap v p := fun r => r.weak fun b o hb e _ h => h.elim hb fun hd => by subst hd; rw [hD] at e; cases e
  have R' : ∀ s'', Kp sb s'' → (∃ o, s''.heap.get? D = some o) → EnvR c (XD X D) env ρ s'' := fun s'' kk hd =>
    ⟨R0.kind, R0.gl, R0.bl, R0.glo.keeps kk.heap, fun b hb => hb.elim (fun hb => (R0.live.kp kk) b hb) fun hb => hb ▸ hd, fun y p hp hv => let ⟨v, a, b⟩ := R0.val y p hp hv; ⟨v, a.keeps kk.heap, (up b).kp kk⟩⟩
  have hDw : D ∉ wr := fun h => hDf (W.sub _ h)
  have hCw : C ∉ wr := fun h => hCf (W.sub _ h)
  have sbw : ∀ b o, sb.heap.get? b = some o → b ∉ wr := fun b o e hb => by
    have := kbm.heap b o e
    rw [hwr b hb] at this; cases this
  by_cases hlt : i < l.length
  · refine lf <| W.item i s' _ _ hlt st fun u h1 tk hu st1 hk1 => ?_
    obtain ⟨a, ha, ra⟩ := hP i u hu
    have hmem : a ∈ l := List.mem_of_getElem? ha
    have kb1 : Kp sb { s' with heap := h1, toks := tk } := ⟨fun b o e => hk1 b o (sbw b o e) (kb.heap b o e), kb.gens, kb.bare, kb.os⟩
    have itk : ∀ b o, ¬ XD X D b → s'.heap.get? b = some o → Kd o → h1.get? b = some o := fun b o _ e kd => hk1 b o (fun hb => by
      obtain ⟨o', e', it⟩ := hIt i _ st b hb
      rw [e] at e'; cases e'; exact it.notKd kd) e
    have hl1 : h1.PlainList D ys.toArray := hl.at fun o e => hk1 _ o hDw e
    have hn1 : h1.Ns C m' := hn.at' fun o e => hk1 _ o hCw e
    have hrr := hr.keep itk
    have hst1' : St1 h1 := hst1 _ _ hst fun b hb o e => hk1 b o (hw1 b hb) e
    refine wpS_assign_Name (lf <| wpAny_storeName_local hx2' hn1 (fun h2 hn2 hs2 => ?_) (by show (scope.kind == .class || (scope.kind == .module && _)) = false; rw [hkind]; rfl))
    have kb2 : Kp sb { s' with heap := h2, toks := tk + 1 } := ⟨fun b o e => hs2.extBut b o (by rintro rfl; rw [hC] at e; cases e) (kb1.heap b o e), kb.gens, kb.bare, kb.os⟩
    have hl2 : h2.PlainList D ys.toArray := hl1.extBut hs2.extBut hDC
    have hr2 : RepL (XD X D) h2 ys (done ++ (l.take i).map g) := hrr.keep fun b o _ e kd => hs2.extBut b o (by rintro rfl; exact not_kd_ns hn1 e kd.dt) e
    have st2 : St (i + 1) h2 := W.frame _ _ _ st1 fun b hb o e => hs2.extBut b o (fun h => hCf ((show b = C from h) ▸ hb)) e
    have hst2 : St1 h2 := hst1 _ _ hst1' fun b hb o e => hs2.extBut b o (fun h => hC1 ((show b = C from h) ▸ hb)) e
    have R2 := R' { s' with heap := h2, toks := tk + 1 } kb2 (let ⟨_, e⟩ := hl2; ⟨_, e⟩)
    have Rc : EnvR c (XD X D) (compEnvC scope (clGo env scope.names []) C env) ((x2, f a) :: (x1, p1) :: ρ) { s' with heap := h2, toks := tk + 1 } :=
      envR_comp (σ := [(x2, f a), (x1, p1)]) R2 hok hn2 fun y q hy => by
        by_cases hyx : y = x2
        · subst hyx
          rw [lookup_cons_eq] at hy; cases hy
          exact ⟨hx2, u, by simp, flatP.rep (hfl a hmem) ra⟩
        · rw [lookup_cons_ne hyx] at hy
          by_cases hyx1 : y = x1
          · subst hyx1
            rw [lookup_cons_eq] at hy; cases hy
            exact ⟨hx1, u1, by simp [hyx, hm'], flatP.rep hp1 hr1⟩
          · rw [lookup_cons_ne hyx1] at hy; cases hy
    have take1 : (l.take (i + 1)) = l.take i ++ [a] := by
      rw [List.take_add_one, ha]; rfl
    refine wpS_mono (hev (XD X D) a (fun b hb => .inl hb) hmem A _ _ hA Rc) (fun v s4 h4 => ?_) fun _ _ e => e
    obtain ⟨k4, rv⟩ := h4
    have hys : ys.toArray.size ≤ sizeLine := by
      have e1 := hr.length
      rw [List.length_append, List.length_map, List.length_take] at e1
      rw [List.size_toArray, sizeLine_eq]; omega
    refine lf <| wpAny_list_append_plain (hsz := hys) (hl2.at fun o e => k4.heap _ o e) fun h5 hl5 hs5 => ?_
    refine ⟨l.length - (i + 1), by omega, i + 1, ys ++ [v], _, rfl, hlt, ?_, by simpa using hl5, (hn2.keeps fun b o e => k4.heap b o e).sameBut hs5 (Ne.symm hDC), by simp [hne, hm'], ?_, ?_, ?_⟩
    · exact W.frame _ _ _ st2 fun b hb o e => hs5.extBut b o (fun h => hDf (h ▸ hb)) (k4.heap b o e)
    · rw [take1, List.map_append, ← List.append_assoc]
      have rr : RepL (XD X D) s4.heap (ys ++ [v]) ((done ++ (l.take i).map g) ++ [g a]) := (hr2.keep fun b o _ e _ => k4.heap b o e).append (.cons rv .nil)
      exact rr.keep fun b o hb e _ => hs5.extBut b o (fun h => hb (.inr h)) e
    · exact ⟨fun b o e => hs5.extBut b o (by rintro rfl; rw [hD] at e; cases e) (k4.heap b o (kb2.heap b o e)), fun g' x' e => k4.gens g' x' (kb2.gens g' x' e), fun e => k4.bare (kb2.bare e), k4.os.trans kb2.os⟩
    · exact hst1 _ _ hst2 fun b hb o e => hs5.extBut b o (fun h => hD1 ((show b = D from h) ▸ hb)) (k4.heap b o e)
  · have : i = l.length := by omega
    subst this
    refine lf <| W.done s' _ _ st fun h1 tk hk1 => ?_
    refine hR _ ys m' ⟨fun b o e => hk1 b o (sbw b o e) (kb.heap b o e), kb.gens, kb.bare, kb.os⟩ (hl.at fun o e => hk1 _ o hDw e) ?_ (hn.at' fun o e => hk1 _ o hCw e) (hst1 _ _ hst fun b hb o e => hk1 b o (hw1 b hb) e)
    rw [List.take_length] at hr
    exact hr.keep fun b o _ e kd => hk1 b o (fun hb => by
      obtain ⟨o', e', it⟩ := hIt _ _ st b hb
      rw [e] at e'; cases e'; exact it.notKd kd) e
end Mine
end

section
open PySem PySem.W PySem.Calls PyProof.Rows
open Sem (wp)
set_option Elab.async false
set_option maxRecDepth 100000
set_option linter.unusedVariables false
namespace Mine
variable {c : Cx} {n : Nat} {X : Addr → Prop} {env : Env} {ρ : List (Str × PV)}
theorem flat_len2 {α : Type} (F : α → List PV) : ∀ (l : List α) (i : Nat), ((l.take i).flatMap F).length ≤ (l.flatMap F).length := fun l i => by
  conv => rhs; rw [← List.take_append_drop i l]
  rw [List.flatMap_append, List.length_append]; omega
/-- the outer loop of a comprehension of two clauses -/
theorem comp_outer {α β : Type} {A : Around} {elt i1 i2 : Expr} {x1 x2 : Str} {q1 q2 pos : Pos} {scope : Scope} {I D C : Addr} {fp wr : List Addr} {P : Nat → Value → Prop} {St : Nat → Heap → Prop}
    {l1 : List α} {f1 : α → PV} {pp : α → PV} {l2 : α → List β} {f2 : α → β → PV} {g : α → β → PV} {sb s : Shared} {m : Str → Option Value} {R : Result → Shared → Prop}
    (hA : AOk n A) (W : Walks c.prog c.w A I fp wr l1.length P St) (hP : ∀ i u, P i u → ∃ a, l1[i]? = some a ∧ Rep X sb.heap u (f1 a)) (hfl1 : ∀ a ∈ l1, flatP (f1 a) = true) (hfl2 : ∀ a ∈ l1, ∀ b ∈ l2 a, flatP (f2 a b) = true) (R0 : EnvR c X env ρ sb) (hok : compOk scope env ρ = true)
    (hx1 : scope.names.lookup x1 = some .local) (hx2 : scope.names.lookup x2 = some .local) (hne : x1 ≠ x2) (hwr : ∀ b ∈ wr, sb.heap.get? b = none) (hIt : ∀ i h, St i h → (∀ b ∈ wr, ∃ o, h.get? b = some o ∧ IsIt o) ∧ ∀ b ∈ fp, ∃ o, h.get? b = some o ∧ Dt o)
    (hD : sb.heap.get? D = none) (hC : sb.heap.get? C = none) (hDC : D ≠ C) (hDf : D ∉ fp) (hCf : C ∉ fp) (hlen : (l1.flatMap fun a => (l2 a).map (g a)).length ≤ 10000)
    (hI2 : ∀ X' a, a ∈ l1 → Iter c X' (pp a) ((l2 a).map (f2 a)))
    (k0 : Kp sb s) (st0 : St 0 s.heap) (hD0 : s.heap.PlainList D #[]) (hC0 : s.heap.Ns C m)
    (hev2 : ∀ X' a, (∀ b, X b → X' b) → a ∈ l1 → EvR c n X' (compEnvC scope (clGo env scope.names []) C env) ((x1, f1 a) :: ρ) i2 (pp a))
    (hev : ∀ X' a b, (∀ b, X b → X' b) → a ∈ l1 → b ∈ l2 a → EvR c n X' (compEnvC scope (clGo env scope.names []) C env) ((x2, f2 a b) :: (x1, f1 a) :: ρ) elt (g a b))
    (hfs : ∀ v, foldedSetIterable i2 (compEnvC scope (clGo env scope.names []) C env) v = pure v)
    (hR : ∀ s' ys m', Kp sb s' → s'.heap.PlainList D ys.toArray → RepL (XD X D) s'.heap ys (l1.flatMap fun a => (l2 a).map (g a)) → s'.heap.Ns C m' → R (.ok .next) s') :
    codeS c.M A (.compLoop (.ListComp elt [⟨.Name x1 q1, i1, [], 0⟩, ⟨.Name x2 q2, i2, [], 0⟩] scope pos) 0 (.ref I) (.ref D) (compEnvC scope (clGo env scope.names []) C env)) R s := by
  have hkind : scope.kind = .function := by
    unfold compOk at hok
    rw [Bool.and_eq_true, beq_iff_eq] at hok
    exact hok.1
  refine codeS_compLoop0 (fun k s' => ∃ i ys m', k = l1.length - i ∧ i ≤ l1.length ∧ St i s'.heap ∧ s'.heap.PlainList D ys.toArray ∧ s'.heap.Ns C m' ∧
    RepL (XD X D) s'.heap ys ((l1.take i).flatMap fun a => (l2 a).map (g a)) ∧ Kp sb s') ?_ l1.length ⟨0, [], m, rfl, Nat.zero_le _, st0, hD0, hC0, by simpa using RepL.nil, k0⟩ (fun _ => rfl) hfs
  rintro k s' ⟨i, ys, m', rfl, hi, st, hl, hn, hr, kb⟩
  have hx1' : (compEnvC scope (clGo env scope.names []) C env).kindOf x1 = some .local := lookup_relabel_local hx1
  have up : ∀ {v : Value} {p : PV}, Rep X sb.heap v p → Rep (XD X D) sb.heap v p := fun r => r.weak fun b o hb e _ h => h.elim hb fun hd => by subst hd; rw [hD] at e; cases e
  have R' : ∀ s'', Kp sb s'' → (∃ o, s''.heap.get? D = some o) → EnvR c (XD X D) env ρ s'' := fun s'' kk hd =>
    ⟨R0.kind, R0.gl, R0.bl, R0.glo.keeps kk.heap, fun b hb => hb.elim (fun hb => (R0.live.kp kk) b hb) fun hb => hb ▸ hd, fun y p hp hv => let ⟨v, a, b⟩ := R0.val y p hp hv; ⟨v, a.keeps kk.heap, (up b).kp kk⟩⟩
  have hDw : D ∉ wr := fun h => hDf (W.sub _ h)
  have hCw : C ∉ wr := fun h => hCf (W.sub _ h)
  by_cases hlt : i < l1.length
  · refine lf <| W.item i s' _ _ hlt st fun u h1 tk hu st1 hk1 => ?_
    obtain ⟨a, ha, ra⟩ := hP i u hu
    have hmem : a ∈ l1 := List.mem_of_getElem? ha
    have kb1 : Kp sb { s' with heap := h1, toks := tk } := ⟨fun b o e => hk1 b o (fun hb => by rw [hwr b hb] at e; cases e) (kb.heap b o e), kb.gens, kb.bare, kb.os⟩
    have hl1 : h1.PlainList D ys.toArray := hl.at fun o e => hk1 _ o hDw e
    have hn1 : h1.Ns C m' := hn.at' fun o e => hk1 _ o hCw e
    have hrr : RepL (XD X D) h1 ys ((l1.take i).flatMap fun a => (l2 a).map (g a)) := hr.keep fun b o _ e kd => hk1 b o (fun hb => by
      obtain ⟨o', e', it⟩ := (hIt i _ st).1 b hb
      rw [e] at e'; cases e'; exact it.notKd kd) e
    refine wpS_assign_Name (lf <| wpAny_storeName_local hx1' hn1 (fun h2 hn2 hs2 => ?_) (by show (scope.kind == .class || (scope.kind == .module && _)) = false; rw [hkind]; rfl))
    have kb2 : Kp sb { s' with heap := h2, toks := tk + 1 } := ⟨fun b o e => hs2.extBut b o (by rintro rfl; rw [hC] at e; cases e) (kb1.heap b o e), kb.gens, kb.bare, kb.os⟩
    have hl2 : h2.PlainList D ys.toArray := hl1.extBut hs2.extBut hDC
    have hr2 : RepL (XD X D) h2 ys ((l1.take i).flatMap fun a => (l2 a).map (g a)) := hrr.keep fun b o _ e kd => hs2.extBut b o (by rintro rfl; exact not_kd_ns hn1 e kd.dt) e
    have st2 : St (i + 1) h2 := W.frame _ _ _ st1 fun b hb o e => hs2.extBut b o (fun h => hCf ((show b = C from h) ▸ hb)) e
    have R2 := R' { s' with heap := h2, toks := tk + 1 } kb2 (let ⟨_, e⟩ := hl2; ⟨_, e⟩)
    have Rc : EnvR c (XD X D) (compEnvC scope (clGo env scope.names []) C env) ((x1, f1 a) :: ρ) { s' with heap := h2, toks := tk + 1 } :=
      envR_comp (σ := [(x1, f1 a)]) R2 hok hn2 fun y q hy => by
        by_cases hyx : y = x1
        · subst hyx
          rw [lookup_cons_eq] at hy; cases hy
          exact ⟨hx1, u, by simp, flatP.rep (hfl1 a hmem) ra⟩
        · rw [lookup_cons_ne hyx] at hy; cases hy
    have take1 : (l1.take (i + 1)) = l1.take i ++ [a] := by
      rw [List.take_add_one, ha]; rfl
    refine wpS_mono (hev2 (XD X D) a (fun b hb => .inl hb) hmem A _ _ hA Rc) (fun xv s3 h3 => ?_) fun _ _ e => e
    obtain ⟨k3, rx⟩ := h3
    refine lf <| hI2 (XD X D) a hmem A _ s3 xv _ hA.hh (Rc.kp k3).live rx fun J s4 fp' wr' P' St' k4 W' stJ hsz' hfp' hwr' hfX' hIt' hP' => ?_
    have hWA := W' A hA.hh
    rw [List.length_map] at hWA
    have hD3 : ∃ o, s3.heap.get? D = some o := let ⟨_, e⟩ := hl2; ⟨_, k3.heap _ _ e⟩
    have hn4 := (hn2.keeps k3.heap).keeps k4.heap
    have hDf' : D ∉ fp' := fun hb => by
      rcases hfX' D hb with h | h
      · obtain ⟨o, e⟩ := hD3
        rw [hwr' D h] at e; cases e
      · exact h (.inr rfl)
    have hCf' : C ∉ fp' := fun hb => by
      obtain ⟨o, e, dt⟩ := (hIt' _ _ stJ).2 C hb
      exact not_kd_ns hn4 e dt
    have hw1 : ∀ b ∈ fp, b ∉ wr' := fun b hb hb' => by
      obtain ⟨o, e, _⟩ := (hIt _ _ st2).2 b hb
      have := k3.heap b o e
      rw [hwr' b hb'] at this; cases this
    have st4 : St (i + 1) s4.heap := W.frame _ _ _ st2 fun b _ o e => k4.heap b o (k3.heap b o e)
    have hl4 : s4.heap.PlainList D ys.toArray := hl2.at fun o e => k4.heap _ o (k3.heap _ o e)
    have hbound : ((l1.take i).flatMap fun a => (l2 a).map (g a)).length + (l2 a).length ≤ 10000 := by
      have := flat_len2 (fun a => (l2 a).map (g a)) l1 (i + 1)
      rw [take1, List.flatMap_append, List.length_append] at this
      simp only [List.flatMap_cons, List.flatMap_nil, List.append_nil, List.length_map] at this
      omega
    have inner : ∀ (RR : Result → Shared → Prop) (hRR : ∀ s6 ys m6, Kp sb s6 → s6.heap.PlainList D ys.toArray → RepL (XD X D) s6.heap ys (((l1.take i).flatMap fun a => (l2 a).map (g a)) ++ (l2 a).map (g a)) → s6.heap.Ns C m6 → St (i + 1) s6.heap → RR (.ok .next) s6) (s5 : Shared), s5 = s4 → codeS c.M A (.compLoop (.ListComp elt [⟨.Name x1 q1, i1, [], 0⟩, ⟨.Name x2 q2, i2, [], 0⟩] scope pos) 1 (.ref J) (.ref D) (compEnvC scope (clGo env scope.names []) C env))
        RR s5 := by
      rintro RR hRR s5 rfl
      refine comp_inner (l := l2 a) (f := f2 a) (g := g a) (sm := s3) (St1 := St (i + 1)) (fp1 := fp) (u1 := u) (p1 := f1 a) (ys0 := ys) hA hWA ?_ (hfl2 a hmem) (hfl1 a hmem) R0 hok hx1 hx2 hne hwr' (fun i h hst => (hIt' i h hst).1) hD hC hDC hDf' hCf' hbound
        (fun h h' hs hk => W.frame _ _ _ hs hk) hDf hCf hw1 (kb2.trans k3) k4 stJ hl4 hn4 (by simp) (flatP.rep (hfl1 a hmem) ra) (hr2.keep fun b o _ e _ => k4.heap b o (k3.heap b o e)) st4 (fun X' b hX hb => hev X' a b hX hmem hb) ?_
      · intro j v hv
        obtain ⟨q, hq, rq⟩ := hP' j v hv
        rw [List.getElem?_map] at hq
        cases hl : (l2 a)[j]? with
        | none => rw [hl] at hq; cases hq
        | some b => rw [hl] at hq; cases hq; exact ⟨b, rfl, rq⟩
      · exact hRR
    have fin : ∀ s6 ys' m6, Kp sb s6 → s6.heap.PlainList D ys'.toArray → RepL (XD X D) s6.heap ys' (((l1.take i).flatMap fun a => (l2 a).map (g a)) ++ (l2 a).map (g a)) → s6.heap.Ns C m6 → St (i + 1) s6.heap →
        ∃ m, m < l1.length - i ∧ ∃ i_1 ys m', m = l1.length - i_1 ∧ i_1 ≤ l1.length ∧ St i_1 s6.heap ∧ s6.heap.PlainList D ys.toArray ∧ s6.heap.Ns C m' ∧
          RepL (XD X D) s6.heap ys ((l1.take i_1).flatMap fun a => (l2 a).map (g a)) ∧ Kp sb s6 := by
      intro s6 ys' m6 k6 hl6 hr6 hn6 hs6
      refine ⟨l1.length - (i + 1), by omega, i + 1, ys', m6, rfl, hlt, hs6, hl6, hn6, ?_, k6⟩
      rw [take1, List.flatMap_append]
      simpa using hr6
    exact codeS_compStart2 (inner _ fin _ rfl) (lf <| hWA.self 0 _ _ _ stJ (inner _ fin _ rfl)) (.inr rfl)
  · have : i = l1.length := by omega
    subst this
    refine lf <| W.done s' _ _ st fun h1 tk hk1 => ?_
    refine hR _ ys m' ⟨fun b o e => hk1 b o (fun hb => by rw [hwr b hb] at e; cases e) (kb.heap b o e), kb.gens, kb.bare, kb.os⟩ (hl.at fun o e => hk1 _ o hDw e) ?_ (hn.at' fun o e => hk1 _ o hCw e)
    rw [List.take_length] at hr
    exact hr.keep fun b o _ e kd => hk1 b o (fun hb => by
      obtain ⟨o', e', it⟩ := (hIt _ _ st).1 b hb
      rw [e] at e'; cases e'; exact it.notKd kd) e
end Mine
end

section
open PySem PySem.W PySem.Calls PyProof.Rows
open Sem (wp)
set_option Elab.async false
set_option maxRecDepth 100000
set_option linter.unusedVariables false
namespace Mine
variable {c : Cx} {n : Nat} {X : Addr → Prop} {env : Env} {ρ : List (Str × PV)}
theorem ev_comp2 {α β : Type} {elt i1 i2 : Expr} {x1 x2 : Str} {q1 q2 pos : Pos} {scope : Scope} {p : PV}
    (l1 : List α) (f1 : α → PV) (pp : α → PV) (l2 : α → List β) (f2 : α → β → PV) (g : α → β → PV)
    (hi : EvR c n X env ρ i1 p) (hI : ∀ X', Iter c X' p (l1.map f1)) (hI2 : ∀ X' a, a ∈ l1 → Iter c X' (pp a) ((l2 a).map (f2 a))) (hfl1 : ∀ a ∈ l1, flatP (f1 a) = true) (hfl2 : ∀ a ∈ l1, ∀ b ∈ l2 a, flatP (f2 a b) = true)
    (hok : compOk scope env ρ = true) (hx1 : scope.names.lookup x1 = some .local) (hx2 : scope.names.lookup x2 = some .local) (hne : x1 ≠ x2) (hlen : (l1.flatMap fun a => (l2 a).map (g a)).length ≤ 10000)
    (hev2 : ∀ C X' a, (∀ b, X b → X' b) → a ∈ l1 → EvR c n X' (compEnvC scope (clGo env scope.names []) C env) ((x1, f1 a) :: ρ) i2 (pp a))
    (hev : ∀ C X' a b, (∀ b, X b → X' b) → a ∈ l1 → b ∈ l2 a → EvR c n X' (compEnvC scope (clGo env scope.names []) C env) ((x2, f2 a b) :: (x1, f1 a) :: ρ) elt (g a b))
    (hs : ∀ v, foldedSetIterable i1 env v = pure v := by intro _; rfl) (hfs : ∀ C v, foldedSetIterable i2 (compEnvC scope (clGo env scope.names []) C env) v = pure v := by intro _ _; rfl) :
    EvR c n X env ρ (.ListComp elt [⟨.Name x1 q1, i1, [], 0⟩, ⟨.Name x2 q2, i2, [], 0⟩] scope pos) (.list (l1.flatMap fun a => (l2 a).map (g a))) := by
  intro A E s hA R
  obtain ⟨hkind, hcell, hnames, hfree⟩ := compOk_parts hok
  rw [eval_ListComp]
  refine wpS_comprehension (use := none) rfl hs (closureFor_eq hfree) hkind hnames (wpS_mono (hi A E s hA R) (fun xv s₁ h₁ => ?_) fun _ _ e => e)
  refine lf <| hI X A E s₁ xv _ hA.hh (R.kp h₁.1).live h₁.2 fun I s₂ fp wr P St k W st hsz hfp hwr hfX hIt hP => ?_
  have hWA := W A hA.hh
  rw [List.length_map] at hWA
  have R1 := R.kp h₁.1
  refine lf <| wpAny_newObj_type (lf <| wpAny_newFunctionEnv hcell (by intro y hy; simp at hy) (fun h₁' hns₁ hsb₁ => ?_) hkind)
  dsimp only at hns₁ hsb₁ ⊢
  generalize hH2 : s₂.heap.push { cls := .type "list", dict := none, data := .seq ([] : List Value).toArray } = H2 at hns₁ hsb₁ ⊢
  have hC : H2.objs.size = s₂.heap.objs.size + 1 := by rw [← hH2, Heap.size_push]
  have hDC : s₂.heap.objs.size ≠ H2.objs.size := by rw [hC]; exact Nat.ne_of_lt (Nat.lt_succ_self _)
  have below : ∀ b, b < s₂.heap.objs.size → b ≠ H2.objs.size ∧ b ≠ s₂.heap.objs.size := fun b hb => ⟨by rw [hC]; exact Nat.ne_of_lt (Nat.lt_succ_of_lt hb), Nat.ne_of_lt hb⟩
  have hDf : s₂.heap.objs.size ∉ fp := fun hm => Nat.lt_irrefl _ (hfp _ hm)
  have hCf : H2.objs.size ∉ fp := fun hm => by have := hfp _ hm; rw [hC] at this; exact Nat.lt_irrefl _ (Nat.lt_of_succ_lt this)
  have old : ∀ b o, s₂.heap.get? b = some o → h₁'.get? b = some o := fun b o e => hsb₁.extBut b o (below b (Heap.lt_size e)).1 (Heap.get?_push_of_some _ (hH2 ▸ Heap.get?_push_of_some _ e))
  have hacc : h₁'.PlainList s₂.heap.objs.size #[] := ⟨_, hsb₁.extBut _ _ hDC (Heap.get?_push_of_some _ (hH2 ▸ Heap.get?_push_size _ rfl))⟩
  have hst₁ : St 0 h₁' := W A hA.hh |>.frame _ _ _ st fun b _ o e => old b o e
  have fD : s₁.heap.get? s₂.heap.objs.size = none := get_ge hsz
  have fC : s₁.heap.get? H2.objs.size = none := get_ge (by rw [hC]; exact Nat.le_succ_of_le hsz)
  have loop : ∀ s₃ : Shared, s₃ = { s₂ with heap := h₁', toks := s₂.toks + ([] : List (Str × Value)).length } →
      codeS c.M A (.compLoop (.ListComp elt [⟨.Name x1 q1, i1, [], 0⟩, ⟨.Name x2 q2, i2, [], 0⟩] scope pos) 0 (.ref I) (.ref s₂.heap.objs.size) (compEnvC scope (clGo env scope.names []) H2.objs.size env))
        (compPostS c.M A E none (Post X s (.list (l1.flatMap fun a => (l2 a).map (g a)))) (.ref s₂.heap.objs.size) H2.objs.size) s₃ := by
    rintro s₃ rfl
    refine comp_outer (l1 := l1) (f1 := f1) (pp := pp) (l2 := l2) (f2 := f2) (g := g) hA hWA ?_ hfl1 hfl2 R1 hok hx1 hx2 hne hwr hIt fD fC hDC hDf hCf hlen hI2 (k.trans (Kp.of old)) hst₁ hacc hns₁ (hev2 _) (hev _) (hfs _) ?_
    · intro i u hu
      obtain ⟨q, hq, rq⟩ := hP i u hu
      rw [List.getElem?_map] at hq
      cases hl : l1[i]? with
      | none => rw [hl] at hq; cases hq
      | some a => rw [hl] at hq; cases hq; exact ⟨a, rfl, rq⟩
    · intro s' ys m' k' hl hr hn
      refine ⟨m', hn, fun h' hs' => ⟨h₁.1.trans ⟨fun b o e => hs'.extBut b o (by rintro rfl; rw [fC] at e; cases e) (k'.heap b o e), k'.gens, k'.bare, k'.os⟩, ?_⟩⟩
      refine .list ((R.kp h₁.1).live.no fD) (hl.extBut hs'.extBut hDC) ?_
      exact (hr.anti fun b hb => .inl hb).keep fun b o _ e kd => hs'.extBut b o (by rintro rfl; exact not_kd_ns hn e kd.dt) e
  exact codeS_compStart2 (loop _ rfl) (lf <| hWA.self 0 _ _ _ hst₁ (loop _ rfl)) (.inl rfl)
end Mine
end

section
open PySem PySem.W PySem.Calls PyProof.Rows
set_option Elab.async false
set_option maxRecDepth 100000
set_option linter.unusedVariables false
namespace Mine
variable {c : Cx} {n : Nat}
/-- the key, called -/
theorem xfrm_any {A : Around} {E : Value → Shared → Prop} {s : Shared} {a : Addr} {v : Value} (hroom : A.depth < recursionLimit) (hlim : s.heap.NoLimit) (hfn : FnIs s.heap a (nthD 1)) :
    wpAny c.M A (call (.ref a) [v]) (fun v' s' => Kp s s' ∧ v' = v) E s := by
  obtain ⟨o, pm, code, doc, ho, hd, hcr⟩ := hfn
  refine wpAny_call (codeAny_call_cells (fd := fdD (nthD 1) pm code doc) (body := (nthD 1).2.2.1) (binds := [(Str.ofString "s", v)]) hroom ho hd hlim hcr rfl rfl rfl ?_ ?_ rfl rfl rfl)
  · intro y hy
    rw [List.mem_singleton] at hy
    subst hy
    exact .inl (by kernel_rfl)
  · intro s₁ I
    obtain ⟨h', tk, rfl⟩ := I.toInCall.same
    show wpAny _ _ (execs [.Return (some (.Name (Str.ofString "s") _)) _] _) _ _ _
    refine wpAny_execs_cons (wpAny_Return_some (NameLC I rfl (by kernel_rfl) (v := v) (by rfl) ?_ (by decide +kernel)))
    exact ⟨Kp.of I.toInCall.keep, rfl⟩
section
variable {prog : Program} {w : World} {A : Around} {E : Value → Shared → Prop} {s s₀ : Shared}
theorem sk_sort {L q : Addr} {vs : List Value} {ss : List Str} {e0 : Nat} {P : PySem.Fin → Shared → Prop} (k0 : Kp s₀ s) (ho : s.heap.get? L = some (seqObj "list" vs.toArray e0)) (hL : s₀.heap.get? L = none) (hS : StrsAre vs ss) (h64 : vs.length < 64)
    (turn : ∀ s' v, Kp s₀ s' → wpAny (model prog w) A (call (.ref q) [v]) (fun v' s'' => Kp s' s'' ∧ v' = v) (fun _ _ => False) s')
    (h : ∀ s' out e ss', Kp s₀ s' → s'.heap.get? L = some (seqObj "list" out e) → StrsAre out.toList ss' → ss'.Perm ss → sortedS ss' = true → P (.done (.ret .none)) s') :
    wpAny (model prog w) A (ksk_tree L (.ref q) false) P E s := by
  have ha : L < s.heap.objs.size := Heap.lt_size ho
  obtain ⟨e1, ho1⟩ : ∃ e1, (s.heap.update L (Obj.mapSeq fun _ => (#[] : Array Value))).get? L = some (seqObj "list" #[] e1) := ⟨_, get?_update_seq ho fun _ => #[]⟩
  have upd : ∀ {s1 : Shared} {b : Addr} {f : Obj → Obj}, Kp s₀ s1 → s₀.heap.get? b = none → Kp s₀ { s1 with heap := s1.heap.update b f } := fun {s1 b f} k hb =>
    ⟨fun p o e => ((Heap.SameBut.update s1.heap b f).2 p (by rintro rfl; rw [hb] at e; cases e)).trans (k.heap p o e), k.gens, k.bare, k.os⟩
  unfold ksk_tree
  refine wpAny_bind (listItems_at ho rfl ?_)
  refine wpAny_bind (listUpdate_at ho rfl ?_ (by rw [List.size_toArray, sizeLine_eq]; omega) (Nat.zero_le _))
  refine wpAny_bind (seqEpoch_at ho1 rfl ?_)
  refine wpAny_bind (wpAny_newTuple ?_ (by show vs.length ≤ _; rw [sizeLine_eq]; omega))
  refine wpAny_bind (wpAny_newList ?_ (Nat.zero_le _))
  refine wpAny_holding ?_
  have k1 : Kp s₀ { s with heap := s.heap.update L (Obj.mapSeq fun _ => (#[] : Array Value)) } := upd k0 hL
  have sz1 : (s.heap.update L (Obj.mapSeq fun _ => (#[] : Array Value))).objs.size = s.heap.objs.size := Heap.size_update ..
  generalize hH : (s.heap.update L (Obj.mapSeq fun _ => (#[] : Array Value))) = H at k1 ho1 sz1 ⊢
  have sz2 : (H.push (seqObj "tuple" vs.toArray 0)).objs.size = s.heap.objs.size + 1 := by rw [size_push', sz1]
  have k2 : Kp s₀ { s with heap := (H.push (seqObj "tuple" vs.toArray 0)).push (seqObj "list" #[] 0) } :=
    ⟨fun p o e => Heap.get?_push_of_some _ (Heap.get?_push_of_some _ (k1.heap p o e)), k1.gens, k1.bare, k1.os⟩
  have hKn : s₀.heap.get? (H.push (seqObj "tuple" vs.toArray 0)).objs.size = none := by
    cases e : s₀.heap.get? (H.push (seqObj "tuple" vs.toArray 0)).objs.size with
    | none => rfl
    | some o =>
      have : _ < H.objs.size := Heap.lt_size (k1.heap _ _ e)
      rw [sz2, sz1] at this
      exact absurd this (Nat.not_lt.mpr (Nat.le_succ _))
  have hLK : L ≠ (H.push (seqObj "tuple" vs.toArray 0)).objs.size := by rw [sz2]; exact Nat.ne_of_lt (Nat.lt_succ_of_lt ha)
  have gL : ((H.push (seqObj "tuple" vs.toArray 0)).push (seqObj "list" #[] 0)).get? L = some (seqObj "list" #[] e1) := Heap.get?_push_of_some _ (Heap.get?_push_of_some _ ho1)
  have gK : ((H.push (seqObj "tuple" vs.toArray 0)).push (seqObj "list" #[] 0)).get? (H.push (seqObj "tuple" vs.toArray 0)).objs.size = some (seqObj "list" #[] 0) := Heap.get?_push_size _ rfl
  show wpAny (model prog w) A (ksk_rest L (.ref q) false vs.toArray e1 (.ref (H.push (seqObj "tuple" vs.toArray 0)).objs.size)) P E { s with heap := (H.push (seqObj "tuple" vs.toArray 0)).push (seqObj "list" #[] 0) }
  generalize (H.push (seqObj "tuple" vs.toArray 0)).push (seqObj "list" #[] 0) = H2 at k2 gL gK ⊢
  generalize (H.push (seqObj "tuple" vs.toArray 0)).objs.size = K at hKn hLK gK ⊢
  unfold ksk_rest
  refine wpAny_bind (wpAny_rule ?_)
  first
    | rw [List.forIn_toArray]
    | (rw [← Array.forIn_toList]; simp only [List.toList_toArray])
    | rw [← Array.forIn_toList]
  refine wpAny_bind (ksk_fold (fun i s' => ∃ kA e, Kp s₀ s' ∧ s'.heap.get? K = some (seqObj "list" kA e) ∧ s'.heap.get? L = some (seqObj "list" #[] e1) ∧ kA.toList = vs.take i) vs 0 _
    ⟨#[], 0, k2, gK, gL, by simp⟩ ?step ?done)
  case step =>
    rintro j x s' hx ⟨kA, e, k', nk, na, hk⟩
    simp only [Nat.zero_add] at hk ⊢
    have hj : j < vs.length := (List.getElem?_eq_some_iff.mp hx).1
    have hz : kA.size ≤ vs.length := by
      have h1 := congrArg List.length hk
      rw [Array.length_toList, List.length_take] at h1
      omega
    refine wpAny_bind (wpAny_attempt (wpAny_mono (turn s' x k') (fun v s'' he => ?_) fun _ _ hF => hF.elim))
    obtain ⟨k3, rfl⟩ := he
    try dsimp only
    have nk2 := k3.heap _ _ nk
    have na2 := k3.heap _ _ na
    have s1 := Heap.SameBut.update s''.heap K (Obj.mapSeq (·.push v))
    obtain ⟨c2, hc2⟩ : ∃ c2, (s''.heap.update K (Obj.mapSeq (·.push v))).get? K = some (seqObj "list" (kA.push v) c2) := ⟨_, get?_update_seq nk2 (·.push v)⟩
    refine wpAny_bind (listUpdate_at nk2 rfl ?_ (by rw [sizeLine_eq]; omega) (Nat.le_trans (Nat.le_of_eq (Array.size_push ..)) (by rw [sizeLine_eq]; omega)))
    refine wpAny_pure ⟨rfl, kA.push v, c2, upd (k'.trans k3) hKn, hc2, (s1.2 L hLK).trans na2, ?_⟩
    rw [Array.toList_push, hk, List.take_add_one, hx]; rfl
  case done =>
    rintro s' ⟨kA, e, k', nk, na, hk⟩
    have hk' : kA = vs.toArray := by
      rw [Nat.zero_add, List.take_length] at hk
      rw [← hk, Array.toArray_toList]
    subst hk'
    try dsimp only
    refine wpAny_bind (listItems_at nk rfl ?_)
    have upL : ∀ (f : Array Value → Array Value) (h : Heap), h.get? L = some (seqObj "list" #[] e1) → ∃ c2, (h.update L (Obj.mapSeq f)).get? L = some (seqObj "list" (f #[]) c2) := fun f h e => ⟨_, get?_update_seq e f⟩
    have tail : ∀ st : SortSt, (arrOf st).Perm (pairsOf vs) → SortedToK strKind (arrOf st) (pairsOf vs).size → failedOf st = none → wpAny (model prog w) A (ksk_tail L false e1 (.ref K) st) P E s' := by
      intro st hp hs hfl
      have hsz2 : (arrOf st).size = vs.length := hp.size_eq.trans (pairsOf_size _)
      have s1 := Heap.SameBut.update s'.heap K (Obj.mapSeq fun _ => (#[] : Array Value))
      have na1 : (s'.heap.update K (Obj.mapSeq fun _ => (#[] : Array Value))).get? L = some (seqObj "list" #[] e1) := (s1.2 L hLK).trans na
      obtain ⟨c2, hc2⟩ := upL (fun _ => (arrOf st).map (·.2)) _ na1
      obtain ⟨ss', h1, h2, h3⟩ := sorted_out_str hS hp hs
      unfold ksk_tail
      try dsimp only
      refine wpAny_bind (listUpdate_at nk rfl ?_ (by rw [List.size_toArray, sizeLine_eq]; omega) (Nat.zero_le _))
      refine wpAny_bind (wpAny_letGo ?_)
      refine wpAny_bind (seqEpoch_at na1 rfl ?_)
      refine wpAny_bind (listUpdate_at na1 rfl ?_ (Nat.zero_le _) (by simp only [Bool.false_eq_true, if_false, Array.size_map]; rw [hsz2, sizeLine_eq]; omega))
      rw [hfl]
      simp only [bne_self_eq_false, Bool.false_eq_true, if_false]
      exact wpAny_pure (h _ _ c2 ss' (upd (upd k' hKn) hL) hc2 h1 h2 h3)
    unfold ksk_end
    try dsimp only
    simp only [Bool.false_eq_true, if_false]
    by_cases h2 : vs.toArray.size < 2
    · rw [if_pos h2, if_pos h2]
      refine wpAny_bind (wpAny_pure ?_)
      rw [StateT.run_pure]
      refine wpAny_bind (wpAny_pure ?_)
      try dsimp only
      refine tail (SortSt.mk' general' (vs.toArray.zip vs.toArray) #[] 7 none) (Array.Perm.refl _) ?_ rfl
      intro i j hij hj
      have : i = j := by rw [pairsOf_size] at hj; rw [List.size_toArray] at h2; omega
      subst this; exact KeyOrd.kle_refl _
    · rw [if_neg h2, if_neg h2]
      have hk2 : keyKind' vs.toArray = pure oneType' := by
        rw [List.size_toArray] at h2
        match vs, h2, hS with
        | [], h2, _ => simp at h2
        | [_], h2, _ => simp at h2
        | v₁ :: v₂ :: rest, _, hS => exact keyKind_strs hS
      rw [hk2]
      refine wpAny_bind (wpAny_pure ?_)
      refine wpAny_bind (wpAny_mono (wpS_sortRunsK (κ := strKind) strKind_oneLt (a₀ := pairsOf vs) (st := SortSt.mk' oneType' (vs.toArray.zip vs.toArray) #[] 7 none)
        (Q := fun _ st' => (arrOf st').Perm (pairsOf vs) ∧ failedOf st' = none ∧ SortedToK strKind (arrOf st') (pairsOf vs).size)
        hS.keysOf ⟨Array.Perm.refl _, rfl, rfl, rfl⟩ (by rw [pairsOf_size]; rw [List.size_toArray] at h2; omega) (by rw [pairsOf_size]; exact h64) fun st' a1 a2 a3 => ⟨a1, a2, a3⟩) ?_ fun _ _ e => e)
      rintro ⟨⟨⟩, st'⟩ s' ⟨rfl, hp, hf, hs⟩
      try dsimp only
      exact tail st' hp hs hf
end
end Mine
end

section
open PySem PySem.W PySem.Calls PyProof.Rows
set_option Elab.async false
set_option maxRecDepth 100000
set_option linter.unusedVariables false
namespace Mine
variable {c : Cx} {n : Nat} {X : Addr → Prop} {env : Env} {ρ : List (Str × PV)}
section
variable {prog : Program} {w : World} {A : Around} {E : Value → Shared → Prop} {s : Shared}
theorem sk_sorted {l q : Addr} {vs : List Value} {ss : List Str} {Q : Value → Shared → Prop} (hl : s.heap.IsList l vs.toArray) (hS : StrsAre vs ss) (h64 : vs.length < 64)
    (turn : ∀ s' v, Kp s s' → wpAny (model prog w) A.in1.in1 (call (.ref q) [v]) (fun v' s'' => Kp s' s'' ∧ v' = v) (fun _ _ => False) s')
    (h : ∀ D s' out e ss', Kp s s' → s.heap.get? D = none → s'.heap.get? D = some (seqObj "list" out e) → StrsAre out.toList ss' → ss'.Perm ss → sortedS ss' = true → Q (.ref D) s') :
    wpAny (model prog w) A (call (.builtin "sorted") [.ref l] [(Str.ofString "key", .ref q)]) Q E s := by
  refine call_function_entry_kw kind_sorted plain_sorted entry_sorted (ksk_s1 _ _) ?_
  unfold Builtin.«sorted»
  refine wpAny_bind (m := checkCount "sorted" 1 1 _) (wpAny_pure ?_)
  refine wpAny_bind (collect_list hl ?_ (by rw [sizeLine_eq]; omega))
  refine wpAny_bind (wpAny_newList ?_ (by rw [sizeLine_eq]; omega))
  have hsz : ((s.heap.push (seqObj "list" #[] 0)).update s.heap.objs.size (Obj.mapSeq (· ++ vs.toArray))).objs.size = s.heap.objs.size + 1 := by
    rw [Heap.size_update, size_push']
  have hoL : (((s.heap.push (seqObj "list" #[] 0)).update s.heap.objs.size (Obj.mapSeq (· ++ vs.toArray))).push (seqObj "list" vs.toArray 0)).get? (s.heap.objs.size + 1) = some (seqObj "list" vs.toArray 0) := by
    rw [← hsz]; exact Heap.get?_push_size _ rfl
  have keep : ∀ b o, s.heap.get? b = some o → (((s.heap.push (seqObj "list" #[] 0)).update s.heap.objs.size (Obj.mapSeq (· ++ vs.toArray))).push (seqObj "list" vs.toArray 0)).get? b = some o := fun b o q => by
    have hlt : b < s.heap.objs.size := Heap.lt_size q
    rw [Heap.get?_push_ne _ _ _ (by rw [hsz]; exact Nat.ne_of_lt (Nat.lt_succ_of_lt hlt)), Heap.get?_update_ne _ _ _ _ (Nat.ne_of_lt hlt), Heap.get?_push_ne _ _ _ (Nat.ne_of_lt hlt)]
    exact q
  show wpAny _ _ _ _ _ { s with heap := ((s.heap.push (seqObj "list" #[] 0)).update s.heap.objs.size (Obj.mapSeq (· ++ vs.toArray))).push (seqObj "list" vs.toArray 0) }
  rw [hsz]
  have hD : s.heap.get? (s.heap.objs.size + 1) = none := get_ge (Nat.le_succ _)
  refine wpAny_bind (wpAny_holding (wpAny_call_entry_kw slot_list_sort ⟨_, hoL, rfl⟩ entry_list_sort ?body (ksk_l1 _ _)))
  case body =>
    show wpAny (model prog w) A.in1.in1 (Builtin.«list.sort» ⟨[.ref (s.heap.objs.size + 1)], [(Str.ofString "key", .ref q)]⟩) _ _ _
    rw [ksk_t1]
    refine sk_sort (s₀ := s) (Kp.ofH keep) hoL hD hS h64 turn fun s' out e ss' k ho h1 h2 h3 => ⟨_, rfl, ?_⟩
    exact wpAny_pure ⟨_, rfl, h _ s' out e ss' k hD ho h1 h2 h3⟩
end
theorem wpS_kwArgs {A : Around} {E : Value → Shared → Prop} {s : Shared} {f : Value} {x : Sem Value} {rest : List (Bool × Sem Value)} {keywords : List (Option Str × Sem Value)} {Q : Args → Shared → Prop}
    (hall : keywords.all (·.1.isSome) = true)
    (h : wpS c.M A (spliced ((false, x) :: rest)) (fun vs s₁ => wpS c.M A (evalAll (keywords.map (·.2))) (fun kvs s₂ => Q ⟨vs, (keywords.filterMap (·.1)).zip kvs⟩ s₂) E s₁) E s) :
    wpS c.M A (evalArgs f true ((false, x) :: rest) keywords) Q E s := by
  unfold evalArgs
  show wpS c.M A (spliced ((false, x) :: rest) >>= _) Q E s
  refine wpS_bind (wpS_mono h (fun vs s' h' => ?_) fun _ _ x => x)
  refine wpS_holding ?_
  rw [if_pos hall]
  refine wpS_bind (wpS_mono h' (fun kvs s₂ h₂ => ?_) fun _ _ x => x)
  exact wpS_bind (wpS_pure (wpS_pure h₂))
theorem wpS_callWith_kw {A : Around} {E : Value → Shared → Prop} {s : Shared} {pos : Pos} {id : String} {args : List (Bool × Sem Value)} {keywords : List (Option Str × Sem Value)} {Q : Value → Shared → Prop}
    (hplain : args.any (·.1) = false) (hkw : keywords.any (·.1.isNone) = false)
    (h : wpS c.M A (evalArgs (.builtin id) true args keywords) (fun a s₁ => wpS c.M A (call (.builtin id) a.pos a.kw) Q E s₁) E s) :
    wpS c.M A (callWith pos (.builtin id) [] args keywords) Q E s := by
  unfold callWith
  refine wpS_bind (wpS_holding (wpS_mono h (fun a s₁ h₁ => wpS_bind (wpS_standAt ?_)) fun _ _ x => x))
  simp only [hplain, hkw, Bool.or_false]
  refine wpS_bind (wpS_pure ?_)
  exact wpS_bind (wpS_mono h₁ (fun r s₂ hr => wpS_bind (wpS_holding (wpS_point (wpS_pure hr)))) fun _ _ x => x)
theorem ltA {a b : Str} (h1 : ¬ b.cps.toList < a.cps.toList) (h2 : ¬ a.cps.toList < b.cps.toList) : a = b := by
  have : a.cps.toList = b.cps.toList := List.le_antisymm h1 h2
  cases a; cases b
  simp only [Str.mk.injEq]
  exact Array.toList_inj.mp this
noncomputable abbrev leS (a b : Str) : Prop := ¬ b.cps.toList < a.cps.toList
theorem leS_trans {a b d : Str} (h1 : leS a b) (h2 : leS b d) : leS a d := List.le_trans (l₁ := a.cps.toList) h1 h2
theorem risingS_pairwise : ∀ (p : Str) (l : List Str), risingS p l = true → (p :: l).Pairwise leS
  | p, [], _ => by simp
  | p, x :: r, h => by
    have h' : (!PySem.Spec.ltCps x.cps.toList p.cps.toList && risingS x r) = true := h
    rw [Bool.and_eq_true, Bool.not_eq_true', ltCps_eq] at h'
    have ih := risingS_pairwise x r h'.2
    have h1 : leS p x := by simpa [leS] using h'.1
    refine List.pairwise_cons.mpr ⟨fun y hy => ?_, ih⟩
    rcases List.mem_cons.mp hy with rfl | hy
    · exact h1
    · exact leS_trans h1 ((List.pairwise_cons.mp ih).1 y hy)
theorem sortedS_pairwise : ∀ (l : List Str), sortedS l = true → l.Pairwise leS
  | [], _ => .nil
  | x :: r, h => risingS_pairwise x r h
/-- sorted, with a key -/
theorem ev_sortkey (hC : CxOk c) {np kp kpos pos : Pos} {e : Expr} {ss ms : List Str} (hk : env.kindOf (Str.ofString "sorted") = some .globalImplicit) (hk1 : env.kindOf (Str.ofString "_strxfrm") = some .globalImplicit)
    (ha : EvL c n X env ρ [e] [strsV ss]) (hz : ss.length < 64) (hp : ms.Perm ss) (hs : ms.Pairwise leS)
    (hst : starEach [e] env = (false, eval e env) :: starEach [] env := by exact starEach_no rfl) (hpl : (backTo pos (starEach [e] env)).any (·.1) = false := by exact plain_no rfl) :
    EvR c n X env ρ (.Call (.Name (Str.ofString "sorted") np) [e] [⟨some (Str.ofString "key"), .Name (Str.ofString "_strxfrm") kp, kpos⟩] pos) (strsV ms) := by
  intro A E s hA R
  have b1 := hC.bi "sorted" (.builtin "sorted") (by kernel_rfl)
  have e0 : eval (.Call (.Name (Str.ofString "sorted") np) [e] [⟨some (Str.ofString "key"), .Name (Str.ofString "_strxfrm") kp, kpos⟩] pos) env = (do
      let f ← eval (.Name (Str.ofString "sorted") np) env
      callWith pos f [] (backTo pos (starEach [e] env)) (backToKw pos (keywordEach [⟨some (Str.ofString "key"), .Name (Str.ofString "_strxfrm") kp, kpos⟩] env))) := rfl
  rw [e0]
  refine wpS_bind (ld_bi R hk b1.g b1.b ?_ (by decide +kernel))
  obtain ⟨a, hg, hfn⟩ := R.glo.fn (nthD 1) (nthD_mem (by decide))
  have hg' : c.mg (Str.ofString "_strxfrm") = some (.ref a) := hg
  refine wpS_callWith_kw hpl rfl ?_
  have hspl := ha pos A E s hA R
  rw [hst] at hspl ⊢
  refine wpS_kwArgs rfl (wpS_mono hspl (fun vs s₁ h₁ => lf ?_) fun _ _ e => e)
  obtain ⟨k1, r1⟩ := h₁
  have R1 := R.kp k1
  refine kws_cons (Name_function_global R1.kind hk1 (loadGlobal_global (mg := c.mg) (R1.gl ▸ R1.glo.g) hg' (kws_nil ?_)) (by decide +kernel))
  obtain ⟨v, rfl, rv⟩ := r1.one
  obtain ⟨l, vs, rfl, ho, hr, _⟩ := rv.listI
  have hS := hr.strs
  have hlen := hr.length
  rw [List.length_map] at hlen
  refine lf (sk_sorted ho.isList hS (by omega) (fun s' v k => xfrm_any hA.room (R1.glo.keeps k.heap).nolimit ?_) fun D s' out e2 ss' k hD hd h1 h2 h3 => ?_)
  · obtain ⟨o, pm, code, doc, h1, h2, h3⟩ := hfn
    exact ⟨o, pm, code, doc, k.heap _ _ (k1.heap _ _ h1), h2, (h3.keeps k1.heap).keeps k.heap⟩
  · have heq : ss' = ms := List.Perm.eq_of_pairwise (fun x y _ _ h1 h2 => ltA h1 h2) (sortedS_pairwise _ h3) hs (h2.trans hp.symm)
    subst heq
    refine ⟨k1.trans k, .list (vs := out.toList) (R1.live.no hD) ⟨e2, ?_⟩ (RepL.of_strs h1)⟩
    rw [Array.toArray_toList]; exact hd
end Mine
end

section
open PySem PySem.W PySem.Calls PyProof.Rows
set_option Elab.async false
set_option maxRecDepth 100000
set_option linter.unusedVariables false
namespace Mine
variable {c : Cx} {n : Nat} {X : Addr → Prop} {env : Env} {ρ : List (Str × PV)}
theorem evt_valc {e : Expr} {p : PV} {b : Bool} (h : EvR c n X env ρ e p) (ht : Truth c n p b) (hp : ∀ whole, isTrue e env whole = (do let v ← whole; standAt e.pos; holding [v] (truthy v)) := by intro _; rfl) : EvT c n X env ρ e b :=
  fun A E s hA R => by
    rw [hp]
    exact wpS_bind (wpS_mono (h A E s hA R) (fun v s₁ h₁ => wpS_bind (wpS_standAt (wpS_holding (wpS_mono (lf <| ht A E s₁ v hA (R.kp h₁.1).glo h₁.2.x0) (fun _ _ h => ⟨h₁.1.trans h.1, h.2⟩) fun _ _ e => e)))) fun _ _ e => e)
theorem exr_drop {s₀ : Shared} {ρ' : List (Str × PV)} {sts : List Stmt} {p : PV} (h : ExR c n X s₀ env ρ' sts p) (hd : ∀ n p, ρ'.lookup n = some p → vis env n = true → ρ.lookup n = some p) : ExR c n X s₀ env ρ sts p :=
  fun A E s hA F => h A E s hA (F.drop hd)
theorem evg_nil {α : Type} {f : α → PV} : EvL c n X env ρ [] (([] : List α).map f) := evl_nil
theorem evg_cons {α : Type} {f : α → PV} {e : Expr} {es : List Expr} {i : α} {ns : List α} (h1 : EvR c n X env ρ e (f i)) (h2 : EvL c n X env ρ es (ns.map f))
    (he : ∀ env, starEach (e :: es) env = (false, eval e env) :: starEach es env := by intro _; exact starEach_no rfl) : EvL c n X env ρ (e :: es) ((i :: ns).map f) := evl_cons h1 h2 he
theorem ev_listG {α : Type} {f : α → PV} {es : List Expr} {pos : Pos} {ns : List α} (h : EvL c n X env ρ es (ns.map f)) (hz : ns.length ≤ 1000) : EvR c n X env ρ (.List es pos) (.list (ns.map f)) := ev_list h (by simpa using hz)
theorem ex_cast {s₀ : Shared} {st : Stmt} {y : Str} {p q : PV} {ρ' : List (Str × PV)} (h : p = q) (hx : Ex c n X s₀ env ρ st ((y, p) :: ρ')) : Ex c n X s₀ env ρ st ((y, q) :: ρ') := h ▸ hx
theorem ex_compF {α γ : Type} {s₀ : Shared} {elt it : Expr} {x y : Str} {px py pos spos : Pos} {ifs : List Expr} {scope : Scope} {p : PV} (l : List α) (f : α → PV) (t : α → Bool) (F : γ → PV) (g : α → γ)
    (hi : EvR c n X env ρ it p) (hI : ∀ X', Iter c X' p (l.map f)) (hok : compOk scope env ρ = true) (hx : scope.names.lookup x = some .local) (hlen : l.length ≤ 10000)
    (hev : ∀ C X' a, (∀ b, X b → X' b) → a ∈ l → EvTs c n X' (compEnvC scope (clGo env scope.names []) C env) ((x, f a) :: ρ) ifs (t a) ∧ (t a = true → EvR c n X' (compEnvC scope (clGo env scope.names []) C env) ((x, f a) :: ρ) elt (F (g a))))
    (hy : env.kindOf y = some .local)
    (hsw : swapsWith (.ListComp elt [⟨.Name x px, it, ifs, 0⟩] scope pos) (some (.Name y py)) spos.line env = pure true)
    (hs : ∀ v, foldedSetIterable it env v = pure v := by intro _; rfl) :
    Ex c n X s₀ env ρ (.Assign [.Name y py] (.ListComp elt [⟨.Name x px, it, ifs, 0⟩] scope pos) spos) ((y, .list (((l.filter t).map g).map F)) :: ρ) := by
  rw [List.map_map]
  exact ex_comp l f t (F ∘ g) hi hI hok hx hlen hev hy hsw hs
theorem ex_compM {α γ : Type} {s₀ : Shared} {elt it : Expr} {x y : Str} {px py pos spos : Pos} {scope : Scope} {p : PV} (l : List α) (f : α → PV) (F : γ → PV) (g : α → γ)
    (hi : EvR c n X env ρ it p) (hI : ∀ X', Iter c X' p (l.map f)) (hok : compOk scope env ρ = true) (hx : scope.names.lookup x = some .local) (hlen : l.length ≤ 10000)
    (hev : ∀ C X' a, (∀ b, X b → X' b) → a ∈ l → EvR c n X' (compEnvC scope (clGo env scope.names []) C env) ((x, f a) :: ρ) elt (F (g a)))
    (hy : env.kindOf y = some .local)
    (hsw : swapsWith (.ListComp elt [⟨.Name x px, it, [], 0⟩] scope pos) (some (.Name y py)) spos.line env = pure true)
    (hs : ∀ v, foldedSetIterable it env v = pure v := by intro _; rfl) :
    Ex c n X s₀ env ρ (.Assign [.Name y py] (.ListComp elt [⟨.Name x px, it, [], 0⟩] scope pos) spos) ((y, .list ((l.map g).map F)) :: ρ) := by
  have := ex_compF (γ := γ) (s₀ := s₀) (y := y) (py := py) (spos := spos) (ifs := []) (pos := pos) (px := px) l f (fun _ => true) F g hi hI hok hx hlen (fun C X' a h1 h2 => ⟨evts_nil, fun _ => hev C X' a h1 h2⟩) hy hsw hs
  rwa [List.filter_eq_self.mpr (by simp)] at this
theorem evt_eq {e : Expr} {a b : Bool} (h : a = b) (he : EvT c n X env ρ e a) : EvT c n X env ρ e b := h ▸ he
theorem iter_nats {X : Addr → Prop} {xs : List Nat} : Iter c X (natsV xs) (xs.map fun (k : Nat) => .int (k : Int)) := by
  have e : (up xs).map PV.int = xs.map fun (k : Nat) => .int (k : Int) := by rw [List.map_map]; rfl
  rw [← e]
  exact iter_list
theorem cut_nats {xs : List Nat} {l u : Option Int} (hs : xs.length ≤ 10000) : Cut c n (natsV xs) l u none (natsV (cutL xs l u)) := by
  have := cut_map (c := c) (n := n) (f := PV.int) (xs := up xs) (l := l) (u := u) (by simpa using hs)
  rwa [show cutL (up xs) l u = up (cutL xs l u) from cutL_map _ _ _] at this
theorem itm_nats {xs : List Nat} {i : Int} (h0 : 0 ≤ i) (hi : i < xs.length ∧ xs.length ≤ 10000) : Itm c n (natsV xs) (.int i) (.int (xs.getD i.toNat 0 : Nat)) := by
  have := itm_mapD (c := c) (n := n) (f := PV.int) (xs := up xs) (i := i) 0 h0 (by simpa using hi)
  have e : (up xs).getD i.toNat 0 = ((xs.getD i.toNat 0 : Nat) : Int) := by
    rw [List.getD_eq_getElem?_getD, List.getElem?_map, List.getD_eq_getElem?_getD]
    cases xs[i.toNat]? <;> rfl
  rwa [e] at this
theorem len_nats {xs : List Nat} (h : xs.length ≤ 10000) : Fn c n (.builtin "len") [natsV xs] (.int xs.length) := by
  have := len_map (c := c) (n := n) (f := PV.int) (xs := up xs) (by simpa using h)
  rwa [List.length_map] at this
inductive Sub (ρ : List (Str × PV)) : List (Str × PV) → Prop
  | nil : Sub ρ []
  | cons {x : Str} {p : PV} {l : List (Str × PV)} (h : ρ.lookup x = some p) (t : Sub ρ l) : Sub ρ ((x, p) :: l)
theorem Sub.all {ρ l : List (Str × PV)} (h : Sub ρ l) {m : Str} {p : PV} (hm : (m, p) ∈ l) : ρ.lookup m = some p := by
  induction h with
  | nil => cases hm
  | cons h t ih =>
    rcases List.mem_cons.mp hm with e | hm
    · cases e; exact h
    · exact ih hm
theorem exr_sub {s₀ : Shared} {ρ' : List (Str × PV)} {sts : List Stmt} {p : PV} (h : Sub ρ ρ') (hx : ExR c n X s₀ env ρ' sts p) : ExR c n X s₀ env ρ sts p :=
  exr_drop hx fun m p hm _ => h.all (mem_of_lookup hm)
/-- statements that hand back, where the stack is known to be as K says -/
noncomputable def ExK (K : Around → Prop) (c : Cx) (n : Nat) (X : Addr → Prop) (s₀ : Shared) (env : Env) (ρ : List (Str × PV)) (sts : List Stmt) (p : PV) : Prop :=
  ∀ A E s, AOk n A → K A → FmP c X s₀ env ρ s → wpS c.M A (execs sts env) (fun f s' => ∃ v, f = .ret v ∧ Kp s₀ s' ∧ Rep X s'.heap v p) E s
theorem exk_of {K : Around → Prop} {s₀ : Shared} {sts : List Stmt} {p : PV} (h : ExR c n X s₀ env ρ sts p) : ExK K c n X s₀ env ρ sts p := fun A E s hA _ F => h A E s hA F
theorem exk_cons {K : Around → Prop} {s₀ : Shared} {st : Stmt} {rest : List Stmt} {ρ' : List (Str × PV)} {p : PV} (h1 : Ex c n X s₀ env ρ st ρ') (h2 : ExK K c n X s₀ env ρ' rest p) : ExK K c n X s₀ env ρ (st :: rest) p :=
  fun A E s hA hK F => wpS_execs_cons (wpS_mono (h1 A E s hA F) (fun f s₁ h₁ => by
    obtain ⟨rfl, F', _⟩ := h₁
    exact h2 A E s₁ hA hK F') fun _ _ e => e)
theorem exk_sub {K : Around → Prop} {s₀ : Shared} {ρ' : List (Str × PV)} {sts : List Stmt} {p : PV} (h : Sub ρ ρ') (hx : ExK K c n X s₀ env ρ' sts p) : ExK K c n X s₀ env ρ sts p :=
  fun A E s hA hK F => hx A E s hA hK (F.drop fun m p hm _ => h.all (mem_of_lookup hm))
/- the law's numbers -/
noncomputable def drawnP (xs : List Int) : List Int := (cutL xs none (some 60)).map fun x => x.fmod 1000000
noncomputable def nP (f : Nat) : Nat := 5 + f % 4
noncomputable def menuP : List Int := [1, 2, 3, 4, 0, 127]
noncomputable def rowA (f : Nat) : List Int := [1 + ((f / 4 % 3 : Nat) : Int), menuP.getD (f / 12 % 6) 0, menuP.getD (f / 72 % 6) 0]
noncomputable def rowB (f : Nat) : List Int := ([[], [0], [127, 2], [1, 0]] : List (List Int)).getD (f / 432 % 4) []
noncomputable def rowP (f : Nat) : List Int := rowA f ++ rowB f
noncomputable def toldF (f : Nat) : List Int := toldP (rowP f) (nP f)
noncomputable def msF (f : Nat) : List Int := (edgesN (toldF f) (nP f)).reverse
noncomputable def edgF (f : Nat) : List Int := 0 :: msF f
noncomputable def widF (f k : Nat) : Nat := ((edgF f).getD (k + 1) 0 - (edgF f).getD k 0).toNat
noncomputable def grpF (f : Nat) : List Nat := (List.range ((edgF f).length - 1)).flatMap fun k => (List.range (widF f k)).map fun _ => k
noncomputable def s0P (S : Nat) : Nat := S % 100
noncomputable def dP (S : Nat) : Nat := 1 + S / 100 % 20
noncomputable def sgP (f S : Nat) : List Nat := (grpF f).map fun k => s0P S + dP S * k
theorem fmodN (a b : Nat) : (a : Int).fmod (b : Int) = ((a % b : Nat) : Int) := by
  rw [Int.fmod_eq_emod_of_nonneg _ (by omega)]; omega
theorem fdivN (a b : Nat) : (a : Int).fdiv (b : Int) = ((a / b : Nat) : Int) := by
  rw [Int.fdiv_eq_ediv_of_nonneg _ (by omega)]; omega
theorem cut_pick {f : Int → PV} {xs : List Int} {l u st : Option Int} (h0 : st ≠ some 0) (hs : xs.length ≤ 10000) : Cut c n (.list (xs.map f)) l u st (.list ((pick xs l u st).map f)) := by
  have h := cut_list (c := c) (n := n) (a := xs.map f) (l := l) (u := u) (st := st) h0 (by simpa using hs)
  have e : pick (xs.map f) l u st = (pick xs l u st).map f := by
    unfold pick
    simp only [List.length_map, List.map_filterMap, List.getElem?_map]
  rwa [e] at h
theorem pick_mem {xs : List Int} {l u st : Option Int} {a : Int} (h : a ∈ pick xs l u st) : a ∈ xs := by
  unfold pick at h
  obtain ⟨i, _, hi⟩ := List.mem_filterMap.mp h
  exact List.mem_of_getElem? hi
end Mine
end

section
open PySem PySem.W PySem.Calls PyProof.Rows
open Sem (wp)
set_option Elab.async false
set_option maxRecDepth 100000
set_option linter.unusedVariables false
namespace Mine
/-- a heap without two of its places -/
noncomputable def gone (o : Obj) : Obj := { o with data := .freed }
noncomputable def cut2 (h : Heap) (a b : Addr) : Heap := (h.update a gone).update b gone
theorem upd_gone_self (h : Heap) (a : Addr) : (h.update a gone).get? a = none := by
  cases e : (h.update a gone).get? a with
  | none => rfl
  | some o =>
    obtain ⟨e1, e2⟩ := Heap.get?_some_iff.mp e
    obtain ⟨objs, l⟩ := h
    have e3 : (objs.modify a gone)[a]? = some o := e1
    rw [Array.getElem?_modify] at e3
    simp only [if_true] at e3
    cases e4 : objs[a]? with
    | none => rw [e4] at e3; cases e3
    | some x =>
      rw [e4] at e3
      cases e3
      cases e2
theorem upd_gone_sub {h : Heap} {a b : Addr} {o : Obj} (e : (h.update a gone).get? b = some o) : h.get? b = some o ∧ b ≠ a := by
  by_cases hb : b = a
  · subst hb; rw [upd_gone_self] at e; cases e
  · rw [Heap.get?_update_other h _ (Ne.symm hb)] at e
    exact ⟨e, hb⟩
theorem cut2_sub {h : Heap} {a b x : Addr} {o : Obj} (e : (cut2 h a b).get? x = some o) : h.get? x = some o ∧ x ≠ a ∧ x ≠ b := by
  obtain ⟨e1, e2⟩ := upd_gone_sub e
  obtain ⟨e3, e4⟩ := upd_gone_sub e1
  exact ⟨e3, e4, e2⟩
theorem cut2_get {h : Heap} {a b x : Addr} {o : Obj} (e : h.get? x = some o) (h1 : x ≠ a) (h2 : x ≠ b) : (cut2 h a b).get? x = some o := by
  unfold cut2
  rw [Heap.get?_update_other _ _ (Ne.symm h2), Heap.get?_update_other _ _ (Ne.symm h1)]; exact e
theorem cut2_no {h : Heap} {a b x : Addr} (e : h.get? x = none ∨ x = a ∨ x = b) : (cut2 h a b).get? x = none := by
  cases e1 : (cut2 h a b).get? x with
  | none => rfl
  | some o =>
    obtain ⟨e2, e3, e4⟩ := cut2_sub e1
    rcases e with e | e | e
    · rw [e] at e2; cases e2
    · exact absurd e e3
    · exact absurd e e4
section
variable {M : Model} {A : Around} {E : Value → Shared → Prop} {s : Shared}
theorem wpAny_looks_madeW {base h : Heap} {env : Env} {outer : List Env} {L e : Addr} {cls : Value} {args : List Value} {Q : Unit → Shared → Prop}
    (hfr : A.frames = some (env :: outer)) (hf : env.frame = some L) (hkb : base.StaysIn h) (hl : h.FunFrames base (env :: outer)) (hx : Heap.MadeExcOf h s.heap e cls args)
    (hQ : ∀ h' t, Heap.HeldW base (env :: outer) e cls (.ref t) L h' → h'.TupAt t args → s.heap.UpToSlots h' → Q () { s with heap := h' }) : wpAny M A (noteFrame (.ref e) env) Q E s := by
  obtain ⟨t, he, htn, ht⟩ := hx.there
  have fresh : ∀ b, h.get? b = none → base.get? b = none := fun b hb => by
    cases hq : base.get? b with
    | none => rfl
    | some o' => have := hkb b o' hq; rw [hb] at this; cases this
  unfold noteFrame
  simp only [hf]
  refine wpAny_bind (wpAny_field he rfl (show _ = some Value.none from rfl) ?_)
  rw [if_neg (show ¬ ((Value.none != Value.none) = true) from by decide)]
  refine wpAny_entryW (a0 := .ref t) hfr (hl.of_keeps fun b o hb _ => ⟨o, hx.keeps b o hb, rfl⟩) hf he (fun b o hb => hx.keeps b o (hkb b o hb)) (fresh e hx.new) rfl (show 1 < 6 by omega) rfl fun h' hN => ?_
  obtain ⟨k1, k2, k3, k4⟩ := hN
  exact hQ h' t ⟨k1, fresh e hx.new, k2, k3⟩ (Heap.TupAt.of_slots ⟨_, _, ht, rfl, rfl⟩ k4) k4
theorem wpAny_ownW {base : Heap} {env : Env} {l : List Env} {L e : Addr} {cls a0 : Value} {msg : String} {Q : Unit → Shared → Prop} (hf : env.frame = some L)
    (hh : Heap.HeldW base l e cls a0 L s.heap) (hQ : ∀ h', Heap.HeldW base l e cls a0 L h' → s.heap.UpToSlots h' → Q () { s with heap := h' }) :
    wpAny M A (do
      if (← field (.ref e) 1) == .none then unsupported msg
      setFlight (.ref e) env.frame) Q E s := by
  obtain ⟨f1, f2, f3, oe, vs, T, oT, ts, he, hcls, hd, h1, hnT, hTe, hT, hdT, h3⟩ := hh
  have hsz3 : 3 < ts.size := (Array.getElem?_eq_some_iff.mp h3).1
  have other : ∀ b, b ≠ T → (s.heap.update T (Obj.mapFields (·.setIfInBounds 3 (env.frame.elim Value.none fun f => rawInt f)))).get? b = s.heap.get? b :=
    fun b hb => Heap.get?_update_other _ _ (Ne.symm hb)
  have noRecord : ∀ b o, s.heap.get? b = some o → (∀ vs, o.data ≠ .fields vs) → b ≠ T := fun b o hb hnf q => by
    rw [q, hT] at hb; injection hb with hb; subst hb; exact hnf ts hdT
  refine wpAny_bind (wpAny_field he hd h1 ?_)
  rw [if_neg (show ¬ ((Value.ref T == Value.none) = true) from by simp)]
  unfold setFlight
  refine wpAny_bind (wpAny_field he hd h1 ?_)
  rw [if_pos (show (Value.ref T != Value.none) = true from by simp)]
  refine wpAny_setField hT hdT hsz3 (hQ _ ⟨fun b o hbo => (other b fun q => by rw [q, hnT] at hbo; cases hbo).trans (f1 b o hbo), f2,
    f3.of_keeps fun b o hb hnf => ⟨o, (other b (noRecord b o hb hnf)).trans hb, rfl⟩, ?_⟩ fun b o hb hnf => ⟨o.slots, (other b (noRecord b o hb hnf)).trans hb⟩)
  exact ⟨oe, vs, T, _, _, (other e (Ne.symm hTe)).trans he, hcls, hd, h1, hnT, hTe, Heap.get?_update_self _ hT (Obj.isFreed_of_fields (Obj.data_mapFields hdT _)), Obj.data_mapFields hdT _, by simp [hsz3, hf]⟩
theorem wpAny_leaves_heldS {base : Heap} {env : Env} {outer : List Env} {L e : Addr} {cls a0 : Value} {Q : Unit → Shared → Prop} (hf : env.frame = some L)
    (hh : Heap.HeldW base (env :: outer) e cls a0 L s.heap) (hQ : ∀ h', Heap.FlyingW base outer e cls a0 h' → s.heap.UpToSlots h' → Q () { s with heap := h' }) : wpAny M A (leaving env (.ref e)) Q E s := by
  unfold leaving
  refine wpAny_bind (wpAny_noteFrame_againW hf hh.2.2.2 ?_)
  refine wpAny_landsW hh fun h' hfl hs => ?_
  obtain ⟨k1, k2, ⟨_, _, k3⟩, k4⟩ := hfl
  exact hQ h' ⟨k1, k2, k3, k4⟩ hs
end
theorem sub_val_stop : isSubtype (.type "ValueError") (.type "StopIteration") = pure false := by rw [isSubtype_type]; kernel_rfl
section
variable {prog : Program} {w : World} {A : Around}
/-- the next of a generator's that raises -/
theorem genNextX {E : Value → Shared → Prop} {s : Shared} {a : Addr} {g n : Nat} {gs : GenState} {X : Shared → Addr → Shared → Prop} {Q : Option Value → Shared → Prop} (hh : A.handled = none)
    (hl : s.heap.NoLimit) (hroom : A.depth < recursionLimit)
    (hg : s.heap.IsGen a g) (hgs : s.gens[g]? = some gs)
    (hgo : gs.Goes (model prog w) A.in1 (fun n s₀ r s₁ => ∃ e, r = .error (.ref e) ∧ X s₀ e s₁) (fun _ _ _ _ _ => False) n (.send .none) (s.setGen g .running))
    (hX : ∀ e s₁, X (s.setGen g .running) e s₁ → s₁.TypeIs (.ref e) "ValueError" ∧ s₁.heap.IsGen a g ∧ E (.ref e) (s₁.setGen g .finished)) :
    wpAny (model prog w) A (pyNext (.ref a)) Q E s := by
  unfold pyNext
  refine wpAny_bind (wpAny_attempt (wpAny_callSpecial?_slot (name := Str.ofString "__next__") hg.typeIs slot_gen_next
    (wpAny_call_entry slot_gen_next hg.typeIs entry_gen_next ?_ (args_gen_next _))))
  show wpAny _ A.in1 (Builtin.Generator.genWake (.ref a) (.send .none)) _ _ s
  unfold Builtin.Generator.genWake
  refine wpAny_bind (wpAny_holding (wpAny_genNumber hg (wpAny_bind (wpAny_genState hgs ?_))))
  cases gs with
  | running => exact hgo.elim
  | finished => exact hgo.elim
  | _ =>
    refine wpAny_bind (wpAny_roomToWake hl hroom ?_)
    show wpAny _ A.in1 (.resume g (.send .none) [] _) _ _ s
    refine wpAny_resumeQ hgs hgo (fun x s₁ hx => ?_) (fun v s₁ gs' hb hv => hv.elim)
    obtain ⟨e, rfl, hp⟩ := hx
    obtain ⟨hT, hG, hE⟩ := hX e s₁ hp
    have hT' : (s₁.setGen g .finished).TypeIs (.ref e) "ValueError" := hT
    obtain ⟨o, nm, qn, ho, hc, hd, hsl⟩ := hG
    show wpAny _ A.in1 (Builtin.Generator.genLeft (.ref a) (.ref e)) _ _ _
    unfold Builtin.Generator.genLeft Builtin.Generator.madeByALambda
    refine wpAny_bind (wpAny_bind (wpAny_load (show (s₁.setGen g .finished).heap.get? a = some o from ho) (wpAny_pure ?_)))
    refine wpAny_bind (wpAny_isInstance hT' sub_val_stop ?_)
    rw [Bool.and_false, if_neg (by decide)]
    unfold Builtin.Generator.genEscaped
    refine wpAny_bind (wpAny_isInstance hT' sub_val_stop ?_)
    refine wpAny_throw ?_
    refine wpAny_bind (wpAny_isInstance hT' sub_val_stop ?_)
    exact wpAny_throw hE
end
end Mine
end

section
open PySem PySem.W PySem.Calls PyProof.Rows
open Sem (wp)
set_option Elab.async false
set_option maxRecDepth 100000
set_option linter.unusedVariables false
namespace Mine
/-- what the raising generator leaves -/
noncomputable def GX (base : Heap) (outer : List Env) (L : Addr) (s₀ : Shared) (e : Addr) (s : Shared) : Prop :=
  ∃ t u h' tk, s = { s₀ with heap := h', toks := tk } ∧ Heap.FlyingW base outer e (.type "ValueError") (.ref t) h' ∧ h'.TupAt t [.str "invalid grouping" u] ∧ ∀ b m, b ≠ L → s₀.heap.Ns b m → h'.Ns b m
/-- the same, while it lies in the generator's own frame -/
noncomputable def GH (base : Heap) (l : List Env) (L : Addr) (s₀ : Shared) (e : Addr) (s : Shared) : Prop :=
  ∃ t u h' tk, s = { s₀ with heap := h', toks := tk } ∧ Heap.HeldW base l e (.type "ValueError") (.ref t) L h' ∧ h'.TupAt t [.str "invalid grouping" u] ∧ ∀ b m, b ≠ L → s₀.heap.Ns b m → h'.Ns b m
section
variable {prog : Program} {w : World} {A : Around} {ra : Addr} {mg mb : Str → Option Value} {R : GenEnd} {Y : Protocol} {n : Nat} {s₀ : Shared} {env : Env}
theorem gen_for_raise {K : Flow → Sem Fin} {H : Value → Sem Fin} {cf : Code} {p : Pos} {xp : Pos} {I : Addr} {vs : List Value} {row : List Int} {base : Heap} {outer : List Env} {L : Addr} {s : Shared} {m : Str → Option Value}
    (hkind : env.scope.kind = .function) (hgl : env.globals = mainGlobals) (hbl : env.builtins = builtinsNs) (hco : env.scope.isCoroutine = false) (hLe : env.locals = L) (hfe : env.frame = some L) (hcf : cf.envs = [env])
    (hlast : env.kindOf "last_interval" = some .local) (hiv : env.kindOf "interval" = some .local) (hcm : env.kindOf "CHAR_MAX" = some .globalImplicit) (hvk : env.kindOf "ValueError" = some .globalImplicit) (hmg : ∃ t, mg "CHAR_MAX" = some (.int 127 t))
    (hve : mg "ValueError" = none) (hvb : mb "ValueError" = some (.type "ValueError"))
    (hLra : L ≠ ra) (hLmn : L ≠ mainGlobals) (hLbn : L ≠ builtinsNs) (hLI : L ≠ I) (hIra : ra ≠ I) (hImn : mainGlobals ≠ I) (hIbn : builtinsNs ≠ I) (hbI : base.get? I = none) (hoI : ∀ b m, s₀.heap.Ns b m → b ≠ I)
    (hh : A.handled = none) (hfr : A.frames = some outer) (hi : IntsAre vs row) (hz : row[0]? = some 0) (hbL : base.get? L = none)
    (hs : ∃ h tk, s = { s₀ with heap := h, toks := tk }) (hkb : base.StaysIn s.heap) (hfun : ∀ h' : Heap, (∀ b o, b ≠ I → b ≠ L → s.heap.get? b = some o → h'.get? b = some o) → h'.FunFrames base outer) (hns0 : ∀ b m, b ≠ L → s₀.heap.Ns b m → s.heap.Ns b m)
    (hn : s.heap.Ns L m) (hm : m "last_interval" = some .none) (hg : s.heap.Ns mainGlobals mg) (hb : s.heap.Ns builtinsNs mb) (hl : s.heap.IsList ra vs.toArray) (hit : s.heap.IsListIter I ra 0)
    (hH : ∀ e s', GH base (env :: outer) L s₀ e s' → Seg (model prog w) A R Y n s₀ cf (H (.ref e)) [] s') :
    Seg (model prog w) A R Y n s₀ (.forLoop (.Name "interval" xp) (.ref I) gBody [] env) ((model prog w).den (.forLoop (.Name "interval" xp) (.ref I) gBody [] env)) [retF env K H id id cf p] s := by
  subst hLe
  have iterNot : ∀ {h : Heap} {i : Nat} {o : Obj}, h.IsListIter I ra i → h.get? I = some o → ¬ Kd o := fun hit e => by
    obtain ⟨o', e', hc, hd⟩ := hit
    rw [e] at e'; cases e'
    exact IsIt.notKd ⟨⟨_, hd⟩, by rw [hc]; decide⟩
  have hW := Walks.list (prog := prog) (w := w) (A := A.over (.forLoop (.Name "interval" xp) (.ref I) gBody [] env) [retF env K H id id cf p]) hh I ra hIra vs.toArray
  have hlen : vs.length = row.length := hi.length
  have hil : 0 < vs.toArray.size := by
    have := (List.getElem?_eq_some_iff.mp hz).1
    simp; omega
  refine seg_forLoop (hW.item 0 s _ _ hil ⟨hit, hl⟩ fun u h1 tk hu st1 hk1 => ?_)
  obtain ⟨hit1, hl1⟩ := st1
  have hu' : vs[0]? = some u := by simpa using hu
  obtain ⟨q, hq, rq⟩ := (RepL.of_ints (X := X0) (h := h1) hi).getv hu'
  rw [List.getElem?_map, hz] at hq
  cases hq
  obtain ⟨tu, rfl⟩ := rq.intI
  have n1 : h1.Ns env.locals m := hn.at' fun o e => hk1 _ o (by simpa using hLI) e
  have g1 : h1.Ns mainGlobals mg := hg.at' fun o e => hk1 _ o (by simpa using hImn) e
  have b1 : h1.Ns builtinsNs mb := hb.at' fun o e => hk1 _ o (by simpa using hIbn) e
  refine wpAny_storeName_local hiv n1 (fun h2 n2 hs2 => ?_) (by rw [hkind]; rfl)
  have g2 : h2.Ns mainGlobals mg := g1.sameBut hs2 (Ne.symm hLmn)
  have b2 : h2.Ns builtinsNs mb := b1.sameBut hs2 (Ne.symm hLbn)
  have k2 : ∀ b o, b ≠ I → b ≠ env.locals → s.heap.get? b = some o → h2.get? b = some o := fun b o e1 e2 e => hs2.extBut _ _ e2 (hk1 _ _ (by simpa using e1) e)
  have hkb2 : base.StaysIn h2 := fun b o e => k2 b o (fun q => by rw [q, hbI] at e; cases e) (fun q => by rw [q, hbL] at e; cases e) (hkb b o e)
  have hne : ("last_interval" : Str) ≠ "interval" := by decide +kernel
  have hlm : (fun y => if y = ("interval" : Str) then some (Value.int 0 tu) else m y) "last_interval" = some .none := by
    simp only [if_neg hne]; exact hm
  refine seg_execs_cons (seg_If ?_)
  refine wpAny_isTrue_Compare1 (wpAny_Name (wpAny_loadName_local hkind hiv n2 (by simp; rfl) ?_) (by decide +kernel))
  obtain ⟨tc, hcmv⟩ := hmg
  refine Name_function_global hkind hcm (loadGlobal_global (mg := mg) (hgl ▸ g2) hcmv ?_) (by decide +kernel)
  refine PyProof.Rows.eq_int (wpAny_truthy_bool ?_)
  rw [if_neg (show ¬ (((0 : Int) == 127) = true) from by decide)]
  refine seg_execs_nil ?_
  refine seg_execs_cons (seg_If ?_)
  refine wpAny_isTrue_Compare1 (wpAny_Name (wpAny_loadName_local hkind hiv n2 (by simp; rfl) ?_) (by decide +kernel))
  refine wpAny_Constant_int ?_
  refine PyProof.Rows.eq_int (wpAny_truthy_bool ?_)
  rw [if_pos (show ((0 : Int) == 0) = true from rfl)]
  refine seg_execs_cons (seg_If ?_)
  refine wpAny_isTrue_Compare1 (wpAny_Name (wpAny_loadName_local hkind hlast n2 hlm ?_) (by decide +kernel))
  refine wpAny_Constant_none (is_none (wpAny_truthy_bool ?_))
  rw [if_pos (show ((Value.none == Value.none) = true) from rfl)]
  refine seg_execs_cons ?_
  refine seg_wrap (Raise_madeB F.excCall_ValueError F.excRaise_ValueError hh ?_)
  refine Name_function_global hkind hvk (loadGlobal_builtin (mg := mg) (mb := mb) (hgl ▸ g2) hve (hbl ▸ b2) hvb ⟨rfl, ?_⟩) (by decide +kernel)
  refine wpAny_items_cons (wpAny_Constant_str (wpAny_items_nil ⟨by size_fits, fun h3 e hx => ?_⟩))
  have hfrs : (A.over (.forLoop (.Name "interval" xp) (.ref I) gBody [] env) [retF env K H id id cf p]).frames = some (env :: outer) := by
    show pushEnvs [] (pushEnvs (envsOf [(cf, p)]) A.frames) = _
    rw [hfr]
    rw [envsOf_cons, hcf]; rfl
  have hfun2 : h2.FunFrames base (env :: outer) := by
    refine Heap.FunFrames.cons (by rw [hkind]; decide) hfe n2 hbL (hfun h2 k2)
  refine seg_wrap (wpAny_bind (wpAny_looks_madeW hfrs hfe hkb2 hfun2 hx.of fun h4 t hH4 ht4 hs4 => wpAny_theTreesLotGoes ?_))
  refine seg_leaf (.error (.ref e)) ?_
  refine seg_wrap (wpAny_onRaise ?_)
  refine wpAny_throw (wpAny_ownW hfe hH4 fun h5 hH5 hs5 => ?_)
  refine hH e _ ?_
  obtain ⟨h0, tk0, rfl⟩ := hs
  refine ⟨t, _, h5, _, rfl, hH5, ht4.of_slots hs5, fun b m' hb hN => ?_⟩
  have N2 : h2.Ns b m' := (hns0 b m' hb hN).at' fun o e => k2 b o (hoI b m' hN) hb e
  exact hs5.ns (hs4.ns (N2.keeps hx.keeps))
theorem gen_raise {L a : Addr} {pm code doc : Value} {vs : List Value} {row : List Int} {s : Shared} {m : Str → Option Value} {base : Heap} {outer : List Env} (hmg : ∃ t, mg "CHAR_MAX" = some (.int 127 t))
    (hve : mg "ValueError" = none) (hvb : mb "ValueError" = some (.type "ValueError"))
    (hra : L ≠ ra) (hmn : L ≠ mainGlobals) (hbn : L ≠ builtinsNs) (hh : A.handled = none) (hfr : A.frames = some outer) (hkb : base.StaysIn s.heap) (hbL : base.get? L = none)
    (hfun : ∀ h' : Heap, (∀ b o, b ≠ L → s.heap.get? b = some o → h'.get? b = some o) → h'.FunFrames base outer)
    (hi : IntsAre vs row) (hz : row[0]? = some 0)
    (hn : s.heap.Ns L m) (hm : m "grouping" = some (.ref ra)) (hl : s.heap.IsList ra vs.toArray) (hg : s.heap.Ns mainGlobals mg) (hb : s.heap.Ns builtinsNs mb) :
    Seg (model prog w) A (fun n s₀ r s' => ∃ e, r = .error (.ref e) ∧ GX base outer L s₀ e s') Y n s (.func (nthD 2).2.2.1 (envD (nthD 2) L a pm code doc)) ((model prog w).den (.func (nthD 2).2.2.1 (envD (nthD 2) L a pm code doc))) [] s := by
  refine seg_func ?_
  refine seg_execs_cons (seg_Assign ?_ rfl)
  refine wpAny_Constant_none (wpAny_storeName_local (env := envD (nthD 2) L a pm code doc) (m := m) rfl hn (fun h2 n2 hs2 => ?_) rfl)
  have hl2 : h2.IsList ra vs.toArray := hl.extBut hs2.extBut (Ne.symm hra)
  refine seg_execs_cons (seg_For ?_ (fun _ => rfl))
  have hgr : ("grouping" : Str) ≠ "last_interval" := by decide +kernel
  refine wpAny_Name (wpAny_loadName_local (env := envD (nthD 2) L a pm code doc) rfl rfl n2 (v := .ref ra) (by simp only [if_neg hgr]; exact hm) ?_) (by decide +kernel)
  refine wpAny_pyIter_list hl2 fun p => ?_
  have g2 : h2.Ns mainGlobals mg := hg.sameBut hs2 (Ne.symm hmn)
  have b2 : h2.Ns builtinsNs mb := hb.sameBut hs2 (Ne.symm hbn)
  have hLs : L < h2.objs.size := by obtain ⟨o', _, _, ho', _⟩ := n2; exact Heap.lt_size ho'
  have hrs : ra < h2.objs.size := by obtain ⟨o', ho', _⟩ := hl2; exact Heap.lt_size ho'
  have hgs : mainGlobals < h2.objs.size := by obtain ⟨o', _, _, ho', _⟩ := g2; exact Heap.lt_size ho'
  have hbs : builtinsNs < h2.objs.size := by obtain ⟨o', _, _, ho', _⟩ := b2; exact Heap.lt_size ho'
  have old : ∀ b o, s.heap.get? b = some o → b < h2.objs.size := fun b o e => by
    by_cases hb : b = L
    · subst hb; exact hLs
    · exact Heap.lt_size (hs2.extBut _ _ hb e)
  have k2 : ∀ b o, b ≠ L → s.heap.get? b = some o → h2.get? b = some o := fun b o e1 e => hs2.extBut _ _ e1 e
  refine gen_for_raise (env := envD (nthD 2) L a pm code doc) (vs := vs) (row := row) (mg := mg) (mb := mb) (L := L) (base := base) (outer := outer) rfl rfl rfl rfl rfl rfl rfl rfl rfl rfl rfl hmg hve hvb hra hmn hbn (Nat.ne_of_lt hLs) (Nat.ne_of_lt hrs) (Nat.ne_of_lt hgs) (Nat.ne_of_lt hbs) ?_ ?_
    hh hfr hi hz hbL ⟨_, _, rfl⟩ (fun b o e => Heap.get?_push_of_some _ (k2 b o (fun q => by rw [q, hbL] at e; cases e) (hkb b o e))) (fun h' hk => hfun h' fun b o h1 e => hk b o (Nat.ne_of_lt (old b o e)) h1 (Heap.get?_push_of_some _ (k2 b o h1 e)))
    (fun b m' h1 hN => (hN.at' fun o e => k2 b o h1 e).push _) (n2.push _) (by simp) (g2.push _) (b2.push _) (hl2.push _) ⟨_, Heap.get?_push_size _ rfl, rfl, rfl⟩ ?_
  · cases e : base.get? h2.objs.size with
    | none => rfl
    | some o => exact absurd (old _ _ (hkb _ _ e)) (Nat.lt_irrefl _)
  · intro b m' hN
    obtain ⟨o', _, _, ho', _⟩ := hN
    exact Nat.ne_of_lt (old _ _ ho')
  · rintro e s' ⟨t, u, h', tk, rfl, hH, hT, hNs⟩
    refine seg_wrap (wpAny_leaves_heldS rfl hH fun h6 hF hs => ?_)
    exact seg_end (.error (.ref e)) ⟨e, rfl, t, u, h6, tk, rfl, hF, hT.of_slots hs, fun b m' hb hN => hs.ns (hNs b m' hb hN)⟩
end
end Mine
end

section
open PySem PySem.W PySem.Calls PyProof.Rows
open Sem (wp)
set_option Elab.async false
set_option maxRecDepth 100000
set_option linter.unusedVariables false
namespace Mine
section
variable {α β : Type} {M : Model} {A : Around} {E : Value → Shared → Prop} {s : Shared} {R : Result → Shared → Prop} {env : Env}
theorem wpS_onRaiseE {m : Sem α} {k : Value → Sem Unit} {Q : α → Shared → Prop} (h : wpS M A m Q (fun e s' => wpS M A (k e) (fun _ s'' => E e s'') E s') s) : wpS M A (m.onRaise k) Q E s := fun Γ p hΓ hC => by
  rw [Sem.wp_onRaise]
  exact Sem.wp_mono M Γ m (fun _ _ _ h' => h') (fun e p' s' h' => h' Γ p' hΓ hC) p s (h Γ p hΓ hC)
theorem wpS_attemptE {m : Sem α} {Q : Except Value α → Shared → Prop} (h : wpS M A m (fun a => Q (.ok a)) (fun e => Q (.error e)) s) : wpS M A m.attempt Q E s := fun Γ p hΓ hC => by
  rw [Sem.wp_attempt]; exact h Γ p hΓ hC
/-- what a block's frame does with an exception that comes out of the block -/
noncomputable def ownS (M : Model) (A : Around) (env : Env) (E : Value → Shared → Prop) : Value → Shared → Prop := fun x s' => wpS M A (do
    if (← field x 1) == .none then unsupported "frame.own-activation:exception-without-traceback"
    setFlight x env.frame) (fun _ s'' => E x s'') E s'
theorem wpS_runOwnE {c : Code} {Q : Flow → Shared → Prop} (hd : Dec c = false) (hc : codeS M A c (fun r s' => match r with | .ok f => Q f s' | .error e => ownS M A env E e s') s) : wpS M A (runOwn c env) Q E s := by
  unfold runOwn
  exact wpS_onRaiseE (wpS_run hd hc)
theorem wpS_ForE {target iter : Expr} {body orelse : List Stmt} {pos : Pos} {Q : Flow → Shared → Prop}
    (h : wpS M A (eval iter env) (fun x s₁ => wpS M A (pyIter x) (fun it s₂ => codeS M A (.forLoop target it body orelse env) (fun r s' => match r with | .ok f => Q f s' | .error e => ownS M A env E e s') s₂) E s₁) E s)
    (hs : ∀ x, foldedSetIterable iter env x = pure x) : wpS M A (exec (.For target iter body orelse pos) env) Q E s := by
  rw [exec_For]
  refine wpS_bind (wpS_standAt (wpS_bind (wpS_mono h (fun x s₁ h₁ => ?_) fun _ _ e => e)))
  rw [hs x]
  exact wpS_bind (wpS_pure (wpS_bind (wpS_standAt (wpS_bind (wpS_holding (wpS_mono h₁ (fun it s₂ h₂ => wpS_runOwnE rfl h₂) fun _ _ e => e))))))
theorem wpS_TryE {body orelse : List Stmt} {h₀ : ExceptHandler} {hs : List ExceptHandler} {pos : Pos} {Q : Flow → Shared → Prop}
    (h : wpS M A (execs body env) (fun f s₁ => match f with | .next => wpS M A (execs orelse env) Q E s₁ | f => Q f s₁)
      (fun e s₁ => wpS M A (noteFrame e env) (fun _ s₂ => wpS M A (setFlight e none) (fun _ s₃ => wpS M A (handleBy e env (h₀ :: hs)) Q E s₃) E s₂) E s₁) s) :
    wpS M A (exec (.Try body (h₀ :: hs) orelse [] pos) env) Q E s := by
  rw [arm_exec_Try]
  refine wpS_bind (wpS_standAt ?_)
  unfold tryStmt
  simp only [List.isEmpty_nil, if_true, List.isEmpty_cons, Bool.false_and, Bool.false_eq_true, if_false]
  refine wpS_bind (wpS_attemptE (wpS_mono h (fun f s₁ h₁ => ?_) fun e s₁ h₁ => ?_))
  · cases f <;> first | exact h₁ | exact wpS_pure h₁
  · exact wpS_bind (wpS_mono h₁ (fun _ _ h₂ => wpS_bind h₂) fun _ _ x => x)
end
section
variable {prog : Program} {w : World} {A : Around} {E : Value → Shared → Prop} {s : Shared} {R : Result → Shared → Prop} {env : Env}
theorem codeS_forLoop_raise {target it body env} (h : wpS (model prog w) A (pyNext it) (fun _ _ => False) (fun e s₁ => wpS (model prog w) A (noteFrame e env) (fun _ s₂ => R (.error e) s₂) (fun _ _ => False) s₁) s) :
    codeS (model prog w) A (.forLoop target it body [] env) R s := by
  refine codeS_of_tree ?_
  show wpS _ _ ((forTurn target it body [] env).onRaise (fun x => do noteFrame x env; theTreesLotGoes x)) _ _ s
  refine wpS_onRaiseE ?_
  simp only [forTurn]
  refine wpS_bind (wpS_standAt (wpS_bind (wpS_onRaiseE (wpS_mono h (fun r s₁ h₁ => h₁.elim) fun e s₁ h₁ => ?_))))
  refine wpS_standAt ?_
  refine wpS_bind (wpS_mono h₁ (fun _ s₂ h₂ => lf (wpAny_theTreesLotGoes h₂)) fun _ _ e => e.elim)

/-- the front's handler -/
noncomputable def hFront : List ExceptHandler := match (nthD 6).2.2.1 with
  | [_, .Try _ hs _ _ _, _] => hs
  | _ => []
theorem front_handle {L ad : Addr} {pm code doc : Value} {base : Heap} {l : List Env} {e t D : Addr} {u : Tok} {m : Str → Option Value} {mg mb : Str → Option Value} {Q : Flow → Shared → Prop}
    (hve : mg "ValueError" = none) (hvb : mb "ValueError" = some (.type "ValueError")) (hse : mg "str" = none) (hsb : mb "str" = some (.type "str"))
    (hu : A.units + 10 < cLine)
    (hF : Heap.FlyingW base l e (.type "ValueError") (.ref t) s.heap) (hT : s.heap.TupAt t [.str "invalid grouping" u])
    (hn : s.heap.Ns L m) (hm : m "told" = some (.ref D)) (hD : ∃ o, base.get? D = some o ∧ o.cls = .type "list" ∧ o.dict = none) (hDl : s.heap.PlainList D #[]) (hg : base.Ns mainGlobals mg) (hb : base.Ns builtinsNs mb) (hbL : base.get? L = none)
    (hQ : ∀ h' tk m', h'.Ns L m' → m' "told" = some (.ref D) → h'.PlainList D #[.str "invalid grouping" u] → (∀ b o, b ≠ D → base.get? b = some o → h'.get? b = some o) → (∀ b m, b ≠ L → s.heap.Ns b m → h'.Ns b m) → Q .next { s with heap := h', toks := tk }) :
    wpAny (model prog w) A (handleBy (.ref e) (envD (nthD 6) L ad pm code doc) hFront) Q E s := by
  have hgr : ("told" : Str) ≠ "error" := by decide +kernel
  have gne : ∀ {m'}, base.Ns mainGlobals m' → mainGlobals ≠ L := fun hg q => by obtain ⟨o, _, _, ho, _⟩ := hg; rw [q, hbL] at ho; cases ho
  have bne : ∀ {m'}, base.Ns builtinsNs m' → builtinsNs ≠ L := fun hg q => by obtain ⟨o, _, _, ho, _⟩ := hg; rw [q, hbL] at ho; cases ho
  have g0 : s.heap.Ns mainGlobals mg := hg.at' fun o e => hF.1 _ _ e
  have b0 : s.heap.Ns builtinsNs mb := hb.at' fun o e => hF.1 _ _ e
  refine wpAny_handleBy_builtin_as F.isExc_ValueError F.notTuple_ValueError F.self_ValueError ?_
  refine Name_function_global (env := envD (nthD 6) L ad pm code doc) rfl rfl (loadGlobal_builtin (mg := mg) (mb := mb) g0 hve b0 hvb ⟨rfl, ?_, ?_⟩) (by decide +kernel)
  · obtain ⟨oe, vs, h1, h2, _⟩ := hF.first
    exact ⟨oe, h1, h2⟩
  rw [if_pos rfl]
  refine lands_againW hF fun h1 hF1 hs1 => ?_
  refine wpAny_storeName_local (env := envD (nthD 6) L ad pm code doc) (m := m) rfl (hs1.ns hn) (fun h2 n2 hs2 => ?_) rfl
  change Heap.SameBut L h1 h2 at hs2
  replace n2 : h2.Ns L _ := n2
  obtain ⟨oD, hDo, hDc, hDd⟩ := hD
  have hDL : D ≠ L := fun q => by rw [q, hbL] at hDo; cases hDo
  have k2 : ∀ b o, base.get? b = some o → h2.get? b = some o := fun b o e => hs2.extBut _ _ (fun q => by rw [q, hbL] at e; cases e) (hF1.1 _ _ e)
  have g2 : h2.Ns mainGlobals mg := hg.at' fun o e => k2 _ _ e
  have b2 : h2.Ns builtinsNs mb := hb.at' fun o e => k2 _ _ e
  have D2 : h2.PlainList D #[] := by
    obtain ⟨nD, hDp⟩ := hDl
    have e1 : s.heap.get? D = some oD := hF.1 _ _ hDo
    rw [hDp] at e1
    cases e1
    exact ⟨nD, k2 _ _ hDo⟩
  have hLt : ∀ o, s.heap.get? L = some o → ∀ vs, o.data ≠ .fields vs := fun o e vs q => by
    obtain ⟨o', _, _, ho', hd', _⟩ := hn
    rw [e] at ho'; cases ho'; rw [q] at hd'; cases hd'
  obtain ⟨oe, evs, he1, he2, he3, he4⟩ := hF1.first
  have hT1 := hT.of_slots hs1
  have eL : e ≠ L := fun q => by
    obtain ⟨o', _, _, ho', hd', _⟩ := hs1.ns hn
    rw [q] at he1; rw [he1] at ho'; cases ho'; rw [he3] at hd'; cases hd'
  have tL : t ≠ L := fun q => by
    obtain ⟨o', _, _, ho', hd', _⟩ := hs1.ns hn
    obtain ⟨o2, n2, e2, _, d2⟩ := hT1
    rw [q] at e2; rw [e2] at ho'; cases ho'; rw [d2] at hd'; cases hd'
  have X2 : h2.ExcAt e "ValueError" (.ref t) := ⟨oe, evs, hs2.extBut _ _ eL he1, he2, he3, he4⟩
  have T2 : h2.TupAt t [.str "invalid grouping" u] := by
    obtain ⟨o2, n2, e2, c2, d2⟩ := hT1
    exact ⟨o2, n2, hs2.extBut _ _ tL e2, c2, d2⟩
  refine wpAny_execs_cons ?_
  rw [exec_Expr (envD (nthD 6) L ad pm code doc) _ _ rfl rfl]
  refine wpAny_bind (wpAny_standAt (wpAny_bind ?_))
  rw [arm_eval_Call, show ∀ q, attributeBase (.Name "told" q) "append" (envD (nthD 6) L ad pm code doc) (eval (.Name "told" q) (envD (nthD 6) L ad pm code doc)) = eval (.Name "told" q) (envD (nthD 6) L ad pm code doc) from fun _ => rfl]
  refine wpAny_bind (wpAny_Name (wpAny_loadName_local (env := envD (nthD 6) L ad pm code doc) rfl rfl n2 (v := .ref D) (by simp only [if_neg hgr]; exact hm) (wpAny_bind (wpAny_standAt ?_))) (by decide +kernel))
  obtain ⟨nD, hD2⟩ := id D2
  unfold methodCall
  rw [show ∀ q q2 q3 q4, methodCallForm ([Expr.Call (.Name "str" q) [.Name "error" q2] [] q3].length + ([] : List Keyword).length) (backTo q4 (starEach [Expr.Call (.Name "str" q) [.Name "error" q2] [] q3] (envD (nthD 6) L ad pm code doc))) (backToKw q4 (keywordEach [] (envD (nthD 6) L ad pm code doc))) = true from fun _ _ _ _ => rfl]
  refine wpAny_bind (wpAny_holding (getMethod_list_append hD2 rfl rfl ?_))
  refine wpAny_bind (wpAny_of_eq (a := _) (by unfold methodCallPos; rfl) ?_)
  refine Calls.callWith_builtin rfl (Calls.evalArgs_plain (wpAny_items_cons (wpAny_Call_NameR (Name_function_global (env := envD (nthD 6) L ad pm code doc) rfl rfl (loadGlobal_builtin (mg := mg) (mb := mb) g2 hse b2 hsb (callWith_type1 ?_)) (by decide +kernel)))))
  refine wpAny_items_cons (wpAny_Name (wpAny_loadName_local (env := envD (nthD 6) L ad pm code doc) rfl rfl n2 (v := .ref e) (by simp) (wpAny_items_nil ?_)) (by decide +kernel))
  refine P.str_of_exc_one F.excStr_ValueError ?_ X2 T2 (wpAny_items_nil ?_)
  · show A.units + 2 < cLine
    omega
  refine wpAny_list_append_plain D2 fun h3 hD3 hs3 => ?_
  refine wpAny_pure (wpAny_execs_nil ?_)
  have n3 : h3.Ns L _ := n2.at' fun o e => hs3.extBut _ _ (Ne.symm hDL) e
  refine wpAny_nameGoes_keeps (env := envD (nthD 6) L ad pm code doc) rfl n3 rfl fun h4 v n4 hs4 => ?_
  change Heap.SameBut L h3 h4 at hs4
  have st : ∀ b m', b ≠ L → s.heap.Ns b m' → h4.Ns b m' := fun b m' hb hN => by
    have N1 := hs1.ns hN
    have N2 : h2.Ns b m' := N1.sameBut hs2 hb
    have hbD : b ≠ D := fun q => by
      obtain ⟨o', _, _, ho', hd', _⟩ := N2
      rw [q, hD2] at ho'; cases ho'; cases hd'
    exact (N2.at' fun o e => hs3.extBut _ _ hbD e).sameBut hs4 hb
  refine hQ h4 _ _ n4 ?_ ?_ ?_ st
  · simp only [if_neg hgr]; exact hm
  · obtain ⟨n5, e5⟩ := hD3
    exact ⟨n5, hs4.extBut _ _ hDL e5⟩
  · intro b o hb e5
    have hbL' : b ≠ L := fun q => by rw [q, hbL] at e5; cases e5
    exact hs4.extBut _ _ hbL' (hs3.extBut _ _ hb (k2 _ _ e5))
end
end Mine
end

section
open PySem PySem.W PySem.Calls PyProof.Rows
open Sem (wp)
set_option Elab.async false
set_option maxRecDepth 100000
set_option linter.unusedVariables false
namespace Mine
variable {c : Cx} {n : Nat}
theorem cut3_sub {h : Heap} {a b d x : Addr} {o : Obj} (e : (cut2 (cut2 h a b) d d).get? x = some o) : h.get? x = some o ∧ x ≠ a ∧ x ≠ b ∧ x ≠ d :=
  let ⟨e1, e2, _⟩ := cut2_sub e
  let ⟨e3, e4, e5⟩ := cut2_sub e1
  ⟨e3, e4, e5, e2⟩
theorem cut3_get {h : Heap} {a b d x : Addr} {o : Obj} (e : h.get? x = some o) (h1 : x ≠ a) (h2 : x ≠ b) (h3 : x ≠ d) : (cut2 (cut2 h a b) d d).get? x = some o := cut2_get (cut2_get e h1 h2) h3 h3
theorem cut3_no {h : Heap} {a b d x : Addr} (e : x = a ∨ x = b ∨ x = d) : (cut2 (cut2 h a b) d d).get? x = none := by
  cases e1 : (cut2 (cut2 h a b) d d).get? x with
  | none => rfl
  | some o =>
    obtain ⟨_, e3, e4, e5⟩ := cut3_sub e1
    rcases e with e | e | e
    · exact absurd e e3
    · exact absurd e e4
    · exact absurd e e5
noncomputable def fRest : List Stmt := match (nthD 6).2.2.1 with
  | _ :: r => r
  | [] => []
/-- what stays of all that was there, but for one frame's names -/
structure KpL (Ll : Addr) (s₀ s' : Shared) : Prop where
  heap : ∀ b o, b ≠ Ll → s₀.heap.get? b = some o → s'.heap.get? b = some o
  ns : ∀ m, s₀.heap.Ns Ll m → s'.heap.Ns Ll m
  gens : ∀ (g : Nat) (x : GenState), s₀.gens[g]? = some x → s'.gens[g]? = some x
  bare : AllBare s₀.gens → AllBare s'.gens
  os : s'.os = s₀.os
theorem front_try {A : Around} {E : Value → Shared → Prop} {s s₀ : Shared} {L ad D : Addr} {pm code doc : Value} {row : List Int} {many : Nat} {envl : Env} {Ll : Addr} {ml : Str → Option Value} (hC : CxOk c) (hA : AOk (n + 2) A)
    (hfr : A.frames = some [envD (nthD 6) L ad pm code doc, envl]) (hkl : envl.scope.kind ≠ .module) (hfl : envl.frame = some Ll) (hNl : s₀.heap.Ns Ll ml) (hLg : Ll ≠ mainGlobals) (hLb : Ll ≠ builtinsNs) (hz : row[0]? = some 0)
    (F : FmO c X0 D s₀ (envD (nthD 6) L ad pm code doc) [("told", .own D), ("row", intsV row), ("many", .int many)] (.list []) s) :
    wpS c.M A (execs fRest (envD (nthD 6) L ad pm code doc)) (fun f s' => ∃ u, f = .ret (.ref D) ∧ s'.heap.PlainList D #[.str "invalid grouping" u] ∧ KpL Ll s₀ s') E s := by
  refine wpS_execs_cons (wpS_TryE (wpS_execs_cons (wpS_ForE (wpS_mono (ev_gen (E := fun _ _ => False) (c := c) (n := n + 1) (row := row) rfl (by kernel_rfl) (ev_name ((lookup_cons_ne (by decide +kernel)).trans lookup_cons_eq) (by kernel_rfl)) (fun _ => starEach_no rfl) (plain_no rfl) (by decide +kernel) hA F.fm.envR) (fun u s2 h => ?_) fun _ _ e => e.elim) (fun _ => rfl))))
  obtain ⟨s1, ga, ra, L', a, pm', code', doc', vs, rfl, k1, Md⟩ := h
  refine lf (wpAny_pyIter_gen Md.isg ?_)
  have F1 := F.kp' k1
  have F2 := F1.kp' Md.kp
  have hold : ∃ o, s₀.heap.get? Ll = some o := by obtain ⟨o, _, _, e, _⟩ := hNl; exact ⟨o, e⟩
  have hL0 : s₀.heap.get? L = none := get_ge F.fm.fresh
  have hLlL : Ll ≠ L := fun q => by obtain ⟨o, e⟩ := hold; rw [q, hL0] at e; cases e
  have old1 : ∀ b o, s₀.heap.get? b = some o → s1.heap.get? b = some o := fun b o e => F1.fm.kp.heap _ _ e
  have oldL' : ∀ b o, s1.heap.get? b = some o → b ≠ L' := fun b o e q => by rw [q, Md.newL] at e; cases e
  obtain ⟨m1, cm1, hn1, hc1, hv1⟩ := id F2.fm.fr
  have hn1s : ∃ o, s1.heap.get? L = some o := by
    obtain ⟨_, _, ⟨o, _, _, e, _⟩, _⟩ := F1.fm.fr; exact ⟨o, e⟩
  have hLL' : L ≠ L' := by obtain ⟨o, e⟩ := hn1s; exact oldL' _ _ e
  have hLlL' : Ll ≠ L' := by obtain ⟨o, e⟩ := hold; exact oldL' _ _ (old1 _ _ e)
  have hNl2 : s2.heap.Ns Ll ml := hNl.keeps F2.fm.kp.heap
  have G2 := F2.fm.envR.glo
  have gL' : L' ≠ mainGlobals := by obtain ⟨o, _, _, e, _⟩ := F1.fm.envR.glo.g; exact (oldL' _ _ e).symm
  have bL' : L' ≠ builtinsNs := by obtain ⟨o, _, _, e, _⟩ := F1.fm.envR.glo.b; exact (oldL' _ _ e).symm
  have rL' : L' ≠ ra := by obtain ⟨o, e⟩ := Md.old; exact (oldL' _ _ e).symm
  generalize hbase : cut2 (cut2 s2.heap L Ll) L' L' = base
  have bsub : ∀ {x o}, base.get? x = some o → s2.heap.get? x = some o ∧ x ≠ L ∧ x ≠ Ll ∧ x ≠ L' := fun {x o} e => cut3_sub (hbase ▸ e)
  have bget : ∀ {x o}, s2.heap.get? x = some o → x ≠ L → x ≠ Ll → x ≠ L' → base.get? x = some o := fun {x o} e h1 h2 h3 => hbase ▸ cut3_get e h1 h2 h3
  have hbL : base.get? L = none := hbase ▸ cut3_no (.inl rfl)
  have hbLl : base.get? Ll = none := hbase ▸ cut3_no (.inr (.inl rfl))
  have hbL' : base.get? L' = none := hbase ▸ cut3_no (.inr (.inr rfl))
  have hkb : base.StaysIn s2.heap := fun b o e => (bsub e).1
  obtain ⟨mg', hm1, hm2⟩ := Md.ns
  have hfun : ∀ h' : Heap, (∀ b o, b ≠ L' → s2.heap.get? b = some o → h'.get? b = some o) → h'.FunFrames base [envD (nthD 6) L ad pm code doc, envl] := fun h' hk =>
    Heap.FunFrames.cons (L := L) (m := m1) (by rw [F2.fm.kind]; decide) rfl (hn1.at' fun o e => hk _ _ hLL' e) hbL (Heap.FunFrames.cons hkl hfl (hNl2.at' fun o e => hk _ _ hLlL' e) hbLl trivial)
  refine codeS_forLoop_raise (lf (genNextX (n := 1) (gs := .fresh (.func (nthD 2).2.2.1 (envD (nthD 2) L' a pm' code' doc'))) (X := fun s0 e s' => GX base [envD (nthD 6) L ad pm code doc, envl] L' s0 e s') hA.hh G2.nolimit hA.room Md.isg (by rw [Md.gs]; exact Array.getElem?_push_size)
    ⟨rfl, gen_raise (mg := c.mg) (mb := c.mb) hC.charMax (hC.bi "ValueError" _ rfl).g (hC.bi "ValueError" _ rfl).b rL' gL' bL' hA.hh hfr hkb hbL' hfun Md.arei hz hm1 hm2 Md.ls G2.g G2.b⟩ fun e s3 hX => ?_))
  obtain ⟨t, u, h3, tk, rfl, hF3, hT3, hN3⟩ := hX
  have hLmN : L ≠ L' := hLL'
  refine ⟨hF3.there, ?_, ?_⟩
  · obtain ⟨o, nm, qn, ho, r⟩ := Md.isg
    refine ⟨o, nm, qn, hF3.1 _ _ (bget ho ?_ ?_ Md.apart.symm), r⟩
    · rintro rfl
      obtain ⟨o1, e1⟩ := hn1s
      rw [Md.newG] at e1; cases e1
    · rintro rfl
      obtain ⟨o1, e1⟩ := hold
      have := old1 _ _ e1
      rw [Md.newG] at this; cases this
  have hgi : s1.gens.size < s2.gens.size := by rw [Md.gs]; simp
  refine lf (wpAny_looks_onW (base := base) (env := envD (nthD 6) L ad pm code doc) (outer := [envl]) (L := L) hfr rfl hF3 fun h4 hH4 hs4 => ?_)
  show ownS _ _ _ _ _ _
  unfold ownS
  refine lf (wpAny_ownW (env := envD (nthD 6) L ad pm code doc) rfl hH4 fun h5 hH5 hs5 => ?_)
  refine lf (wpAny_noteFrame_againW (env := envD (nthD 6) L ad pm code doc) rfl hH5.2.2.2 ?_)
  refine lf (wpAny_landsW hH5 fun h6 hF6 hs6 => ?_)
  have hs46 : h3.UpToSlots h6 := (hs4.trans hs5).trans hs6
  obtain ⟨v, hNv, hrv⟩ := hv1 "told" _ lookup_cons_eq (by kernel_rfl)
  have hmt : m1 "told" = some (.ref D) := by
    cases hrv
    rcases hNv with ⟨_, h⟩ | ⟨h, _⟩
    · exact h
    · exact absurd (h.symm.trans (show _ = some NameKind.local by kernel_rfl)) (by decide)
  have hDs : ∃ o, s2.heap.get? D = some o ∧ o.cls = .type "list" ∧ o.dict = none ∧ s2.heap.PlainList D #[] := by
    obtain ⟨vs2, ⟨k2, e2⟩, hr2⟩ := F2.own
    have hvs : vs2 = [] := by have := (hr2 X0 s.heap).length; simpa using this
    subst hvs
    exact ⟨_, e2, rfl, rfl, k2, e2⟩
  have hD0 : D ≠ Ll := fun q => by obtain ⟨o, e⟩ := hold; rw [← q, F.n0] at e; cases e
  have hDL : D ≠ L := fun q => by
    obtain ⟨_, e2, _, _, k2, e3⟩ := hDs
    obtain ⟨o', _, _, ho', hd', _⟩ := hn1
    rw [q] at e3
    have e4 : s2.heap.get? L = some o' := ho'
    rw [e3] at e4; cases e4; cases hd'
  have hDL' : D ≠ L' := by
    obtain ⟨vs2, ⟨k2, e2⟩, _⟩ := F1.own
    exact oldL' _ _ e2
  obtain ⟨oD, eD, cD, dD, kD, plD⟩ := hDs
  have bD : base.get? D = some oD := bget eD hDL hD0 hDL'
  have gL : mainGlobals ≠ L := fun q => by obtain ⟨o, _, _, e, _⟩ := F.fm.glo.g; rw [q, hL0] at e; cases e
  have bL : builtinsNs ≠ L := fun q => by obtain ⟨o, _, _, e, _⟩ := F.fm.glo.b; rw [q, hL0] at e; cases e
  have gb : base.Ns mainGlobals c.mg := G2.g.at' fun o e => bget e gL hLg.symm gL'.symm
  have bb : base.Ns builtinsNs c.mb := G2.b.at' fun o e => bget e bL hLb.symm bL'.symm
  refine lf (front_handle (l := [envD (nthD 6) L ad pm code doc, envl]) (base := base) (m := m1) (D := D) (hC.bi "ValueError" _ rfl).g (hC.bi "ValueError" _ rfl).b (hC.bi "str" _ rfl).g (hC.bi "str" _ rfl).b ?_ hF6 (hT3.of_slots hs46) (hs46.ns (hN3 L m1 hLmN hn1)) hmt ⟨oD, bD, cD, dD⟩ ⟨kD, ?_⟩ gb bb hbL fun h7 tk7 m7 hn7 hm7 hD7 hk7 hN7 => ?_)
  · have := hA.u64
    omega
  · exact hF6.1 _ _ (bget plD hDL hD0 hDL')
  · refine wpS_execs_cons (wpS_Return (wpS_Name (lf (wpAny_loadName_local (env := envD (nthD 6) L ad pm code doc) rfl rfl hn7 hm7 ⟨u, rfl, hD7, ?_⟩)) (by decide +kernel)))
    refine ⟨fun b o hb e0 => hk7 b o (fun q => by rw [q, F.n0] at e0; cases e0) (bget (F2.fm.kp.heap _ _ e0) (fun q => by rw [q, hL0] at e0; cases e0) hb (oldL' _ _ (old1 _ _ e0))), fun m hm => ?_, fun g x e0 => ?_, fun hb => ?_, ?_⟩
    · exact hN7 _ _ hLlL (hs46.ns (hN3 _ _ hLlL' (hm.keeps F2.fm.kp.heap)))
    · have e1 := F1.fm.kp.gens _ _ e0
      have hne : g ≠ s1.gens.size := Nat.ne_of_lt (Array.getElem?_eq_some_iff.mp e1).1
      exact setGen_other (setGen_other (F2.fm.kp.gens _ _ e0) hne) hne
    · exact setGen_bare (setGen_bare (F2.fm.kp.bare hb) rfl) rfl
    · exact F2.fm.kp.os
end Mine
end

section
open PySem PySem.W PySem.Calls PyProof.Rows
open Sem (wp)
set_option Elab.async false
set_option maxRecDepth 100000
set_option linter.unusedVariables false
namespace Mine
variable {c : Cx} {n : Nat}
theorem own_start {X : Addr → Prop} {env : Env} {ρ : List (Str × PV)} {s₀ s : Shared} {p : PV} {x : Str} {A : Around} {E : Value → Shared → Prop} {Q : Flow → Shared → Prop} {xp pos : Pos} {e : Expr} {rest : List Stmt} (he : EvN c n X env ρ e p) (hx : stOk env x = true)
    (hA : AOk n A) (F : FmP c X s₀ env ρ s) (hb : ∀ D s', s.heap.get? D = none → FmO c X D s₀ env ((x, .own D) :: ρ) p s' → wpS c.M A (execs rest env) Q E s')
    (hs : swapsWith e (some (.Name x xp)) pos.line env = pure false := by rfl) : wpS c.M A (execs (.Assign [.Name x xp] e pos :: rest) env) Q E s :=
  wpS_execs_cons (wpS_Assign_Name (wpS_mono (he A E s hA F.envR) (fun v s₁ h₁ => by
    obtain ⟨D, rfl, hD, k, ho⟩ := h₁
    have nX : ¬ X D := F.live.no hD
    have n0 : s₀.heap.get? D = none := by
      cases e : s₀.heap.get? D with
      | none => rfl
      | some o => have := F.kp.heap D o e; rw [hD] at this; cases this
    obtain ⟨m, cm, hn, hc, hv⟩ := F.fr
    have F1 : FmP c (XD X D) s₀ env ρ s₁ := by
      refine ⟨F.kind, F.gl, F.bl, F.apart, F.above, F.fresh, F.glo, F.kp.trans k, ?_, ?_, ?_, m, cm, hn.keeps k.heap, fun y kk hy => (hc y kk hy).keeps k.heap, fun y q hy hvis => ?_⟩
      · rintro b (hb | rfl)
        · exact (F.live.kp k) b hb
        · exact ho.stands
      · rintro (h | h)
        · exact F.xn h
        · obtain ⟨o, _, _, e, _⟩ := hn
          rw [h, hD] at e; cases e
      · rintro y kk hy (h | h)
        · exact F.xc y kk hy h
        · obtain ⟨o, e, _⟩ := hc y kk hy
          rw [h, hD] at e; cases e
      · obtain ⟨v, hN, hr⟩ := hv y q hy hvis
        exact ⟨v, hN, (hr.weak (Y := XD X D) fun b o hb e _ h => h.elim hb fun h => by rw [h, hD] at e; cases e).kp k⟩
    refine lf (st_name F1 hx (.own D) fun s' F' D' X' => ?_)
    exact hb D s' hD ⟨F', nX, n0, ho.keep fun o e => X' D o (.inr rfl) e⟩) fun _ _ e => e) hs)
theorem front_bad {A : Around} {E : Value → Shared → Prop} {s : Shared} {vs : List Value} {a : Addr} {row : List Int} {many : Nat} {envl : Env} {Ll : Addr} {ml : Str → Option Value} (hC : CxOk c) (hA : AOk (n + 3) A)
    (hfr : A.frames = some [envl]) (hkl : envl.scope.kind ≠ .module) (hfl : envl.frame = some Ll) (hNl : s.heap.Ns Ll ml) (hLg : Ll ≠ mainGlobals) (hLb : Ll ≠ builtinsNs) (hz : row[0]? = some 0)
    (G : Glo c.mg c.mb s.heap) (hfn : FnIs s.heap a (nthD 6)) (hr : RepL X0 s.heap vs [intsV row, .int many]) :
    wpS c.M A (call (.ref a) vs) (fun v s' => ∃ D u, v = .ref D ∧ s.heap.get? D = none ∧ s'.heap.PlainList D #[.str "invalid grouping" u] ∧ KpL Ll s s') E s := by
  obtain ⟨o, pm, code, doc, ho, hd, hcr⟩ := hfn
  have hlen : vs.length = 2 := hr.length
  refine wpS_call (codeS_call_cells (fd := fdD (nthD 6) pm code doc) (body := (nthD 6).2.2.1) (binds := (["row", "many"] : List Str).zip vs) hA.room ho hd G.nolimit hcr rfl ?_ rfl ?_ ?_ rfl rfl rfl)
  · match vs, hlen with
    | [u, v], _ => rfl
  · intro y hy
    have hm := mem_zip_fst hy
    have := List.all_eq_true.mp (show (["row", "many"] : List Str).all (parOk (nthD 6).2.2.2 (s.heap.objs.size + 1)) = true from rfl) y.1 hm
    unfold parOk at this
    rw [Bool.or_eq_true, Bool.and_eq_true, beq_iff_eq, beq_iff_eq] at this
    exact this
  · intro s₁ I
    obtain ⟨h', tk, rfl⟩ := I.toInCall.same
    have F : FmP c X0 s (envD (nthD 6) s.heap.objs.size a pm code doc) [("row", intsV row), ("many", .int many)] { s with heap := h', toks := tk } :=
      ⟨rfl, rfl, rfl, I.apart, I.above, I.toInCall.fresh, G, Kp.of I.toInCall.keep, live0, id, fun y k hm => id, _, _, I.toInCall.ns, I.cell, fun y p hp hvis => by
        obtain ⟨v, rv, a1, a2⟩ := bind_zip (k := (envD (nthD 6) s.heap.objs.size a pm code doc).kindOf) (ns := ["row", "many"]) (fun _ => none) (fun _ => none) (by decide +kernel) hr hlen.symm y p hp
        refine ⟨v, ?_, rv.keep fun b o _ e _ => I.toInCall.keep b o e⟩
        by_cases hl : (envD (nthD 6) s.heap.objs.size a pm code doc).kindOf y = some .local
        · exact .inl ⟨hl, a1 hl⟩
        · refine .inr ?_
          have hy : y ∈ (["row", "many"] : List Str) := mem_zip_fst (vs := [intsV row, PV.int many]) (PySem.mem_of_lookup hp)
          have := List.all_eq_true.mp (show (["row", "many"] : List Str).all (parOk (nthD 6).2.2.2 (s.heap.objs.size + 1)) = true from rfl) y hy
          unfold parOk at this
          rw [Bool.or_eq_true, Bool.and_eq_true, beq_iff_eq, beq_iff_eq] at this
          rcases this with h1 | ⟨h1, h2⟩
          · exact absurd h1 hl
          · exact ⟨h1, h2, a2 hl⟩⟩
    refine own_start (p := .list []) (rest := fRest) (evn_list evl_nil ?_ (by simp)) rfl hA.deeper F fun D s' hD FO => ?_
    · intro X X' h h' vs r
      cases r; exact .nil
    refine wpS_mono (front_try (envl := envl) (Ll := Ll) (ml := ml) (n := n) hC hA.deeper (Around.frames_deeper hfr) hkl hfl hNl hLg hLb hz FO) (fun f s2 h => ?_) fun _ _ e => e
    obtain ⟨u, rfl, hD2, k⟩ := h
    exact ⟨D, u, rfl, FO.n0, hD2, k⟩
theorem FmP.kpl {X : Addr → Prop} {env : Env} {ρ : List (Str × PV)} {s₀ s s' : Shared} (F : FmP c X s₀ env ρ s) (k : KpL env.locals s s') : FmP c X s₀ env ρ s' := by
  obtain ⟨m, cm, hn, hc, hv⟩ := F.fr
  refine ⟨F.kind, F.gl, F.bl, F.apart, F.above, F.fresh, F.glo, ⟨fun b o e => k.heap b o (fun q => ?_) (F.kp.heap _ _ e), fun g x e => k.gens _ _ (F.kp.gens _ _ e), fun h => k.bare (F.kp.bare h), k.os.trans F.kp.os⟩, fun b hb => ?_, F.xn, F.xc, m, cm, k.ns _ hn, fun y kk hy => ?_, fun y q hy hvis => ?_⟩
  · rw [q, get_ge F.fresh] at e; cases e
  · obtain ⟨o, e⟩ := F.live b hb
    exact ⟨o, k.heap _ _ (fun q => F.xn (q ▸ hb)) e⟩
  · obtain ⟨o, e, r⟩ := hc y kk hy
    exact ⟨o, k.heap _ _ (Nat.ne_of_gt (F.above y kk (mem_of_lookup hy))) e, r⟩
  · obtain ⟨v, hN, hr⟩ := hv y q hy hvis
    refine ⟨v, hN, hr.keep fun b o _ e kd => k.heap _ _ (fun q => ?_) e⟩
    subst q
    exact not_kd_ns hn e kd.dt
end Mine
end

section
open PySem PySem.W PySem.Calls PyProof.Rows
open Sem (wp)
set_option Elab.async false
set_option maxRecDepth 100000
set_option linter.unusedVariables false
namespace Mine
variable {c : Cx} {n : Nat}
theorem ev_front_bad {X : Addr → Prop} {env : Env} {ρ : List (Str × PV)} {s₀ s : Shared} {A : Around} {E : Value → Shared → Prop} {row : List Int} {many : Nat} {nm : Str} {np pos : Pos} {e : Expr} {es : List Expr} (hC : CxOk c) (hA : AOk (n + 3) A)
    (hfr : A.frames = some [env]) (hfl : env.frame = some env.locals) (hz : row[0]? = some 0) (F : FmP c X s₀ env ρ s) (hnm : (nthD 6).1 = nm) (hk : env.kindOf nm = some .globalImplicit)
    (ha : EvL c (n + 3) X env ρ (e :: es) [intsV row, .int many])
    (he : starEach (e :: es) env = (false, eval e env) :: starEach es env := by exact starEach_no rfl)
    (hpl : (backTo pos (starEach (e :: es) env)).any (·.1) = false := by exact plain_no rfl)
    (hd : (nm == ("__debug__" : Str)) = false := by decide +kernel) :
    wpS c.M A (eval (.Call (.Name nm np) (e :: es) [] pos) env) (fun v s' => FmP c X s₀ env ρ s' ∧ Rep X s'.heap v (strsV ["invalid grouping"])) E s := by
  subst hnm
  have R := F.envR
  obtain ⟨a, hg, hfn⟩ := R.glo.fn (nthD 6) (nthD_mem (by decide))
  obtain ⟨o, pm, code, doc, ho, hdt, hcr⟩ := id hfn
  refine wpS_Call_Name (ld_glob R hk hg ?_ hd)
  refine wpS_callWith_function (o := o) hpl (args_cons (wpS_mono (ha pos A E s hA R) (fun us s₁ h₁ => ⟨⟨h₁.1.heap _ _ ho, hdt⟩, ?_⟩) fun _ _ e => e) he)
  have F1 := F.kp' h₁.1
  obtain ⟨m, cm, hn, _⟩ := id F1.fr
  have hg0 : env.locals ≠ mainGlobals := fun q => by obtain ⟨o, _, _, e, _⟩ := F.glo.g; rw [← q, get_ge F.fresh] at e; cases e
  have hb0 : env.locals ≠ builtinsNs := fun q => by obtain ⟨o, _, _, e, _⟩ := F.glo.b; rw [← q, get_ge F.fresh] at e; cases e
  refine wpS_mono (front_bad (n := n) (row := row) (many := many) (envl := env) (Ll := env.locals) hC hA hfr (by rw [F.kind]; decide) hfl hn hg0 hb0 hz F1.envR.glo ⟨o, pm, code, doc, h₁.1.heap _ _ ho, hdt, hcr.keeps h₁.1.heap⟩ h₁.2.x0) (fun v s2 h2 => ?_) fun _ _ e => e
  obtain ⟨D, u, rfl, hD0, hD2, k⟩ := h2
  exact ⟨F1.kpl k, .list (F1.live.no hD0) hD2 (.cons (.str _ u) .nil)⟩
/-- the law's test of what is refused -/
theorem if_bad {X : Addr → Prop} {env : Env} {ρ : List (Str × PV)} {s₀ s : Shared} {A : Around} {E : Value → Shared → Prop} {x y r : Expr} {body : List Stmt} {p1 p2 pos : Pos} {Q : Flow → Shared → Prop}
    (hA : AOk n A) (hx : wpS c.M A (eval x env) (fun v s' => FmP c X s₀ env ρ s' ∧ Rep X s'.heap v (strsV ["invalid grouping"])) E s)
    (hr : EvR c n X env ρ r (strsV ["invalid grouping"])) (hy : EvT c n X env ρ y false) (hQ : ∀ s', FmP c X s₀ env ρ s' → Q .next s')
    (hm : behindInMarks .NotEq r = false := by with_unfolding_all rfl) :
    wpS c.M A (exec (.If (.BoolOp .Or [.Compare x [.NotEq] [r] p1, y] p2) body [] pos) env) Q E s := by
  refine wpS_If (wpS_allTrue_cons (wpS_isTrue_Compare1 (wpS_mono hx (fun v s₁ h₁ => wpS_mono (hr A E s₁ hA h₁.1.envR) (fun w s₂ h₂ => ?_) fun _ _ e => e) fun _ _ e => e) hm))
  have F2 := h₁.1.kp' h₂.1
  have hs : ∀ x ∈ [("invalid grouping" : Str)], PyData.strOk x = true := by decide +kernel
  refine wpS_mono (lf <| cmp_neSs (c := c) (n := n) hs hs A E s₂ _ _ hA F2.envR.glo (h₁.2.kp h₂.1).x0 h₂.2.x0) (fun v s₃ h₃ => ?_) fun _ _ e => e
  obtain ⟨k3, rfl⟩ := h₃
  refine lf <| wpAny_truthy_bool ?_
  rw [show (!decide ([("invalid grouping" : Str)] = [("invalid grouping" : Str)])) = false by simp]
  have F3 := F2.kp' k3
  refine wpS_allTrue_cons (wpS_mono (hy A E s₃ hA F3.envR) (fun u s₄ h₄ => ?_) fun _ _ e => e)
  obtain ⟨k4, rfl⟩ := h₄
  exact lf (wpAny_allTrue_Or_nil (wpS_execs_nil (hQ _ (F3.kp' k4))))
end Mine
end

section
open PySem PySem.W PySem.Calls PyProof.Rows
set_option Elab.async false
set_option maxRecDepth 100000
set_option linter.unusedVariables false
namespace Mine
noncomputable def vF (f k : Nat) : Int := (strm (rowP f) none k).getD 0
noncomputable def TF (f : Nat) : Nat := (List.range 12).findIdx fun T => match strm (rowP f) none T with
  | none => true
  | some x => decide (lastE (nP f) (vF f) T ≤ x)
noncomputable def octB (f : Nat) : List UInt8 := octs (up (List.range (nP f)))
noncomputable def pcW (f : Nat) : List (List UInt8) := piecesP (octB f).reverse (vF f) (TF f)
noncomputable def pcH (f : Nat) : List (List UInt8) := piecesP (octB f) (vF f) (TF f)
noncomputable def turnF (f : Nat) : List (List UInt8) := (pcW f).map List.reverse
noncomputable def backF (f : Nat) : List (List UInt8) := (pcH f).map List.reverse
noncomputable def wayF (f : Nat) : List Nat := (turnF f).flatten.map UInt8.toNat
noncomputable def homeF (f : Nat) : List UInt8 := (backF f).flatten.reverse
theorem octB_len (f : Nat) : (octB f).length = nP f := by unfold octB octs up; simp
/-- what the numbers are told to be -/
structure PF (f : Nat) : Prop where
  edgeS : (msF f).Pairwise (· ≤ ·)
  rowl : (rowP f).length ≤ 50
  tl : (toldF f).length ≤ 50
  edgl : (edgF f).length ≤ 50
  grpl : (grpF f).length = nP f
  edgb : ∀ k < 60, -100 ≤ (edgF f).getD k 0 ∧ (edgF f).getD k 0 ≤ 100
  head : (rowP f).head? ≠ some 0
  T : TF f ≤ 100
  v : ∀ k, k < TF f → strm (rowP f) none k = some (vF f k) ∧ vF f k < lastE (nP f) (vF f) k
  vend : strm (rowP f) none (TF f) = none ∨ (strm (rowP f) none (TF f) = some (vF f (TF f)) ∧ lastE (nP f) (vF f) (TF f) ≤ vF f (TF f))
  pcW0 : ∀ p ∈ pcW f, 0 < p.length ∧ p.length ≤ 100
  pcH0 : ∀ p ∈ pcH f, 0 < p.length ∧ p.length ≤ 100
  pcWl : (pcW f).length ≤ 100
  pcHl : (pcH f).length ≤ 100
  turnl : (turnF f).flatten.length = nP f
  backl : (backF f).flatten.length = nP f
end Mine
end

section
open PySem PySem.W PySem.Calls PyProof.Rows
open Sem (wp)
set_option Elab.async false
set_option maxRecDepth 100000
set_option linter.unusedVariables false
namespace Mine
local macro_rules | `(tactic| walk_at "ar") => `(tactic| first | omega | (simp only [List.length_map, List.length_range, List.length_cons, List.length_nil, List.length_append, List.length_reverse, List.length_replicate, Int.toNat_natCast]; omega))
variable {c : Cx} {n : Nat}
noncomputable abbrev lawB : List Stmt := (nthD 10).2.2.1
noncomputable abbrev lawE (L ad : Addr) (pm code doc : Value) : Env := envD (nthD 10) L ad pm code doc
noncomputable abbrev ρ9 (xs : List Int) (f S : Nat) : List (Str × PV) := [("edges", intsV (edgF f)), ("due_sizes", intsV (toldF f)), ("row", intsV (rowP f)), ("row", intsV (rowA f)), ("menu", intsV menuP), ("total", .int (nP f)), ("second", .int S), ("first", .int f), ("drawn", intsV (drawnP xs)), ("script", intsV xs)]
set_option maxHeartbeats 2000000 in
theorem law_1 {K : Around → Prop} {X : Addr → Prop} {s₀ : Shared} {L ad : Addr} {pm code doc : Value} {xs : List Int} {f S : Nat} {p : PV} (hC : CxOk c) (hF : 155 + (pick (drawnP xs) (some 0) none (some 2)).sum = (f : Int)) (hS : 97 + (pick (drawnP xs) (some 1) none (some 2)).sum = (S : Int))
    (hz : xs.length ≤ 10000) (hs : (msF f).Pairwise (· ≤ ·)) (hrow : (rowP f).length ≤ 50) (htl : (toldF f).length ≤ 50)
    (hrest : ExK K c (n + 4) X s₀ (lawE L ad pm code doc) (ρ9 xs f S) (lawB.drop 9) p) : ExK K c (n + 4) X s₀ (lawE L ad pm code doc) [("script", intsV xs)] lawB p := by
  have q1 : (Int.fdiv (f : Int) 4).fmod 3 = ((f / 4 % 3 : Nat) : Int) := by
    rw [show (4 : Int) = ((4 : Nat) : Int) from rfl, fdivN, show (3 : Int) = ((3 : Nat) : Int) from rfl, fmodN]
  have q2 : (Int.fdiv (f : Int) 12).fmod 6 = ((f / 12 % 6 : Nat) : Int) := by
    rw [show (12 : Int) = ((12 : Nat) : Int) from rfl, fdivN, show (6 : Int) = ((6 : Nat) : Int) from rfl, fmodN]
  have q3 : (Int.fdiv (f : Int) 72).fmod 6 = ((f / 72 % 6 : Nat) : Int) := by
    rw [show (72 : Int) = ((72 : Nat) : Int) from rfl, fdivN, show (6 : Int) = ((6 : Nat) : Int) from rfl, fmodN]
  have q4 : (Int.fdiv (f : Int) 432).fmod 4 = ((f / 432 % 4 : Nat) : Int) := by
    rw [show (432 : Int) = ((432 : Nat) : Int) from rfl, fdivN, show (4 : Int) = ((4 : Nat) : Int) from rfl, fmodN]
  have q5 : 5 + (f : Int).fmod 4 = ((nP f : Nat) : Int) := by
    rw [show (4 : Int) = ((4 : Nat) : Int) from rfl, fmodN]; unfold nP; omega
  have l1 : (f / 4 % 3 : Nat) < 3 := Nat.mod_lt _ (by decide)
  have l2 : (f / 12 % 6 : Nat) < 6 := Nat.mod_lt _ (by decide)
  have l3 : (f / 72 % 6 : Nat) < 6 := Nat.mod_lt _ (by decide)
  have l4 : (f / 432 % 4 : Nat) < 4 := Nat.mod_lt _ (by decide)
  have lN : nP f ≤ 8 := by unfold nP; have := Nat.mod_lt f (show 4 > 0 by decide); omega
  have hd : (drawnP xs).length ≤ 10000 := by
    unfold drawnP
    rw [List.length_map]
    exact Nat.le_trans (cutL_len _ _ _) hz
  
  
  refine exk_cons (ex_compM (cutL xs none (some 60)) PV.int PV.int (fun x => x.fmod 1000000) (ev_cut (ev_name lookup_cons_eq (by kernel_rfl)) evp_none (evp_some ev_int) evp_none (cut_map ?_)) (fun _ => iter_list) (by kernel_rfl) (by kernel_rfl) ?_ (fun C X' a hX ha => (ev_binop (ev_name lookup_cons_eq (by kernel_rfl)) ev_int (bin_mod ?_))) (by kernel_rfl) (by kernel_rfl)) ?_
  case refine_1 => exact hz
  case refine_2 => exact Nat.le_trans (cutL_len _ _ _) hz
  case refine_3 => decide
  
  refine exk_cons (ex_assign (ev_eq (congrArg PV.int hF) (ev_binop ev_int (ev_bi' hC ((lookup_cons_ne (by decide +kernel)).trans ((lookup_cons_ne (by decide +kernel)).trans ((lookup_cons_ne (by decide +kernel)).trans ((lookup_cons_ne (by decide +kernel)).trans lookup_cons_eq)))) (by kernel_rfl) (evl_cons (ev_cut (ev_name lookup_cons_eq (by kernel_rfl)) (evp_some ev_int) evp_none (evp_some ev_int) (cut_pick ?_ ?_)) evl_nil) fn_sum) bin_add)) (by kernel_rfl) (by kernel_rfl)) ?_
  case refine_1 => decide
  case refine_2 => exact hd
  
  refine exk_cons (ex_assign (ev_eq (congrArg PV.int hS) (ev_binop ev_int (ev_bi' hC ((lookup_cons_ne (by decide +kernel)).trans ((lookup_cons_ne (by decide +kernel)).trans ((lookup_cons_ne (by decide +kernel)).trans ((lookup_cons_ne (by decide +kernel)).trans lookup_cons_eq)))) (by kernel_rfl) (evl_cons (ev_cut (ev_name ((lookup_cons_ne (by decide +kernel)).trans lookup_cons_eq) (by kernel_rfl)) (evp_some ev_int) evp_none (evp_some ev_int) (cut_pick ?_ ?_)) evl_nil) fn_sum) bin_add)) (by kernel_rfl) (by kernel_rfl)) ?_
  case refine_1 => decide
  case refine_2 => exact hd
  
  refine exk_cons (ex_assign (ev_eq (congrArg PV.int q5) (ev_binop ev_int (ev_binop (ev_name ((lookup_cons_ne (by decide +kernel)).trans lookup_cons_eq) (by kernel_rfl)) ev_int (bin_mod ?_)) bin_add)) (by kernel_rfl) (by kernel_rfl)) ?_
  case refine_1 => decide
  
  refine exk_cons (ex_assign (ev_eq (q := intsV menuP) ?_ (ev_listI (evli_cons ev_int (evli_cons ev_int (evli_cons ev_int (evli_cons ev_int (evli_cons ev_int (evli_cons ev_int evli_nil)))))) (by simp))) (by kernel_rfl) (by kernel_rfl)) ?_
  case refine_1 => rfl
  
  refine exk_cons (ex_assign (ev_eq (q := intsV (rowA f)) ?_ (ev_listI (evli_cons (ev_binop ev_int (ev_binop (ev_binop (ev_name ((lookup_cons_ne (by decide +kernel)).trans ((lookup_cons_ne (by decide +kernel)).trans ((lookup_cons_ne (by decide +kernel)).trans lookup_cons_eq))) (by kernel_rfl)) ev_int (bin_div ?_ ?_)) ev_int (bin_mod ?_)) bin_add) (evli_cons (ev_item (ev_name lookup_cons_eq (by kernel_rfl)) (ev_binop (ev_binop (ev_name ((lookup_cons_ne (by decide +kernel)).trans ((lookup_cons_ne (by decide +kernel)).trans ((lookup_cons_ne (by decide +kernel)).trans lookup_cons_eq))) (by kernel_rfl)) ev_int (bin_div ?_ ?_)) ev_int (bin_mod ?_)) (itm_mapD (0 : Int) ?_ ?_)) (evli_cons (ev_item (ev_name lookup_cons_eq (by kernel_rfl)) (ev_binop (ev_binop (ev_name ((lookup_cons_ne (by decide +kernel)).trans ((lookup_cons_ne (by decide +kernel)).trans ((lookup_cons_ne (by decide +kernel)).trans lookup_cons_eq))) (by kernel_rfl)) ev_int (bin_div ?_ ?_)) ev_int (bin_mod ?_)) (itm_mapD (0 : Int) ?_ ?_)) evli_nil))) (by simp))) (by kernel_rfl) (by kernel_rfl)) ?_
  case refine_1 => rw [q1, q2, q3, Int.toNat_natCast, Int.toNat_natCast]; rfl
  all_goals try first | decide | (rw [q2]; first | exact Int.natCast_nonneg _ | exact ⟨by show _ < ((6 : Nat) : Int); omega, by decide⟩) | (rw [q3]; first | exact Int.natCast_nonneg _ | exact ⟨by show _ < ((6 : Nat) : Int); omega, by decide⟩)
  
  refine exk_cons (ex_assign (ev_eq (q := intsV (rowP f)) ?_ (ev_binop (ev_name lookup_cons_eq (by kernel_rfl)) (@ev_item _ _ _ _ _ _ _ _ _ _ _ (@ev_listG _ _ _ _ _ _ intsV _ _ _ (@evg_cons _ _ _ _ _ _ intsV _ _ [] _ (ev_listI evli_nil (by simp)) (@evg_cons _ _ _ _ _ _ intsV _ _ [0] _ (ev_listI (evli_cons ev_int evli_nil) (by simp)) (@evg_cons _ _ _ _ _ _ intsV _ _ [127, 2] _ (ev_listI (evli_cons ev_int (evli_cons ev_int evli_nil)) (by simp)) (@evg_cons _ _ _ _ _ _ intsV _ _ [1, 0] _ (ev_listI (evli_cons ev_int (evli_cons ev_int evli_nil)) (by simp)) (@evg_nil _ _ _ _ _ _ intsV) (fun _ => starEach_no rfl)) (fun _ => starEach_no rfl)) (fun _ => starEach_no rfl)) (fun _ => starEach_no rfl)) (by simp)) (ev_binop (ev_binop (ev_name ((lookup_cons_ne (by decide +kernel)).trans ((lookup_cons_ne (by decide +kernel)).trans ((lookup_cons_ne (by decide +kernel)).trans ((lookup_cons_ne (by decide +kernel)).trans lookup_cons_eq)))) (by kernel_rfl)) ev_int (bin_div ?_ ?_)) ev_int (bin_mod ?_)) (itm_mapD ([] : List Int) ?_ ?_)) (addL_map ?_))) (by kernel_rfl) (by kernel_rfl)) ?_
  case refine_1 => rw [q4, Int.toNat_natCast]; rfl
  all_goals try first | decide | (rw [q4]; first | exact Int.natCast_nonneg _ | exact ⟨by show _ < ((4 : Nat) : Int); omega, by decide⟩)
  case refine_4 =>
    rw [q4, Int.toNat_natCast]
    have : (rowP f).length = (rowA f).length + (rowB f).length := List.length_append
    show (rowA f).length + (rowB f).length ≤ _
    omega
  
  
  refine exk_cons (ex_assign (ev_def' (i := 4) (by decide) rfl (by kernel_rfl) (evl_cons (ev_name lookup_cons_eq (by kernel_rfl)) (evl_cons (ev_name ((lookup_cons_ne (by decide +kernel)).trans ((lookup_cons_ne (by decide +kernel)).trans ((lookup_cons_ne (by decide +kernel)).trans lookup_cons_eq))) (by kernel_rfl)) evl_nil)) (told_c hC ?_ ?_)) (by kernel_rfl) (by kernel_rfl)) ?_
  case refine_1 => exact hrow
  case refine_2 => exact Nat.le_trans lN (by decide)
  
  refine exk_cons (ex_assign (ev_def' (i := 5) (by decide) rfl (by kernel_rfl) (evl_cons (ev_name ((lookup_cons_ne (by decide +kernel)).trans lookup_cons_eq) (by kernel_rfl)) (evl_cons (ev_name ((lookup_cons_ne (by decide +kernel)).trans ((lookup_cons_ne (by decide +kernel)).trans ((lookup_cons_ne (by decide +kernel)).trans ((lookup_cons_ne (by decide +kernel)).trans lookup_cons_eq)))) (by kernel_rfl)) evl_nil)) (edges_c (ms := msF f) hC (told_c hC ?_ ?_) htl (List.reverse_perm _) hs)) (by kernel_rfl) (by kernel_rfl)) ?_
  case refine_1 => exact hrow
  case refine_2 => exact Nat.le_trans lN (by decide)
  exact hrest
end Mine
end

section
open PySem PySem.W PySem.Calls PyProof.Rows
open Sem (wp)
set_option Elab.async false
set_option maxRecDepth 100000
set_option linter.unusedVariables false
namespace Mine
local macro_rules | `(tactic| walk_at "ar") => `(tactic| first | omega | (simp only [List.length_map, List.length_range, List.length_cons, List.length_nil, List.length_append, List.length_reverse, List.length_replicate, Int.toNat_natCast]; omega))
variable {c : Cx} {n : Nat}
noncomputable abbrev kB (S : Nat) : Bool := decide (S / 2000 % 2 = 1)
noncomputable abbrev ρ17 (f S : Nat) : List (Str × PV) := [("home", .bytes (homeF f)), ("back", bytesV (backF f)), ("way", natsV (wayF f)), ("turned", bytesV (turnF f)), ("whole", .bytes (octB f).reverse), ("handed", Bb (kB S) (octB f)), ("octets", natsV (List.range (nP f))), ("signs", natsV (sgP f S)),
  ("due_sizes", intsV (toldF f)), ("row", intsV (rowP f)), ("total", .int (nP f))]
theorem sgP_eq (f S : Nat) : natsV (sgP f S) = .list ((List.range ((edgF f).length - 1)).flatMap fun k => (List.range (widF f k)).map fun _ => PV.int ((s0P S + dP S * k : Nat) : Int)) := by
  unfold sgP grpF natsV intsV up
  congr 1
  simp only [List.map_flatMap, List.map_map]
  congr 1
theorem len_flat_le {α β : Type} (l : List α) (F : α → List β) (m : Nat) (h : ∀ a ∈ l, (F a).length ≤ m) : (l.flatMap F).length ≤ l.length * m := by
  rw [List.length_flatMap]
  induction l with
  | nil => simp
  | cons a l ih =>
    have := ih fun b hb => h b (List.mem_cons_of_mem _ hb)
    have := h a List.mem_cons_self
    simp only [List.map_cons, List.sum_cons, List.length_cons, Nat.add_mul]
    omega
set_option maxHeartbeats 4000000 in
theorem law_2 {K : Around → Prop} {X : Addr → Prop} {s₀ : Shared} {L ad : Addr} {pm code doc : Value} {xs : List Int} {f S : Nat} {p : PV} (hC : CxOk c) (hf : PF f)
    (hrest : ExK K c (n + 4) X s₀ (lawE L ad pm code doc) (ρ17 f S) (lawB.drop 17) p) : ExK K c (n + 4) X s₀ (lawE L ad pm code doc) (ρ9 xs f S) (lawB.drop 9) p := by
  have lN : nP f ≤ 8 := by unfold nP; have := Nat.mod_lt f (show 4 > 0 by decide); omega
  have lN5 : 5 ≤ nP f := by unfold nP; omega
  have q1 : (S : Int).fmod 100 + (1 + (Int.fdiv (S : Int) 100).fmod 20) * 0 = ((s0P S : Nat) : Int) := by
    rw [show (100 : Int) = ((100 : Nat) : Int) from rfl, fmodN]; unfold s0P; omega
  have q2 : (Int.fdiv (S : Int) 100).fmod 20 = ((S / 100 % 20 : Nat) : Int) := by
    rw [show (100 : Int) = ((100 : Nat) : Int) from rfl, fdivN, show (20 : Int) = ((20 : Nat) : Int) from rfl, fmodN]
  have q3 : (Int.fdiv (S : Int) 2000).fmod 2 = ((S / 2000 % 2 : Nat) : Int) := by
    rw [show (2000 : Int) = ((2000 : Nat) : Int) from rfl, fdivN, show (2 : Int) = ((2 : Nat) : Int) from rfl, fmodN]
  have q4 : (S : Int).fmod 100 = ((s0P S : Nat) : Int) := by
    rw [show (100 : Int) = ((100 : Nat) : Int) from rfl, fmodN]; rfl
  have hw : ∀ k ∈ List.range ((edgF f).length - 1), widF f k ≤ 200 := fun k hk => by
    have h1 := hf.edgb k (by have := List.mem_range.mp hk; have := hf.edgl; omega)
    have h2 := hf.edgb (k + 1) (by have := List.mem_range.mp hk; have := hf.edgl; omega)
    unfold widF; omega
  have he1 : 1 ≤ (edgF f).length := by unfold edgF; simp
  
  refine exk_cons (ex_assign (ev_eq (sgP_eq f S).symm (ev_comp2 (List.range ((edgF f).length - 1)) (fun (k : Nat) => .int (k : Int)) (fun k => .range ((edgF f).getD k 0) ((edgF f).getD (k + 1) 0) 1) (fun k => List.range (widF f k)) (fun k j => .int ((edgF f).getD k 0 + ((j : Nat) : Int))) (fun k _ => .int ((s0P S + dP S * k : Nat) : Int)) (ev_eq ?_ (ev_ty' hC ((lookup_cons_ne (by decide +kernel)).trans lookup_cons_eq) (by kernel_rfl) (evl_cons (ev_binop (ev_bi' hC lookup_cons_eq (by kernel_rfl) (evl_cons (ev_name lookup_cons_eq (by kernel_rfl)) evl_nil) (len_map ?_)) ev_int bin_sub) evl_nil) fn_range1)) (fun _ => iter_range1 ?_) ?_ (fun _ _ => rfl) (fun _ _ _ _ => rfl) (by kernel_rfl) (by kernel_rfl) (by kernel_rfl) (by decide +kernel) ?_ (fun C X' a hX ha => ev_eq ?_ (ev_ty' hC ((lookup_cons_ne (by decide +kernel)).trans lookup_cons_eq) (by kernel_rfl) (evl_cons (ev_item (ev_name ((lookup_cons_ne (by decide +kernel)).trans lookup_cons_eq) (by kernel_rfl)) (ev_name lookup_cons_eq (by kernel_rfl)) (itm_mapD (0 : Int) ?_ ?_)) (evl_cons (ev_item (ev_name ((lookup_cons_ne (by decide +kernel)).trans lookup_cons_eq) (by kernel_rfl)) (ev_binop (ev_name lookup_cons_eq (by kernel_rfl)) ev_int bin_add) (itm_mapD (0 : Int) ?_ ?_)) evl_nil)) fn_range2)) (fun C X' a b hX ha hb => ev_eq ?_ (ev_binop (ev_binop (ev_name ((lookup_cons_ne (by decide +kernel)).trans ((lookup_cons_ne (by decide +kernel)).trans ((lookup_cons_ne (by decide +kernel)).trans ((lookup_cons_ne (by decide +kernel)).trans ((lookup_cons_ne (by decide +kernel)).trans ((lookup_cons_ne (by decide +kernel)).trans ((lookup_cons_ne (by decide +kernel)).trans ((lookup_cons_ne (by decide +kernel)).trans lookup_cons_eq)))))))) (by kernel_rfl)) ev_int (bin_mod ?_)) (ev_binop (ev_binop ev_int (ev_binop (ev_binop (ev_name ((lookup_cons_ne (by decide +kernel)).trans ((lookup_cons_ne (by decide +kernel)).trans ((lookup_cons_ne (by decide +kernel)).trans ((lookup_cons_ne (by decide +kernel)).trans ((lookup_cons_ne (by decide +kernel)).trans ((lookup_cons_ne (by decide +kernel)).trans ((lookup_cons_ne (by decide +kernel)).trans ((lookup_cons_ne (by decide +kernel)).trans lookup_cons_eq)))))))) (by kernel_rfl)) ev_int (bin_div ?_ ?_)) ev_int (bin_mod ?_)) bin_add) (ev_name ((lookup_cons_ne (by decide +kernel)).trans lookup_cons_eq) (by kernel_rfl)) (bin_mul ?_)) bin_add)))) (by kernel_rfl) (by kernel_rfl)) ?_
  case refine_1 => rw [show ((edgF f).length : Int) - 1 = (((edgF f).length - 1 : Nat) : Int) by omega]
  case refine_2 => have := hf.edgl; omega
  case refine_3 => have := hf.edgl; omega
  case refine_4 =>
    intro X' a ha
    have h1 := hf.edgb a (by have := List.mem_range.mp ha; have := hf.edgl; omega)
    have h2 := hf.edgb (a + 1) (by have := List.mem_range.mp ha; have := hf.edgl; omega)
    have h := iter_range (c := c) (X := X') (a := (edgF f).getD a 0) (b := (edgF f).getD (a + 1) 0) (d := 1) (small_ok (by omega) (by omega))
    rw [rng1, List.map_map] at h
    exact h
  case refine_5 =>
    refine Nat.le_trans (len_flat_le _ _ 200 fun a ha => by simpa using hw a ha) ?_
    rw [List.length_range]
    have := hf.edgl; omega
  case refine_6 => rw [Int.toNat_natCast, show ((a : Int) + 1).toNat = a + 1 by omega]
  all_goals try first | decide | omega
  case refine_8 => have := List.mem_range.mp ha; have := hf.edgl; omega
  case refine_10 => have := List.mem_range.mp ha; have := hf.edgl; omega
  case refine_11 =>
    rw [q2, q4]
    first | rfl | (congr 1; unfold dP; push_cast; try rfl)
  
  
  refine exk_cons (ex_compM (List.range (nP f)) (fun (k : Nat) => .int (k : Int)) PV.int (fun (k : Nat) => (k : Int)) (ev_ty' hC ((lookup_cons_ne (by decide +kernel)).trans lookup_cons_eq) (by kernel_rfl) (evl_cons (ev_name ((lookup_cons_ne (by decide +kernel)).trans ((lookup_cons_ne (by decide +kernel)).trans ((lookup_cons_ne (by decide +kernel)).trans ((lookup_cons_ne (by decide +kernel)).trans ((lookup_cons_ne (by decide +kernel)).trans ((lookup_cons_ne (by decide +kernel)).trans lookup_cons_eq)))))) (by kernel_rfl)) evl_nil) fn_range1) (fun _ => iter_range1 ?_) (by kernel_rfl) (by kernel_rfl) ?_ (fun C X' a hX ha => (ev_name lookup_cons_eq (by kernel_rfl))) (by kernel_rfl) (by kernel_rfl)) ?_
  case refine_1 => omega
  case refine_2 => rw [List.length_range]; omega
  
  have hoct : ∀ n ∈ up (List.range (nP f)), 0 ≤ n ∧ n < 256 := fun n hn => by
    obtain ⟨k, hk, rfl⟩ := List.mem_map.mp hn
    have := List.mem_range.mp hk
    omega
  have hol : (up (List.range (nP f))).length ≤ 10000 := by rw [List.length_map, List.length_range]; omega
  refine exk_cons (ex_assign (ev_item (ev_list (evl_cons (ev_ty' hC ((lookup_cons_ne (by decide +kernel)).trans ((lookup_cons_ne (by decide +kernel)).trans lookup_cons_eq)) (by kernel_rfl) (evl_cons (ev_name lookup_cons_eq (by kernel_rfl)) evl_nil) (fn_bytes_list ?_ ?_)) (evl_cons (ev_ty' hC ((lookup_cons_ne (by decide +kernel)).trans ((lookup_cons_ne (by decide +kernel)).trans ((lookup_cons_ne (by decide +kernel)).trans ((lookup_cons_ne (by decide +kernel)).trans ((lookup_cons_ne (by decide +kernel)).trans ((lookup_cons_ne (by decide +kernel)).trans ((lookup_cons_ne (by decide +kernel)).trans ((lookup_cons_ne (by decide +kernel)).trans ((lookup_cons_ne (by decide +kernel)).trans lookup_cons_eq))))))))) (by kernel_rfl) (evl_cons (ev_name lookup_cons_eq (by kernel_rfl)) evl_nil) (fn_barr_list ?_ ?_)) evl_nil)) (by simp)) (ev_binop (ev_binop (ev_name ((lookup_cons_ne (by decide +kernel)).trans ((lookup_cons_ne (by decide +kernel)).trans ((lookup_cons_ne (by decide +kernel)).trans ((lookup_cons_ne (by decide +kernel)).trans ((lookup_cons_ne (by decide +kernel)).trans ((lookup_cons_ne (by decide +kernel)).trans ((lookup_cons_ne (by decide +kernel)).trans ((lookup_cons_ne (by decide +kernel)).trans lookup_cons_eq)))))))) (by kernel_rfl)) ev_int (bin_div ?_ ?_)) ev_int (bin_mod ?_)) (itm_list (p := Bb (kB S) (octB f)) ?_ ?_ ?_)) (by kernel_rfl) (by kernel_rfl)) ?_
  all_goals first | exact hoct | exact hol | decide | skip
  case refine_8 => rw [q3]; omega
  case refine_9 =>
    rw [q3, Int.toNat_natCast]
    have := Nat.mod_lt (S / 2000) (show 2 > 0 by decide)
    unfold kB Bb
    by_cases h : S / 2000 % 2 = 1
    · rw [h]; rfl
    · rw [show S / 2000 % 2 = 0 by omega]; rfl
  case refine_10 => rw [q3]; have := Nat.mod_lt (S / 2000) (show 2 > 0 by decide); omega
  
  
  refine exk_cons (ex_assign (ev_eq (q := .bytes (octB f).reverse) ?_ (ev_def' (i := 3) (by decide) rfl (by kernel_rfl) (evl_cons (ev_name lookup_cons_eq (by kernel_rfl)) (evl_cons (ev_name ((lookup_cons_ne (by decide +kernel)).trans ((lookup_cons_ne (by decide +kernel)).trans ((lookup_cons_ne (by decide +kernel)).trans ((lookup_cons_ne (by decide +kernel)).trans ((lookup_cons_ne (by decide +kernel)).trans ((lookup_cons_ne (by decide +kernel)).trans ((lookup_cons_ne (by decide +kernel)).trans ((lookup_cons_ne (by decide +kernel)).trans lookup_cons_eq)))))))) (by kernel_rfl)) evl_nil)) (swap_c (k := kB S) (b := octB f) (w := nP f) (m := 1) hC ?_ ?_ ?_ ?_))) (by kernel_rfl) (by kernel_rfl)) ?_
  all_goals try first | omega | (rw [octB_len]; omega)
  case refine_1 =>
    have := swO_one (octB f) (by rw [octB_len]; omega)
    rw [octB_len] at this
    rw [this]
  
  
  
  refine exk_cons (ex_compM (pcW f) (Bb false) PV.bytes List.reverse (ev_def' (i := 7) (by decide) rfl (by kernel_rfl) (evl_cons (ev_name lookup_cons_eq (by kernel_rfl)) (evl_cons (ev_name ((lookup_cons_ne (by decide +kernel)).trans ((lookup_cons_ne (by decide +kernel)).trans ((lookup_cons_ne (by decide +kernel)).trans ((lookup_cons_ne (by decide +kernel)).trans ((lookup_cons_ne (by decide +kernel)).trans ((lookup_cons_ne (by decide +kernel)).trans lookup_cons_eq)))))) (by kernel_rfl)) evl_nil)) (pieces_c (k := false) (b := (octB f).reverse) (v := vF f) (T := TF f) hC ?_ hf.T hf.head ?_ ?_)) (fun _ => iter_list) (by kernel_rfl) (by kernel_rfl) ?_ (fun C X' a hX ha => (ev_eq ?_ (ev_def' (i := 3) (by decide) rfl (by kernel_rfl) (evl_cons (ev_name lookup_cons_eq (by kernel_rfl)) (evl_cons (ev_bi' hC lookup_cons_eq (by kernel_rfl) (evl_cons (ev_name lookup_cons_eq (by kernel_rfl)) evl_nil) (len_bb ?_)) evl_nil)) (swap_c (k := false) (b := a) (w := a.length) (m := 1) hC ?_ ?_ ?_ ?_)))) (by kernel_rfl) (by kernel_rfl)) ?_
  case refine_1 => rw [List.length_reverse, octB_len]; omega
  case refine_2 => exact fun k hk => by rw [List.length_reverse, octB_len]; exact hf.v k hk
  case refine_3 => rw [List.length_reverse, octB_len]; exact hf.vend
  case refine_4 => exact Nat.le_trans hf.pcWl (by decide)
  case refine_5 => rw [swO_one a (hf.pcW0 a ha).1]
  case refine_7 => exact (hf.pcW0 a ha).1
  all_goals try first | (have := (hf.pcW0 a ha).2; omega) | (rw [Nat.mul_one])
  
  
  refine exk_cons (ex_assign (ev_eq (q := natsV (wayF f)) ?_ (ev_ty' hC ((lookup_cons_ne (by decide +kernel)).trans ((lookup_cons_ne (by decide +kernel)).trans ((lookup_cons_ne (by decide +kernel)).trans ((lookup_cons_ne (by decide +kernel)).trans ((lookup_cons_ne (by decide +kernel)).trans ((lookup_cons_ne (by decide +kernel)).trans ((lookup_cons_ne (by decide +kernel)).trans ((lookup_cons_ne (by decide +kernel)).trans ((lookup_cons_ne (by decide +kernel)).trans ((lookup_cons_ne (by decide +kernel)).trans lookup_cons_eq)))))))))) (by kernel_rfl) (evl_cons (@ev_meth _ _ _ _ _ _ _ _ _ _ _ _ _ _ _ _ ev_bytes (evl_cons (ev_name lookup_cons_eq (by kernel_rfl)) evl_nil) FB.plainAttrs_bytes BJ.slot BJ.ty tyBytes (fn_bjoin ?_) (by rfl) (by rfl) (by rfl) (starEach_no rfl) (plain_no rfl)) evl_nil) (fn_list_bytes ?_))) (by kernel_rfl) (by kernel_rfl)) ?_
  case refine_1 => unfold natsV intsV up wayF turnF; rw [List.map_map, List.map_map]; rfl
  case refine_2 => have := hf.turnl; unfold turnF at this; omega
  case refine_3 => have := hf.turnl; unfold turnF at this; omega
  
  
  
  refine exk_cons (ex_compM (pcH f) (Bb (kB S)) PV.bytes List.reverse (ev_def' (i := 7) (by decide) rfl (by kernel_rfl) (evl_cons (ev_name ((lookup_cons_ne (by decide +kernel)).trans ((lookup_cons_ne (by decide +kernel)).trans ((lookup_cons_ne (by decide +kernel)).trans lookup_cons_eq))) (by kernel_rfl)) (evl_cons (ev_name ((lookup_cons_ne (by decide +kernel)).trans ((lookup_cons_ne (by decide +kernel)).trans ((lookup_cons_ne (by decide +kernel)).trans ((lookup_cons_ne (by decide +kernel)).trans ((lookup_cons_ne (by decide +kernel)).trans ((lookup_cons_ne (by decide +kernel)).trans ((lookup_cons_ne (by decide +kernel)).trans ((lookup_cons_ne (by decide +kernel)).trans lookup_cons_eq)))))))) (by kernel_rfl)) evl_nil)) (pieces_c (k := kB S) (b := octB f) (v := vF f) (T := TF f) hC ?_ hf.T hf.head ?_ ?_)) (fun _ => iter_list) (by kernel_rfl) (by kernel_rfl) ?_ (fun C X' a hX ha => (ev_eq ?_ (ev_def' (i := 3) (by decide) rfl (by kernel_rfl) (evl_cons (ev_name lookup_cons_eq (by kernel_rfl)) (evl_cons (ev_bi' hC lookup_cons_eq (by kernel_rfl) (evl_cons (ev_name lookup_cons_eq (by kernel_rfl)) evl_nil) (len_bb ?_)) evl_nil)) (swap_c (k := kB S) (b := a) (w := a.length) (m := 1) hC ?_ ?_ ?_ ?_)))) (by kernel_rfl) (by kernel_rfl)) ?_
  case refine_1 => rw [octB_len]; omega
  case refine_2 => exact fun k hk => by rw [octB_len]; exact hf.v k hk
  case refine_3 => rw [octB_len]; exact hf.vend
  case refine_4 => exact Nat.le_trans hf.pcHl (by decide)
  case refine_5 => rw [swO_one a (hf.pcH0 a ha).1]
  case refine_7 => exact (hf.pcH0 a ha).1
  all_goals try first | (have := (hf.pcH0 a ha).2; omega) | (rw [Nat.mul_one])
  
  
  have hbl : ((pcH f).map List.reverse).flatten.length = nP f := hf.backl
  refine exk_cons (ex_assign (ev_eq (q := .bytes (homeF f)) ?_ (ev_def' (i := 3) (by decide) rfl (by kernel_rfl) (evl_cons (@ev_meth _ _ _ _ _ _ _ _ _ _ _ _ _ _ _ _ ev_bytes (evl_cons (ev_name lookup_cons_eq (by kernel_rfl)) evl_nil) FB.plainAttrs_bytes BJ.slot BJ.ty tyBytes (fn_bjoin ?_) (by rfl) (by rfl) (by rfl) (starEach_no rfl) (plain_no rfl)) (evl_cons (ev_name ((lookup_cons_ne (by decide +kernel)).trans ((lookup_cons_ne (by decide +kernel)).trans ((lookup_cons_ne (by decide +kernel)).trans ((lookup_cons_ne (by decide +kernel)).trans ((lookup_cons_ne (by decide +kernel)).trans ((lookup_cons_ne (by decide +kernel)).trans ((lookup_cons_ne (by decide +kernel)).trans ((lookup_cons_ne (by decide +kernel)).trans ((lookup_cons_ne (by decide +kernel)).trans ((lookup_cons_ne (by decide +kernel)).trans ((lookup_cons_ne (by decide +kernel)).trans ((lookup_cons_ne (by decide +kernel)).trans lookup_cons_eq)))))))))))) (by kernel_rfl)) evl_nil)) (swap_b (w := nP f) (m := 1) hC ?_ ?_ ?_ ?_))) (by kernel_rfl) (by kernel_rfl)) ?_
  case refine_1 =>
    have := swO_one ((pcH f).map List.reverse).flatten (by rw [hbl]; omega)
    rw [hbl] at this
    rw [this]; rfl
  all_goals try omega
  
  exact exk_sub (.cons lookup_cons_eq (.cons ((lookup_cons_ne (by decide +kernel)).trans lookup_cons_eq) (.cons ((lookup_cons_ne (by decide +kernel)).trans ((lookup_cons_ne (by decide +kernel)).trans lookup_cons_eq)) (.cons ((lookup_cons_ne (by decide +kernel)).trans ((lookup_cons_ne (by decide +kernel)).trans ((lookup_cons_ne (by decide +kernel)).trans lookup_cons_eq))) (.cons ((lookup_cons_ne (by decide +kernel)).trans ((lookup_cons_ne (by decide +kernel)).trans ((lookup_cons_ne (by decide +kernel)).trans ((lookup_cons_ne (by decide +kernel)).trans lookup_cons_eq)))) (.cons ((lookup_cons_ne (by decide +kernel)).trans ((lookup_cons_ne (by decide +kernel)).trans ((lookup_cons_ne (by decide +kernel)).trans ((lookup_cons_ne (by decide +kernel)).trans ((lookup_cons_ne (by decide +kernel)).trans lookup_cons_eq))))) (.cons ((lookup_cons_ne (by decide +kernel)).trans ((lookup_cons_ne (by decide +kernel)).trans ((lookup_cons_ne (by decide +kernel)).trans ((lookup_cons_ne (by decide +kernel)).trans ((lookup_cons_ne (by decide +kernel)).trans ((lookup_cons_ne (by decide +kernel)).trans lookup_cons_eq)))))) (.cons ((lookup_cons_ne (by decide +kernel)).trans ((lookup_cons_ne (by decide +kernel)).trans ((lookup_cons_ne (by decide +kernel)).trans ((lookup_cons_ne (by decide +kernel)).trans ((lookup_cons_ne (by decide +kernel)).trans ((lookup_cons_ne (by decide +kernel)).trans ((lookup_cons_ne (by decide +kernel)).trans lookup_cons_eq))))))) (.cons ((lookup_cons_ne (by decide +kernel)).trans ((lookup_cons_ne (by decide +kernel)).trans ((lookup_cons_ne (by decide +kernel)).trans ((lookup_cons_ne (by decide +kernel)).trans ((lookup_cons_ne (by decide +kernel)).trans ((lookup_cons_ne (by decide +kernel)).trans ((lookup_cons_ne (by decide +kernel)).trans ((lookup_cons_ne (by decide +kernel)).trans ((lookup_cons_ne (by decide +kernel)).trans lookup_cons_eq))))))))) (.cons ((lookup_cons_ne (by decide +kernel)).trans ((lookup_cons_ne (by decide +kernel)).trans ((lookup_cons_ne (by decide +kernel)).trans ((lookup_cons_ne (by decide +kernel)).trans ((lookup_cons_ne (by decide +kernel)).trans ((lookup_cons_ne (by decide +kernel)).trans ((lookup_cons_ne (by decide +kernel)).trans ((lookup_cons_ne (by decide +kernel)).trans ((lookup_cons_ne (by decide +kernel)).trans ((lookup_cons_ne (by decide +kernel)).trans lookup_cons_eq)))))))))) (.cons ((lookup_cons_ne (by decide +kernel)).trans ((lookup_cons_ne (by decide +kernel)).trans ((lookup_cons_ne (by decide +kernel)).trans ((lookup_cons_ne (by decide +kernel)).trans ((lookup_cons_ne (by decide +kernel)).trans ((lookup_cons_ne (by decide +kernel)).trans ((lookup_cons_ne (by decide +kernel)).trans ((lookup_cons_ne (by decide +kernel)).trans ((lookup_cons_ne (by decide +kernel)).trans ((lookup_cons_ne (by decide +kernel)).trans ((lookup_cons_ne (by decide +kernel)).trans ((lookup_cons_ne (by decide +kernel)).trans ((lookup_cons_ne (by decide +kernel)).trans lookup_cons_eq))))))))))))) .nil))))))))))) hrest
end Mine
end

section
open PySem PySem.W PySem.Calls PyProof.Rows
set_option Elab.async false
set_option maxRecDepth 100000
set_option linter.unusedVariables false
namespace Mine
variable {c : Cx} {n : Nat} {X : Addr → Prop} {env : Env} {ρ : List (Str × PV)}
theorem fn_join' {l : List Nat} (hz : l.length ≤ 10000) : Fn c n (.builtin "str.join") [.str ⟨#[]⟩, .list (l.map fun k => .str ⟨#[k]⟩)] (.str ⟨l.toArray⟩) := by
  have h := fn_join (c := c) (n := n) (l := l) hz
  have e : (l.map fun k => (⟨#[k]⟩ : Str)).map PV.str = l.map fun k => .str ⟨#[k]⟩ := by rw [List.map_map]; rfl
  unfold strsV at h
  rwa [e] at h
theorem isi_int {i : Int} : Fn c n (.builtin "isinstance") [.int i, .ty "int"] (.bool true) := fn_isi (.inl ⟨rfl, rfl⟩)
theorem isi_bool {i : Int} : Fn c n (.builtin "isinstance") [.int i, .ty "bool"] (.bool false) := fn_isi (.inr ⟨rfl, rfl⟩)
theorem isi_bytes {i : List UInt8} : Fn c n (.builtin "isinstance") [.bytes i, .ty "bytes"] (.bool true) := fn_isi ⟨rfl, rfl⟩
noncomputable def walkF (f p : Nat) : List Nat := walkP (wayF f) p (nP f)
noncomputable def sgN (f S x : Nat) : Nat := (sgP f S).getD x 0
noncomputable def textW (f S : Nat) (w : List Nat) : Str := ⟨((cutL w none (some (nP f : Int))).map (sgN f S)).toArray⟩
noncomputable def walksF (f : Nat) : List (List Nat) := (List.range (nP f)).map (walkF f)
noncomputable def textsF (f S : Nat) : List Str := (walksF f).map (textW f S)
noncomputable def apT (f p q k : Nat) : Bool := (((walkF f q).getD k 0 : Nat) : Int) - (((walkF f p).getD k 0 : Nat) : Int) != (q : Int) - (p : Int)
noncomputable def apartF (f p q : Nat) : List Nat := (List.range (nP f + 1)).filter (apT f p q)
noncomputable def dueF (f p q : Nat) : Int := if apartF f p q = [] then 0 else -1
noncomputable def collP (a b : Str) : Int := b2i (decide (b.cps.toList < a.cps.toList)) - b2i (decide (a.cps.toList < b.cps.toList))
structure QF (f S : Nat) : Prop extends PF f where
  wayb : ∀ x ∈ wayF f, x < nP f
  hom : (wayF f).map (fun k => ((homeF f).getD k 0).toNat) = List.range (nP f)
  homb : ∀ x ∈ homeF f, x.toNat < nP f
  coll : ∀ p q, p ≤ q → q < nP f → collP ((textsF f S).getD p ⟨#[]⟩) ((textsF f S).getD q ⟨#[]⟩) = dueF f p q ∧ collP ((textsF f S).getD q ⟨#[]⟩) ((textsF f S).getD p ⟨#[]⟩) = - dueF f p q
  sort : (textsF f S).Pairwise leS
  sok : ∀ x ∈ textsF f S, PyData.strOk x = true
  sgb : ∀ x ∈ sgP f S, x < 256
  bw : (octs (up (sgP f S))).reverse = octs (up ((homeF f).map fun x => sgN f S x.toNat))
theorem PF.wayl {f : Nat} (h : PF f) : (wayF f).length = nP f := by
  unfold wayF; rw [List.length_map]; exact h.turnl
theorem PF.homl {f : Nat} (h : PF f) : (homeF f).length = nP f := by
  unfold homeF; rw [List.length_reverse]; exact h.backl
theorem PF.sgl {f : Nat} (h : PF f) (S : Nat) : (sgP f S).length = nP f := by
  unfold sgP; rw [List.length_map]; exact h.grpl
theorem walkF_len (f p : Nat) : (walkF f p).length = nP f + 1 := by
  unfold walkF walkP; simp
theorem walksF_len (f : Nat) : (walksF f).length = nP f := by unfold walksF; simp
theorem textsF_len (f S : Nat) : (textsF f S).length = nP f := by unfold textsF; rw [List.length_map, walksF_len]
theorem nP_le (f : Nat) : 5 ≤ nP f ∧ nP f ≤ 8 := by unfold nP; have := Nat.mod_lt f (show 4 > 0 by decide); omega
theorem walksF_get (f p : Nat) (h : p < nP f) : (walksF f).getD p [] = walkF f p := by
  unfold walksF
  rw [List.getD_eq_getElem?_getD, List.getElem?_map, List.getElem?_range h]; rfl
theorem iterW_lt {way : List Nat} {m : Nat} (hm : way.length = m) (hw : ∀ x ∈ way, x < m) {p : Nat} (hp : p < m) : ∀ k, iterW way p k < m
  | 0 => hp
  | k + 1 => by
    have := iterW_lt hm hw hp k
    show way.getD (iterW way p k) 0 < m
    rw [List.getD_eq_getElem?_getD, List.getElem?_eq_getElem (by omega)]
    exact hw _ (List.getElem_mem _)
theorem cutL_mem {α : Type} {xs : List α} {l u : Option Int} {a : α} (h : a ∈ cutL xs l u) : a ∈ xs := by
  unfold cutL at h
  exact List.mem_of_mem_drop (List.mem_of_mem_take h)
theorem QF.walkb {f S : Nat} (h : QF f S) {p : Nat} (hp : p < nP f) : ∀ x ∈ walkF f p, x < nP f := fun x hx => by
  obtain ⟨k, _, rfl⟩ := List.mem_map.mp hx
  exact iterW_lt h.wayl h.wayb hp k
theorem QF.walksm {f S : Nat} (h : QF f S) : ∀ w ∈ walksF f, w.length = nP f + 1 ∧ ∀ x ∈ w, x < nP f := fun w hw => by
  obtain ⟨p, hp, rfl⟩ := List.mem_map.mp hw
  exact ⟨walkF_len f p, h.walkb (List.mem_range.mp hp)⟩
theorem QF.sgb' {f S : Nat} (h : QF f S) (x : Nat) : sgN f S x < 256 := by
  unfold sgN
  rw [List.getD_eq_getElem?_getD]
  cases e : (sgP f S)[x]? with
  | none => simp
  | some y => exact h.sgb y (List.mem_of_getElem? e)
end Mine
end

section
open PySem PySem.W PySem.Calls PyProof.Rows
open Sem (wp)
set_option Elab.async false
set_option maxRecDepth 100000
set_option linter.unusedVariables false
namespace Mine
local macro_rules | `(tactic| walk_at "ar") => `(tactic| first | omega | (simp only [List.length_map, List.length_range, List.length_cons, List.length_nil, List.length_append, List.length_reverse, List.length_replicate, Int.toNat_natCast]; omega))
variable {c : Cx} {n : Nat}
noncomputable abbrev ρ20 (f S : Nat) : List (Str × PV) := ("texts", strsV (textsF f S)) :: ("walks", .list ((walksF f).map natsV)) :: ρ17 f S
set_option maxHeartbeats 4000000 in
theorem law_3 {K : Around → Prop} {X : Addr → Prop} {s₀ : Shared} {L ad : Addr} {pm code doc : Value} {f S : Nat} {p : PV} (hC : CxOk c) (hf : QF f S)
    (hrest : ExK K c (n + 4) X s₀ (lawE L ad pm code doc) (ρ20 f S) (lawB.drop 20) p) : ExK K c (n + 4) X s₀ (lawE L ad pm code doc) (ρ17 f S) (lawB.drop 17) p := by
  have lN := nP_le f
  have hwl := hf.wayl
  have hhl := hf.homl
  have hsl := hf.sgl S
  
  
  refine exk_cons (ex_skip (evt_eq ?_ (evt_cmp (ev_compM (wayF f) (fun (k : Nat) => .int (k : Int)) PV.int (fun k => ((((homeF f).getD k 0).toNat : Nat) : Int)) (ev_name ((lookup_cons_ne (by decide +kernel)).trans ((lookup_cons_ne (by decide +kernel)).trans lookup_cons_eq)) (by kernel_rfl)) (fun _ => iter_nats) (by kernel_rfl) (by kernel_rfl) ?_ (fun C X' a hX ha => (ev_eq ?_ (ev_item (ev_name ((lookup_cons_ne (by decide +kernel)).trans lookup_cons_eq) (by kernel_rfl)) (ev_name lookup_cons_eq (by kernel_rfl)) (itm_bytes ?_ ?_ ?_))))) (ev_name ((lookup_cons_ne (by decide +kernel)).trans ((lookup_cons_ne (by decide +kernel)).trans ((lookup_cons_ne (by decide +kernel)).trans ((lookup_cons_ne (by decide +kernel)).trans ((lookup_cons_ne (by decide +kernel)).trans ((lookup_cons_ne (by decide +kernel)).trans lookup_cons_eq)))))) (by kernel_rfl)) cmp_neL))) ?_
  case refine_1 =>
    have := hf.hom
    have e : ((wayF f).map fun k => ((((homeF f).getD k 0).toNat : Nat) : Int)) = up (List.range (nP f)) := by
      rw [← this]; unfold up; rw [List.map_map]; rfl
    rw [e]; simp
  all_goals try first | rfl | omega
  case refine_5 => have := hf.wayb a ha; omega
  
  
  refine exk_cons (ex_assign (ev_compM (List.range (nP f)) (fun (k : Nat) => .int (k : Int)) natsV (walkF f) (ev_ty' hC ((lookup_cons_ne (by decide +kernel)).trans lookup_cons_eq) (by kernel_rfl) (evl_cons (ev_name ((lookup_cons_ne (by decide +kernel)).trans ((lookup_cons_ne (by decide +kernel)).trans ((lookup_cons_ne (by decide +kernel)).trans ((lookup_cons_ne (by decide +kernel)).trans ((lookup_cons_ne (by decide +kernel)).trans ((lookup_cons_ne (by decide +kernel)).trans ((lookup_cons_ne (by decide +kernel)).trans ((lookup_cons_ne (by decide +kernel)).trans ((lookup_cons_ne (by decide +kernel)).trans ((lookup_cons_ne (by decide +kernel)).trans lookup_cons_eq)))))))))) (by kernel_rfl)) evl_nil) fn_range1) (fun _ => iter_range1 ?_) (by kernel_rfl) (by kernel_rfl) ?_ (fun C X' a hX ha => (ev_def' (i := 8) (by decide) rfl (by kernel_rfl) (evl_cons (ev_name ((lookup_cons_ne (by decide +kernel)).trans ((lookup_cons_ne (by decide +kernel)).trans ((lookup_cons_ne (by decide +kernel)).trans lookup_cons_eq))) (by kernel_rfl)) (evl_cons (ev_name lookup_cons_eq (by kernel_rfl)) (evl_cons (ev_name ((lookup_cons_ne (by decide +kernel)).trans ((lookup_cons_ne (by decide +kernel)).trans ((lookup_cons_ne (by decide +kernel)).trans ((lookup_cons_ne (by decide +kernel)).trans ((lookup_cons_ne (by decide +kernel)).trans ((lookup_cons_ne (by decide +kernel)).trans ((lookup_cons_ne (by decide +kernel)).trans ((lookup_cons_ne (by decide +kernel)).trans ((lookup_cons_ne (by decide +kernel)).trans ((lookup_cons_ne (by decide +kernel)).trans ((lookup_cons_ne (by decide +kernel)).trans lookup_cons_eq))))))))))) (by kernel_rfl)) evl_nil))) (walk_c (way := wayF f) (p := a) (steps := nP f) hC ?_ ?_ ?_ ?_)))) (by kernel_rfl) (by kernel_rfl)) ?_
  all_goals try first | omega | (rw [List.length_range]; omega)
  case refine_3 => rw [hwl]; exact hf.wayb
  case refine_4 => have := List.mem_range.mp ha; omega
  
  
  
  refine exk_cons (ex_compM (walksF f) natsV PV.str (textW f S) (ev_name lookup_cons_eq (by kernel_rfl)) (fun _ => iter_list) (by kernel_rfl) (by kernel_rfl) ?_ (fun C X' a hX ha => (@ev_meth _ _ _ _ _ _ _ _ _ _ _ _ _ _ _ _ ev_str (evl_cons (ev_compM (cutL a none (some (nP f : Int))) (fun (k : Nat) => .int (k : Int)) (fun k => .str ⟨#[k]⟩) (sgN f S) (ev_cut (ev_name lookup_cons_eq (by kernel_rfl)) evp_none (evp_some (ev_name ((lookup_cons_ne (by decide +kernel)).trans ((lookup_cons_ne (by decide +kernel)).trans ((lookup_cons_ne (by decide +kernel)).trans ((lookup_cons_ne (by decide +kernel)).trans ((lookup_cons_ne (by decide +kernel)).trans ((lookup_cons_ne (by decide +kernel)).trans ((lookup_cons_ne (by decide +kernel)).trans ((lookup_cons_ne (by decide +kernel)).trans ((lookup_cons_ne (by decide +kernel)).trans ((lookup_cons_ne (by decide +kernel)).trans ((lookup_cons_ne (by decide +kernel)).trans ((lookup_cons_ne (by decide +kernel)).trans lookup_cons_eq)))))))))))) (by kernel_rfl))) evp_none (cut_nats ?_)) (fun _ => iter_nats) (by kernel_rfl) (by kernel_rfl) ?_ (fun C X' a hX ha => (ev_eq ?_ (ev_bi' hC ((lookup_cons_ne (by decide +kernel)).trans ((lookup_cons_ne (by decide +kernel)).trans ((lookup_cons_ne (by decide +kernel)).trans ((lookup_cons_ne (by decide +kernel)).trans ((lookup_cons_ne (by decide +kernel)).trans lookup_cons_eq))))) (by kernel_rfl) (evl_cons (ev_item (ev_name ((lookup_cons_ne (by decide +kernel)).trans ((lookup_cons_ne (by decide +kernel)).trans ((lookup_cons_ne (by decide +kernel)).trans ((lookup_cons_ne (by decide +kernel)).trans ((lookup_cons_ne (by decide +kernel)).trans ((lookup_cons_ne (by decide +kernel)).trans ((lookup_cons_ne (by decide +kernel)).trans ((lookup_cons_ne (by decide +kernel)).trans ((lookup_cons_ne (by decide +kernel)).trans ((lookup_cons_ne (by decide +kernel)).trans lookup_cons_eq)))))))))) (by kernel_rfl)) (ev_name lookup_cons_eq (by kernel_rfl)) (itm_nats ?_ ?_)) evl_nil) (fn_chr ?_ ?_))))) evl_nil) PySem.F.plainAttrs_str PySem.F.slot_str_join PySem.F.type_str_join tyStr (fn_join' (l := (cutL a none (some (nP f : Int))).map (sgN f S)) ?_) (by rfl) (by rfl) (by rfl) (starEach_no rfl) (plain_no rfl))) (by kernel_rfl) (by kernel_rfl)) ?_
  case refine_1 => rw [walksF_len]; omega
  case refine_2 => have := (hf.walksm a ha).1; omega
  case refine_3 => have := (hf.walksm a ha).1; have := cutL_len a none (some (nP f : Int)); omega
  case refine_4 => rfl
  case refine_5 => omega
  case refine_6 => exact ⟨by have := (hf.walksm _ ‹_ ∈ walksF f›).2 a (cutL_mem ha); omega, by omega⟩
  case refine_7 => omega
  case refine_8 => have := hf.sgb' a; show ((sgN f S a : Nat) : Int) ≤ _; omega
  case refine_9 => have := (hf.walksm a ha).1; have := cutL_len a none (some (nP f : Int)); rw [List.length_map]; omega
  exact hrest
set_option maxHeartbeats 4000000 in
theorem law_4 {K : Around → Prop} {X : Addr → Prop} {s₀ : Shared} {L ad : Addr} {pm code doc : Value} {f S : Nat} {p : PV} (hC : CxOk c) (hf : QF f S)
    (hrest : ExK K c (n + 4) X s₀ (lawE L ad pm code doc) (ρ20 f S) (lawB.drop 23) p) : ExK K c (n + 4) X s₀ (lawE L ad pm code doc) (ρ20 f S) (lawB.drop 20) p := by
  have lN := nP_le f
  have hwl := hf.wayl
  have hhl := hf.homl
  have hsl := hf.sgl S
  have hkl := walksF_len f
  have htl := textsF_len f S
  have hol : (octs (up (sgP f S))).length = nP f := by unfold octs up; rw [List.length_map, List.length_map, hsl]
  
  refine exk_cons (ex_for (ev_ty' hC ((lookup_cons_ne (by decide +kernel)).trans lookup_cons_eq) (by kernel_rfl) (evl_cons (ev_name ((lookup_cons_ne (by decide +kernel)).trans ((lookup_cons_ne (by decide +kernel)).trans ((lookup_cons_ne (by decide +kernel)).trans ((lookup_cons_ne (by decide +kernel)).trans ((lookup_cons_ne (by decide +kernel)).trans ((lookup_cons_ne (by decide +kernel)).trans ((lookup_cons_ne (by decide +kernel)).trans ((lookup_cons_ne (by decide +kernel)).trans ((lookup_cons_ne (by decide +kernel)).trans ((lookup_cons_ne (by decide +kernel)).trans ((lookup_cons_ne (by decide +kernel)).trans ((lookup_cons_ne (by decide +kernel)).trans lookup_cons_eq)))))))))))) (by kernel_rfl)) evl_nil) fn_range1) (iter_range1 (m := nP f) (by omega)) (by kernel_rfl) fun i q hq => ?_) ?_
  · rw [List.getElem?_map] at hq
    obtain ⟨pp, hpp, rfl⟩ : ∃ pp, pp < nP f ∧ q = .int ((pp : Nat) : Int) := by
      cases e : (List.range (nP f))[i]? with
      | none => rw [e] at hq; cases hq
      | some x => rw [e] at hq; cases hq; exact ⟨x, List.mem_range.mp (List.mem_of_getElem? e), rfl⟩
    refine ⟨("p", .int (pp : Int)) :: ρ20 f S, ?_, fun m r hm _ => drop1 hm rfl⟩
    
    refine exs_cons (ex_for (ev_ty' hC ((lookup_cons_ne (by decide +kernel)).trans lookup_cons_eq) (by kernel_rfl) (evl_cons (ev_name lookup_cons_eq (by kernel_rfl)) (evl_cons (ev_name ((lookup_cons_ne (by decide +kernel)).trans ((lookup_cons_ne (by decide +kernel)).trans ((lookup_cons_ne (by decide +kernel)).trans ((lookup_cons_ne (by decide +kernel)).trans ((lookup_cons_ne (by decide +kernel)).trans ((lookup_cons_ne (by decide +kernel)).trans ((lookup_cons_ne (by decide +kernel)).trans ((lookup_cons_ne (by decide +kernel)).trans ((lookup_cons_ne (by decide +kernel)).trans ((lookup_cons_ne (by decide +kernel)).trans ((lookup_cons_ne (by decide +kernel)).trans ((lookup_cons_ne (by decide +kernel)).trans ((lookup_cons_ne (by decide +kernel)).trans lookup_cons_eq))))))))))))) (by kernel_rfl)) evl_nil)) fn_range2) (iter_range (a := (pp : Int)) (b := (nP f : Int)) (d := 1) (small_ok (by omega) (by omega))) (by kernel_rfl) fun i q hq => ?_) exs_nil
    obtain ⟨hi, rfl⟩ := rng_some hq
    rw [rsize1] at hi
    obtain ⟨qq, hqe, hqq, hpq⟩ : ∃ qq : Nat, (pp : Int) + (i : Int) * 1 = (qq : Int) ∧ qq < nP f ∧ pp ≤ qq := ⟨pp + i, by omega, by omega, by omega⟩
    rw [hqe]
    have hc := hf.coll pp qq hpq hqq
    refine ⟨("told", intsV [dueF f pp qq, - dueF f pp qq]) :: ("due", .int (dueF f pp qq)) :: ("apart", intsV ((apartF f pp qq).map fun (k : Nat) => (k : Int))) :: ("q", .int (qq : Int)) :: ("p", .int (pp : Int)) :: ρ20 f S, ?_, fun m r hm _ => drop1 (drop1 (drop1 (drop1 hm rfl) rfl) rfl) rfl⟩
    
    
    have hgq : (walksF f).getD (qq : Int).toNat [] = walkF f qq := walksF_get f qq hqq
    have hgp : (walksF f).getD (pp : Int).toNat [] = walkF f pp := walksF_get f pp hpp
    have hkq := walkF_len f qq
    have hkp := walkF_len f pp
    refine exs_cons (ex_cast (p := .list (((apartF f pp qq).map fun (k : Nat) => (k : Int)).map .int)) rfl (ex_compF (List.range (nP f + 1)) (fun (k : Nat) => .int (k : Int)) (apT f pp qq) PV.int (fun (k : Nat) => (k : Int)) (ev_ty' hC ((lookup_cons_ne (by decide +kernel)).trans lookup_cons_eq) (by kernel_rfl) (evl_cons (ev_binop (ev_name ((lookup_cons_ne (by decide +kernel)).trans ((lookup_cons_ne (by decide +kernel)).trans ((lookup_cons_ne (by decide +kernel)).trans ((lookup_cons_ne (by decide +kernel)).trans ((lookup_cons_ne (by decide +kernel)).trans ((lookup_cons_ne (by decide +kernel)).trans ((lookup_cons_ne (by decide +kernel)).trans ((lookup_cons_ne (by decide +kernel)).trans ((lookup_cons_ne (by decide +kernel)).trans ((lookup_cons_ne (by decide +kernel)).trans ((lookup_cons_ne (by decide +kernel)).trans ((lookup_cons_ne (by decide +kernel)).trans ((lookup_cons_ne (by decide +kernel)).trans ((lookup_cons_ne (by decide +kernel)).trans lookup_cons_eq)))))))))))))) (by kernel_rfl)) ev_int bin_add) evl_nil) fn_range1) (fun _ => iter_range1 ?_) (by kernel_rfl) (by kernel_rfl) ?_ (fun C X' a hX ha => ⟨evts_one (evt_eq ?_ (evt_cmp (ev_binop (ev_item (ev_item (ev_name ((lookup_cons_ne (by decide +kernel)).trans ((lookup_cons_ne (by decide +kernel)).trans ((lookup_cons_ne (by decide +kernel)).trans ((lookup_cons_ne (by decide +kernel)).trans lookup_cons_eq)))) (by kernel_rfl)) (ev_name ((lookup_cons_ne (by decide +kernel)).trans lookup_cons_eq) (by kernel_rfl)) (itm_mapD ([] : List Nat) ?_ ?_)) (ev_name lookup_cons_eq (by kernel_rfl)) (itm_nats ?_ ?_)) (ev_item (ev_item (ev_name ((lookup_cons_ne (by decide +kernel)).trans ((lookup_cons_ne (by decide +kernel)).trans ((lookup_cons_ne (by decide +kernel)).trans ((lookup_cons_ne (by decide +kernel)).trans lookup_cons_eq)))) (by kernel_rfl)) (ev_name ((lookup_cons_ne (by decide +kernel)).trans ((lookup_cons_ne (by decide +kernel)).trans lookup_cons_eq)) (by kernel_rfl)) (itm_mapD ([] : List Nat) ?_ ?_)) (ev_name lookup_cons_eq (by kernel_rfl)) (itm_nats ?_ ?_)) bin_sub) (ev_binop (ev_name ((lookup_cons_ne (by decide +kernel)).trans lookup_cons_eq) (by kernel_rfl)) (ev_name ((lookup_cons_ne (by decide +kernel)).trans ((lookup_cons_ne (by decide +kernel)).trans lookup_cons_eq)) (by kernel_rfl)) bin_sub) cmp_ne)), fun ht => (ev_name lookup_cons_eq (by kernel_rfl))⟩) (by kernel_rfl) (by kernel_rfl))) ?_
    case refine_1 => exact (by omega : nP f + 1 ≤ 1000000)
    case refine_2 => rw [List.length_range]; omega
    case refine_3 => rw [hgq, hgp]; rfl
    case refine_7 => have := List.mem_range.mp ha; rw [hgq]; omega
    case refine_11 => have := List.mem_range.mp ha; rw [hgp]; omega
    all_goals try omega
    have hal : ((apartF f pp qq).map fun (k : Nat) => (k : Int)).length ≤ 10000 := by
      rw [List.length_map]
      refine Nat.le_trans (List.length_filter_le _ _) ?_
      rw [List.length_range]; omega
    
    refine exs_cons (ex_assign (ev_eq (q := .int (dueF f pp qq)) ?_ (ev_ite (F := PV.int) (evt_cmp (ev_name lookup_cons_eq (by kernel_rfl)) (ev_listI evli_nil (by simp)) cmp_eqL) ev_int (ev_unop ev_int una_neg))) (by kernel_rfl) (by kernel_rfl)) ?_
    case refine_1 => unfold dueF; refine congrArg PV.int ?_; by_cases h : apartF f pp qq = [] <;> simp [h]
    
    
    refine exs_cons (ex_assign (ev_eq (q := intsV [dueF f pp qq, - dueF f pp qq]) ?_ (ev_listI (evli_cons (ev_def' (i := 0) (by decide) rfl (by kernel_rfl) (evl_cons (ev_item (ev_name ((lookup_cons_ne (by decide +kernel)).trans ((lookup_cons_ne (by decide +kernel)).trans ((lookup_cons_ne (by decide +kernel)).trans ((lookup_cons_ne (by decide +kernel)).trans lookup_cons_eq)))) (by kernel_rfl)) (ev_name ((lookup_cons_ne (by decide +kernel)).trans ((lookup_cons_ne (by decide +kernel)).trans ((lookup_cons_ne (by decide +kernel)).trans lookup_cons_eq))) (by kernel_rfl)) (itm_mapD (⟨#[]⟩ : Str) ?_ ?_)) (evl_cons (ev_item (ev_name ((lookup_cons_ne (by decide +kernel)).trans ((lookup_cons_ne (by decide +kernel)).trans ((lookup_cons_ne (by decide +kernel)).trans ((lookup_cons_ne (by decide +kernel)).trans lookup_cons_eq)))) (by kernel_rfl)) (ev_name ((lookup_cons_ne (by decide +kernel)).trans ((lookup_cons_ne (by decide +kernel)).trans lookup_cons_eq)) (by kernel_rfl)) (itm_mapD (⟨#[]⟩ : Str) ?_ ?_)) evl_nil)) coll_c) (evli_cons (ev_def' (i := 0) (by decide) rfl (by kernel_rfl) (evl_cons (ev_item (ev_name ((lookup_cons_ne (by decide +kernel)).trans ((lookup_cons_ne (by decide +kernel)).trans ((lookup_cons_ne (by decide +kernel)).trans ((lookup_cons_ne (by decide +kernel)).trans lookup_cons_eq)))) (by kernel_rfl)) (ev_name ((lookup_cons_ne (by decide +kernel)).trans ((lookup_cons_ne (by decide +kernel)).trans lookup_cons_eq)) (by kernel_rfl)) (itm_mapD (⟨#[]⟩ : Str) ?_ ?_)) (evl_cons (ev_item (ev_name ((lookup_cons_ne (by decide +kernel)).trans ((lookup_cons_ne (by decide +kernel)).trans ((lookup_cons_ne (by decide +kernel)).trans ((lookup_cons_ne (by decide +kernel)).trans lookup_cons_eq)))) (by kernel_rfl)) (ev_name ((lookup_cons_ne (by decide +kernel)).trans ((lookup_cons_ne (by decide +kernel)).trans ((lookup_cons_ne (by decide +kernel)).trans lookup_cons_eq))) (by kernel_rfl)) (itm_mapD (⟨#[]⟩ : Str) ?_ ?_)) evl_nil)) coll_c) evli_nil)) (by simp))) (by kernel_rfl) (by kernel_rfl)) ?_
    case refine_1 => exact congrArg intsV (by rw [show [dueF f pp qq, - dueF f pp qq] = [collP ((textsF f S).getD pp ⟨#[]⟩) ((textsF f S).getD qq ⟨#[]⟩), collP ((textsF f S).getD qq ⟨#[]⟩) ((textsF f S).getD pp ⟨#[]⟩)] by rw [hc.1, hc.2]]; rfl)
    all_goals try omega
    
    
    refine exs_cons (ex_skip (evt_eq ?_ (evt_or (evt_cmp (ev_name lookup_cons_eq (by kernel_rfl)) (ev_listI (evli_cons (ev_name ((lookup_cons_ne (by decide +kernel)).trans lookup_cons_eq) (by kernel_rfl)) (evli_cons (ev_unop (ev_name ((lookup_cons_ne (by decide +kernel)).trans lookup_cons_eq) (by kernel_rfl)) una_neg) evli_nil)) (by simp)) cmp_neL) (fun _ => (evt_cmp (ev_compF [dueF f pp qq, - dueF f pp qq] PV.int (fun _ => false) PV.int id (ev_name lookup_cons_eq (by kernel_rfl)) (fun _ => iter_list) (by kernel_rfl) (by kernel_rfl) ?_ (fun C X' a hX ha => ⟨evts_one (evt_eq ?_ (evt_or (evt_not (evt_valc (ev_bi' hC ((lookup_cons_ne (by decide +kernel)).trans ((lookup_cons_ne (by decide +kernel)).trans ((lookup_cons_ne (by decide +kernel)).trans lookup_cons_eq))) (by kernel_rfl) (evl_cons (ev_name lookup_cons_eq (by kernel_rfl)) (evl_cons (ev_tyname' hC ((lookup_cons_ne (by decide +kernel)).trans ((lookup_cons_ne (by decide +kernel)).trans ((lookup_cons_ne (by decide +kernel)).trans ((lookup_cons_ne (by decide +kernel)).trans ((lookup_cons_ne (by decide +kernel)).trans ((lookup_cons_ne (by decide +kernel)).trans ((lookup_cons_ne (by decide +kernel)).trans ((lookup_cons_ne (by decide +kernel)).trans ((lookup_cons_ne (by decide +kernel)).trans ((lookup_cons_ne (by decide +kernel)).trans ((lookup_cons_ne (by decide +kernel)).trans lookup_cons_eq))))))))))) (by kernel_rfl)) evl_nil)) isi_int) truth_bool)) (fun _ => (evt_valc (ev_bi' hC ((lookup_cons_ne (by decide +kernel)).trans ((lookup_cons_ne (by decide +kernel)).trans ((lookup_cons_ne (by decide +kernel)).trans lookup_cons_eq))) (by kernel_rfl) (evl_cons (ev_name lookup_cons_eq (by kernel_rfl)) (evl_cons (ev_tyname' hC ((lookup_cons_ne (by decide +kernel)).trans ((lookup_cons_ne (by decide +kernel)).trans ((lookup_cons_ne (by decide +kernel)).trans ((lookup_cons_ne (by decide +kernel)).trans ((lookup_cons_ne (by decide +kernel)).trans ((lookup_cons_ne (by decide +kernel)).trans ((lookup_cons_ne (by decide +kernel)).trans ((lookup_cons_ne (by decide +kernel)).trans ((lookup_cons_ne (by decide +kernel)).trans ((lookup_cons_ne (by decide +kernel)).trans ((lookup_cons_ne (by decide +kernel)).trans ((lookup_cons_ne (by decide +kernel)).trans lookup_cons_eq)))))))))))) (by kernel_rfl)) evl_nil)) isi_bool) truth_bool)))), fun ht => (ev_name lookup_cons_eq (by kernel_rfl))⟩)) (ev_listI evli_nil (by simp)) cmp_neL))))) exs_nil
    case refine_1 => simp
    all_goals try first | rfl | simp
  
  refine exk_cons (ex_skip (evt_eq ?_ (evt_cmp (ev_sortkey (ss := (textsF f S).reverse) (ms := textsF f S) hC (by kernel_rfl) (by kernel_rfl) (evl_cons (ev_cut (ev_name lookup_cons_eq (by kernel_rfl)) evp_none evp_none (evp_some (ev_unop ev_int una_neg)) (rev_map ?_)) evl_nil) ?_ (List.reverse_perm _).symm hf.sort) (ev_name lookup_cons_eq (by kernel_rfl)) (cmp_neSs hf.sok hf.sok)))) ?_
  case refine_1 => simp
  case refine_2 => omega
  case refine_3 => rw [List.length_reverse]; omega
  
  
  refine exk_cons (ex_skip (evt_eq ?_ (evt_cmp (ev_def' (i := 3) (by decide) rfl (by kernel_rfl) (evl_cons (ev_ty' hC ((lookup_cons_ne (by decide +kernel)).trans ((lookup_cons_ne (by decide +kernel)).trans lookup_cons_eq)) (by kernel_rfl) (evl_cons (ev_name ((lookup_cons_ne (by decide +kernel)).trans ((lookup_cons_ne (by decide +kernel)).trans ((lookup_cons_ne (by decide +kernel)).trans ((lookup_cons_ne (by decide +kernel)).trans ((lookup_cons_ne (by decide +kernel)).trans ((lookup_cons_ne (by decide +kernel)).trans ((lookup_cons_ne (by decide +kernel)).trans ((lookup_cons_ne (by decide +kernel)).trans ((lookup_cons_ne (by decide +kernel)).trans lookup_cons_eq))))))))) (by kernel_rfl)) evl_nil) (fn_bytes_list ?_ ?_)) (evl_cons (ev_name ((lookup_cons_ne (by decide +kernel)).trans ((lookup_cons_ne (by decide +kernel)).trans ((lookup_cons_ne (by decide +kernel)).trans ((lookup_cons_ne (by decide +kernel)).trans ((lookup_cons_ne (by decide +kernel)).trans ((lookup_cons_ne (by decide +kernel)).trans ((lookup_cons_ne (by decide +kernel)).trans ((lookup_cons_ne (by decide +kernel)).trans ((lookup_cons_ne (by decide +kernel)).trans ((lookup_cons_ne (by decide +kernel)).trans ((lookup_cons_ne (by decide +kernel)).trans ((lookup_cons_ne (by decide +kernel)).trans lookup_cons_eq)))))))))))) (by kernel_rfl)) evl_nil)) (swap_b (w := nP f) (m := 1) hC ?_ ?_ ?_ ?_)) (ev_ty' hC ((lookup_cons_ne (by decide +kernel)).trans ((lookup_cons_ne (by decide +kernel)).trans lookup_cons_eq)) (by kernel_rfl) (evl_cons (ev_compM (homeF f) (fun x => .int x.toNat) PV.int (fun x => ((sgN f S x.toNat : Nat) : Int)) (ev_name ((lookup_cons_ne (by decide +kernel)).trans ((lookup_cons_ne (by decide +kernel)).trans lookup_cons_eq)) (by kernel_rfl)) (fun _ => iter_bytes) (by kernel_rfl) (by kernel_rfl) ?_ (fun C X' a hX ha => (ev_eq ?_ (ev_item (ev_name ((lookup_cons_ne (by decide +kernel)).trans ((lookup_cons_ne (by decide +kernel)).trans ((lookup_cons_ne (by decide +kernel)).trans ((lookup_cons_ne (by decide +kernel)).trans ((lookup_cons_ne (by decide +kernel)).trans ((lookup_cons_ne (by decide +kernel)).trans ((lookup_cons_ne (by decide +kernel)).trans ((lookup_cons_ne (by decide +kernel)).trans ((lookup_cons_ne (by decide +kernel)).trans ((lookup_cons_ne (by decide +kernel)).trans lookup_cons_eq)))))))))) (by kernel_rfl)) (ev_name lookup_cons_eq (by kernel_rfl)) (itm_nats ?_ ?_))))) evl_nil) (fn_bytes_list ?_ ?_)) cmp_neb))) ?_
  case refine_1 =>
    have h1 := swO_one (octs (up (sgP f S))) (by rw [hol]; omega)
    rw [hol] at h1
    rw [h1, hf.bw]
    unfold up
    rw [List.map_map]
    exact bne_self_eq_false _
  case refine_2 =>
    intro x hx
    obtain ⟨k, hk, rfl⟩ := List.mem_map.mp hx
    have := hf.sgb k hk; omega
  case refine_3 => rw [List.length_map]; omega
  case refine_9 => rfl
  case refine_11 => exact ⟨by have := hf.homb a ha; omega, by omega⟩
  case refine_12 =>
    intro x hx
    obtain ⟨k, hk, rfl⟩ := List.mem_map.mp hx
    have := hf.sgb' k.toNat; omega
  case refine_13 => rw [List.length_map]; omega
  all_goals try omega
  exact hrest
end Mine
end

section
open PySem PySem.W PySem.Calls PyProof.Rows
set_option Elab.async false
set_option maxRecDepth 100000
set_option linter.unusedVariables false
namespace Mine
noncomputable def idxF (f p : Nat) : Nat := (up (cutL (walkF f p) (some 1) none)).idxOf (p : Int)
noncomputable def ringF (f p : Nat) : List Nat := cutL (walkF f p) none (some ((idxF f p : Int) + 1))
noncomputable def mnF (f p : Nat) : Nat := (ringF f p).foldr min 1000
noncomputable def lineF (f S p : Nat) : Str := ⟨(cutL ((textsF f S).getD p ⟨#[]⟩).cps.toList none (some ((ringF f p).length : Int))).toArray⟩
noncomputable def sufF (x : Str) (k : Int) : Str := ⟨(cutL x.cps.toList (some k) none).toArray⟩
noncomputable def preF (x : Str) (k : Int) : Str := ⟨(cutL x.cps.toList none (some k)).toArray⟩
noncomputable def wordF (f S p : Nat) : List UInt8 := octs (up ((ringF f p).map (sgN f S)))
noncomputable def anewT (w : List UInt8) (k : Int) : Bool := w.reverse == cutL w (some k) none ++ cutL w none (some k)
noncomputable def anewF (w : List UInt8) : List Int := (rng 1 ((w.length : Int) + 1) 1).filter (anewT w)
noncomputable def sameT (f S p k : Nat) : Bool := ((sgN f S k : Nat) : Int) == (((wordF f S p).getD 0 0).toNat : Int)
noncomputable def sameF (f S p : Nat) : List Nat := (ringF f p).filter (sameT f S p)
noncomputable def mxF (f S p : Nat) : Nat := (sameF f S p).foldr max 0
theorem canLay_ints' : ∀ ns : List Int, PyData.canLayAll0 (ns.map PyData.int) = true
  | [] => by simp [PyData.canLayAll0]
  | n :: r => by simp [PyData.canLayAll0, PyData.canLay0, canLay_ints' r]
theorem depth_ints' : ∀ ns : List Int, PyData.depthAll (ns.map PyData.int) ≤ 1
  | [] => by simp [PyData.depthAll]
  | n :: r => by
    have := depth_ints' r
    simp only [List.map_cons, PyData.depthAll, PyData.depth]
    omega
theorem weight_small {n : Int} (h : 0 ≤ n ∧ n < 256) : PyData.weight (.int n) ≤ 9 := by
  simp only [PyData.weight]
  split
  · omega
  · have h1 : n.natAbs ≠ 0 := by
      intro e
      have : n = 0 := Int.natAbs_eq_zero.mp e
      simp_all
    have : n.natAbs.log2 < 8 := (Nat.log2_lt h1).mpr (by omega)
    omega
theorem weight_ints : ∀ ns : List Int, (∀ n ∈ ns, 0 ≤ n ∧ n < 256) → PyData.weightAll (ns.map PyData.int) ≤ 10 * ns.length
  | [], _ => by simp [PyData.weightAll]
  | n :: r, h => by
    have h1 := weight_ints r fun m hm => h m (List.mem_cons_of_mem _ hm)
    have h2 := weight_small (h n List.mem_cons_self)
    simp only [List.map_cons, PyData.weightAll, List.length_cons]
    omega
theorem lay_small {ns : List Int} (hz : ns.length ≤ 100) (h : ∀ n ∈ ns, 0 ≤ n ∧ n < 256) : PyData.layable0 (.list (ns.map .int)) = true := by
  have h1 := weight_ints ns h
  have h2 := depth_ints' ns
  show (PyData.canLay0 (.list (ns.map .int)) && decide (PyData.depth (.list (ns.map .int)) ≤ 64) && decide (PyData.weight (.list (ns.map .int)) ≤ 2 ^ 20)) = true
  rw [Bool.and_eq_true, Bool.and_eq_true]
  refine ⟨⟨by simp only [PyData.canLay0]; exact canLay_ints' ns, decide_eq_true ?_⟩, decide_eq_true ?_⟩
  · simp only [PyData.depth]; omega
  · simp only [PyData.weight]; omega
structure RF (f S p : Nat) : Prop where
  idx : (p : Int) ∈ up (cutL (walkF f p) (some 1) none)
  rl : 0 < (ringF f p).length ∧ (ringF f p).length ≤ 8
  mn : mnF f p ∈ ringF f p ∧ ∀ x ∈ ringF f p, mnF f p ≤ x
structure RG (f S p : Nat) : Prop where
  ends : ((List.range (ringF f p).length).map fun (k : Nat) => collP (lineF f S p) (sufF (lineF f S p) k)) = [0] ++ (List.replicate (((ringF f p).length : Int) - 1).toNat [-1]).flatten
  fronts : ((List.range (ringF f p).length).map fun (k : Nat) => collP (preF (lineF f S p) k) (lineF f S p)) = (List.replicate ((ringF f p).length : Int).toNat [-1]).flatten
  mx : mxF f S p ∈ sameF f S p ∧ ∀ x ∈ sameF f S p, x ≤ mxF f S p
  mxr : mxF f S p ∈ ringF f p
  anew : anewF (wordF f S p) = [(((up (ringF f p)).idxOf (mxF f S p : Int) : Nat) : Int) + 1]
  un : (unO (wordF f S p ++ wordF f S p) (wordF f S p ++ wordF f S p).length).length = 2 * (wordF f S p).length
end Mine
end

section
open PySem PySem.W PySem.Calls PyProof.Rows
open Sem (wp)
set_option Elab.async false
set_option maxRecDepth 100000
set_option linter.unusedVariables false
namespace Mine
local macro_rules | `(tactic| walk_at "ar") => `(tactic| first | omega | (simp only [List.length_map, List.length_range, List.length_cons, List.length_nil, List.length_append, List.length_reverse, List.length_replicate, Int.toNat_natCast]; omega))
variable {c : Cx} {n : Nat}
noncomputable abbrev ringB : List Stmt := match lawB.drop 23 with | .For _ _ [_, .If _ b _ _] _ _ :: _ => b | _ => []
noncomputable abbrev ρR (f S pp : Nat) : List (Str × PV) := ("ring", natsV (ringF f pp)) :: ("p", .int (pp : Int)) :: ρ20 f S
noncomputable abbrev ρR' (f S pp : Nat) : List (Str × PV) := ("anew", intsV (anewF (wordF f S pp))) :: ("mirror", .bytes (wordF f S pp).reverse) :: ("word", .bytes (wordF f S pp)) :: ("line", .str (lineF f S pp)) :: ρR f S pp
set_option maxHeartbeats 4000000 in
theorem law_ring {X : Addr → Prop} {s₀ : Shared} {L ad : Addr} {pm code doc : Value} {f S pp : Nat} (hC : CxOk c) (hf : QF f S) (hpp : pp < nP f) (hR : RF f S pp) (hG : RG f S pp) :
    Exs c (n + 4) X s₀ (lawE L ad pm code doc) (ρR f S pp) ringB (ρR' f S pp) := by
  have lN := nP_le f
  have hsl := hf.sgl S
  have hkl := walksF_len f
  have htl := textsF_len f S
  have hrl := hR.rl
  have hrb : ∀ x ∈ ringF f pp, x < nP f := fun x hx => hf.walkb hpp x (cutL_mem hx)
  have htx : ((textsF f S).getD pp ⟨#[]⟩).cps.toList.length ≤ 100 := by
    have e : (textsF f S).getD pp ⟨#[]⟩ = textW f S (walkF f pp) := by
      unfold textsF walksF
      rw [List.map_map, List.getD_eq_getElem?_getD, List.getElem?_map, List.getElem?_range hpp]; rfl
    rw [e]
    show ((cutL (walkF f pp) none (some (nP f : Int))).map (sgN f S)).length ≤ 100
    rw [List.length_map]
    have := cutL_len (walkF f pp) none (some (nP f : Int))
    have := walkF_len f pp
    omega
  have hll : (lineF f S pp).cps.toList.length ≤ 100 := Nat.le_trans (cutL_len _ _ _) htx
  have hwl : (wordF f S pp).length = (ringF f pp).length := by unfold wordF octs up; simp
  
  refine exs_cons (ex_assign (ev_eq (q := .str (lineF f S pp)) rfl (ev_cut (ev_item (ev_name ((lookup_cons_ne (by decide +kernel)).trans ((lookup_cons_ne (by decide +kernel)).trans lookup_cons_eq)) (by kernel_rfl)) (ev_name ((lookup_cons_ne (by decide +kernel)).trans lookup_cons_eq) (by kernel_rfl)) (itm_mapD (⟨#[]⟩ : Str) ?_ ?_)) evp_none (evp_some (ev_bi' hC lookup_cons_eq (by kernel_rfl) (evl_cons (ev_name lookup_cons_eq (by kernel_rfl)) evl_nil) (len_nats ?_))) evp_none (cut_str ?_))) (by kernel_rfl) (by kernel_rfl)) ?_
  all_goals try omega
  case refine_4 => exact Nat.le_trans htx (by decide)
  
  
  refine exs_cons (ex_skip (evt_eq ?_ (evt_cmp (ev_compM (List.range (ringF f pp).length) (fun (k : Nat) => .int (k : Int)) PV.int (fun (k : Nat) => collP (lineF f S pp) (sufF (lineF f S pp) k)) (ev_ty' hC ((lookup_cons_ne (by decide +kernel)).trans lookup_cons_eq) (by kernel_rfl) (evl_cons (ev_bi' hC lookup_cons_eq (by kernel_rfl) (evl_cons (ev_name ((lookup_cons_ne (by decide +kernel)).trans lookup_cons_eq) (by kernel_rfl)) evl_nil) (len_nats ?_)) evl_nil) fn_range1) (fun _ => iter_range1 ?_) (by kernel_rfl) (by kernel_rfl) ?_ (fun C X' a hX ha => (ev_eq ?_ (ev_def' (i := 0) (by decide) rfl (by kernel_rfl) (evl_cons (ev_name ((lookup_cons_ne (by decide +kernel)).trans lookup_cons_eq) (by kernel_rfl)) (evl_cons (ev_cut (ev_name ((lookup_cons_ne (by decide +kernel)).trans lookup_cons_eq) (by kernel_rfl)) (evp_some (ev_name lookup_cons_eq (by kernel_rfl))) evp_none evp_none (cut_str ?_)) evl_nil)) coll_c)))) (ev_binop (ev_listI (evli_cons ev_int evli_nil) (by simp)) (ev_binop (ev_listI (evli_cons (ev_unop ev_int una_neg) evli_nil) (by simp)) (ev_binop (ev_bi' hC lookup_cons_eq (by kernel_rfl) (evl_cons (ev_name ((lookup_cons_ne (by decide +kernel)).trans lookup_cons_eq) (by kernel_rfl)) evl_nil) (len_nats ?_)) ev_int bin_sub) (mulL_map ?_ ?_ ?_)) (addL_map ?_)) cmp_neL))) ?_
  case refine_1 => rw [hG.ends]; simp
  case refine_4 => rw [List.length_range]; omega
  case refine_5 => rfl
  case refine_6 => exact Nat.le_trans hll (by decide)
  case refine_11 => simp; omega
  all_goals try first | omega | decide
  
  refine exs_cons (ex_skip (evt_eq ?_ (evt_cmp (ev_compM (List.range (ringF f pp).length) (fun (k : Nat) => .int (k : Int)) PV.int (fun (k : Nat) => collP (preF (lineF f S pp) k) (lineF f S pp)) (ev_ty' hC ((lookup_cons_ne (by decide +kernel)).trans lookup_cons_eq) (by kernel_rfl) (evl_cons (ev_bi' hC lookup_cons_eq (by kernel_rfl) (evl_cons (ev_name ((lookup_cons_ne (by decide +kernel)).trans lookup_cons_eq) (by kernel_rfl)) evl_nil) (len_nats ?_)) evl_nil) fn_range1) (fun _ => iter_range1 ?_) (by kernel_rfl) (by kernel_rfl) ?_ (fun C X' a hX ha => (ev_eq ?_ (ev_def' (i := 0) (by decide) rfl (by kernel_rfl) (evl_cons (ev_cut (ev_name ((lookup_cons_ne (by decide +kernel)).trans lookup_cons_eq) (by kernel_rfl)) evp_none (evp_some (ev_name lookup_cons_eq (by kernel_rfl))) evp_none (cut_str ?_)) (evl_cons (ev_name ((lookup_cons_ne (by decide +kernel)).trans lookup_cons_eq) (by kernel_rfl)) evl_nil)) coll_c)))) (ev_binop (ev_listI (evli_cons (ev_unop ev_int una_neg) evli_nil) (by simp)) (ev_bi' hC lookup_cons_eq (by kernel_rfl) (evl_cons (ev_name ((lookup_cons_ne (by decide +kernel)).trans lookup_cons_eq) (by kernel_rfl)) evl_nil) (len_nats ?_)) (mulL_map ?_ ?_ ?_)) cmp_neL))) ?_
  case refine_1 => rw [hG.fronts]; simp
  case refine_4 => rw [List.length_range]; omega
  case refine_5 => rfl
  case refine_6 => exact Nat.le_trans hll (by decide)
  all_goals try first | omega | decide
  
  
  refine exs_cons (ex_assign (ev_eq (q := .bytes (wordF f S pp)) ?_ (ev_ty' hC ((lookup_cons_ne (by decide +kernel)).trans ((lookup_cons_ne (by decide +kernel)).trans lookup_cons_eq)) (by kernel_rfl) (evl_cons (ev_compM (ringF f pp) (fun (k : Nat) => .int (k : Int)) PV.int (fun k => ((sgN f S k : Nat) : Int)) (ev_name ((lookup_cons_ne (by decide +kernel)).trans lookup_cons_eq) (by kernel_rfl)) (fun _ => iter_nats) (by kernel_rfl) (by kernel_rfl) ?_ (fun C X' a hX ha => (ev_eq ?_ (ev_item (ev_name ((lookup_cons_ne (by decide +kernel)).trans ((lookup_cons_ne (by decide +kernel)).trans ((lookup_cons_ne (by decide +kernel)).trans ((lookup_cons_ne (by decide +kernel)).trans ((lookup_cons_ne (by decide +kernel)).trans ((lookup_cons_ne (by decide +kernel)).trans ((lookup_cons_ne (by decide +kernel)).trans ((lookup_cons_ne (by decide +kernel)).trans ((lookup_cons_ne (by decide +kernel)).trans ((lookup_cons_ne (by decide +kernel)).trans ((lookup_cons_ne (by decide +kernel)).trans ((lookup_cons_ne (by decide +kernel)).trans ((lookup_cons_ne (by decide +kernel)).trans lookup_cons_eq))))))))))))) (by kernel_rfl)) (ev_name lookup_cons_eq (by kernel_rfl)) (itm_nats ?_ ?_))))) evl_nil) (fn_bytes_list ?_ ?_))) (by kernel_rfl) (by kernel_rfl)) ?_
  case refine_1 => unfold wordF up; rw [List.map_map]; rfl
  case refine_3 => rfl
  case refine_5 => exact ⟨by have := hrb a ha; omega, by omega⟩
  case refine_6 =>
    intro x hx
    obtain ⟨k, hk, rfl⟩ := List.mem_map.mp hx
    have := hf.sgb' k; omega
  case refine_7 => rw [List.length_map]; omega
  all_goals try omega
  
  
  refine exs_cons (ex_assign (ev_eq (q := .bytes (wordF f S pp).reverse) ?_ (ev_def' (i := 3) (by decide) rfl (by kernel_rfl) (evl_cons (ev_name lookup_cons_eq (by kernel_rfl)) (evl_cons (ev_bi' hC lookup_cons_eq (by kernel_rfl) (evl_cons (ev_name lookup_cons_eq (by kernel_rfl)) evl_nil) (len_bytes' ?_)) evl_nil)) (swap_b (w := (wordF f S pp).length) (m := 1) hC ?_ ?_ ?_ ?_))) (by kernel_rfl) (by kernel_rfl)) ?_
  case refine_1 => rw [swO_one (wordF f S pp) (by omega)]
  all_goals try omega
  
  
  refine exs_cons (ex_cast (q := intsV (anewF (wordF f S pp))) ?_ (ex_compF (rng 1 (((wordF f S pp).length : Int) + 1) 1) PV.int (anewT (wordF f S pp)) PV.int id (ev_ty' hC ((lookup_cons_ne (by decide +kernel)).trans lookup_cons_eq) (by kernel_rfl) (evl_cons ev_int (evl_cons (ev_binop (ev_bi' hC lookup_cons_eq (by kernel_rfl) (evl_cons (ev_name ((lookup_cons_ne (by decide +kernel)).trans lookup_cons_eq) (by kernel_rfl)) evl_nil) (len_bytes' ?_)) ev_int bin_add) evl_nil)) fn_range2) (fun _ => iter_range ?_) (by kernel_rfl) (by kernel_rfl) ?_ (fun C X' a hX ha => ⟨evts_one (evt_eq ?_ (evt_cmp (ev_name ((lookup_cons_ne (by decide +kernel)).trans lookup_cons_eq) (by kernel_rfl)) (ev_binop (ev_cut (ev_name ((lookup_cons_ne (by decide +kernel)).trans ((lookup_cons_ne (by decide +kernel)).trans lookup_cons_eq)) (by kernel_rfl)) (evp_some (ev_name lookup_cons_eq (by kernel_rfl))) evp_none evp_none (cut_bytes ?_)) (ev_cut (ev_name ((lookup_cons_ne (by decide +kernel)).trans ((lookup_cons_ne (by decide +kernel)).trans lookup_cons_eq)) (by kernel_rfl)) evp_none (evp_some (ev_name lookup_cons_eq (by kernel_rfl))) evp_none (cut_bytes ?_)) (bin_addB ?_)) cmp_eqb)), fun ht => (ev_name lookup_cons_eq (by kernel_rfl))⟩) (by kernel_rfl) (by kernel_rfl))) ?_
  case refine_1 => rw [List.map_id]; rfl
  
  case refine_3 => exact small_ok (by omega) (by decide)
  case refine_4 =>
    rw [rng1, List.length_map, List.length_range]; omega
  case refine_5 => rfl
  case refine_8 =>
    have h1 := cutL_len (wordF f S pp) (some a) none
    have h2 := cutL_len (wordF f S pp) none (some a)
    omega
  all_goals try omega
  
  
  refine exs_cons (ex_skip (evt_eq ?_ (evt_cmp (ev_name lookup_cons_eq (by kernel_rfl)) (ev_listI (evli_cons (ev_binop (ev_meth (ev_name ((lookup_cons_ne (by decide +kernel)).trans ((lookup_cons_ne (by decide +kernel)).trans ((lookup_cons_ne (by decide +kernel)).trans ((lookup_cons_ne (by decide +kernel)).trans lookup_cons_eq)))) (by kernel_rfl)) (evl_cons (ev_bi' hC ((lookup_cons_ne (by decide +kernel)).trans ((lookup_cons_ne (by decide +kernel)).trans ((lookup_cons_ne (by decide +kernel)).trans ((lookup_cons_ne (by decide +kernel)).trans ((lookup_cons_ne (by decide +kernel)).trans ((lookup_cons_ne (by decide +kernel)).trans ((lookup_cons_ne (by decide +kernel)).trans lookup_cons_eq))))))) (by kernel_rfl) (evl_cons (ev_compF (ringF f pp) (fun (k : Nat) => .int (k : Int)) (sameT f S pp) PV.int (fun (k : Nat) => (k : Int)) (ev_name ((lookup_cons_ne (by decide +kernel)).trans ((lookup_cons_ne (by decide +kernel)).trans ((lookup_cons_ne (by decide +kernel)).trans ((lookup_cons_ne (by decide +kernel)).trans lookup_cons_eq)))) (by kernel_rfl)) (fun _ => iter_nats) (by kernel_rfl) (by kernel_rfl) ?_ (fun C X' a hX ha => ⟨evts_one (evt_eq ?_ (evt_cmp (ev_item (ev_name ((lookup_cons_ne (by decide +kernel)).trans ((lookup_cons_ne (by decide +kernel)).trans ((lookup_cons_ne (by decide +kernel)).trans ((lookup_cons_ne (by decide +kernel)).trans ((lookup_cons_ne (by decide +kernel)).trans ((lookup_cons_ne (by decide +kernel)).trans ((lookup_cons_ne (by decide +kernel)).trans ((lookup_cons_ne (by decide +kernel)).trans ((lookup_cons_ne (by decide +kernel)).trans ((lookup_cons_ne (by decide +kernel)).trans ((lookup_cons_ne (by decide +kernel)).trans ((lookup_cons_ne (by decide +kernel)).trans ((lookup_cons_ne (by decide +kernel)).trans ((lookup_cons_ne (by decide +kernel)).trans ((lookup_cons_ne (by decide +kernel)).trans ((lookup_cons_ne (by decide +kernel)).trans lookup_cons_eq)))))))))))))))) (by kernel_rfl)) (ev_name lookup_cons_eq (by kernel_rfl)) (itm_nats ?_ ?_)) (ev_item (ev_name ((lookup_cons_ne (by decide +kernel)).trans ((lookup_cons_ne (by decide +kernel)).trans ((lookup_cons_ne (by decide +kernel)).trans lookup_cons_eq))) (by kernel_rfl)) ev_int (itm_bytes ?_ ?_ ?_)) cmp_eq)), fun ht => (ev_name lookup_cons_eq (by kernel_rfl))⟩)) evl_nil) (fn_max (m := (mxF f S pp : Int)) ?_ ?_)) evl_nil) PySem.F.plainAttrs_list PySem.F.slot_list_index PySem.F.type_list_index tyList (fn_index ?_ ?_)) ev_int bin_add) evli_nil) (by simp)) cmp_neL))) ?_
  case refine_1 => rw [hG.anew]; simp
  case refine_3 => rfl
  case refine_5 => exact ⟨by have := hrb a ha; omega, by omega⟩
  all_goals try first | omega | decide
  case refine_9 =>
    exact List.mem_map.mpr ⟨_, hG.mx.1, rfl⟩
  case refine_10 =>
    intro x hx
    obtain ⟨k, hk, rfl⟩ := List.mem_map.mp hx
    have := hG.mx.2 k hk; omega
  case refine_11 =>
    refine lay_small (by rw [List.length_map]; omega) fun n hn => ?_
    obtain ⟨k, hk, rfl⟩ := List.mem_map.mp hn
    have := hrb k hk; omega
  case refine_12 => exact List.mem_map.mpr ⟨_, hG.mxr, rfl⟩
  refine exs_cons (ex_skip (evt_eq ?_ (evt_cmp (ev_bi' hC lookup_cons_eq (by kernel_rfl) (evl_cons (ev_def' (i := 9) (by decide) rfl (by kernel_rfl) (evl_cons (ev_binop (ev_name ((lookup_cons_ne (by decide +kernel)).trans ((lookup_cons_ne (by decide +kernel)).trans lookup_cons_eq)) (by kernel_rfl)) (ev_name ((lookup_cons_ne (by decide +kernel)).trans ((lookup_cons_ne (by decide +kernel)).trans lookup_cons_eq)) (by kernel_rfl)) (bin_addB ?_)) evl_nil) (unturned_c hC ?_)) evl_nil) (len_map ?_)) (ev_binop ev_int (ev_bi' hC lookup_cons_eq (by kernel_rfl) (evl_cons (ev_name ((lookup_cons_ne (by decide +kernel)).trans ((lookup_cons_ne (by decide +kernel)).trans lookup_cons_eq)) (by kernel_rfl)) evl_nil) (len_bytes' ?_)) (bin_mul ?_)) cmp_ne))) exs_nil
  case refine_1 =>
    rw [hG.un]
    simp
  case refine_3 => rw [List.length_append]; omega
  case refine_4 => rw [hG.un]; omega
  all_goals try first | omega | decide
set_option maxHeartbeats 4000000 in
theorem law_5 {K : Around → Prop} {X : Addr → Prop} {s₀ : Shared} {L ad : Addr} {pm code doc : Value} {f S : Nat} {p : PV} (hC : CxOk c) (hf : QF f S) (hr : ∀ p, p < nP f → RF f S p) (hg : ∀ p, p < nP f → mnF f p = p → RG f S p)
    (hrest : ExK K c (n + 4) X s₀ (lawE L ad pm code doc) (ρ20 f S) (lawB.drop 24) p) : ExK K c (n + 4) X s₀ (lawE L ad pm code doc) (ρ20 f S) (lawB.drop 23) p := by
  have lN := nP_le f
  have hsl := hf.sgl S
  have hkl := walksF_len f
  have htl := textsF_len f S
  
  refine exk_cons (ex_for (ev_ty' hC ((lookup_cons_ne (by decide +kernel)).trans lookup_cons_eq) (by kernel_rfl) (evl_cons (ev_name ((lookup_cons_ne (by decide +kernel)).trans ((lookup_cons_ne (by decide +kernel)).trans ((lookup_cons_ne (by decide +kernel)).trans ((lookup_cons_ne (by decide +kernel)).trans ((lookup_cons_ne (by decide +kernel)).trans ((lookup_cons_ne (by decide +kernel)).trans ((lookup_cons_ne (by decide +kernel)).trans ((lookup_cons_ne (by decide +kernel)).trans ((lookup_cons_ne (by decide +kernel)).trans ((lookup_cons_ne (by decide +kernel)).trans ((lookup_cons_ne (by decide +kernel)).trans ((lookup_cons_ne (by decide +kernel)).trans lookup_cons_eq)))))))))))) (by kernel_rfl)) evl_nil) fn_range1) (iter_range1 (m := nP f) (by omega)) (by kernel_rfl) fun i q hq => ?_) hrest
  rw [List.getElem?_map] at hq
  obtain ⟨pp, hpp, rfl⟩ : ∃ pp, pp < nP f ∧ q = .int ((pp : Nat) : Int) := by
    cases e : (List.range (nP f))[i]? with
    | none => rw [e] at hq; cases hq
    | some x => rw [e] at hq; cases hq; exact ⟨x, List.mem_range.mp (List.mem_of_getElem? e), rfl⟩
  have hgp : (walksF f).getD (pp : Int).toNat [] = walkF f pp := walksF_get f pp hpp
  have hkp := walkF_len f pp
  have hR := hr pp hpp
  have hrl := hR.rl
  refine ⟨("ring", natsV (ringF f pp)) :: ("p", .int (pp : Int)) :: ρ20 f S, ?_, fun m r hm _ => drop1 (drop1 hm rfl) rfl⟩
  
  refine exs_cons (ex_assign (ev_eq (q := natsV (ringF f pp)) ?_ (ev_cut (ev_item (ev_name ((lookup_cons_ne (by decide +kernel)).trans ((lookup_cons_ne (by decide +kernel)).trans lookup_cons_eq)) (by kernel_rfl)) (ev_name lookup_cons_eq (by kernel_rfl)) (itm_mapD ([] : List Nat) ?_ ?_)) evp_none (evp_some (ev_binop (ev_meth (ev_cut (ev_item (ev_name ((lookup_cons_ne (by decide +kernel)).trans ((lookup_cons_ne (by decide +kernel)).trans lookup_cons_eq)) (by kernel_rfl)) (ev_name lookup_cons_eq (by kernel_rfl)) (itm_mapD ([] : List Nat) ?_ ?_)) (evp_some ev_int) evp_none evp_none (cut_nats ?_)) (evl_cons (ev_name lookup_cons_eq (by kernel_rfl)) evl_nil) PySem.F.plainAttrs_list PySem.F.slot_list_index PySem.F.type_list_index tyList (fn_index ?_ ?_)) ev_int bin_add)) evp_none (cut_nats ?_))) (by kernel_rfl) (by kernel_rfl)) ?_
  case refine_1 => rw [hgp]; rfl
  all_goals try omega
  case refine_7 =>
    rw [hgp]
    refine lay_small (by rw [List.length_map]; have := cutL_len (walkF f pp) (some 1) none; omega) fun n hn => ?_
    obtain ⟨k, hk, rfl⟩ := List.mem_map.mp hn
    have := hf.walkb hpp k (cutL_mem hk); omega
  case refine_8 => rw [hgp]; exact hR.idx
  case refine_6 => rw [hgp]; omega
  case refine_9 => rw [hgp]; omega
  
  
  refine exs_cons ?_ exs_nil
  by_cases hm : mnF f pp = pp
  all_goals
    have hm1 : ((mnF f pp : Nat) : Int) ∈ up (ringF f pp) := List.mem_map.mpr ⟨_, hR.mn.1, rfl⟩
    have hm2 : ∀ a ∈ up (ringF f pp), ((mnF f pp : Nat) : Int) ≤ a := fun a ha => by
      obtain ⟨k, hk, rfl⟩ := List.mem_map.mp ha
      have := hR.mn.2 k hk; omega
  · refine ex_take (evt_eq ?_ (evt_cmp (ev_bi' hC ((lookup_cons_ne (by decide +kernel)).trans ((lookup_cons_ne (by decide +kernel)).trans ((lookup_cons_ne (by decide +kernel)).trans ((lookup_cons_ne (by decide +kernel)).trans ((lookup_cons_ne (by decide +kernel)).trans ((lookup_cons_ne (by decide +kernel)).trans lookup_cons_eq)))))) (by kernel_rfl) (evl_cons (ev_name lookup_cons_eq (by kernel_rfl)) evl_nil) (fn_min (m := (mnF f pp : Int)) ?_ ?_)) (ev_name ((lookup_cons_ne (by decide +kernel)).trans lookup_cons_eq) (by kernel_rfl)) cmp_eq)) (exs_drop (law_ring hC hf hpp hR (hg pp hpp hm)) fun m r hm _ => drop1 (drop1 (drop1 (drop1 hm rfl) rfl) rfl) rfl)
    · rw [hm]; exact beq_self_eq_true _
    · exact hm1
    · exact hm2
  · refine ex_skip (evt_eq ?_ (evt_cmp (ev_bi' hC ((lookup_cons_ne (by decide +kernel)).trans ((lookup_cons_ne (by decide +kernel)).trans ((lookup_cons_ne (by decide +kernel)).trans ((lookup_cons_ne (by decide +kernel)).trans ((lookup_cons_ne (by decide +kernel)).trans ((lookup_cons_ne (by decide +kernel)).trans lookup_cons_eq)))))) (by kernel_rfl) (evl_cons (ev_name lookup_cons_eq (by kernel_rfl)) evl_nil) (fn_min (m := (mnF f pp : Int)) ?_ ?_)) (ev_name ((lookup_cons_ne (by decide +kernel)).trans lookup_cons_eq) (by kernel_rfl)) cmp_eq))
    · exact beq_eq_false_iff_ne.mpr (by omega)
    · exact hm1
    · exact hm2
end Mine
end

section
open PySem PySem.W PySem.Calls PyProof.Rows
open Sem (wp)
set_option Elab.async false
set_option maxRecDepth 100000
set_option linter.unusedVariables false
namespace Mine
local macro_rules | `(tactic| walk_at "ar") => `(tactic| first | omega | (simp only [List.length_map, List.length_range, List.length_cons, List.length_nil, List.length_append, List.length_reverse, List.length_replicate, Int.toNat_natCast]; omega))
variable {c : Cx} {n : Nat}
set_option maxHeartbeats 4000000 in
theorem law_6 {K : Around → Prop} {X : Addr → Prop} {s₀ : Shared} {L ad : Addr} {pm code doc : Value} {f S : Nat} {p : PV} (hC : CxOk c) (hf : QF f S) (hoct : (octB f).map UInt8.toNat = List.range (nP f))
    (hrest : ExK K c (n + 4) X s₀ (lawE L ad pm code doc) (ρ20 f S) (lawB.drop 25) p) : ExK K c (n + 4) X s₀ (lawE L ad pm code doc) (ρ20 f S) (lawB.drop 24) p := by
  have lN := nP_le f
  have hol := octB_len f
  have h1 := hf.pcWl
  have h2 := hf.pcHl
  have hta : (turnF f).length ≤ 100 := by unfold turnF; rw [List.length_map]; exact h1
  have htb : (backF f).length ≤ 100 := by unfold backF; rw [List.length_map]; exact h2
  
  
  refine exk_cons (ex_skip (evt_eq ?_ (evt_or (evt_cmp (ev_eq (q := natsV (List.range (nP f))) ?_ (ev_ty' hC ((lookup_cons_ne (by decide +kernel)).trans ((lookup_cons_ne (by decide +kernel)).trans ((lookup_cons_ne (by decide +kernel)).trans ((lookup_cons_ne (by decide +kernel)).trans ((lookup_cons_ne (by decide +kernel)).trans ((lookup_cons_ne (by decide +kernel)).trans ((lookup_cons_ne (by decide +kernel)).trans ((lookup_cons_ne (by decide +kernel)).trans ((lookup_cons_ne (by decide +kernel)).trans ((lookup_cons_ne (by decide +kernel)).trans lookup_cons_eq)))))))))) (by kernel_rfl) (evl_cons (ev_name ((lookup_cons_ne (by decide +kernel)).trans ((lookup_cons_ne (by decide +kernel)).trans ((lookup_cons_ne (by decide +kernel)).trans ((lookup_cons_ne (by decide +kernel)).trans ((lookup_cons_ne (by decide +kernel)).trans ((lookup_cons_ne (by decide +kernel)).trans ((lookup_cons_ne (by decide +kernel)).trans lookup_cons_eq))))))) (by kernel_rfl)) evl_nil) (list_bb ?_))) (ev_name ((lookup_cons_ne (by decide +kernel)).trans ((lookup_cons_ne (by decide +kernel)).trans ((lookup_cons_ne (by decide +kernel)).trans ((lookup_cons_ne (by decide +kernel)).trans ((lookup_cons_ne (by decide +kernel)).trans ((lookup_cons_ne (by decide +kernel)).trans ((lookup_cons_ne (by decide +kernel)).trans ((lookup_cons_ne (by decide +kernel)).trans lookup_cons_eq)))))))) (by kernel_rfl)) cmp_neL) (fun _ => (evt_cmp (ev_compF ([(octB f).reverse, homeF f] ++ turnF f ++ backF f) PV.bytes (fun _ => false) PV.int (fun _ => (0 : Int)) (ev_binop (ev_binop (ev_listG (f := PV.bytes) (evg_cons (f := PV.bytes) (ev_name ((lookup_cons_ne (by decide +kernel)).trans ((lookup_cons_ne (by decide +kernel)).trans ((lookup_cons_ne (by decide +kernel)).trans ((lookup_cons_ne (by decide +kernel)).trans ((lookup_cons_ne (by decide +kernel)).trans ((lookup_cons_ne (by decide +kernel)).trans lookup_cons_eq)))))) (by kernel_rfl)) (evg_cons (f := PV.bytes) (ev_name ((lookup_cons_ne (by decide +kernel)).trans ((lookup_cons_ne (by decide +kernel)).trans lookup_cons_eq)) (by kernel_rfl)) (evg_nil (f := PV.bytes)))) (by simp)) (ev_name ((lookup_cons_ne (by decide +kernel)).trans ((lookup_cons_ne (by decide +kernel)).trans ((lookup_cons_ne (by decide +kernel)).trans ((lookup_cons_ne (by decide +kernel)).trans ((lookup_cons_ne (by decide +kernel)).trans lookup_cons_eq))))) (by kernel_rfl)) (addL_map ?_)) (ev_name ((lookup_cons_ne (by decide +kernel)).trans ((lookup_cons_ne (by decide +kernel)).trans ((lookup_cons_ne (by decide +kernel)).trans lookup_cons_eq))) (by kernel_rfl)) (addL_map ?_)) (fun _ => iter_list) (by kernel_rfl) (by kernel_rfl) ?_ (fun C X' a hX ha => ⟨evts_one (evt_eq ?_ (evt_not (evt_valc (ev_bi' hC ((lookup_cons_ne (by decide +kernel)).trans ((lookup_cons_ne (by decide +kernel)).trans ((lookup_cons_ne (by decide +kernel)).trans lookup_cons_eq))) (by kernel_rfl) (evl_cons (ev_name lookup_cons_eq (by kernel_rfl)) (evl_cons (ev_tyname' hC ((lookup_cons_ne (by decide +kernel)).trans ((lookup_cons_ne (by decide +kernel)).trans lookup_cons_eq)) (by kernel_rfl)) evl_nil)) isi_bytes) truth_bool))), fun ht => (absurd ht (by simp))⟩)) (ev_listI evli_nil (by simp)) cmp_neL))))) ?_
  case refine_1 => simp
  case refine_2 =>
    rw [← hoct]
    unfold natsV intsV up
    rw [List.map_map, List.map_map]; rfl
  case refine_4 => show 2 + (turnF f).length ≤ 10000; omega
  case refine_5 => rw [List.length_append]; show 2 + (turnF f).length + _ ≤ 10000; omega
  case refine_6 => rw [List.length_append, List.length_append]; show 2 + (turnF f).length + _ ≤ 10000; omega
  case refine_7 => rfl
  case refine_3 => omega
  exact hrest
noncomputable def TF2 (f : Nat) : Nat := (List.range 12).findIdx fun T => decide (strm (rowP f) none T = none) || decide (T + 1 = nP f)
structure HF (f : Nat) : Prop where
  T : TF2 f ≤ 100
  v : ∀ k, k < TF2 f → strm (rowP f) none k = some (vF f k) ∧ k + 1 ≠ nP f
  vend : strm (rowP f) none (TF2 f) = none ∨ (strm (rowP f) none (TF2 f) = some (vF f (TF2 f)) ∧ TF2 f + 1 = nP f)
  fr : (List.range (if strm (rowP f) none (TF2 f) = none then TF2 f else TF2 f + 1)).map (vF f) = toldF f
set_option maxHeartbeats 4000000 in
theorem law_8 {X : Addr → Prop} {s₀ : Shared} {L ad : Addr} {pm code doc : Value} {f S : Nat} (hC : CxOk c) (hf : PF f) (hh : HF f) :
    ExR c (n + 4) X s₀ (lawE L ad pm code doc) (ρ20 f S) (lawB.drop 26) (.bool true) := by
  have lN := nP_le f
  
  
  refine exr_ret (ev_eq ?_ (ev_cmp (ev_def' (i := 6) (by decide) rfl (by kernel_rfl) (evl_cons (ev_name ((lookup_cons_ne (by decide +kernel)).trans ((lookup_cons_ne (by decide +kernel)).trans ((lookup_cons_ne (by decide +kernel)).trans ((lookup_cons_ne (by decide +kernel)).trans ((lookup_cons_ne (by decide +kernel)).trans ((lookup_cons_ne (by decide +kernel)).trans ((lookup_cons_ne (by decide +kernel)).trans ((lookup_cons_ne (by decide +kernel)).trans ((lookup_cons_ne (by decide +kernel)).trans ((lookup_cons_ne (by decide +kernel)).trans ((lookup_cons_ne (by decide +kernel)).trans lookup_cons_eq))))))))))) (by kernel_rfl)) (evl_cons (ev_name ((lookup_cons_ne (by decide +kernel)).trans ((lookup_cons_ne (by decide +kernel)).trans ((lookup_cons_ne (by decide +kernel)).trans ((lookup_cons_ne (by decide +kernel)).trans ((lookup_cons_ne (by decide +kernel)).trans ((lookup_cons_ne (by decide +kernel)).trans ((lookup_cons_ne (by decide +kernel)).trans ((lookup_cons_ne (by decide +kernel)).trans ((lookup_cons_ne (by decide +kernel)).trans ((lookup_cons_ne (by decide +kernel)).trans ((lookup_cons_ne (by decide +kernel)).trans ((lookup_cons_ne (by decide +kernel)).trans lookup_cons_eq)))))))))))) (by kernel_rfl)) evl_nil)) (front_c (v := vF f) (T := TF2 f) hC hh.T hf.head (by omega) hh.v hh.vend)) (ev_name ((lookup_cons_ne (by decide +kernel)).trans ((lookup_cons_ne (by decide +kernel)).trans ((lookup_cons_ne (by decide +kernel)).trans ((lookup_cons_ne (by decide +kernel)).trans ((lookup_cons_ne (by decide +kernel)).trans ((lookup_cons_ne (by decide +kernel)).trans ((lookup_cons_ne (by decide +kernel)).trans ((lookup_cons_ne (by decide +kernel)).trans ((lookup_cons_ne (by decide +kernel)).trans ((lookup_cons_ne (by decide +kernel)).trans lookup_cons_eq)))))))))) (by kernel_rfl)) cmp_eqL))
  rw [hh.fr]; simp
end Mine
end

section
open PySem PySem.W PySem.Calls PyProof.Rows
open Sem (wp)
set_option Elab.async false
set_option maxRecDepth 100000
set_option linter.unusedVariables false
namespace Mine
local macro_rules | `(tactic| walk_at "ar") => `(tactic| first | omega | (simp only [List.length_map, List.length_range, List.length_cons, List.length_nil, List.length_append, List.length_reverse, List.length_replicate, Int.toNat_natCast]; omega))
variable {c : Cx} {n : Nat}
set_option maxHeartbeats 4000000 in
theorem law_7 {K : Around → Prop} {X : Addr → Prop} {s₀ : Shared} {L ad : Addr} {pm code doc : Value} {f S : Nat} {p : PV} (hC : CxOk c) (hf : PF f) (hK : ∀ A, K A → A.frames = some [lawE L ad pm code doc])
    (hrest : ExK K c (n + 4) X s₀ (lawE L ad pm code doc) (ρ20 f S) (lawB.drop 26) p) : ExK K c (n + 4) X s₀ (lawE L ad pm code doc) (ρ20 f S) (lawB.drop 25) p := by
  have lN := nP_le f
  have hrl := hf.rowl
  
  
  intro A E s hA hKA F
  refine wpS_execs_cons (if_bad hA (ev_front_bad (n := n + 1) (row := [0] ++ rowP f) (many := 1) hC hA (hK A hKA) rfl rfl F rfl (by kernel_rfl) (evl_cons (ev_binop (ev_listI (evli_cons ev_int evli_nil) (by simp)) (ev_name ((lookup_cons_ne (by decide +kernel)).trans ((lookup_cons_ne (by decide +kernel)).trans ((lookup_cons_ne (by decide +kernel)).trans ((lookup_cons_ne (by decide +kernel)).trans ((lookup_cons_ne (by decide +kernel)).trans ((lookup_cons_ne (by decide +kernel)).trans ((lookup_cons_ne (by decide +kernel)).trans ((lookup_cons_ne (by decide +kernel)).trans ((lookup_cons_ne (by decide +kernel)).trans ((lookup_cons_ne (by decide +kernel)).trans ((lookup_cons_ne (by decide +kernel)).trans lookup_cons_eq))))))))))) (by kernel_rfl)) (addL_map ?_)) (evl_cons ev_int evl_nil))) (ev_listG (f := PV.str) (ns := [("invalid grouping" : Str)]) (evg_cons (f := PV.str) ev_str (evg_nil (f := PV.str))) (by simp)) (evt_eq ?_ (evt_cmp (ev_def' (i := 6) (by decide) rfl (by kernel_rfl) (evl_cons (ev_binop (ev_listI (evli_cons ev_int evli_nil) (by simp)) (ev_name ((lookup_cons_ne (by decide +kernel)).trans ((lookup_cons_ne (by decide +kernel)).trans ((lookup_cons_ne (by decide +kernel)).trans ((lookup_cons_ne (by decide +kernel)).trans ((lookup_cons_ne (by decide +kernel)).trans ((lookup_cons_ne (by decide +kernel)).trans ((lookup_cons_ne (by decide +kernel)).trans ((lookup_cons_ne (by decide +kernel)).trans ((lookup_cons_ne (by decide +kernel)).trans ((lookup_cons_ne (by decide +kernel)).trans ((lookup_cons_ne (by decide +kernel)).trans lookup_cons_eq))))))))))) (by kernel_rfl)) (addL_map ?_)) (evl_cons ev_int evl_nil)) (front_c (row := [127] ++ rowP f) (many := 1) (v := fun _ => 0) (T := 0) hC (Nat.zero_le _) (by simp) (Nat.le_refl 1) (fun k hk => absurd hk (Nat.not_lt_zero k)) (.inl (by simp [strm])))) (ev_listI evli_nil (by simp)) cmp_neL)) fun s' F' => hrest A E s' hA hKA F')
  case refine_1 => simp only [List.length_cons, List.length_nil]; omega
  case refine_2 => simp [strm]
  case refine_3 => simp only [List.length_cons, List.length_nil]; omega
end Mine
end

section
open PySem PySem.W PySem.Calls PyProof.Rows
set_option Elab.async false
set_option maxRecDepth 100000
set_option linter.unusedVariables false
namespace Mine
/-- a strictly rising letter map keeps the order of words -/
theorem lex_map {φ : Nat → Nat} (h : ∀ a b, a < b → φ a < φ b) : ∀ a b : List Nat, (a.map φ < b.map φ) ↔ (a < b)
  | [], [] => by simp
  | [], b :: t => by simp
  | a :: r, [] => by simp
  | a :: r, b :: t => by
    rw [List.map_cons, List.map_cons, List.cons_lt_cons_iff, List.cons_lt_cons_iff, lex_map h r t]
    have h1 : φ a < φ b ↔ a < b := ⟨fun x => by
      rcases Nat.lt_trichotomy a b with y | y | y
      · exact y
      · subst y; omega
      · have := h b a y; omega, h a b⟩
    have h2 : φ a = φ b ↔ a = b := ⟨fun x => by
      rcases Nat.lt_trichotomy a b with y | y | y
      · have := h a b y; omega
      · exact y
      · have := h b a y; omega, fun x => x ▸ rfl⟩
    rw [h1, h2]
theorem inj_of_mono {φ : Nat → Nat} (h : ∀ a b, a < b → φ a < φ b) {a b : Nat} (e : φ a = φ b) : a = b := by
  rcases Nat.lt_trichotomy a b with y | y | y
  · have := h a b y; omega
  · exact y
  · have := h b a y; omega
/-- maps that are injective on the members -/
theorem map_inj_on {α β : Type} {ψ : α → β} : ∀ {a b : List α}, (∀ x ∈ a, ∀ y ∈ b, ψ x = ψ y → x = y) → a.map ψ = b.map ψ → a = b
  | [], [], _, _ => rfl
  | [], _ :: _, _, e => by simp at e
  | _ :: _, [], _, e => by simp at e
  | x :: a, y :: b, h, e => by
    simp only [List.map_cons, List.cons.injEq] at e
    rw [h x List.mem_cons_self y List.mem_cons_self e.1, map_inj_on (fun u hu v hv => h u (List.mem_cons_of_mem _ hu) v (List.mem_cons_of_mem _ hv)) e.2]
theorem beq_map {ψ : UInt8 → UInt8} {a b : List UInt8} (h : ∀ x ∈ a, ∀ y ∈ b, ψ x = ψ y → x = y) : (a.map ψ == b.map ψ) = (a == b) := by
  by_cases e : a = b
  · subst e; simp
  · have e2 : a.map ψ ≠ b.map ψ := fun x => e (map_inj_on h x)
    rw [beq_eq_false_iff_ne.mpr e, beq_eq_false_iff_ne.mpr e2]
theorem stripP_map {ψ : UInt8 → UInt8} (b : List UInt8) (w k : Nat) : stripP (b.map ψ) w k = (stripP b w k).map ψ := cutL_map _ _ _
theorem stripP_mem {b : List UInt8} {w k : Nat} {x : UInt8} (h : x ∈ stripP b w k) : x ∈ b := cutL_mem h
theorem unI_mem {b : List UInt8} {w : Nat} {f0 : List (List UInt8)} (h0 : ∀ l ∈ f0, ∀ x ∈ l, x ∈ b) : ∀ k, ∀ l ∈ unI b w f0 k, ∀ x ∈ l, x ∈ b
  | 0 => h0
  | k + 1 => by
    have ih := unI_mem (w := w) h0 k
    rw [unI]
    split
    · intro l hl x hx
      rcases List.mem_append.mp hl with hl | hl
      · exact ih l hl x hx
      · rw [List.mem_singleton] at hl
        subst hl
        exact stripP_mem hx
    · exact ih
theorem unO_mem {b : List UInt8} : ∀ i, ∀ l ∈ unO b i, ∀ x ∈ l, x ∈ b
  | 0 => by intro l hl; cases hl
  | i + 1 => unI_mem (unO_mem i) _
theorem any_map_on {ψ : UInt8 → UInt8} {l : List (List UInt8)} {k : List UInt8} (h : ∀ a ∈ l, ∀ x ∈ a, ∀ y ∈ k, ψ x = ψ y → x = y) : ((l.map (List.map ψ)).any (· == k.map ψ)) = l.any (· == k) := by
  induction l with
  | nil => rfl
  | cons a l ih =>
    rw [List.map_cons, List.any_cons, List.any_cons, ih fun b hb => h b (List.mem_cons_of_mem _ hb), beq_map (h a List.mem_cons_self)]
theorem unI_map {ψ : UInt8 → UInt8} {b : List UInt8} (hψ : ∀ x ∈ b, ∀ y ∈ b, ψ x = ψ y → x = y) {w : Nat} {f0 : List (List UInt8)} (h0 : ∀ l ∈ f0, ∀ x ∈ l, x ∈ b) : ∀ k, unI (b.map ψ) w (f0.map (List.map ψ)) k = (unI b w f0 k).map (List.map ψ)
  | 0 => rfl
  | k + 1 => by
    have ih := unI_map hψ (w := w) h0 k
    have hm := unI_mem (w := w) h0 k
    rw [unI, unI, ih, stripP_map, ← List.map_reverse]
    rw [beq_map (a := (stripP b w k).reverse) (b := stripP b w k) fun x hx y hy => hψ x (stripP_mem (List.mem_reverse.mp hx)) y (stripP_mem hy)]
    rw [any_map_on fun a ha x hx y hy => hψ x (hm a ha x hx) y (stripP_mem hy)]
    split
    · rw [List.map_append]; rfl
    · rfl
theorem unO_map {ψ : UInt8 → UInt8} {b : List UInt8} (hψ : ∀ x ∈ b, ∀ y ∈ b, ψ x = ψ y → x = y) : ∀ i, unO (b.map ψ) i = (unO b i).map (List.map ψ)
  | 0 => rfl
  | i + 1 => by
    rw [unO, unO, unO_map hψ i, List.length_map]
    exact unI_map hψ (unO_mem i) _
theorem anewT_map {ψ : UInt8 → UInt8} {w : List UInt8} (hψ : ∀ x ∈ w, ∀ y ∈ w, ψ x = ψ y → x = y) (k : Int) : anewT (w.map ψ) k = anewT w k := by
  unfold anewT
  rw [cutL_map, cutL_map, ← List.map_append, ← List.map_reverse]
  refine beq_map fun x hx y hy => hψ x (List.mem_reverse.mp hx) y ?_
  rcases List.mem_append.mp hy with h | h <;> exact cutL_mem h
theorem anewF_map {ψ : UInt8 → UInt8} {w : List UInt8} (hψ : ∀ x ∈ w, ∀ y ∈ w, ψ x = ψ y → x = y) : anewF (w.map ψ) = anewF w := by
  unfold anewF
  rw [List.length_map]
  congr 1
  funext k
  exact anewT_map hψ k
theorem collP_map {φ : Nat → Nat} (h : ∀ a b, a < b → φ a < φ b) (a b : List Nat) : collP ⟨(a.map φ).toArray⟩ ⟨(b.map φ).toArray⟩ = collP ⟨a.toArray⟩ ⟨b.toArray⟩ := by
  unfold collP
  have e1 : decide (b.map φ < a.map φ) = decide (b < a) := decide_eq_decide.mpr (lex_map h b a)
  have e2 : decide (a.map φ < b.map φ) = decide (a < b) := decide_eq_decide.mpr (lex_map h a b)
  show b2i (decide (b.map φ < a.map φ)) - b2i (decide (a.map φ < b.map φ)) = b2i (decide (b < a)) - b2i (decide (a < b))
  rw [e1, e2]
end Mine
end

section
open PySem PySem.W PySem.Calls PyProof.Rows
set_option Elab.async false
set_option maxRecDepth 100000
set_option linter.unusedVariables false
namespace Mine
noncomputable def subsE : Nat → List (List Nat)
  | 0 => [[]]
  | k + 1 => subsE k ++ (subsE k).map ((k + 1) :: ·)
noncomputable def allE : List (List Nat) := [5, 6, 7, 8].flatMap fun N => (subsE (N - 1)).map (N :: ·)
noncomputable def nE (E : List Nat) : Nat := E.headD 0
noncomputable def edgE (E : List Nat) : List Nat := (E ++ [0]).reverse
noncomputable def grpE (E : List Nat) : List Nat := (List.range ((edgE E).length - 1)).flatMap fun k => (List.range ((edgE E).getD (k + 1) 0 - (edgE E).getD k 0)).map fun _ => k
noncomputable def octE (E : List Nat) : List UInt8 := octs (up (List.range (nE E)))
noncomputable def pcsE (b : List UInt8) (E : List Nat) : List (List UInt8) := ((List.range E.length).map fun k => cutL b (some ((up E ++ [0]).getD (k + 1) 0)) (some ((up E ++ [0]).getD k 0))).reverse
noncomputable def turnE (E : List Nat) : List (List UInt8) := (pcsE (octE E).reverse E).map List.reverse
noncomputable def backE (E : List Nat) : List (List UInt8) := (pcsE (octE E) E).map List.reverse
noncomputable def wayE (E : List Nat) : List Nat := (turnE E).flatten.map UInt8.toNat
noncomputable def homeE (E : List Nat) : List UInt8 := (backE E).flatten.reverse
noncomputable def walkE (E : List Nat) (p : Nat) : List Nat := walkP (wayE E) p (nE E)
noncomputable def gE (E : List Nat) (x : Nat) : Nat := (grpE E).getD x 0
noncomputable def tE (E : List Nat) (p : Nat) : List Nat := (cutL (walkE E p) none (some (nE E : Int))).map (gE E)
noncomputable def chk1 (E : List Nat) : Bool :=
  Nat.beq (grpE E).length (nE E) && (grpE E).all (fun g => Nat.ble g 7) && (pcsE (octE E).reverse E).all (fun p => Nat.ble 1 p.length && Nat.ble p.length 100) && (pcsE (octE E) E).all (fun p => Nat.ble 1 p.length && Nat.ble p.length 100) &&
  Nat.ble E.length 100 && Nat.beq (turnE E).flatten.length (nE E) && Nat.beq (backE E).flatten.length (nE E) && (wayE E).all (fun x => Nat.blt x (nE E)) && (homeE E).all (fun x => Nat.blt x.toNat (nE E)) &&
  decide ((wayE E).map (fun k => ((homeE E).getD k 0).toNat) = List.range (nE E)) && decide ((grpE E).reverse = (homeE E).map fun x => gE E x.toNat)
noncomputable def collL (a b : List Nat) : Int := b2i (PySem.Spec.ltCps b a) - b2i (PySem.Spec.ltCps a b)
theorem collL_eq (a b : List Nat) : collP ⟨a.toArray⟩ ⟨b.toArray⟩ = collL a b := by
  unfold collP collL
  rw [ltCps_eq, ltCps_eq]
noncomputable def apE (E : List Nat) (p q k : Nat) : Bool := (((walkE E q).getD k 0 : Nat) : Int) - (((walkE E p).getD k 0 : Nat) : Int) != (q : Int) - (p : Int)
noncomputable def dueE (E : List Nat) (p q : Nat) : Int := if (List.range (nE E + 1)).all (fun k => !apE E p q k) then 0 else -1
noncomputable def chk2 (E : List Nat) : Bool :=
  (List.range (nE E)).all fun q => (List.range (q + 1)).all fun p => decide (collL (tE E p) (tE E q) = dueE E p q)
noncomputable def idxE (E : List Nat) (p : Nat) : Nat := (up (cutL (walkE E p) (some 1) none)).idxOf (p : Int)
noncomputable def ringE (E : List Nat) (p : Nat) : List Nat := cutL (walkE E p) none (some ((idxE E p : Int) + 1))
noncomputable def mnE (E : List Nat) (p : Nat) : Nat := (ringE E p).foldr min 1000
noncomputable def lnE (E : List Nat) (p : Nat) : List Nat := cutL (tE E p) none (some ((ringE E p).length : Int))
noncomputable def wdE (E : List Nat) (p : Nat) : List UInt8 := octs (up ((ringE E p).map (gE E)))
noncomputable def smE (E : List Nat) (p : Nat) : List Nat := (ringE E p).filter fun k => Nat.beq (gE E k) (((ringE E p).map (gE E)).getD 0 0)
noncomputable def mxE (E : List Nat) (p : Nat) : Nat := (smE E p).foldr max 0
noncomputable def chk3 (E : List Nat) (p : Nat) : Bool :=
  decide ((p : Int) ∈ up (cutL (walkE E p) (some 1) none)) && Nat.ble 1 (ringE E p).length && Nat.ble (ringE E p).length 8 && decide (mnE E p ∈ ringE E p) && (ringE E p).all (fun x => Nat.ble (mnE E p) x) &&
  (!(Nat.beq (mnE E p) p) ||
    (decide (((List.range (ringE E p).length).map fun (k : Nat) => collL (lnE E p) (cutL (lnE E p) (some (k : Int)) none)) = [0] ++ (List.replicate (((ringE E p).length : Int) - 1).toNat [-1]).flatten) &&
     decide (((List.range (ringE E p).length).map fun (k : Nat) => collL (cutL (lnE E p) none (some (k : Int))) (lnE E p)) = (List.replicate ((ringE E p).length : Int).toNat [-1]).flatten) &&
     decide (mxE E p ∈ smE E p) && (smE E p).all (fun x => Nat.ble x (mxE E p)) &&
     decide (anewF (wdE E p) = [(((up (ringE E p)).idxOf (mxE E p : Int) : Nat) : Int) + 1]) &&
     Nat.beq (unO (wdE E p ++ wdE E p) (wdE E p ++ wdE E p).length).length (2 * (wdE E p).length)))
end Mine
end

section
open PySem PySem.W PySem.Calls PyProof.Rows
set_option Elab.async false
set_option maxRecDepth 100000
set_option linter.unusedVariables false
namespace Mine
theorem mem_subsE : ∀ (k : Nat) (l : List Nat), l.Pairwise (· > ·) → (∀ x ∈ l, 1 ≤ x ∧ x ≤ k) → l ∈ subsE k
  | 0, [], _, _ => by simp [subsE]
  | 0, x :: l, _, h => by have := h x List.mem_cons_self; omega
  | k + 1, l, hp, h => by
    rw [subsE, List.mem_append]
    by_cases hk : ∀ x ∈ l, x ≤ k
    · exact .inl (mem_subsE k l hp fun x hx => ⟨(h x hx).1, hk x hx⟩)
    · refine .inr ?_
      cases l with
      | nil => exact absurd (fun x hx => nomatch hx) hk
      | cons y r =>
        have hy := h y List.mem_cons_self
        have hr := List.pairwise_cons.mp hp
        have e : y = k + 1 := by
          by_cases hyk : y ≤ k
          · refine absurd (fun x hx => ?_) hk
            rcases List.mem_cons.mp hx with rfl | hx
            · exact hyk
            · have := hr.1 x hx; omega
          · omega
        subst e
        refine List.mem_map.mpr ⟨r, mem_subsE k r hr.2 fun x hx => ⟨(h x (List.mem_cons_of_mem _ hx)).1, ?_⟩, rfl⟩
        have := hr.1 x hx; omega
theorem mem_allE {N : Nat} {l : List Nat} (hN : 5 ≤ N ∧ N ≤ 8) (hp : l.Pairwise (· > ·)) (h : ∀ x ∈ l, 1 ≤ x ∧ x ≤ N - 1) : N :: l ∈ allE := by
  unfold allE
  refine List.mem_flatMap.mpr ⟨N, ?_, List.mem_map.mpr ⟨l, mem_subsE _ l hp h, rfl⟩⟩
  simp; omega
/-- the ends, as naturals -/
noncomputable def eF (f : Nat) : List Nat := (endsP (nP f) (vF f) (TF f)).map Int.toNat
noncomputable def descE : List Nat → Bool
  | [] => true
  | [x] => Nat.ble 1 x
  | x :: y :: r => Nat.blt y x && descE (y :: r)
theorem descE_ok : ∀ l : List Nat, descE l = true → l.Pairwise (· > ·) ∧ ∀ x ∈ l, 1 ≤ x
  | [], _ => by simp
  | [x], h => by
    have : 1 ≤ x := Nat.le_of_ble_eq_true h
    simpa using this
  | x :: y :: r, h => by
    have h' : (Nat.blt y x && descE (y :: r)) = true := h
    rw [Bool.and_eq_true] at h'
    have hyx : y < x := Nat.le_of_ble_eq_true h'.1
    obtain ⟨i1, i2⟩ := descE_ok (y :: r) h'.2
    refine ⟨List.pairwise_cons.mpr ⟨fun z hz => ?_, i1⟩, fun z hz => ?_⟩
    · rcases List.mem_cons.mp hz with rfl | hz
      · exact hyx
      · have := (List.pairwise_cons.mp i1).1 z hz; show z < x; omega
    · rcases List.mem_cons.mp hz with rfl | hz
      · have := i2 y List.mem_cons_self; omega
      · exact i2 z hz
noncomputable def chkF (f : Nat) : Bool :=
  Nat.ble (rowP f).length 50 && Nat.ble (toldF f).length 50 && decide ((rowP f).head? ≠ some 0) && Nat.ble (TF f) 20 && Nat.ble (TF2 f) 20 &&
  (List.range (TF f)).all (fun k => decide (strm (rowP f) none k = some (vF f k)) && decide (vF f k < lastE (nP f) (vF f) k)) &&
  (match strm (rowP f) none (TF f) with | none => true | some x => decide (lastE (nP f) (vF f) (TF f) ≤ x)) &&
  decide (endsP (nP f) (vF f) (TF f) = up (eF f)) && descE (eF f) && Nat.beq (nE (eF f)) (nP f) && decide (edgF f = up (edgE (eF f))) &&
  (List.range (TF2 f)).all (fun k => decide (strm (rowP f) none k = some (vF f k)) && !Nat.beq (k + 1) (nP f)) &&
  (match strm (rowP f) none (TF2 f) with | none => decide ((List.range (TF2 f)).map (vF f) = toldF f) | some _ => Nat.beq (TF2 f + 1) (nP f) && decide ((List.range (TF2 f + 1)).map (vF f) = toldF f))
end Mine
end

section
open PySem PySem.W PySem.Calls PyProof.Rows
set_option Elab.async false
set_option maxRecDepth 100000
set_option linter.unusedVariables false
namespace Mine
/-- the lists of ends that occur, as bits -/
noncomputable def mE (E : List Nat) : Nat := E.foldr (fun x a => Nat.add (Nat.pow 2 x) a) 0
noncomputable def okE (E : List Nat) : Bool := Nat.beq (Nat.land (Nat.shiftRight 3351951986388656896185331688270277680024955666475476059181254941524380264584056916826843921363524348122738638236583402185008387165428208797556186726531072 (mE E)) 1) 1
noncomputable def chkG (f : Nat) : Bool := chkF f && okE (eF f)
noncomputable def allO : List (List Nat) := allE.filter okE
theorem chkF_congr {f g : Nat} (h1 : rowP f = rowP g) (h2 : nP f = nP g) : chkG f = chkG g := by
  unfold chkG chkF eF edgF msF toldF TF TF2 vF
  rw [h1, h2]
theorem rowP_mod (f : Nat) : rowP f = rowP (f % 1728) := by
  unfold rowP rowA rowB
  have e1 : f / 4 % 3 = f % 1728 / 4 % 3 := by omega
  have e2 : f / 12 % 6 = f % 1728 / 12 % 6 := by omega
  have e3 : f / 72 % 6 = f % 1728 / 72 % 6 := by omega
  have e4 : f / 432 % 4 = f % 1728 / 432 % 4 := by omega
  rw [e1, e2, e3, e4]
theorem nP_mod (f : Nat) : nP f = nP (f % 1728) := by unfold nP; omega
theorem ckF0 : (List.range 144).all (fun k => chkG (0 + k)) = true := by decide +kernel
theorem ckF1 : (List.range 144).all (fun k => chkG (144 + k)) = true := by decide +kernel
theorem ckF2 : (List.range 144).all (fun k => chkG (288 + k)) = true := by decide +kernel
theorem ckF3 : (List.range 144).all (fun k => chkG (432 + k)) = true := by decide +kernel
theorem ckF4 : (List.range 144).all (fun k => chkG (576 + k)) = true := by decide +kernel
theorem ckF5 : (List.range 144).all (fun k => chkG (720 + k)) = true := by decide +kernel
theorem ckF6 : (List.range 144).all (fun k => chkG (864 + k)) = true := by decide +kernel
theorem ckF7 : (List.range 144).all (fun k => chkG (1008 + k)) = true := by decide +kernel
theorem ckF8 : (List.range 144).all (fun k => chkG (1152 + k)) = true := by decide +kernel
theorem ckF9 : (List.range 144).all (fun k => chkG (1296 + k)) = true := by decide +kernel
theorem ckF10 : (List.range 144).all (fun k => chkG (1440 + k)) = true := by decide +kernel
theorem ckF11 : (List.range 144).all (fun k => chkG (1584 + k)) = true := by decide +kernel
theorem chkG_all (f : Nat) : chkG f = true := by
  rw [chkF_congr (rowP_mod f) (nP_mod f)]
  have hlt : f % 1728 < 1728 := Nat.mod_lt _ (by decide)
  have h144 : f % 1728 % 144 < 144 := Nat.mod_lt _ (by decide)
  have he : f % 1728 = 144 * (f % 1728 / 144) + f % 1728 % 144 := by omega
  have hq : f % 1728 / 144 < 12 := by omega
  have get : ∀ {m : Nat}, (List.range 144).all (fun k => chkG (m + k)) = true → chkG (m + f % 1728 % 144) = true := fun h => List.all_eq_true.mp h _ (List.mem_range.mpr h144)
  rw [he]
  generalize f % 1728 / 144 = q at hq
  match q, hq with
  | 0, _ => exact get ckF0
  | 1, _ => exact get ckF1
  | 2, _ => exact get ckF2
  | 3, _ => exact get ckF3
  | 4, _ => exact get ckF4
  | 5, _ => exact get ckF5
  | 6, _ => exact get ckF6
  | 7, _ => exact get ckF7
  | 8, _ => exact get ckF8
  | 9, _ => exact get ckF9
  | 10, _ => exact get ckF10
  | 11, _ => exact get ckF11
theorem chkF_all (f : Nat) : chkF f = true := (Bool.and_eq_true_iff.mp (chkG_all f)).1
theorem allE_mem0 (f : Nat) : eF f ∈ allE := by
  have h := chkF_all f
  unfold chkF at h
  simp only [Bool.and_eq_true] at h
  have hd := descE_ok _ h.1.1.1.1.2
  have hn : nE (eF f) = nP f := Nat.eq_of_beq_eq_true h.1.1.1.2
  have hN := nP_le f
  cases e : eF f with
  | nil => rw [e] at hn; unfold nE at hn; simp at hn; omega
  | cons N l =>
    rw [e] at hn hd
    have hn' : N = nP f := hn
    have hp := List.pairwise_cons.mp hd.1
    refine mem_allE (by omega) hp.2 fun x hx => ⟨hd.2 x (List.mem_cons_of_mem _ hx), ?_⟩
    have : x < N := hp.1 x hx
    omega
theorem allE_mem (f : Nat) : eF f ∈ allO := List.mem_filter.mpr ⟨allE_mem0 f, (Bool.and_eq_true_iff.mp (chkG_all f)).2⟩
end Mine
end

section
open PySem PySem.W PySem.Calls PyProof.Rows
set_option Elab.async false
set_option maxRecDepth 100000
set_option linter.unusedVariables false
namespace Mine
theorem eF_parts (f : Nat) : nE (eF f) = nP f ∧ endsP (nP f) (vF f) (TF f) = up (eF f) ∧ edgF f = up (edgE (eF f)) := by
  have h := chkF_all f
  unfold chkF at h
  simp only [Bool.and_eq_true, decide_eq_true_eq] at h
  exact ⟨Nat.eq_of_beq_eq_true h.1.1.1.2, h.1.1.1.1.1.2, h.1.1.2⟩
theorem up_getD (l : List Nat) (k : Nat) : (up l).getD k 0 = ((l.getD k 0 : Nat) : Int) := by
  rw [List.getD_eq_getElem?_getD, List.getElem?_map, List.getD_eq_getElem?_getD]
  cases l[k]? <;> rfl
theorem octE_eq (f : Nat) : octB f = octE (eF f) := by
  unfold octB octE; rw [(eF_parts f).1]
theorem eF_len (f : Nat) : TF f + 1 = (eF f).length := by
  have h := congrArg List.length (eF_parts f).2.1
  unfold endsP at h
  rw [List.length_map, List.length_map, List.length_range] at h
  exact h
theorem pcs_eq {b : List UInt8} {f : Nat} (hb : b.length = nP f) : piecesP b (vF f) (TF f) = pcsE b (eF f) := by
  unfold piecesP pcsE
  rw [hb, (eF_parts f).2.1, eF_len]
theorem pcW_eq (f : Nat) : pcW f = pcsE (octE (eF f)).reverse (eF f) := by
  unfold pcW
  rw [pcs_eq (by rw [List.length_reverse, octB_len]), octE_eq]
theorem pcH_eq (f : Nat) : pcH f = pcsE (octE (eF f)) (eF f) := by
  unfold pcH
  rw [pcs_eq (octB_len f), octE_eq]
theorem turn_eq (f : Nat) : turnF f = turnE (eF f) := by unfold turnF turnE; rw [pcW_eq]
theorem back_eq (f : Nat) : backF f = backE (eF f) := by unfold backF backE; rw [pcH_eq]
theorem way_eq (f : Nat) : wayF f = wayE (eF f) := by unfold wayF wayE; rw [turn_eq]
theorem home_eq (f : Nat) : homeF f = homeE (eF f) := by unfold homeF homeE; rw [back_eq]
theorem walk_eq (f p : Nat) : walkF f p = walkE (eF f) p := by unfold walkF walkE; rw [way_eq, (eF_parts f).1]
theorem grp_eq (f : Nat) : grpF f = grpE (eF f) := by
  unfold grpF grpE
  have hl : (edgF f).length = (edgE (eF f)).length := by rw [(eF_parts f).2.2]; unfold up; rw [List.length_map]
  rw [hl]
  congr 1
  funext k
  have : widF f k = (edgE (eF f)).getD (k + 1) 0 - (edgE (eF f)).getD k 0 := by
    unfold widF
    rw [(eF_parts f).2.2, up_getD, up_getD]; omega
  rw [this]
theorem idx_eq (f p : Nat) : idxF f p = idxE (eF f) p := by unfold idxF idxE; rw [walk_eq]
theorem ring_eq (f p : Nat) : ringF f p = ringE (eF f) p := by unfold ringF ringE; rw [walk_eq, idx_eq]
theorem mn_eq (f p : Nat) : mnF f p = mnE (eF f) p := by unfold mnF mnE; rw [ring_eq]
theorem ap_eq (f p q k : Nat) : apT f p q k = apE (eF f) p q k := by unfold apT apE; rw [walk_eq, walk_eq]
theorem due_eq (f p q : Nat) : dueF f p q = dueE (eF f) p q := by
  unfold dueF dueE apartF
  have hn := (eF_parts f).1
  rw [hn]
  have e : ((List.range (nP f + 1)).filter (apT f p q) = []) ↔ ((List.range (nP f + 1)).all (fun k => !apE (eF f) p q k) = true) := by
    rw [List.filter_eq_nil_iff, List.all_eq_true]
    constructor
    · intro h k hk
      have := h k hk
      rw [ap_eq] at this
      simpa using this
    · intro h k hk
      have := h k hk
      rw [ap_eq]
      simpa using this
  by_cases h : (List.range (nP f + 1)).filter (apT f p q) = []
  · rw [if_pos h, if_pos (e.mp h)]
  · rw [if_neg h, if_neg fun x => h (e.mpr x)]
end Mine
end

section
open PySem PySem.W PySem.Calls PyProof.Rows
set_option Elab.async false
set_option maxRecDepth 100000
set_option linter.unusedVariables false
namespace Mine
/- the checks, with the way and the groups written out -/
noncomputable def walkW (W : List Nat) (N p : Nat) : List Nat := walkP W p N
noncomputable def tW (W G : List Nat) (N p : Nat) : List Nat := (cutL (walkW W N p) none (some (N : Int))).map (fun x => G.getD x 0)
noncomputable def apW (W : List Nat) (N p q k : Nat) : Bool := (((walkW W N q).getD k 0 : Nat) : Int) - (((walkW W N p).getD k 0 : Nat) : Int) != (q : Int) - (p : Int)
noncomputable def dueW (W : List Nat) (N p q : Nat) : Int := if (List.range (N + 1)).all (fun k => !apW W N p q k) then 0 else -1
noncomputable def chk2W (W G : List Nat) (N : Nat) : Bool :=
  (List.range N).all fun q => (List.range (q + 1)).all fun p => decide (collL (tW W G N p) (tW W G N q) = dueW W N p q)
noncomputable def idxW (W : List Nat) (N p : Nat) : Nat := (up (cutL (walkW W N p) (some 1) none)).idxOf (p : Int)
noncomputable def ringW (W : List Nat) (N p : Nat) : List Nat := cutL (walkW W N p) none (some ((idxW W N p : Int) + 1))
noncomputable def mnW (W : List Nat) (N p : Nat) : Nat := (ringW W N p).foldr min 1000
noncomputable def lnW (W G : List Nat) (N p : Nat) : List Nat := cutL (tW W G N p) none (some ((ringW W N p).length : Int))
noncomputable def wdW (W G : List Nat) (N p : Nat) : List UInt8 := octs (up ((ringW W N p).map fun x => G.getD x 0))
noncomputable def smW (W G : List Nat) (N p : Nat) : List Nat := (ringW W N p).filter fun k => Nat.beq (G.getD k 0) (((ringW W N p).map fun x => G.getD x 0).getD 0 0)
noncomputable def mxW (W G : List Nat) (N p : Nat) : Nat := (smW W G N p).foldr max 0
noncomputable def chk3W (W G : List Nat) (N p : Nat) : Bool :=
  decide ((p : Int) ∈ up (cutL (walkW W N p) (some 1) none)) && Nat.ble 1 (ringW W N p).length && Nat.ble (ringW W N p).length 8 && decide (mnW W N p ∈ ringW W N p) && (ringW W N p).all (fun x => Nat.ble (mnW W N p) x) &&
  (!(Nat.beq (mnW W N p) p) ||
    (decide (((List.range (ringW W N p).length).map fun (k : Nat) => collL (lnW W G N p) (cutL (lnW W G N p) (some (k : Int)) none)) = [0] ++ (List.replicate (((ringW W N p).length : Int) - 1).toNat [-1]).flatten) &&
     decide (((List.range (ringW W N p).length).map fun (k : Nat) => collL (cutL (lnW W G N p) none (some (k : Int))) (lnW W G N p)) = (List.replicate ((ringW W N p).length : Int).toNat [-1]).flatten) &&
     decide (mxW W G N p ∈ smW W G N p) && (smW W G N p).all (fun x => Nat.ble x (mxW W G N p)) &&
     decide (anewF (wdW W G N p) = [(((up (ringW W N p)).idxOf (mxW W G N p : Int) : Nat) : Int) + 1]) &&
     Nat.beq (unO (wdW W G N p ++ wdW W G N p) (wdW W G N p ++ wdW W G N p).length).length (2 * (wdW W G N p).length)))
theorem chk2_W (E : List Nat) : chk2 E = chk2W (wayE E) (grpE E) (nE E) := rfl
theorem chk3_W (E : List Nat) (p : Nat) : chk3 E p = chk3W (wayE E) (grpE E) (nE E) p := rfl
noncomputable def tabE : List (List Nat × List Nat × List Nat) := [
  ([5, 2], [3, 4, 0, 1, 2], [0, 0, 1, 1, 1]),
  ([5, 2, 1], [4, 3, 0, 1, 2], [0, 1, 2, 2, 2]),
  ([5, 3], [2, 3, 4, 0, 1], [0, 0, 0, 1, 1]),
  ([5, 3, 1], [4, 2, 3, 0, 1], [0, 1, 1, 2, 2]),
  ([5, 3, 2], [3, 4, 2, 0, 1], [0, 0, 1, 2, 2]),
  ([5, 3, 2, 1], [4, 3, 2, 0, 1], [0, 1, 2, 3, 3]),
  ([5, 4], [1, 2, 3, 4, 0], [0, 0, 0, 0, 1]),
  ([5, 4, 1], [4, 1, 2, 3, 0], [0, 1, 1, 1, 2]),
  ([5, 4, 2], [3, 4, 1, 2, 0], [0, 0, 1, 1, 2]),
  ([5, 4, 2, 1], [4, 3, 1, 2, 0], [0, 1, 2, 2, 3]),
  ([5, 4, 3], [2, 3, 4, 1, 0], [0, 0, 0, 1, 2]),
  ([5, 4, 3, 1], [4, 2, 3, 1, 0], [0, 1, 1, 2, 3]),
  ([5, 4, 3, 2], [3, 4, 2, 1, 0], [0, 0, 1, 2, 3]),
  ([5, 4, 3, 2, 1], [4, 3, 2, 1, 0], [0, 1, 2, 3, 4]),
  ([6, 3], [3, 4, 5, 0, 1, 2], [0, 0, 0, 1, 1, 1]),
  ([6, 3, 1], [5, 3, 4, 0, 1, 2], [0, 1, 1, 2, 2, 2]),
  ([6, 3, 2], [4, 5, 3, 0, 1, 2], [0, 0, 1, 2, 2, 2]),
  ([6, 3, 2, 1], [5, 4, 3, 0, 1, 2], [0, 1, 2, 3, 3, 3]),
  ([6, 4], [2, 3, 4, 5, 0, 1], [0, 0, 0, 0, 1, 1]),
  ([6, 4, 1], [5, 2, 3, 4, 0, 1], [0, 1, 1, 1, 2, 2]),
  ([6, 4, 2], [4, 5, 2, 3, 0, 1], [0, 0, 1, 1, 2, 2]),
  ([6, 4, 2, 1], [5, 4, 2, 3, 0, 1], [0, 1, 2, 2, 3, 3]),
  ([6, 4, 3], [3, 4, 5, 2, 0, 1], [0, 0, 0, 1, 2, 2]),
  ([6, 4, 3, 1], [5, 3, 4, 2, 0, 1], [0, 1, 1, 2, 3, 3]),
  ([6, 4, 3, 2], [4, 5, 3, 2, 0, 1], [0, 0, 1, 2, 3, 3]),
  ([6, 4, 3, 2, 1], [5, 4, 3, 2, 0, 1], [0, 1, 2, 3, 4, 4]),
  ([6, 5], [1, 2, 3, 4, 5, 0], [0, 0, 0, 0, 0, 1]),
  ([6, 5, 1], [5, 1, 2, 3, 4, 0], [0, 1, 1, 1, 1, 2]),
  ([6, 5, 2], [4, 5, 1, 2, 3, 0], [0, 0, 1, 1, 1, 2]),
  ([6, 5, 2, 1], [5, 4, 1, 2, 3, 0], [0, 1, 2, 2, 2, 3]),
  ([6, 5, 3], [3, 4, 5, 1, 2, 0], [0, 0, 0, 1, 1, 2]),
  ([6, 5, 3, 1], [5, 3, 4, 1, 2, 0], [0, 1, 1, 2, 2, 3]),
  ([6, 5, 3, 2], [4, 5, 3, 1, 2, 0], [0, 0, 1, 2, 2, 3]),
  ([6, 5, 3, 2, 1], [5, 4, 3, 1, 2, 0], [0, 1, 2, 3, 3, 4]),
  ([6, 5, 4], [2, 3, 4, 5, 1, 0], [0, 0, 0, 0, 1, 2]),
  ([6, 5, 4, 1], [5, 2, 3, 4, 1, 0], [0, 1, 1, 1, 2, 3]),
  ([6, 5, 4, 2], [4, 5, 2, 3, 1, 0], [0, 0, 1, 1, 2, 3]),
  ([6, 5, 4, 2, 1], [5, 4, 2, 3, 1, 0], [0, 1, 2, 2, 3, 4]),
  ([6, 5, 4, 3], [3, 4, 5, 2, 1, 0], [0, 0, 0, 1, 2, 3]),
  ([6, 5, 4, 3, 2, 1], [5, 4, 3, 2, 1, 0], [0, 1, 2, 3, 4, 5]),
  ([7, 4], [3, 4, 5, 6, 0, 1, 2], [0, 0, 0, 0, 1, 1, 1]),
  ([7, 4, 1], [6, 3, 4, 5, 0, 1, 2], [0, 1, 1, 1, 2, 2, 2]),
  ([7, 4, 2], [5, 6, 3, 4, 0, 1, 2], [0, 0, 1, 1, 2, 2, 2]),
  ([7, 4, 2, 1], [6, 5, 3, 4, 0, 1, 2], [0, 1, 2, 2, 3, 3, 3]),
  ([7, 4, 3], [4, 5, 6, 3, 0, 1, 2], [0, 0, 0, 1, 2, 2, 2]),
  ([7, 4, 3, 1], [6, 4, 5, 3, 0, 1, 2], [0, 1, 1, 2, 3, 3, 3]),
  ([7, 4, 3, 2], [5, 6, 4, 3, 0, 1, 2], [0, 0, 1, 2, 3, 3, 3]),
  ([7, 4, 3, 2, 1], [6, 5, 4, 3, 0, 1, 2], [0, 1, 2, 3, 4, 4, 4]),
  ([7, 5], [2, 3, 4, 5, 6, 0, 1], [0, 0, 0, 0, 0, 1, 1]),
  ([7, 5, 1], [6, 2, 3, 4, 5, 0, 1], [0, 1, 1, 1, 1, 2, 2]),
  ([7, 5, 2], [5, 6, 2, 3, 4, 0, 1], [0, 0, 1, 1, 1, 2, 2]),
  ([7, 5, 2, 1], [6, 5, 2, 3, 4, 0, 1], [0, 1, 2, 2, 2, 3, 3]),
  ([7, 5, 3], [4, 5, 6, 2, 3, 0, 1], [0, 0, 0, 1, 1, 2, 2]),
  ([7, 5, 3, 1], [6, 4, 5, 2, 3, 0, 1], [0, 1, 1, 2, 2, 3, 3]),
  ([7, 5, 3, 2], [5, 6, 4, 2, 3, 0, 1], [0, 0, 1, 2, 2, 3, 3]),
  ([7, 5, 3, 2, 1], [6, 5, 4, 2, 3, 0, 1], [0, 1, 2, 3, 3, 4, 4]),
  ([7, 5, 4], [3, 4, 5, 6, 2, 0, 1], [0, 0, 0, 0, 1, 2, 2]),
  ([7, 5, 4, 1], [6, 3, 4, 5, 2, 0, 1], [0, 1, 1, 1, 2, 3, 3]),
  ([7, 5, 4, 2], [5, 6, 3, 4, 2, 0, 1], [0, 0, 1, 1, 2, 3, 3]),
  ([7, 5, 4, 2, 1], [6, 5, 3, 4, 2, 0, 1], [0, 1, 2, 2, 3, 4, 4]),
  ([7, 5, 4, 3], [4, 5, 6, 3, 2, 0, 1], [0, 0, 0, 1, 2, 3, 3]),
  ([7, 5, 4, 3, 2, 1], [6, 5, 4, 3, 2, 0, 1], [0, 1, 2, 3, 4, 5, 5]),
  ([7, 6], [1, 2, 3, 4, 5, 6, 0], [0, 0, 0, 0, 0, 0, 1]),
  ([7, 6, 2], [5, 6, 1, 2, 3, 4, 0], [0, 0, 1, 1, 1, 1, 2]),
  ([7, 6, 2, 1], [6, 5, 1, 2, 3, 4, 0], [0, 1, 2, 2, 2, 2, 3]),
  ([7, 6, 3], [4, 5, 6, 1, 2, 3, 0], [0, 0, 0, 1, 1, 1, 2]),
  ([7, 6, 3, 1], [6, 4, 5, 1, 2, 3, 0], [0, 1, 1, 2, 2, 2, 3]),
  ([7, 6, 3, 2], [5, 6, 4, 1, 2, 3, 0], [0, 0, 1, 2, 2, 2, 3]),
  ([7, 6, 3, 2, 1], [6, 5, 4, 1, 2, 3, 0], [0, 1, 2, 3, 3, 3, 4]),
  ([7, 6, 4], [3, 4, 5, 6, 1, 2, 0], [0, 0, 0, 0, 1, 1, 2]),
  ([7, 6, 4, 1], [6, 3, 4, 5, 1, 2, 0], [0, 1, 1, 1, 2, 2, 3]),
  ([7, 6, 4, 2], [5, 6, 3, 4, 1, 2, 0], [0, 0, 1, 1, 2, 2, 3]),
  ([7, 6, 4, 2, 1], [6, 5, 3, 4, 1, 2, 0], [0, 1, 2, 2, 3, 3, 4]),
  ([7, 6, 4, 3], [4, 5, 6, 3, 1, 2, 0], [0, 0, 0, 1, 2, 2, 3]),
  ([7, 6, 4, 3, 2, 1], [6, 5, 4, 3, 1, 2, 0], [0, 1, 2, 3, 4, 4, 5]),
  ([7, 6, 5], [2, 3, 4, 5, 6, 1, 0], [0, 0, 0, 0, 0, 1, 2]),
  ([7, 6, 5, 1], [6, 2, 3, 4, 5, 1, 0], [0, 1, 1, 1, 1, 2, 3]),
  ([7, 6, 5, 2], [5, 6, 2, 3, 4, 1, 0], [0, 0, 1, 1, 1, 2, 3]),
  ([7, 6, 5, 2, 1], [6, 5, 2, 3, 4, 1, 0], [0, 1, 2, 2, 2, 3, 4]),
  ([7, 6, 5, 3], [4, 5, 6, 2, 3, 1, 0], [0, 0, 0, 1, 1, 2, 3]),
  ([7, 6, 5, 3, 1], [6, 4, 5, 2, 3, 1, 0], [0, 1, 1, 2, 2, 3, 4]),
  ([7, 6, 5, 3, 2, 1], [6, 5, 4, 2, 3, 1, 0], [0, 1, 2, 3, 3, 4, 5]),
  ([7, 6, 5, 4], [3, 4, 5, 6, 2, 1, 0], [0, 0, 0, 0, 1, 2, 3]),
  ([7, 6, 5, 4, 3, 2, 1], [6, 5, 4, 3, 2, 1, 0], [0, 1, 2, 3, 4, 5, 6]),
  ([8, 5], [3, 4, 5, 6, 7, 0, 1, 2], [0, 0, 0, 0, 0, 1, 1, 1]),
  ([8, 5, 1], [7, 3, 4, 5, 6, 0, 1, 2], [0, 1, 1, 1, 1, 2, 2, 2]),
  ([8, 5, 2], [6, 7, 3, 4, 5, 0, 1, 2], [0, 0, 1, 1, 1, 2, 2, 2]),
  ([8, 5, 2, 1], [7, 6, 3, 4, 5, 0, 1, 2], [0, 1, 2, 2, 2, 3, 3, 3]),
  ([8, 5, 3], [5, 6, 7, 3, 4, 0, 1, 2], [0, 0, 0, 1, 1, 2, 2, 2]),
  ([8, 5, 3, 1], [7, 5, 6, 3, 4, 0, 1, 2], [0, 1, 1, 2, 2, 3, 3, 3]),
  ([8, 5, 3, 2], [6, 7, 5, 3, 4, 0, 1, 2], [0, 0, 1, 2, 2, 3, 3, 3]),
  ([8, 5, 3, 2, 1], [7, 6, 5, 3, 4, 0, 1, 2], [0, 1, 2, 3, 3, 4, 4, 4]),
  ([8, 5, 4], [4, 5, 6, 7, 3, 0, 1, 2], [0, 0, 0, 0, 1, 2, 2, 2]),
  ([8, 5, 4, 1], [7, 4, 5, 6, 3, 0, 1, 2], [0, 1, 1, 1, 2, 3, 3, 3]),
  ([8, 5, 4, 2], [6, 7, 4, 5, 3, 0, 1, 2], [0, 0, 1, 1, 2, 3, 3, 3]),
  ([8, 5, 4, 2, 1], [7, 6, 4, 5, 3, 0, 1, 2], [0, 1, 2, 2, 3, 4, 4, 4]),
  ([8, 5, 4, 3], [5, 6, 7, 4, 3, 0, 1, 2], [0, 0, 0, 1, 2, 3, 3, 3]),
  ([8, 5, 4, 3, 2, 1], [7, 6, 5, 4, 3, 0, 1, 2], [0, 1, 2, 3, 4, 5, 5, 5]),
  ([8, 6], [2, 3, 4, 5, 6, 7, 0, 1], [0, 0, 0, 0, 0, 0, 1, 1]),
  ([8, 6, 2], [6, 7, 2, 3, 4, 5, 0, 1], [0, 0, 1, 1, 1, 1, 2, 2]),
  ([8, 6, 2, 1], [7, 6, 2, 3, 4, 5, 0, 1], [0, 1, 2, 2, 2, 2, 3, 3]),
  ([8, 6, 3], [5, 6, 7, 2, 3, 4, 0, 1], [0, 0, 0, 1, 1, 1, 2, 2]),
  ([8, 6, 3, 1], [7, 5, 6, 2, 3, 4, 0, 1], [0, 1, 1, 2, 2, 2, 3, 3]),
  ([8, 6, 3, 2], [6, 7, 5, 2, 3, 4, 0, 1], [0, 0, 1, 2, 2, 2, 3, 3]),
  ([8, 6, 3, 2, 1], [7, 6, 5, 2, 3, 4, 0, 1], [0, 1, 2, 3, 3, 3, 4, 4]),
  ([8, 6, 4], [4, 5, 6, 7, 2, 3, 0, 1], [0, 0, 0, 0, 1, 1, 2, 2]),
  ([8, 6, 4, 1], [7, 4, 5, 6, 2, 3, 0, 1], [0, 1, 1, 1, 2, 2, 3, 3]),
  ([8, 6, 4, 2], [6, 7, 4, 5, 2, 3, 0, 1], [0, 0, 1, 1, 2, 2, 3, 3]),
  ([8, 6, 4, 2, 1], [7, 6, 4, 5, 2, 3, 0, 1], [0, 1, 2, 2, 3, 3, 4, 4]),
  ([8, 6, 4, 3], [5, 6, 7, 4, 2, 3, 0, 1], [0, 0, 0, 1, 2, 2, 3, 3]),
  ([8, 6, 4, 3, 2, 1], [7, 6, 5, 4, 2, 3, 0, 1], [0, 1, 2, 3, 4, 4, 5, 5]),
  ([8, 6, 5], [3, 4, 5, 6, 7, 2, 0, 1], [0, 0, 0, 0, 0, 1, 2, 2]),
  ([8, 6, 5, 1], [7, 3, 4, 5, 6, 2, 0, 1], [0, 1, 1, 1, 1, 2, 3, 3]),
  ([8, 6, 5, 2], [6, 7, 3, 4, 5, 2, 0, 1], [0, 0, 1, 1, 1, 2, 3, 3]),
  ([8, 6, 5, 2, 1], [7, 6, 3, 4, 5, 2, 0, 1], [0, 1, 2, 2, 2, 3, 4, 4]),
  ([8, 6, 5, 3], [5, 6, 7, 3, 4, 2, 0, 1], [0, 0, 0, 1, 1, 2, 3, 3]),
  ([8, 6, 5, 3, 1], [7, 5, 6, 3, 4, 2, 0, 1], [0, 1, 1, 2, 2, 3, 4, 4]),
  ([8, 6, 5, 3, 2, 1], [7, 6, 5, 3, 4, 2, 0, 1], [0, 1, 2, 3, 3, 4, 5, 5]),
  ([8, 6, 5, 4], [4, 5, 6, 7, 3, 2, 0, 1], [0, 0, 0, 0, 1, 2, 3, 3]),
  ([8, 6, 5, 4, 3, 2, 1], [7, 6, 5, 4, 3, 2, 0, 1], [0, 1, 2, 3, 4, 5, 6, 6]),
  ([8, 7], [1, 2, 3, 4, 5, 6, 7, 0], [0, 0, 0, 0, 0, 0, 0, 1]),
  ([8, 7, 3], [5, 6, 7, 1, 2, 3, 4, 0], [0, 0, 0, 1, 1, 1, 1, 2]),
  ([8, 7, 3, 1], [7, 5, 6, 1, 2, 3, 4, 0], [0, 1, 1, 2, 2, 2, 2, 3]),
  ([8, 7, 3, 2], [6, 7, 5, 1, 2, 3, 4, 0], [0, 0, 1, 2, 2, 2, 2, 3]),
  ([8, 7, 3, 2, 1], [7, 6, 5, 1, 2, 3, 4, 0], [0, 1, 2, 3, 3, 3, 3, 4]),
  ([8, 7, 4], [4, 5, 6, 7, 1, 2, 3, 0], [0, 0, 0, 0, 1, 1, 1, 2]),
  ([8, 7, 4, 1], [7, 4, 5, 6, 1, 2, 3, 0], [0, 1, 1, 1, 2, 2, 2, 3]),
  ([8, 7, 4, 2], [6, 7, 4, 5, 1, 2, 3, 0], [0, 0, 1, 1, 2, 2, 2, 3]),
  ([8, 7, 4, 2, 1], [7, 6, 4, 5, 1, 2, 3, 0], [0, 1, 2, 2, 3, 3, 3, 4]),
  ([8, 7, 4, 3], [5, 6, 7, 4, 1, 2, 3, 0], [0, 0, 0, 1, 2, 2, 2, 3]),
  ([8, 7, 4, 3, 2, 1], [7, 6, 5, 4, 1, 2, 3, 0], [0, 1, 2, 3, 4, 4, 4, 5]),
  ([8, 7, 5], [3, 4, 5, 6, 7, 1, 2, 0], [0, 0, 0, 0, 0, 1, 1, 2]),
  ([8, 7, 5, 1], [7, 3, 4, 5, 6, 1, 2, 0], [0, 1, 1, 1, 1, 2, 2, 3]),
  ([8, 7, 5, 2], [6, 7, 3, 4, 5, 1, 2, 0], [0, 0, 1, 1, 1, 2, 2, 3]),
  ([8, 7, 5, 2, 1], [7, 6, 3, 4, 5, 1, 2, 0], [0, 1, 2, 2, 2, 3, 3, 4]),
  ([8, 7, 5, 3], [5, 6, 7, 3, 4, 1, 2, 0], [0, 0, 0, 1, 1, 2, 2, 3]),
  ([8, 7, 5, 3, 1], [7, 5, 6, 3, 4, 1, 2, 0], [0, 1, 1, 2, 2, 3, 3, 4]),
  ([8, 7, 5, 3, 2, 1], [7, 6, 5, 3, 4, 1, 2, 0], [0, 1, 2, 3, 3, 4, 4, 5]),
  ([8, 7, 5, 4], [4, 5, 6, 7, 3, 1, 2, 0], [0, 0, 0, 0, 1, 2, 2, 3]),
  ([8, 7, 5, 4, 3, 2, 1], [7, 6, 5, 4, 3, 1, 2, 0], [0, 1, 2, 3, 4, 5, 5, 6]),
  ([8, 7, 6], [2, 3, 4, 5, 6, 7, 1, 0], [0, 0, 0, 0, 0, 0, 1, 2]),
  ([8, 7, 6, 2], [6, 7, 2, 3, 4, 5, 1, 0], [0, 0, 1, 1, 1, 1, 2, 3]),
  ([8, 7, 6, 2, 1], [7, 6, 2, 3, 4, 5, 1, 0], [0, 1, 2, 2, 2, 2, 3, 4]),
  ([8, 7, 6, 3], [5, 6, 7, 2, 3, 4, 1, 0], [0, 0, 0, 1, 1, 1, 2, 3]),
  ([8, 7, 6, 3, 2, 1], [7, 6, 5, 2, 3, 4, 1, 0], [0, 1, 2, 3, 3, 3, 4, 5]),
  ([8, 7, 6, 4], [4, 5, 6, 7, 2, 3, 1, 0], [0, 0, 0, 0, 1, 1, 2, 3]),
  ([8, 7, 6, 4, 2], [6, 7, 4, 5, 2, 3, 1, 0], [0, 0, 1, 1, 2, 2, 3, 4]),
  ([8, 7, 6, 4, 3, 2, 1], [7, 6, 5, 4, 2, 3, 1, 0], [0, 1, 2, 3, 4, 4, 5, 6]),
  ([8, 7, 6, 5], [3, 4, 5, 6, 7, 2, 1, 0], [0, 0, 0, 0, 0, 1, 2, 3]),
  ([8, 7, 6, 5, 4, 3, 2, 1], [7, 6, 5, 4, 3, 2, 1, 0], [0, 1, 2, 3, 4, 5, 6, 7])]
noncomputable def rowOk (r : List Nat × List Nat × List Nat) : Bool :=
  decide (wayE r.1 = r.2.1) && decide (grpE r.1 = r.2.2) && chk1 r.1 && chk2W r.2.1 r.2.2 (nE r.1) && (List.range (nE r.1)).all (chk3W r.2.1 r.2.2 (nE r.1))
theorem ckE0 : ((tabE.drop 0).take 15).all rowOk = true := by decide +kernel
theorem ckE1 : ((tabE.drop 15).take 15).all rowOk = true := by decide +kernel
theorem ckE2 : ((tabE.drop 30).take 15).all rowOk = true := by decide +kernel
theorem ckE3 : ((tabE.drop 45).take 15).all rowOk = true := by decide +kernel
theorem ckE4 : ((tabE.drop 60).take 15).all rowOk = true := by decide +kernel
theorem ckE5 : ((tabE.drop 75).take 15).all rowOk = true := by decide +kernel
theorem ckE6 : ((tabE.drop 90).take 15).all rowOk = true := by decide +kernel
theorem ckE7 : ((tabE.drop 105).take 15).all rowOk = true := by decide +kernel
theorem ckE8 : ((tabE.drop 120).take 15).all rowOk = true := by decide +kernel
theorem ckE9 : ((tabE.drop 135).take 15).all rowOk = true := by decide +kernel
theorem ckE_len : tabE.length = 150 := by decide +kernel
theorem tabE_eq : tabE.map (·.1) = allO := by decide +kernel
theorem rowOk_all {r : List Nat × List Nat × List Nat} (h : r ∈ tabE) : rowOk r = true := by
  obtain ⟨i, hi, rfl⟩ := List.mem_iff_getElem.mp h
  rw [ckE_len] at hi
  have get : ∀ {q : Nat}, i / 15 = q → ((tabE.drop (15 * q)).take 15).all rowOk = true → rowOk tabE[i] = true := fun {q} hq h => by
    refine List.all_eq_true.mp h _ ?_
    refine List.mem_iff_getElem.mpr ⟨i % 15, ?_, ?_⟩
    · rw [List.length_take, List.length_drop, ckE_len]; omega
    · rw [List.getElem_take, List.getElem_drop]
      congr 1; omega
  have hq : i / 15 < 10 := by omega
  generalize hqe : i / 15 = q at hq
  match q, hqe, hq with
  | 0, hqe, _ => exact get hqe ckE0
  | 1, hqe, _ => exact get hqe ckE1
  | 2, hqe, _ => exact get hqe ckE2
  | 3, hqe, _ => exact get hqe ckE3
  | 4, hqe, _ => exact get hqe ckE4
  | 5, hqe, _ => exact get hqe ckE5
  | 6, hqe, _ => exact get hqe ckE6
  | 7, hqe, _ => exact get hqe ckE7
  | 8, hqe, _ => exact get hqe ckE8
  | 9, hqe, _ => exact get hqe ckE9
theorem chkE_all {E : List Nat} (h : E ∈ allO) : chk1 E = true ∧ chk2 E = true ∧ ∀ p, p < nE E → chk3 E p = true := by
  rw [← tabE_eq] at h
  obtain ⟨r, hr, rfl⟩ := List.mem_map.mp h
  have key := rowOk_all hr
  unfold rowOk at key
  rw [Bool.and_eq_true, Bool.and_eq_true, Bool.and_eq_true, Bool.and_eq_true] at key
  obtain ⟨⟨⟨⟨k1, k2⟩, k3⟩, k4⟩, k5⟩ := key
  have e1 := of_decide_eq_true k1
  have e2 := of_decide_eq_true k2
  refine ⟨k3, ?_, fun p hp => ?_⟩
  · rw [chk2_W, e1, e2]; exact k4
  · rw [chk3_W, e1, e2]; exact List.all_eq_true.mp k5 p (List.mem_range.mpr hp)
end Mine
end

section
open PySem PySem.W PySem.Calls PyProof.Rows
set_option Elab.async false
set_option maxRecDepth 100000
set_option linter.unusedVariables false
namespace Mine
theorem descE_len : ∀ l : List Nat, descE l = true → ∀ x ∈ l, x ≤ nE l
  | [], _ => by simp
  | [x], _ => by simp [nE]
  | x :: y :: r, h => by
    have hp := (descE_ok _ h).1
    intro z hz
    rcases List.mem_cons.mp hz with rfl | hz
    · exact Nat.le_refl _
    · have : z < x := (List.pairwise_cons.mp hp).1 z hz
      show z ≤ x; omega
theorem PF_all (f : Nat) : PF f := by
  have hc := chkF_all f
  have hE := chkE_all (allE_mem f)
  obtain ⟨hn, hends, hedg⟩ := eF_parts f
  have hN := nP_le f
  unfold chkF at hc
  simp only [Bool.and_eq_true, decide_eq_true_eq, List.all_eq_true, List.mem_range] at hc
  have h1 := hE.1
  unfold chk1 at h1
  simp only [Bool.and_eq_true, decide_eq_true_eq, List.all_eq_true] at h1
  obtain ⟨⟨⟨⟨⟨⟨⟨⟨⟨⟨⟨⟨c1, c2⟩, c3⟩, c4⟩, c5⟩, c6⟩, c7⟩, c8⟩, c9⟩, c10⟩, c11⟩, c12⟩, c13⟩ := hc
  obtain ⟨⟨⟨⟨⟨⟨⟨⟨⟨⟨g1, g2⟩, g3⟩, g4⟩, g5⟩, g6⟩, g7⟩, g8⟩, g9⟩, g10⟩, g11⟩ := h1
  have hx := descE_len _ c9
  have hEl := Nat.le_of_ble_eq_true g5
  have hd := descE_ok _ c9
  refine { edgeS := ?_, rowl := Nat.le_of_ble_eq_true c1, tl := Nat.le_of_ble_eq_true c2, edgl := ?_, grpl := ?_, edgb := ?_, head := c3, T := ?_, v := c6, vend := ?_, pcW0 := ?_, pcH0 := ?_, pcWl := ?_, pcHl := ?_, turnl := ?_, backl := ?_ }
  · have hm : 0 :: msF f = up (edgE (eF f)) := hedg
    have e2 : edgE (eF f) = 0 :: (eF f).reverse := by unfold edgE; simp
    rw [e2] at hm
    have hm2 : msF f = up (eF f).reverse := (List.cons.inj hm).2
    rw [hm2]
    unfold up
    rw [List.pairwise_map, List.pairwise_reverse]
    exact hd.1.imp fun {x y} h => by omega
  · rw [hedg]; unfold up edgE
    rw [List.length_map, List.length_reverse, List.length_append]
    have e3 : (eF f).length = TF f + 1 := (eF_len f).symm
    have := Nat.le_of_ble_eq_true c4
    show (eF f).length + 1 ≤ 50
    omega
  · rw [grp_eq]; exact (Nat.eq_of_beq_eq_true g1).trans hn
  · intro k _
    rw [hedg, up_getD, List.getD_eq_getElem?_getD]
    cases e : (edgE (eF f))[k]? with
    | none => simp
    | some x =>
      have hm := List.mem_of_getElem? e
      unfold edgE at hm
      rw [List.mem_reverse, List.mem_append] at hm
      rcases hm with hm | hm
      · have := hx x hm; simp; omega
      · simp at hm; subst hm; simp
  · have := Nat.le_of_ble_eq_true c4; omega
  · cases e : strm (rowP f) none (TF f) with
    | none => exact .inl rfl
    | some x =>
      rw [e] at c7
      refine .inr ⟨?_, ?_⟩
      · unfold vF; rw [e]; rfl
      · have : vF f (TF f) = x := by unfold vF; rw [e]; rfl
        rw [this]; exact of_decide_eq_true c7
  · rw [pcW_eq]; exact fun p hp => ⟨Nat.le_of_ble_eq_true (g3 p hp).1, Nat.le_of_ble_eq_true (g3 p hp).2⟩
  · rw [pcH_eq]; exact fun p hp => ⟨Nat.le_of_ble_eq_true (g4 p hp).1, Nat.le_of_ble_eq_true (g4 p hp).2⟩
  · rw [pcW_eq]; unfold pcsE; rw [List.length_reverse, List.length_map, List.length_range]; exact hEl
  · rw [pcH_eq]; unfold pcsE; rw [List.length_reverse, List.length_map, List.length_range]; exact hEl
  · rw [turn_eq]; exact (Nat.eq_of_beq_eq_true g6).trans hn
  · rw [back_eq]; exact (Nat.eq_of_beq_eq_true g7).trans hn
theorem HF_all (f : Nat) : HF f := by
  have hc := chkF_all f
  unfold chkF at hc
  simp only [Bool.and_eq_true, decide_eq_true_eq, List.all_eq_true, List.mem_range] at hc
  obtain ⟨⟨⟨⟨⟨⟨⟨⟨⟨⟨⟨⟨c1, c2⟩, c3⟩, c4⟩, c5⟩, c6⟩, c7⟩, c8⟩, c9⟩, c10⟩, c11⟩, c12⟩, c13⟩ := hc
  refine ⟨by have := Nat.le_of_ble_eq_true c5; omega, fun k hk => ⟨(c12 k hk).1, ?_⟩, ?_, ?_⟩
  · have := (c12 k hk).2
    intro e
    rw [e] at this
    simp at this
  · cases e : strm (rowP f) none (TF2 f) with
    | none => exact .inl rfl
    | some x =>
      rw [e] at c13
      have c13' := (Bool.and_eq_true_iff.mp c13).1
      refine .inr ⟨?_, Nat.eq_of_beq_eq_true c13'⟩
      unfold vF; rw [e]; rfl
  · cases e : strm (rowP f) none (TF2 f) with
    | none =>
      rw [e] at c13
      rw [if_pos rfl]
      exact of_decide_eq_true c13
    | some x =>
      rw [e] at c13
      rw [if_neg (by simp)]
      exact of_decide_eq_true (Bool.and_eq_true_iff.mp c13).2
end Mine
end

section
open PySem PySem.W PySem.Calls PyProof.Rows
set_option Elab.async false
set_option maxRecDepth 100000
set_option linter.unusedVariables false
namespace Mine
noncomputable def phi (S g : Nat) : Nat := s0P S + dP S * g
theorem phi_mono (S : Nat) : ∀ a b, a < b → phi S a < phi S b := fun a b h => by
  unfold phi
  have hd : 1 ≤ dP S := by unfold dP; omega
  have : dP S * a < dP S * b := Nat.mul_lt_mul_of_pos_left h hd
  omega
theorem phi_lt (S g : Nat) (h : g ≤ 7) : phi S g < 256 := by
  unfold phi s0P dP
  have h1 : S % 100 < 100 := Nat.mod_lt _ (by decide)
  have h2 : S / 100 % 20 < 20 := Nat.mod_lt _ (by decide)
  have : (1 + S / 100 % 20) * g ≤ 20 * 7 := Nat.mul_le_mul (by omega) h
  omega
theorem sgP_map (f S : Nat) : sgP f S = (grpE (eF f)).map (phi S) := by unfold sgP; rw [grp_eq]; rfl
theorem sgN_eq {f S x : Nat} (hx : x < nP f) : sgN f S x = phi S (gE (eF f) x) := by
  have hl : (grpE (eF f)).length = nP f := by rw [← grp_eq]; exact (PF_all f).grpl
  unfold sgN gE
  rw [sgP_map, List.getD_eq_getElem?_getD, List.getElem?_map, List.getD_eq_getElem?_getD, List.getElem?_eq_getElem (by omega)]
  rfl
theorem textW_eq {f S p : Nat} (hw : ∀ x ∈ walkF f p, x < nP f) : textW f S (walkF f p) = ⟨((tE (eF f) p).map (phi S)).toArray⟩ := by
  have e1 : (cutL (walkF f p) none (some (nP f : Int))).map (sgN f S) = (tE (eF f) p).map (phi S) := by
    unfold tE
    rw [← walk_eq, (eF_parts f).1, List.map_map]
    exact List.map_congr_left fun x hx => sgN_eq (hw x (cutL_mem hx))
  exact congrArg (fun l : List Nat => (⟨l.toArray⟩ : Str)) e1
end Mine
end

section
open PySem PySem.W PySem.Calls PyProof.Rows
set_option Elab.async false
set_option maxRecDepth 100000
set_option linter.unusedVariables false
namespace Mine
structure C1 (f : Nat) : Prop where
  g7 : ∀ g ∈ grpE (eF f), g ≤ 7
  wayb : ∀ x ∈ wayE (eF f), x < nP f
  homb : ∀ x ∈ homeE (eF f), x.toNat < nP f
  hom : (wayE (eF f)).map (fun k => ((homeE (eF f)).getD k 0).toNat) = List.range (nP f)
  bw : (grpE (eF f)).reverse = (homeE (eF f)).map fun x => gE (eF f) x.toNat
theorem c1_all (f : Nat) : C1 f := by
  have h1 := (chkE_all (allE_mem f)).1
  unfold chk1 at h1
  simp only [Bool.and_eq_true, decide_eq_true_eq, List.all_eq_true] at h1
  obtain ⟨⟨⟨⟨⟨⟨⟨⟨⟨⟨g1, g2⟩, g3⟩, g4⟩, g5⟩, g6⟩, g7⟩, g8⟩, g9⟩, g10⟩, g11⟩ := h1
  have hn := (eF_parts f).1
  exact ⟨fun g hg => Nat.le_of_ble_eq_true (g2 g hg), fun x hx => hn ▸ Nat.le_of_ble_eq_true (g8 x hx), fun x hx => hn ▸ Nat.le_of_ble_eq_true (g9 x hx), hn ▸ g10, g11⟩
theorem gE_le (f x : Nat) : gE (eF f) x ≤ 7 := by
  unfold gE
  rw [List.getD_eq_getElem?_getD]
  cases e : (grpE (eF f))[x]? with
  | none => simp
  | some y => exact (c1_all f).g7 y (List.mem_of_getElem? e)
theorem walkb {f p : Nat} (hp : p < nP f) : ∀ x ∈ walkF f p, x < nP f := fun x hx => by
  obtain ⟨k, _, rfl⟩ := List.mem_map.mp hx
  exact iterW_lt (PF_all f).wayl (by rw [way_eq]; exact (c1_all f).wayb) hp k
theorem textsF_get {f S p : Nat} (hp : p < nP f) : (textsF f S).getD p ⟨#[]⟩ = ⟨((tE (eF f) p).map (phi S)).toArray⟩ := by
  unfold textsF walksF
  rw [List.getD_eq_getElem?_getD, List.getElem?_map, List.getElem?_map, List.getElem?_range hp]
  exact textW_eq (walkb hp)
theorem chk2_get {f p q : Nat} (h : p ≤ q) (hq : q < nP f) : collL (tE (eF f) p) (tE (eF f) q) = dueE (eF f) p q := by
  have h2 := (chkE_all (allE_mem f)).2.1
  unfold chk2 at h2
  rw [List.all_eq_true] at h2
  have h3 := h2 q (List.mem_range.mpr ((eF_parts f).1 ▸ hq))
  rw [List.all_eq_true] at h3
  exact of_decide_eq_true (h3 p (List.mem_range.mpr (by omega)))
theorem collP_neg (a b : Str) : collP b a = - collP a b := by unfold collP; omega
theorem coll_all {f S p q : Nat} (h : p ≤ q) (hq : q < nP f) : collP ((textsF f S).getD p ⟨#[]⟩) ((textsF f S).getD q ⟨#[]⟩) = dueF f p q := by
  rw [textsF_get (by omega), textsF_get hq, collP_map (phi_mono S), collL_eq, chk2_get h hq, due_eq]
theorem due_le (f p q : Nat) : dueF f p q ≤ 0 := by unfold dueF; split <;> omega
theorem octs_up (l : List Nat) : octs (up l) = l.map fun k => k.toUInt8 := by
  unfold octs up; rw [List.map_map]; rfl
theorem strOk_of {l : List Nat} (h : ∀ k ∈ l, k < 256) : PyData.strOk ⟨l.toArray⟩ = true := by
  have e : (l.toArray.all fun k => decide (k < 0x110000)) = true := by
    rw [List.all_toArray, List.all_eq_true]
    intro k hk
    have := h k hk
    exact decide_eq_true (by omega)
  exact e
theorem QF_all (f S : Nat) : QF f S := by
  refine { toPF := PF_all f, wayb := ?_, hom := ?_, homb := ?_, coll := ?_, sort := ?_, sok := ?_, sgb := ?_, bw := ?_ }
  · rw [way_eq]; exact (c1_all f).wayb
  · rw [way_eq, home_eq]; exact (c1_all f).hom
  · rw [home_eq]; exact (c1_all f).homb
  · intro p q h hq
    exact ⟨coll_all h hq, by rw [collP_neg, coll_all h hq]⟩
  · rw [List.pairwise_iff_getElem]
    intro i j hi hj hij
    rw [textsF_len] at hi hj
    have e : ∀ k (hk : k < (textsF f S).length), (textsF f S)[k] = (textsF f S).getD k ⟨#[]⟩ := fun k hk => by
      rw [List.getD_eq_getElem?_getD, List.getElem?_eq_getElem hk]; rfl
    rw [e, e]
    have h := coll_all (S := S) (Nat.le_of_lt hij) hj
    have hd := due_le f i j
    intro hlt
    have hlt2 : ¬ ((textsF f S).getD i ⟨#[]⟩).cps.toList < ((textsF f S).getD j ⟨#[]⟩).cps.toList := fun x => List.lt_asymm hlt x
    unfold collP at h
    rw [decide_eq_true hlt, decide_eq_false hlt2] at h
    have : (b2i true : Int) - b2i false = 1 := rfl
    omega
  · intro x hx
    unfold textsF walksF at hx
    rw [List.map_map] at hx
    obtain ⟨p, hp, rfl⟩ := List.mem_map.mp hx
    show PyData.strOk (textW f S (walkF f p)) = true
    rw [textW_eq (walkb (List.mem_range.mp hp))]
    refine strOk_of fun k hk => ?_
    obtain ⟨g, hg, rfl⟩ := List.mem_map.mp hk
    unfold tE at hg
    obtain ⟨y, _, rfl⟩ := List.mem_map.mp hg
    exact phi_lt S _ (gE_le f y)
  · intro x hx
    rw [sgP_map] at hx
    obtain ⟨g, hg, rfl⟩ := List.mem_map.mp hx
    exact phi_lt S g ((c1_all f).g7 g hg)
  · rw [octs_up, octs_up, ← List.map_reverse, sgP_map, ← List.map_reverse, (c1_all f).bw, home_eq, List.map_map]
    rw [List.map_map, List.map_map]
    refine List.map_congr_left fun x hx => ?_
    show (phi S (gE (eF f) x.toNat)).toUInt8 = (sgN f S x.toNat).toUInt8
    rw [sgN_eq ((c1_all f).homb x hx)]
end Mine
end

section
open PySem PySem.W PySem.Calls PyProof.Rows
set_option Elab.async false
set_option maxRecDepth 100000
set_option linter.unusedVariables false
namespace Mine
structure C3 (f p : Nat) : Prop where
  idx : (p : Int) ∈ up (cutL (walkE (eF f) p) (some 1) none)
  rl : 0 < (ringE (eF f) p).length ∧ (ringE (eF f) p).length ≤ 8
  mn : mnE (eF f) p ∈ ringE (eF f) p ∧ ∀ x ∈ ringE (eF f) p, mnE (eF f) p ≤ x
  rest : mnE (eF f) p = p →
    ((List.range (ringE (eF f) p).length).map fun (k : Nat) => collL (lnE (eF f) p) (cutL (lnE (eF f) p) (some (k : Int)) none)) = [0] ++ (List.replicate (((ringE (eF f) p).length : Int) - 1).toNat [-1]).flatten ∧
    ((List.range (ringE (eF f) p).length).map fun (k : Nat) => collL (cutL (lnE (eF f) p) none (some (k : Int))) (lnE (eF f) p)) = (List.replicate ((ringE (eF f) p).length : Int).toNat [-1]).flatten ∧
    mxE (eF f) p ∈ smE (eF f) p ∧ (∀ x ∈ smE (eF f) p, x ≤ mxE (eF f) p) ∧
    anewF (wdE (eF f) p) = [(((up (ringE (eF f) p)).idxOf (mxE (eF f) p : Int) : Nat) : Int) + 1] ∧
    (unO (wdE (eF f) p ++ wdE (eF f) p) (wdE (eF f) p ++ wdE (eF f) p).length).length = 2 * (wdE (eF f) p).length
theorem c3_all {f p : Nat} (hp : p < nP f) : C3 f p := by
  have h := (chkE_all (allE_mem f)).2.2 p ((eF_parts f).1 ▸ hp)
  unfold chk3 at h
  rw [Bool.and_eq_true, Bool.and_eq_true, Bool.and_eq_true, Bool.and_eq_true, Bool.and_eq_true] at h
  obtain ⟨⟨⟨⟨⟨h1, h2⟩, h3⟩, h4⟩, h5⟩, h6⟩ := h
  refine ⟨of_decide_eq_true h1, ⟨Nat.le_of_ble_eq_true h2, Nat.le_of_ble_eq_true h3⟩, ⟨of_decide_eq_true h4, fun x hx => Nat.le_of_ble_eq_true (List.all_eq_true.mp h5 x hx)⟩, fun he => ?_⟩
  rw [Bool.or_eq_true] at h6
  rcases h6 with h6 | h6
  · rw [he, Nat.beq_refl] at h6; cases h6
  · rw [Bool.and_eq_true, Bool.and_eq_true, Bool.and_eq_true, Bool.and_eq_true, Bool.and_eq_true] at h6
    obtain ⟨⟨⟨⟨⟨k1, k2⟩, k3⟩, k4⟩, k5⟩, k6⟩ := h6
    exact ⟨of_decide_eq_true k1, of_decide_eq_true k2, of_decide_eq_true k3, fun x hx => Nat.le_of_ble_eq_true (List.all_eq_true.mp k4 x hx), of_decide_eq_true k5, Nat.eq_of_beq_eq_true k6⟩
theorem RF_all {f S p : Nat} (hp : p < nP f) : RF f S p := by
  have h := c3_all hp
  refine ⟨?_, ?_, ?_⟩
  · rw [walk_eq]; exact h.idx
  · rw [ring_eq]; exact h.rl
  · rw [mn_eq, ring_eq]; exact h.mn
noncomputable def psi (S : Nat) (x : UInt8) : UInt8 := (phi S x.toNat).toUInt8
theorem toNat_small {k : Nat} (h : k < 256) : k.toUInt8.toNat = k := by
  show k % 256 = k
  omega
theorem wd_eq {f S p : Nat} (hr : ∀ x ∈ ringF f p, x < nP f) : wordF f S p = (wdE (eF f) p).map (psi S) := by
  unfold wordF wdE
  rw [octs_up, octs_up, ring_eq, List.map_map, List.map_map, List.map_map]
  refine List.map_congr_left fun x hx => ?_
  show (sgN f S x).toUInt8 = (phi S (gE (eF f) x).toUInt8.toNat).toUInt8
  rw [sgN_eq (hr x (ring_eq f p ▸ hx)), toNat_small (by have := gE_le f x; omega)]
theorem wd_small {f p : Nat} : ∀ x ∈ wdE (eF f) p, x.toNat ≤ 7 := fun x hx => by
  unfold wdE at hx
  rw [octs_up, List.map_map] at hx
  obtain ⟨y, _, rfl⟩ := List.mem_map.mp hx
  show (gE (eF f) y).toUInt8.toNat ≤ 7
  have := gE_le f y
  rw [toNat_small (by omega)]; exact this
theorem psi_inj {S : Nat} {x y : UInt8} (hx : x.toNat ≤ 7) (hy : y.toNat ≤ 7) (h : psi S x = psi S y) : x = y := by
  have h1 := congrArg UInt8.toNat h
  unfold psi at h1
  rw [toNat_small (phi_lt S _ hx), toNat_small (phi_lt S _ hy)] at h1
  exact UInt8.toNat_inj.mp (inj_of_mono (phi_mono S) h1)
theorem ringb {f p : Nat} (hp : p < nP f) : ∀ x ∈ ringF f p, x < nP f := fun x hx => walkb hp x (cutL_mem hx)
theorem line_eq {f S p : Nat} (hp : p < nP f) : lineF f S p = ⟨((lnE (eF f) p).map (phi S)).toArray⟩ := by
  unfold lineF
  rw [textsF_get hp]
  have e : cutL ((tE (eF f) p).map (phi S)) none (some ((ringF f p).length : Int)) = (lnE (eF f) p).map (phi S) := by
    rw [cutL_map, ring_eq]; rfl
  exact congrArg (fun l : List Nat => (⟨l.toArray⟩ : Str)) e
theorem suf_eq {l : List Nat} {S : Nat} {k : Int} : sufF ⟨(l.map (phi S)).toArray⟩ k = ⟨((cutL l (some k) none).map (phi S)).toArray⟩ :=
  congrArg (fun l : List Nat => (⟨l.toArray⟩ : Str)) (cutL_map l (some k) none)
theorem pre_eq {l : List Nat} {S : Nat} {k : Int} : preF ⟨(l.map (phi S)).toArray⟩ k = ⟨((cutL l none (some k)).map (phi S)).toArray⟩ :=
  congrArg (fun l : List Nat => (⟨l.toArray⟩ : Str)) (cutL_map l none (some k))
theorem sm_eq {f S p : Nat} (hp : p < nP f) : sameF f S p = smE (eF f) p := by
  unfold sameF smE
  rw [ring_eq]
  refine List.filter_congr fun k hk => ?_
  have hr := ringb hp
  rw [ring_eq] at hr
  have hk' := hr k hk
  unfold sameT wordF
  rw [octs_up, ring_eq, List.map_map]
  obtain ⟨x, r, hxr⟩ : ∃ x r, ringE (eF f) p = x :: r := by
    have := (c3_all hp).rl.1
    cases e : ringE (eF f) p with
    | nil => rw [e] at this; cases this
    | cons x r => exact ⟨x, r, rfl⟩
  have hx' := hr x (by rw [hxr]; exact List.mem_cons_self)
  rw [hxr]
  show (((sgN f S k : Nat) : Int) == ((sgN f S x).toUInt8.toNat : Int)) = Nat.beq (gE (eF f) k) (gE (eF f) x)
  rw [sgN_eq hk', sgN_eq hx', toNat_small (phi_lt S _ (gE_le f x))]
  by_cases h : gE (eF f) k = gE (eF f) x
  · rw [h, Nat.beq_refl]; exact beq_self_eq_true _
  · have h2 : ((phi S (gE (eF f) k) : Nat) : Int) ≠ ((phi S (gE (eF f) x) : Nat) : Int) := fun e => h (inj_of_mono (phi_mono S) (Int.ofNat.inj e))
    rw [beq_eq_false_iff_ne.mpr h2]
    cases e : Nat.beq (gE (eF f) k) (gE (eF f) x) with
    | false => rfl
    | true => exact absurd (Nat.eq_of_beq_eq_true e) h
theorem RG_all {f S p : Nat} (hp : p < nP f) (hm : mnF f p = p) : RG f S p := by
  obtain ⟨k1, k2, k3, k4, k5, k6⟩ := (c3_all hp).rest (mn_eq f p ▸ hm)
  have hsm := sm_eq (S := S) hp
  have hmx : mxF f S p = mxE (eF f) p := by unfold mxF mxE; rw [hsm]
  have hψ : ∀ x ∈ wdE (eF f) p, ∀ y ∈ wdE (eF f) p, psi S x = psi S y → x = y := fun x hx y hy => psi_inj (wd_small x hx) (wd_small y hy)
  refine ⟨?_, ?_, ?_, ?_, ?_, ?_⟩
  · rw [ring_eq, ← k1]
    refine List.map_congr_left fun k _ => ?_
    rw [line_eq hp, suf_eq, collP_map (phi_mono S), collL_eq]
  · rw [ring_eq, ← k2]
    refine List.map_congr_left fun k _ => ?_
    rw [line_eq hp, pre_eq, collP_map (phi_mono S), collL_eq]
  · rw [hmx, hsm]; exact ⟨k3, k4⟩
  · rw [hmx, ring_eq]
    exact (List.mem_filter.mp (show mxE (eF f) p ∈ (ringE (eF f) p).filter _ from k3)).1
  · rw [hmx, ring_eq, wd_eq (ringb hp), anewF_map hψ]; exact k5
  · rw [wd_eq (ringb hp), ← List.map_append, List.length_map, unO_map (b := wdE (eF f) p ++ wdE (eF f) p) (fun x hx y hy => hψ x ?_ y ?_), List.length_map, List.length_map, k6]
    · rcases List.mem_append.mp hx with h | h <;> exact h
    · rcases List.mem_append.mp hy with h | h <;> exact h
theorem oct_all (f : Nat) : (octB f).map UInt8.toNat = List.range (nP f) := by
  unfold octB
  rw [octs_up, List.map_map]
  have hN := nP_le f
  conv => rhs; rw [← List.map_id (List.range (nP f))]
  refine List.map_congr_left fun x hx => ?_
  have := List.mem_range.mp hx
  exact toNat_small (by omega)
end Mine
end

section
open PySem PySem.W PySem.Calls PyProof.Rows
set_option Elab.async false
set_option maxRecDepth 100000
set_option linter.unusedVariables false
namespace Mine
theorem items_int {R : WRecords} : ∀ {ds : List WData}, WShape.hasItems R ds .int = true → ∃ xs : List Int, ds = xs.map .int
  | [], _ => ⟨[], rfl⟩
  | d :: r, h => by
    have h' : (WShape.has R d .int && WShape.hasItems R r .int) = true := h
    rw [Bool.and_eq_true] at h'
    obtain ⟨i, rfl⟩ := hasW_int h'.1
    obtain ⟨xs, rfl⟩ := items_int h'.2
    exact ⟨i :: xs, rfl⟩
theorem well_ints {P : Params} {h : Heap} : ∀ {vs : List Value} {xs : List Int}, WellAll P h vs (xs.map .int) → IntsAre vs xs
  | [], [], _ => .nil
  | _, x :: xs, .cons h1 h2 => by
    cases h1
    exact IntsAre.cons _ _ (well_ints h2)
noncomputable abbrev theRow : RowW := PySem.Challenge.rw_ph0013_01.row.toRowW
theorem args_of {P : Params} {h : Heap} {args : List WData} {vals : List Value} (hpre : theRow.claim.pre args = true) (hw : WellAll P h vals args) :
    ∃ xs a vs, args = [.list (xs.map .int)] ∧ vals = [.ref a] ∧ h.PlainList a vs.toArray ∧ IntsAre vs xs ∧ xs.length ≤ 63 := by
  obtain ⟨h1, h2⟩ := pre_splitW hpre
  obtain ⟨d, r, rfl, h3, h4⟩ := hasAllW_cons (es := []) (e := .list .int) h1
  obtain rfl := hasAllW_nil h4
  obtain ⟨ds, rfl, h5⟩ := hasW_list h3
  obtain ⟨xs, rfl⟩ := items_int h5
  obtain ⟨v, vs', rfl, w1, w2⟩ := wellAll_cons_inv hw
  cases w2
  cases w1 with
  | list ho hr =>
  refine ⟨xs, _, _, rfl, rfl, ⟨_, ho⟩, well_ints hr, ?_⟩
  have e0 : theRow.pre = .and (.not (.lt (.lit (.int 63)) (.len (.arg 0)))) (.lit (.bool true)) := rfl
  rw [e0] at h2
  by_cases hle : xs.length ≤ 63
  · exact hle
  · exfalso
    have hlt : ((63 : Int) < ((xs.map WData.int).length : Int)) := by rw [List.length_map]; omega
    simp only [WTm.holds, WTm.value, List.getElem?_cons_zero] at h2
    have e1 : less? (WData.int 63) (WData.int ((xs.map WData.int).length : Int)) = some true := by
      rw [less?, Num.less?, decide_eq_true hlt]
    rw [e1] at h2
    cases h2
end Mine
end

section
open PySem PySem.W PySem.Calls PyProof.Rows
open Sem (wp)
set_option Elab.async false
set_option maxRecDepth 100000
set_option linter.unusedVariables false
namespace Mine
variable {c : Cx} {n : Nat}
theorem sum_nn : ∀ {l : List Int}, (∀ x ∈ l, 0 ≤ x) → 0 ≤ l.sum
  | [], _ => by simp
  | x :: r, h => by
    have h1 := h x List.mem_cons_self
    have h2 := sum_nn (l := r) fun y hy => h y (List.mem_cons_of_mem _ hy)
    rw [List.sum_cons]; omega
theorem drawn_nn {xs : List Int} : ∀ x ∈ drawnP xs, 0 ≤ x := fun x hx => by
  unfold drawnP at hx
  obtain ⟨y, _, rfl⟩ := List.mem_map.mp hx
  exact Int.fmod_nonneg_of_pos y (by decide)
theorem law_all {X : Addr → Prop} {s₀ : Shared} {L ad : Addr} {pm code doc : Value} {xs : List Int} (hC : CxOk c) (hz : xs.length ≤ 63) :
    ExK (fun A => A.frames = some [lawE L ad pm code doc]) c (n + 4) X s₀ (lawE L ad pm code doc) [("script", intsV xs)] lawB (.bool true) := by
  have n1 : 0 ≤ (pick (drawnP xs) (some 0) none (some 2)).sum := sum_nn fun x hx => drawn_nn x (pick_mem hx)
  have n2 : 0 ≤ (pick (drawnP xs) (some 1) none (some 2)).sum := sum_nn fun x hx => drawn_nn x (pick_mem hx)
  obtain ⟨f, hF⟩ : ∃ f : Nat, 155 + (pick (drawnP xs) (some 0) none (some 2)).sum = (f : Int) := ⟨(155 + (pick (drawnP xs) (some 0) none (some 2)).sum).toNat, by omega⟩
  obtain ⟨S, hS⟩ : ∃ S : Nat, 97 + (pick (drawnP xs) (some 1) none (some 2)).sum = (S : Int) := ⟨(97 + (pick (drawnP xs) (some 1) none (some 2)).sum).toNat, by omega⟩
  have hP := PF_all f
  have hQ := QF_all f S
  exact law_1 hC hF hS (by omega) hP.edgeS hP.rowl hP.tl (law_2 hC hP (law_3 hC hQ (law_4 hC hQ (law_5 hC hQ (fun p hp => RF_all hp) (fun p hp hm => RG_all hp hm) (law_6 hC hQ (oct_all f) (law_7 hC hP (fun A h => h) (exk_of (law_8 hC hP (HF_all f)))))))))
theorem law_call {A : Around} {E : Value → Shared → Prop} {s : Shared} {vs : List Value} {a : Addr} {xs : List Int} (hC : CxOk c) (hA : AOk (n + 5) A) (hfr : A.frames = some []) (hz : xs.length ≤ 63)
    (G : Glo c.mg c.mb s.heap) (hfn : FnIs s.heap a (nthD 10)) (hr : RepL X0 s.heap vs [intsV xs]) :
    wpS c.M A (call (.ref a) vs) (fun v s' => Kp s s' ∧ Rep X0 s'.heap v (.bool true)) E s := by
  obtain ⟨o, pm, code, doc, ho, hd, hcr⟩ := hfn
  have hlen : vs.length = 1 := hr.length
  refine wpS_call (codeS_call_cells (fd := fdD (nthD 10) pm code doc) (body := (nthD 10).2.2.1) (binds := (["script"] : List Str).zip vs) hA.room ho hd G.nolimit hcr rfl ?_ rfl ?_ ?_ rfl rfl rfl)
  · match vs, hlen with
    | [u], _ => rfl
  · intro y hy
    have hm := mem_zip_fst hy
    have := List.all_eq_true.mp (show (["script"] : List Str).all (parOk (nthD 10).2.2.2 (s.heap.objs.size + 1)) = true from rfl) y.1 hm
    unfold parOk at this
    rw [Bool.or_eq_true, Bool.and_eq_true, beq_iff_eq, beq_iff_eq] at this
    exact this
  · intro s₁ I
    obtain ⟨h', tk, rfl⟩ := I.toInCall.same
    have F : FmP c X0 s (envD (nthD 10) s.heap.objs.size a pm code doc) [("script", intsV xs)] { s with heap := h', toks := tk } :=
      ⟨rfl, rfl, rfl, I.apart, I.above, I.toInCall.fresh, G, Kp.of I.toInCall.keep, live0, id, fun y k hm => id, _, _, I.toInCall.ns, I.cell, fun y p hp hvis => by
        obtain ⟨v, rv, a1, a2⟩ := bind_zip (k := (envD (nthD 10) s.heap.objs.size a pm code doc).kindOf) (ns := ["script"]) (fun _ => none) (fun _ => none) (by decide +kernel) hr hlen.symm y p hp
        refine ⟨v, ?_, rv.keep fun b o _ e _ => I.toInCall.keep b o e⟩
        by_cases hl : (envD (nthD 10) s.heap.objs.size a pm code doc).kindOf y = some .local
        · exact .inl ⟨hl, a1 hl⟩
        · refine .inr ?_
          have hy : y ∈ (["script"] : List Str) := mem_zip_fst (vs := [intsV xs]) (PySem.mem_of_lookup hp)
          have := List.all_eq_true.mp (show (["script"] : List Str).all (parOk (nthD 10).2.2.2 (s.heap.objs.size + 1)) = true from rfl) y hy
          unfold parOk at this
          rw [Bool.or_eq_true, Bool.and_eq_true, beq_iff_eq, beq_iff_eq] at this
          rcases this with h1 | ⟨h1, h2⟩
          · exact absurd h1 hl
          · exact ⟨h1, h2, a2 hl⟩⟩
    refine wpS_mono (law_all (n := n) (X := X0) (s₀ := s) (L := s.heap.objs.size) (ad := a) (pm := pm) (code := code) (doc := doc) hC hz (A.deeper (lawE s.heap.objs.size a pm code doc)) _ _ hA.deeper (Around.frames_deeper hfr) F) (fun f s' h => ?_) fun _ _ e => e
    obtain ⟨v, rfl, k, r⟩ := h
    exact ⟨k, r⟩
end Mine
end

section
open PySem PySem.W PySem.Calls PyProof.Rows
open Sem (wp)
set_option Elab.async false
set_option maxRecDepth 100000
set_option linter.unusedVariables false
namespace Mine
theorem bi_boot : ∀ e ∈ biT, bootBuiltins e.1 = some e.2 := by
  simp only [biT, List.forall_mem_cons]
  exact ⟨by kernel_rfl, by kernel_rfl, by kernel_rfl, by kernel_rfl, by kernel_rfl, by kernel_rfl, by kernel_rfl, by kernel_rfl, by kernel_rfl, by kernel_rfl, by kernel_rfl, by kernel_rfl, by kernel_rfl, by kernel_rfl, by kernel_rfl, fun _ h => by cases h⟩
noncomputable def freeB (q : Program) (l : List Str) (x : Str) : Bool := !(startupNames.contains x) && !(l.contains x) && !(((recsOf q).map (·.name)).contains x) && !(((litsOf q).map (·.1)).contains x) && !(((clssOf q l).map (·.name)).contains x) && !(x == ("__name__" : Str))
theorem join {q : Program} {loose : List Str} {XP : (Str → Option Value) → Heap → Prop} {YP : World → Heap → Prop} {d : DefRec} {kwd : List (Str × Expr)} (hrec : (recsOf q).map (fun d => (d.name, d.params, d.body, d.scope)) = defList)
    (hcm : valOf q "CHAR_MAX" = some (.int 127)) (hfree : biT.all (fun e => freeB q (looseW q loose) e.1) = true) (hdn : d.name = (nthD 10).1) : WalkS q loose XP YP theRow d kwd := by
  intro w s₀ s₁ mg mb G hY a o pm cd doc dV kV ho hdata hcr hdf hg hgens args vals as hpre hlay hreads hwell hlow
  obtain ⟨xs, l, vs, rfl, rfl, hpl, hint, hz⟩ := args_of hpre hwell
  have fn : ∀ x ∈ defList, ∃ a, mg x.1 = some (.ref a) ∧ FnIs s₁.heap a x := fun x hx => by
    rw [← hrec] at hx
    obtain ⟨d', hd', rfl⟩ := List.mem_map.mp hx
    obtain ⟨a', o', pm', code', doc', h1, h2, h3, h4⟩ := G.T.fn d' hd'
    exact ⟨a', h1, o', pm', code', doc', h2, h3, h4⟩
  have GL : Glo mg mb s₁.heap := ⟨G.T.g, G.T.b, G.T.nolimit, fn⟩
  have hC : CxOk ⟨theRow.prog, w, mg, mb⟩ := by
    refine ⟨fun x v hv => ?_, ?_⟩
    · have hm := PySem.mem_of_lookup hv
      have hf := List.all_eq_true.mp hfree _ hm
      unfold freeB at hf
      simp only [Bool.and_eq_true, Bool.not_eq_true', List.contains_eq_mem, decide_eq_false_iff_not] at hf
      obtain ⟨⟨⟨⟨⟨f1, f2⟩, f3⟩, f4⟩, f5⟩, f6⟩ := hf
      exact ⟨G.T.free x f1 f2 f3 f4 f5, (G.T.builtins x (by simpa using f6)).trans (bi_boot _ hm)⟩
    · obtain ⟨v, h1, h2⟩ := G.T.const _ _ hcm
      cases h2 s₁.heap
      exact ⟨_, h1⟩
  obtain ⟨a', h1, hfn⟩ := fn (nthD 10) (nthD_mem (by decide))
  rw [← hdn, hg] at h1
  cases h1
  refine wpS_mono (law_call (c := ⟨theRow.prog, w, mg, mb⟩) (n := 0) hC ?_ rfl hz GL hfn (.cons (.list id hpl (RepL.of_ints hint)) .nil)) (fun v s' h => ?_) fun _ _ e => e
  · exact ⟨rfl, by decide, by decide⟩
  obtain ⟨k, r⟩ := h
  cases r
  refine ⟨.inl ⟨_, .bool true, [], rfl, fun _ => rfl, ?_, ?_, fun _ => ⟨List.nodup_nil, fun _ h => by cases h⟩⟩, .of_keep k.heap, k.os, k.bare ?_⟩
  · exact .bool true
  · have e0 : theRow.post = .eq .res (.lit (.bool true)) := rfl
    have e1 : theRow.returns = .bool := rfl
    refine postW_of (r := theRow) (X := true) (by rw [e1]; simp [WShape.has, WShape.arms]) ?_ rfl
    rw [e0]
    simp [WTm.value, same]
  · rw [hgens]
    exact fun _ h => by simp at h
end Mine
end

open PySem PySem.W PySem.Calls PyProof.Rows
set_option Elab.async false
set_option maxRecDepth 100000
namespace Mine
noncomputable def keepS : Stmt → Bool
  | .FunctionDef .. => true
  | .Assign [.Name x _] _ _ => x == ("CHAR_MAX" : Str)
  | _ => false
noncomputable def qv : Program := { PySem.Challenge.pw_ph0013_01 with main := { PySem.Challenge.pw_ph0013_01.main with body := PySem.Challenge.pw_ph0013_01.main.body.filter keepS } }
theorem qv_rec : (recsOf qv).map (fun d => (d.name, d.params, d.body, d.scope)) = defList := by kernel_rfl
theorem qv_cm : valOf qv "CHAR_MAX" = some (.int 127) := by kernel_rfl
theorem qv_free : biT.all (fun e => freeB qv (looseW qv []) e.1) = true := by decide +kernel
theorem qv_left : LeftO theRow.prog qv [] (fun s => xlAt qv [] s && recOk (RowW.records theRow) s) (Hook.obs Hook.none) (Hook.val Hook.none) 880 := fun w => by kernel_rfl
theorem qv_said : PySem.Challenge.rw_ph0013_01.wellSaid = true := by kernel_rfl
theorem qv_def : (defOf qv ("law" : Str)).isSome = true := by kernel_rfl
theorem qv_the : (defOf qv ("law" : Str)).map (fun e => (e.1.params, e.1.body, e.1.scope)) = PySem.Challenge.pw_ph0013_01.theDef ("law" : Str) := by kernel_rfl
theorem qv_kw : (defOf qv ("law" : Str)).map (fun e => kwWritten? e.1.params.kwonlyargs e.1.params.kw_defaults) = (defOf qv ("law" : Str)).map (fun e => some e.2) := by kernel_rfl
theorem holdsAll : PySem.Challenge.rw_ph0013_01.Holds := by
  refine holds_law qv_said fun said => ?_
  obtain ⟨⟨d, kwd⟩, hd⟩ := Option.isSome_iff_exists.mp qv_def
  have h2 := qv_the
  have h3 := qv_kw
  rw [hd] at h2 h3
  have hn := defOf_name hd
  refine holds_openS (r := PySem.Challenge.rw_ph0013_01.row) (d := d) (kwd := kwd) (q := qv) (loose := []) (Xt := fun s => xlAt qv [] s && recOk (RowW.records theRow) s) (XP := XL qv []) (Yf := Hook.obs Hook.none) (Ya := Hook.val Hook.none) (YP := Hook.says Hook.none) (N := 880) qv_left (Hook.of Hook.none) (Hook.keeps Hook.none) (fun s e => xl_of s (Bool.and_eq_true_iff.mp e).1) XL.keeps hd h2.symm (Option.some.inj h3) (fun s e => recFacts_of (Bool.and_eq_true_iff.mp e).2) ?h4 ?h5 ?h6 ⟨rfl, rfl, rfl, rfl, rfl, by decide +kernel⟩ ?hw ?hc
  case h4 => rfl
  case h5 => exact said
  case h6 => decide +kernel
  case hw => w_witness2
  case hc => exact join qv_rec qv_cm qv_free hn
end Mine
theorem PySem.Challenge.cw_ph0013_01_holds : PySem.Challenge.rw_ph0013_01.Holds :=
  Mine.holdsAll
