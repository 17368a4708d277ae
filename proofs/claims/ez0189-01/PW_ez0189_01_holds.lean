import PyProof.Rows.All
import Wide.All
import OpenK.AllK
import Wide.FinOn
import Lean
import PySem.Challenge.RW_ez0189_01
set_option linter.all false
-- SX
section
open PySem PySem.W PySem.W.X PyProof.Rows
set_option maxRecDepth 100000
namespace Mine

/-- a name's hash in this world -/
def hs0 (p : Params) (x : Str) : Int := if x.cps.isEmpty then 0 else reduceHash (p.strHash x.cps)

/-- the heap h: base h₀ of size n, the run's own objects T behind it, changed objects of the base in W -/
structure HR (h₀ : Heap) (n : Nat) (h : Heap) (W : List (Addr × Obj)) (T : BT) (m : Nat) : Prop where
  base : h₀.objs.size = n
  size : h.objs.size = n + m
  own : ∀ i o, T.get i = some o → i < m ∧ h.get? (n + i) = some o
  keep : ∀ b o, h₀.get? b = some o → (∀ p ∈ W, p.1 ≠ b) → h.get? b = some o
  ov : ∀ p ∈ W, p.1 < n ∧ h.get? p.1 = some p.2
  nd : (W.map (·.1)).Nodup

theorem HR.start (h : Heap) : HR h h.objs.size h [] .nil 0 :=
  ⟨rfl, rfl, fun _ _ e => (nomatch e), fun _ _ e _ => e, fun _ hp => (nomatch hp), List.nodup_nil⟩

theorem HR.alloc {h₀ : Heap} {n : Nat} {h : Heap} {W : List (Addr × Obj)} {T : BT} {m : Nat} (D : HR h₀ n h W T m) {o : Obj} (hf : o.isFreed = false)
    (hg : ((T.ins m o).get m).isSome = true) : HR h₀ n (h.push o) W (T.ins m o) (m + 1) := by
  refine ⟨D.base, by rw [Heap.size_push, D.size]; rfl, fun i o' e => ?_, fun b o' e q => Heap.get?_push_of_some _ (D.keep b o' e q),
    fun p hp => ⟨(D.ov p hp).1, Heap.get?_push_of_some _ (D.ov p hp).2⟩, D.nd⟩
  rw [BT.get_ins o T m hg] at e
  split at e
  · rename_i hi
    subst hi
    cases e
    refine ⟨Nat.lt_succ_self _, ?_⟩
    rw [← D.size]; exact Heap.get?_push_size _ hf
  · have z := D.own i o' e
    exact ⟨Nat.lt_succ_of_lt z.1, Heap.get?_push_of_some _ z.2⟩

/-- what the facts say lies at a -/
inductive Lk (h₀ : Heap) (n : Nat) (W : List (Addr × Obj)) (T : BT) (a : Addr) (o : Obj) : Prop where
  | new (j : Nat) (ha : a = n + j) (hg : T.get j = some o)
  | ov (hp : (a, o) ∈ W)
  | old (ha : h₀.get? a = some o) (hn : ∀ p ∈ W, p.1 ≠ a)

theorem HR.get {h₀ : Heap} {n : Nat} {h : Heap} {W : List (Addr × Obj)} {T : BT} {m : Nat} (D : HR h₀ n h W T m) {a : Addr} {o : Obj} (l : Lk h₀ n W T a o) : h.get? a = some o := by
  cases l with
  | new j ha hg => subst ha; exact (D.own _ _ hg).2
  | ov hp => exact (D.ov _ hp).2
  | old ha hn => exact D.keep _ _ ha hn

/-- a turns from o to o' -/
inductive Up (h₀ : Heap) (n : Nat) (W : List (Addr × Obj)) (T : BT) (a : Addr) (o o' : Obj) (W' : List (Addr × Obj)) (T' : BT) : Prop where
  | new (j : Nat) (ha : a = n + j) (hg : T.get j = some o) (hT : T' = T.set j (fun _ => o')) (hW : W' = W)
  | ov (i : Nat) (hp : W[i]? = some (a, o)) (hT : T' = T) (hW : W' = W.set i (a, o'))
  | old (ha : h₀.get? a = some o) (hn : ∀ p ∈ W, p.1 ≠ a) (hT : T' = T) (hW : W' = (a, o') :: W)

theorem Up.lk {h₀ : Heap} {n : Nat} {W W' : List (Addr × Obj)} {T T' : BT} {a : Addr} {o o' : Obj} (u : Up h₀ n W T a o o' W' T') : Lk h₀ n W T a o := by
  cases u with
  | new j ha hg => exact .new j ha hg
  | ov i hp => exact .ov (List.mem_of_getElem? hp)
  | old ha hn => exact .old ha hn

theorem keys_set {l : List (Addr × Obj)} {i : Nat} {a : Addr} {o o' : Obj} (h : l[i]? = some (a, o)) : (l.set i (a, o')).map (·.1) = l.map (·.1) := by
  rw [List.map_set]
  have : (l.map (·.1))[i]? = some a := by rw [List.getElem?_map, h]; rfl
  exact set_same this

theorem HR.upd {h₀ : Heap} {n : Nat} {h : Heap} {W W' : List (Addr × Obj)} {T T' : BT} {m : Nat} (D : HR h₀ n h W T m) {a : Addr} {o o' : Obj} {f : Obj → Obj}
    (u : Up h₀ n W T a o o' W' T') (hf : f o = o') (hz : o'.isFreed = false) : HR h₀ n (h.update a f) W' T' m := by
  subst hf
  have ho := D.get u.lk
  have hs : Heap.SameBut a h (h.update a f) := Heap.SameBut.update ..
  have ge : (h.update a f).get? a = some (f o) := Heap.get?_update_self f ho hz
  have lt : ∀ b x, h₀.get? b = some x → b < n := fun b x e => D.base ▸ Heap.lt_size e
  cases u with
  | new j ha hg hT hW =>
    subst hT hW ha
    have hj := (D.own _ _ hg).1
    refine ⟨D.base, by rw [hs.1, D.size], fun i x e => ?_, fun b x e q => ?_, fun p hp => ?_, D.nd⟩
    · rw [BT.get_set] at e
      split at e
      · rename_i hi
        subst hi
        rw [hg] at e
        cases e
        exact ⟨hj, ge⟩
      · rename_i hi
        have z := D.own i x e
        exact ⟨z.1, (hs.2 _ (fun q => hi (Nat.add_left_cancel q))).trans z.2⟩
    · exact (hs.2 b (Nat.ne_of_lt (Nat.lt_of_lt_of_le (lt b x e) (Nat.le_add_right ..)))).trans (D.keep b x e q)
    · have z := D.ov p hp
      exact ⟨z.1, (hs.2 _ (Nat.ne_of_lt (Nat.lt_of_lt_of_le z.1 (Nat.le_add_right ..)))).trans z.2⟩
  | ov i hp hT hW =>
    subst hT hW
    have z := D.ov _ (List.mem_of_getElem? hp)
    have hk : ∀ p ∈ W.set i (a, f o), p.1 = a → p = (a, f o) := fun p hp' e =>
      key_unique (l := W.set i (a, f o)) (by rw [keys_set hp]; exact D.nd) hp' (List.mem_set (List.getElem?_eq_some_iff.mp hp).1 _) e
    refine ⟨D.base, by rw [hs.1, D.size], fun j x e => ?_, fun b x e q => ?_, fun p hp' => ?_, by rw [keys_set hp]; exact D.nd⟩
    · have y := D.own j x e
      exact ⟨y.1, (hs.2 _ (Nat.ne_of_gt (Nat.lt_of_lt_of_le z.1 (Nat.le_add_right ..)))).trans y.2⟩
    · have hb : b ≠ a := fun e' => by
        subst e'
        exact q _ (List.mem_set (List.getElem?_eq_some_iff.mp hp).1 (b, f o)) rfl
      refine (hs.2 b hb).trans (D.keep b x e fun p hp' e' => ?_)
      have : b ∈ (W.set i (a, f o)).map (·.1) := by rw [keys_set hp, ← e']; exact List.mem_map_of_mem hp'
      obtain ⟨p', h1, h2⟩ := List.mem_map.mp this
      exact q p' h1 h2
    · by_cases hpa : p.1 = a
      · have := hk p hp' hpa
        subst this
        exact ⟨z.1, ge⟩
      · rcases List.mem_or_eq_of_mem_set hp' with h1 | rfl
        · exact ⟨(D.ov p h1).1, (hs.2 _ hpa).trans (D.ov p h1).2⟩
        · exact absurd rfl hpa
  | old ha hn hT hW =>
    subst hT hW
    have la := lt a o ha
    refine ⟨D.base, by rw [hs.1, D.size], fun j x e => ?_, fun b x e q => ?_, fun p hp => ?_, ?_⟩
    · have y := D.own j x e
      exact ⟨y.1, (hs.2 _ (Nat.ne_of_gt (Nat.lt_of_lt_of_le la (Nat.le_add_right ..)))).trans y.2⟩
    · exact (hs.2 b (fun e' => q _ (List.mem_cons_self ..) e'.symm)).trans (D.keep b x e fun p hp => q p (List.mem_cons_of_mem _ hp))
    · rcases List.mem_cons.mp hp with rfl | hp
      · exact ⟨la, ge⟩
      · exact ⟨(D.ov p hp).1, (hs.2 _ (hn p hp)).trans (D.ov p hp).2⟩
    · rw [List.map_cons]
      refine List.nodup_cons.mpr ⟨fun hm => ?_, D.nd⟩
      obtain ⟨p, hp, e⟩ := List.mem_map.mp hm
      exact hn p hp e

/-- the activation that a stack may not hold: it lets go of what a collection found -/
def isFin : Code → Bool
  | .builtin id _ => id == "lifetime.gc.finalise"
  | _ => false
structure NF (l : List (Code × Pos)) : Prop where
  all : ∀ x ∈ l, isFin x.1 = false
theorem NF.nil : NF [] := ⟨fun _ h => nomatch h⟩
theorem NF.cons {c : Code} {p : Pos} {l : List (Code × Pos)} (h : isFin c = false) (r : NF l) : NF ((c, p) :: l) := ⟨fun x hx => by
  rcases List.mem_cons.mp hx with rfl | hx
  · exact h
  · exact r.all x hx⟩
/-- a tree under its code, for all stacks that hold no such activation -/
def OwnN (M : Model) (A : Around) (c : Code) (t : Sem Fin) (R : Result → Shared → Prop) (s : Shared) : Prop :=
  ∀ Γ p, Γ.code = c → Γ.Below A → NF Γ.below → Sem.wp M Γ t (Sem.finPost M Γ R) (fun e _ s' => R (.error e) s') p s
def codeN (M : Model) (A : Around) (c : Code) (R : Result → Shared → Prop) (s : Shared) : Prop :=
  ∀ Γ p, Γ.code = c → Γ.Below A → NF Γ.below → wpCode M Γ R p s
theorem codeN_any {M : Model} {A : Around} {c : Code} {R : Result → Shared → Prop} {s : Shared} (x : codeAny M A c R s) : codeN M A c R s := fun Γ p hc hΓ _ => x Γ p hc hΓ
def endN (V : XV) : Kont → Result → Shared → Prop
  | .base => V.R₀
  | .ret c _ k κ => fun r s => OwnN (model V.prog V.w) (aroundOf V true κ) c (k r) (endN V κ) s
  | .gen .. => fun _ _ => False
  | .genS .. => fun _ _ => False
def wakeN (V : XV) : Kont → End → Shared → Prop
  | .gen g c k κ => fun e s => OwnN (model V.prog V.w) (aroundOf V true κ) c (k e.result) (endN V κ) (s.setGen g e.genState)
  | .genS g c fs k κ => postGS V.prog V.w (aroundOf V false κ) c fs (wakeN V κ) k g
  | .base => fun _ _ => False
  | .ret .. => fun _ _ => False
def Mn (V : XV) (c : Code) (md : Option (List Frame)) (κ : Kont) (t : Sem Fin) (s : Shared) : Prop := match md with
  | none => OwnN (model V.prog V.w) (aroundOf V true κ) c t (endN V κ) s
  | some fs => SegX (model V.prog V.w) (aroundOf V false κ) c t fs s (wakeN V κ)
section
variable {prog : Program} {w : World} {A : Around} {c : Code} {R : Result → Shared → Prop} {s : Shared}
theorem n_code {A' : Around} {c' : Code} (x : OwnN (model prog w) A' c' (denote table c') R s) : codeN (model prog w) A' c' R s := fun Γ p hc hΓ hN => by
  subst hc
  exact (wpCode_iff_wp _ _ _ _ _).mpr (x Γ p rfl hΓ hN)
theorem n_done {f : Flow} (x : R (.ok f) s) : OwnN (model prog w) A c (.pure (.done f)) R s := fun _ _ _ _ _ => x
theorem n_raise {e : Value} (x : R (.error e) s) : OwnN (model prog w) A c (.raise e) R s := fun _ _ _ _ _ => x
theorem n_again {c' : Code} (hq : c'.quiet = true) (x : OwnN (model prog w) A c' (denote table c') R s) : OwnN (model prog w) A c (.pure (.again c')) R s :=
  fun Γ p _ hΓ hN => ⟨hq, n_code x (Γ.goto c') p rfl (hΓ.goto c') hN⟩
theorem n_any {α : Type} {m : Sem α} {k : α → Sem Fin} (x : wpAny (model prog w) (A.under c) m (fun a s' => OwnN (model prog w) A c (k a) R s') (fun _ _ => False) s) : OwnN (model prog w) A c (m.bind k) R s := fun Γ p hc hΓ hN => by
  rw [Sem.wp_bind]
  refine Sem.wp_mono _ _ _ (fun a p' s' q => q Γ p' hc hΓ hN) (fun e p' s' q => q.elim) p s (x Γ p (hc ▸ hΓ.in))
theorem n_call {c' : Code} {hd : Option Value} {g : Bool} {l : List Value} {k : Result → Sem Fin} (hnb : hd ≠ some byPass) (hf : isFin c = false) (x : codeN (model prog w) ((A.under c).mark hd) c' (fun r s' => OwnN (model prog w) A c (k r) R s') s) :
    OwnN (model prog w) A c (.call c' hd g l k) R s := fun Γ p hc hΓ hN =>
  wpCode_mono (fun _ _ q => q Γ p hc hΓ hN) (x (Γ.enter c' hd p) p rfl ((hc ▸ hΓ.in : Γ.In (A.under c)).enter c' hd p hnb) (NF.cons (hc ▸ hf) hN))
end

section
variable {prog : Program} {w : World} {A : Around} {c : Code} {R : Result → Shared → Prop} {s : Shared} {g : Nat} {l : List Value} {k : GenResult → Sem Fin} {c₀ : Code}
theorem n_resume_f (hg : s.gens[g]? = some (.fresh c₀)) (x : SegX (model prog w) (A.under c) c₀ (denote table c₀) [] (s.setGen g .running) (fun e s₁ => OwnN (model prog w) A c (k e.result) R (s₁.setGen g e.genState))) :
    OwnN (model prog w) A c (.resume g (.send .none) l k) R s := fun Γ p hc hΓ hN => by
  obtain ⟨e₁, s₁, hr, hqt, he⟩ := x (Γ.wake c₀ p) p rfl ((hc ▸ hΓ.in : Γ.In (A.under c)).wake c₀ p)
  rw [Sem.wp_resume]
  exact ⟨_, _, by unfold Wakes; rw [hg]; exact ⟨e₁, s₁, hr, hqt, rfl, rfl⟩, he Γ p hc hΓ hN⟩
theorem n_resume_s {r : Resume} {k₀ : Resume → Sem Fin} {l₀ : List Value} {p₀ : Pos} {fs₀ : List Frame} {cl : Bool} (hg : s.gens[g]? = some (.suspended k₀ l₀ c₀ p₀ fs₀ cl))
    (x : SegX (model prog w) (A.under c) c₀ (k₀ r) fs₀ (s.setGen g .running) (fun e s₁ => OwnN (model prog w) A c (k e.result) R (s₁.setGen g e.genState))) : OwnN (model prog w) A c (.resume g r l k) R s := fun Γ p hc hΓ hN => by
  obtain ⟨e₁, s₁, hr, hqt, he⟩ := x (Γ.wake c₀ p) p₀ rfl ((hc ▸ hΓ.in : Γ.In (A.under c)).wake c₀ p)
  rw [Sem.wp_resume]
  exact ⟨_, _, by unfold Wakes; rw [hg]; exact ⟨e₁, s₁, hr, hqt, rfl, rfl⟩, he Γ p hc hΓ hN⟩
end

/-- the machine goes well from this state, whatever heap the facts fit -/
structure Go (V : XV) (h₀ : Heap) (n t₀ : Nat) (c : Code) (md : Option (List Frame)) (κ : Kont) (t : Sem Fin) (W : List (Addr × Obj)) (T : BT) (m i : Nat) (gl : List GenState) : Prop where
  go : ∀ h, HR h₀ n h W T m → Mn V c md κ t ⟨h, ⟨gl⟩, V.d, t₀ + i, V.os⟩
/-- the end of the run at its base -/
structure Fini (V : XV) (h₀ : Heap) (n t₀ : Nat) (r : Result) (W : List (Addr × Obj)) (T : BT) (m i : Nat) (gl : List GenState) : Prop where
  fini : ∀ h, HR h₀ n h W T m → V.R₀ r ⟨h, ⟨gl⟩, V.d, t₀ + i, V.os⟩

abbrev RestT := List (Addr × Obj) → BT → Nat → Nat → List GenState → Prop
abbrev RunT := Code → Option (List Frame) → Kont → Sem Fin → RestT

/-- calls at which the run asks -/
def halts : Code → Bool
  | .call _ _ => true
  | .func .. => true
  | .forLoop .. => true
  | .compLoop .. => true
  | .builtin id _ => id == "list.extend.loop"
  | _ => false

inductive NoRun : Prop

def wakeR (ih : RunT) (e : End) : Kont → RestT
  | .gen g c k κ => fun W T m i gl => ih c none κ (k e.result) W T m i (gl.set g e.genState)
  | .genS g c fs k κ => fun W T m i gl => ih c (some fs) κ (k e.result) W T m i (gl.set g e.genState)
  | .base => fun _ _ _ _ _ => NoRun
  | .ret .. => fun _ _ _ _ _ => NoRun
def retR (V : XV) (h₀ : Heap) (n t₀ : Nat) (ih : RunT) (r : Result) (md : Option (List Frame)) (κ : Kont) : RestT := match md with
  | none => match κ with
    | .base => fun W T m i gl => Fini V h₀ n t₀ r W T m i gl
    | .ret c _ k κ => ih c none κ (k r)
    | .gen .. => fun _ _ _ _ _ => NoRun
    | .genS .. => fun _ _ _ _ _ => NoRun
  | some fs => match fs with
    | [] => wakeR ih (.ret r) κ
    | f :: fs => match f with
      | .ret k _ _ _ c₁ _ _ => ih c₁ (some fs) κ (k r)
      | .gen .. => fun _ _ _ _ _ => NoRun

def callR (ih : RunT) (c : Code) (md : Option (List Frame)) (κ : Kont) (c' : Code) (hd : Option Value) (g : Bool) (l : List Value) (k : Result → Sem Fin) : RestT := match md with
  | none => match okMark hd with
    | true => match isFin c with
      | false => ih c' none (.ret c hd k κ) (denote table c')
      | true => fun _ _ _ _ _ => NoRun
    | false => fun _ _ _ _ _ => NoRun
  | some fs => fun W T m i gl => ∀ p : Pos, ih c' (some (.ret k hd g l c p [] :: fs)) κ (denote table c') W T m i gl

def runStep (V : XV) (h₀ : Heap) (n t₀ : Nat) (ih : RunT) (c : Code) (md : Option (List Frame)) (κ : Kont) (t : Sem Fin) : RestT := match t with
  | .pure fin => match fin with
    | .done f => retR V h₀ n t₀ ih (.ok f) md κ
    | .again c' => match halts c' with
      | true => Go V h₀ n t₀ c md κ (.pure (.again c'))
      | false => match c'.quiet with
        | true => ih c' md κ (denote table c')
        | false => fun _ _ _ _ _ => NoRun
  | .raise e => retR V h₀ n t₀ ih (.error e) md κ
  | .rule _ k => ih c md κ (k ())
  | .at _ k => ih c md κ (k ())
  | .point _ k => ih c md κ (k ())
  | .ask k => ih c md κ (k ⟨V.prog, V.w.params⟩)
  | .load a q k => Go V h₀ n t₀ c md κ (.load a q k)
  | .loadIfAlive a k => Go V h₀ n t₀ c md κ (.loadIfAlive a k)
  | .alloc o k => fun W T m i gl => match o.isFreed with
    | true => NoRun
    | false => match (T.ins m o).get m with
      | some _ => ih c md κ (k (n + m)) W (T.ins m o) (m + 1) i gl
      | none => NoRun
  | .update a q f k => Go V h₀ n t₀ c md κ (.update a q f k)
  | .fresh k => fun W T m i gl => ih c md κ (k (t₀ + i)) W T m (i + 1) gl
  | .handled own k => match own with
    | false => match md with
      | none => ih c md κ (k (aroundOf V true κ).handled)
      | some fs => ih c md κ (k ((aroundOf V false κ).over c fs).handled)
    | true => fun _ _ _ _ _ => NoRun
  | .stack k => fun W T m i gl => ∀ (p : Pos) (below : List (Code × Pos)), Lies (match md with | none => (aroundOf V true κ).under c | some fs => (aroundOf V false κ).over c fs) ((c, p) :: below) → (match md with | none => NF below | some _ => True) → ih c md κ (k ((c, p) :: below)) W T m i gl
  | .call c' hd g l k => match halts c' with
    | true => Go V h₀ n t₀ c md κ (.call c' hd g l k)
    | false => callR ih c md κ c' hd g l k
  | .newGen c' k => fun W T m i gl => ih c md κ (k gl.length) W T m i (gl ++ [.fresh c'])
  | .genState g k => fun W T m i gl => match gl[g]? with
    | some gs => ih c md κ (k gs.seen) W T m i gl
    | none => NoRun
  | .resume g r _ k => fun W T m i gl => match gl[g]? with
    | some gs => match gs with
      | .fresh c₀ => match r with
        | .send v => match v with
          | .none => ih c₀ (some []) (match md with | none => .gen g c k κ | some fs => .genS g c fs k κ) (denote table c₀) W T m i (gl.set g .running)
          | _ => NoRun
        | .throw _ => NoRun
      | .suspended k₀ _ c₀ _ fs₀ _ => ih c₀ (some fs₀) (match md with | none => .gen g c k κ | some fs => .genS g c fs k κ) (k₀ r) W T m i (gl.set g .running)
      | .running => NoRun
      | .finished => NoRun
    | none => NoRun
  | .yield v gd l k => match md with
    | none => fun _ _ _ _ _ => NoRun
    | some fs => match gd with
      | true => fun _ _ _ _ _ => NoRun
      | false => match splitAtGen fs with
        | some _ => fun _ _ _ _ _ => NoRun
        | none => match fs.any Frame.guarded with
          | true => fun _ _ _ _ _ => NoRun
          | false => fun W T m i gl => ∀ p : Pos, wakeR ih (.susp v false l k c p fs) κ W T m i gl
  | _ => fun _ _ _ _ _ => NoRun

def runS (V : XV) (h₀ : Heap) (n t₀ : Nat) : Nat → RunT
  | 0 => Go V h₀ n t₀
  | f + 1 => runStep V h₀ n t₀ (runS V h₀ n t₀ f)

section
variable {V : XV} {h₀ : Heap} {n t₀ : Nat} (ih : RunT)
  (IH : ∀ c md κ t W T m i gl, ih c md κ t W T m i gl → Go V h₀ n t₀ c md κ t W T m i gl)
include IH
theorem wakeR_sound {e : End} {κ : Kont} {W : List (Addr × Obj)} {T : BT} {m i : Nat} {gl : List GenState} {h : Heap} (H : wakeR ih e κ W T m i gl) (D : HR h₀ n h W T m) : wakeN V κ e ⟨h, ⟨gl⟩, V.d, t₀ + i, V.os⟩ := by
  cases κ with
  | base => cases H
  | ret => cases H
  | gen g c k κ =>
    have z := (IH _ _ _ _ _ _ _ _ _ H).go h D
    rw [← set_gens] at z
    exact z
  | genS g c fs k κ =>
    have z := (IH _ _ _ _ _ _ _ _ _ H).go h D
    rw [← set_gens] at z
    exact z
theorem retR_sound {r : Result} {c : Code} {md : Option (List Frame)} {κ : Kont} {t : Sem Fin} (ht : t = leafOf r) {W : List (Addr × Obj)} {T : BT} {m i : Nat} {gl : List GenState} {h : Heap}
    (H : retR V h₀ n t₀ ih r md κ W T m i gl) (D : HR h₀ n h W T m) : Mn V c md κ t ⟨h, ⟨gl⟩, V.d, t₀ + i, V.os⟩ := by
  cases md with
  | none =>
    have key : endN V κ r ⟨h, ⟨gl⟩, V.d, t₀ + i, V.os⟩ := by
      cases κ with
      | base => exact Fini.fini H h D
      | ret c₁ hd k κ => exact (IH _ _ _ _ _ _ _ _ _ H).go h D
      | gen => cases H
      | genS => cases H
    cases r with
    | ok f => subst ht; exact n_done key
    | error e => subst ht; exact n_raise key
  | some fs =>
    cases fs with
    | nil => exact s_end _ _ _ _ _ _ r t ht (wakeR_sound ih IH H D)
    | cons f fs =>
      cases f with
      | ret k hd g l c₁ p₁ kp => exact s_pop _ _ _ _ _ _ _ r t ht k hd g l c₁ p₁ kp ((IH _ _ _ _ _ _ _ _ _ H).go h D)
      | gen => cases H

theorem callR_sound {c : Code} {md : Option (List Frame)} {κ : Kont} {c' : Code} {hd : Option Value} {g : Bool} {l : List Value} {k : Result → Sem Fin} {W : List (Addr × Obj)} {T : BT} {m i : Nat} {gl : List GenState} {h : Heap}
    (H : callR ih c md κ c' hd g l k W T m i gl) (D : HR h₀ n h W T m) : Mn V c md κ (.call c' hd g l k) ⟨h, ⟨gl⟩, V.d, t₀ + i, V.os⟩ := by
  cases md with
  | none =>
    cases q : okMark hd with
    | false => simp only [callR, q] at H; cases H
    | true =>
      have hnb : hd ≠ some byPass := by
        intro e
        subst e
        simp [okMark] at q
      cases q2 : isFin c with
      | true => simp only [callR, q, q2] at H; cases H
      | false =>
        simp only [callR, q, q2] at H
        exact n_call hnb q2 (n_code ((IH _ _ _ _ _ _ _ _ _ H).go h D))
  | some fs => exact s_call _ _ _ _ _ _ _ _ _ _ _ _ fun p => (IH _ _ _ _ _ _ _ _ _ (H p)).go h D

theorem runStep_sound : ∀ c md κ t W T m i gl, runStep V h₀ n t₀ ih c md κ t W T m i gl → Go V h₀ n t₀ c md κ t W T m i gl := by
  intro c md κ t W T m i gl H
  have skim1 : ∀ {t'} (_ : skim ⟨V.prog, V.w.params⟩ 1 t = t') (_ : ih c md κ t' W T m i gl), Go V h₀ n t₀ c md κ t W T m i gl := by
    intro t' e x
    refine ⟨fun h D => ?_⟩
    have z := (IH _ _ _ _ _ _ _ _ _ x).go h D
    subst e
    cases md with
    | none =>
      cases t with
      | rule tag k => exact fun Γ p hc hΓ hN => z Γ p hc hΓ hN
      | «at» q k => exact fun Γ p hc hΓ hN => z Γ q hc hΓ hN
      | point l k => exact fun Γ p hc hΓ hN => z Γ p hc hΓ hN
      | ask k => exact fun Γ p hc hΓ hN => z Γ p hc hΓ hN
      | _ => exact z
    | some fs => exact s_skim _ _ _ _ _ _ _ _ 1 z
  cases t with
  | pure fin =>
    cases fin with
    | done f => exact ⟨fun h D => retR_sound ih IH rfl H D⟩
    | again c' =>
      cases q0 : halts c' with
      | true => simp only [runStep, q0] at H; exact H
      | false =>
        cases q : c'.quiet with
        | true =>
          simp only [runStep, q0, q] at H
          refine ⟨fun h D => ?_⟩
          have z := (IH _ _ _ _ _ _ _ _ _ H).go h D
          cases md with
          | none => exact n_again q z
          | some fs => exact s_again _ _ _ _ _ _ _ _ q z
        | false => simp only [runStep, q0, q] at H; cases H
  | raise e => exact ⟨fun h D => retR_sound ih IH rfl H D⟩
  | rule tag k => exact skim1 rfl H
  | «at» q k => exact skim1 rfl H
  | point l k => exact skim1 rfl H
  | ask k => exact skim1 rfl H
  | load a q k => exact H
  | loadIfAlive a k => exact H
  | update a q f k => exact H
  | alloc o k =>
    simp only [runStep] at H
    split at H
    · cases H
    · rename_i hf
      split at H
      · rename_i o' e
        refine ⟨fun h D => ?_⟩
        have z := (IH _ _ _ _ _ _ _ _ _ H).go (h.push o) (D.alloc hf (by rw [e]; rfl))
        have ea : h.objs.size = n + m := D.size
        cases md with
        | none => exact n_any (m := alloc o) (k := k) (wpAny_alloc (by rw [ea]; exact z))
        | some fs => exact s_cmd _ _ _ _ _ _ (m := PySem.alloc o) (k := k) (wpAny_alloc (by rw [ea]; exact z))
      · cases H
  | fresh k =>
    refine ⟨fun h D => ?_⟩
    have z := (IH _ _ _ _ _ _ _ _ _ H).go h D
    cases md with
    | none => exact n_any (m := fresh) (k := k) (wpAny_fresh z)
    | some fs => exact s_fresh _ _ _ _ _ _ _ _ _ _ _ _ z
  | handled own k =>
    cases own with
    | true => cases H
    | false =>
      refine ⟨fun h D => ?_⟩
      cases md with
      | none => exact n_any (m := handled) (k := k) (wpAny_handled ((IH _ _ _ _ _ _ _ _ _ H).go h D))
      | some fs => exact s_handled _ _ _ _ _ _ _ _ ((IH _ _ _ _ _ _ _ _ _ H).go h D)
  | stack k =>
    refine ⟨fun h D => ?_⟩
    cases md with
    | none =>
      exact fun Γ p hc hΓ hN => by
        subst hc
        exact (IH _ _ _ _ _ _ _ _ _ (H p Γ.below (lies_of hΓ.in) hN)).go h D Γ p rfl hΓ hN
    | some fs => exact s_stack _ _ _ _ _ _ _ _ fun p below l => (IH _ _ _ _ _ _ _ _ _ (H p below l trivial)).go h D
  | call c' hd g l k =>
    cases q0 : halts c' with
    | true => simp only [runStep, q0] at H; exact H
    | false => simp only [runStep, q0] at H; exact ⟨fun h D => callR_sound ih IH H D⟩
  | newGen c' k =>
    refine ⟨fun h D => ?_⟩
    have z := (IH _ _ _ _ _ _ _ _ _ H).go h D
    cases md with
    | none =>
      exact fun Γ p hc hΓ hN => by
        have y := z Γ p hc hΓ hN
        rw [← push_gens] at y
        exact y
    | some fs => exact s_newGen _ _ _ _ _ _ _ _ _ _ _ _ _ (by rw [push_gens]; exact z)
  | genState g k =>
    simp only [runStep] at H
    split at H
    · rename_i gs e
      refine ⟨fun h D => ?_⟩
      have z := (IH _ _ _ _ _ _ _ _ _ H).go h D
      cases md with
      | none => exact fun Γ p hc hΓ hN => ⟨gs, (get_gens gl g).trans e, z Γ p hc hΓ hN⟩
      | some fs => exact s_genState _ _ _ _ _ _ _ _ _ gs ((get_gens gl g).trans e) z
    · cases H
  | resume g r l k =>
    simp only [runStep] at H
    split at H
    · rename_i gs e
      have hg : (⟨gl⟩ : Array GenState)[g]? = some gs := (get_gens gl g).trans e
      cases gs with
      | fresh c₀ =>
        cases r with
        | throw => cases H
        | send v =>
          cases v with
          | none =>
            refine ⟨fun h D => ?_⟩
            have z := (IH _ _ _ _ _ _ _ _ _ H).go h D
            rw [← set_gens] at z
            cases md with
            | none => exact n_resume_f hg z
            | some fs => exact s_resume_f _ _ _ _ _ _ _ _ _ _ _ hg z
          | _ => cases H
      | suspended k₀ l₀ c₀ p₀ fs₀ cl =>
        refine ⟨fun h D => ?_⟩
        have z := (IH _ _ _ _ _ _ _ _ _ H).go h D
        rw [← set_gens] at z
        cases md with
        | none => exact n_resume_s hg z
        | some fs => exact s_resume_s _ _ _ _ _ _ _ _ _ _ _ _ _ _ _ _ _ hg z
      | running => cases H
      | finished => cases H
    · cases H
  | yield v gd l k =>
    cases md with
    | none => cases H
    | some fs =>
      cases gd with
      | true => cases H
      | false =>
        cases hfs : splitAtGen fs with
        | some _ => simp only [runStep, hfs] at H; cases H
        | none =>
          cases hfg : fs.any Frame.guarded with
          | true => simp only [runStep, hfs, hfg] at H; cases H
          | false =>
            simp only [runStep, hfs, hfg] at H
            exact ⟨fun h D => s_yield _ _ _ _ _ _ _ _ _ _ hfs hfg fun p => wakeR_sound ih IH (H p) D⟩
  | unsupported => cases H
  | finish => cases H
  | register => cases H
  | choose => cases H
  | os => cases H
  | fork => cases H
  | thread => cases H
  | await => cases H
end

theorem runS_sound {V : XV} {h₀ : Heap} {n t₀ : Nat} : ∀ f c md κ t W T m i gl, runS V h₀ n t₀ f c md κ t W T m i gl → Go V h₀ n t₀ c md κ t W T m i gl
  | 0 => fun _ _ _ _ _ _ _ _ _ H => H
  | f + 1 => runStep_sound (runS V h₀ n t₀ f) (runS_sound f)

section
variable {V : XV} {h₀ : Heap} {n t₀ : Nat} {c : Code} {md : Option (List Frame)} {κ : Kont} {W : List (Addr × Obj)} {T : BT} {m i : Nat} {gl : List GenState}

theorem go_load {a : Addr} {q : Option Value} {k : Obj → Sem Fin} (o : Obj) (l : Lk h₀ n W T a o) (x : Go V h₀ n t₀ c md κ (k o) W T m i gl) : Go V h₀ n t₀ c md κ (.load a q k) W T m i gl := by
  refine ⟨fun h D => ?_⟩
  have z := x.go h D
  cases md with
  | none => exact n_any (m := loadPart a q) (k := k) (wpAny_loadPart (D.get l) z)
  | some fs => exact s_load _ _ _ _ _ _ _ _ _ _ _ _ _ _ _ (D.get l) z
theorem go_alive {a : Addr} {k : Option Obj → Sem Fin} (o : Obj) (l : Lk h₀ n W T a o) (x : Go V h₀ n t₀ c md κ (k (some o)) W T m i gl) : Go V h₀ n t₀ c md κ (.loadIfAlive a k) W T m i gl := by
  refine ⟨fun h D => ?_⟩
  have z := x.go h D
  cases md with
  | none =>
    exact fun Γ p hc hΓ hN => by
      show Sem.wp _ _ (k (h.get? a)) _ _ _ _
      rw [D.get l]; exact z Γ p hc hΓ hN
  | some fs => exact s_alive _ _ _ _ _ _ _ _ _ _ _ _ _ _ (D.get l) z
theorem go_update {a : Addr} {q : Option Value} {f : Obj → Obj} {k : Unit → Sem Fin} (o o' : Obj) (W' : List (Addr × Obj)) (T' : BT) (u : Up h₀ n W T a o o' W' T') (hf : f o = o') (hz : o'.isFreed = false)
    (x : Go V h₀ n t₀ c md κ (k ()) W' T' m i gl) : Go V h₀ n t₀ c md κ (.update a q f k) W T m i gl := by
  refine ⟨fun h D => ?_⟩
  have z := x.go _ (D.upd u hf hz)
  have ho := D.get u.lk
  cases md with
  | none => exact n_any (m := updatePart a q f) (k := k) (wpAny_updatePart ho z)
  | some fs => exact s_cmd _ _ _ _ _ _ (m := updatePart a q f) (k := k) (wpAny_updatePart ho z)
/-- step into a call -/
theorem go_call {c' : Code} {hd : Option Value} {g : Bool} {l : List Value} {k : Result → Sem Fin} (x : callR (Go V h₀ n t₀) c md κ c' hd g l k W T m i gl) : Go V h₀ n t₀ c md κ (.call c' hd g l k) W T m i gl :=
  ⟨fun _ D => callR_sound (Go V h₀ n t₀) (fun _ _ _ _ _ _ _ _ _ x => x) x D⟩
/-- step on to the next code -/
theorem go_again {c' : Code} (hq : c'.quiet = true) (x : Go V h₀ n t₀ c' md κ (denote table c') W T m i gl) : Go V h₀ n t₀ c md κ (.pure (.again c')) W T m i gl := by
  refine ⟨fun h D => ?_⟩
  have z := x.go h D
  cases md with
  | none => exact n_again hq z
  | some fs => exact s_again _ _ _ _ _ _ _ _ hq z
/-- a call by a contract -/
def arOf (V : XV) (c : Code) (md : Option (List Frame)) (κ : Kont) (hd : Option Value) : Around := match md with
  | none => ((aroundOf V true κ).under c).mark hd
  | some fs => ((aroundOf V false κ).over c fs).mark hd
theorem go_spec {c' : Code} {hd : Option Value} {g : Bool} {l : List Value} {k : Result → Sem Fin} (hm : okMark hd = true)
    (x : ∀ h, HR h₀ n h W T m → (match md with | none => codeN | some _ => codeAny) (model V.prog V.w) (arOf V c md κ hd) c' (fun r s' => Mn V c md κ (k r) s') ⟨h, ⟨gl⟩, V.d, t₀ + i, V.os⟩) (hf : (match md with | none => isFin c | some _ => false) = false) : Go V h₀ n t₀ c md κ (.call c' hd g l k) W T m i gl := by
  have hnb : hd ≠ some byPass := by
    intro e
    subst e
    simp [okMark] at hm
  refine ⟨fun h D => ?_⟩
  cases md with
  | none => exact n_call hnb hf (x h D)
  | some fs =>
    refine s_cmd _ _ _ _ _ _ (m := Sem.call c' hd g l .pure) (k := k) (x_call ?_ hnb)
    exact codeAny_mono (x h D) fun r s' z => wpAny_pure z
/-- the start of a run -/
theorem go_start {prog : Program} {w : World} {A : Around} {c : Code} {R : Result → Shared → Prop} {h : Heap} {gl : List GenState} {d : Drawn} {t₀ : Nat} {os : OsState} (h' : Heap)
    (x : Go ⟨prog, w, h', 0, .nil, [], A, R, d, 0, os⟩ h h.objs.size t₀ c none .base (denote table c) [] .nil 0 0 gl) : codeN (model prog w) A c R ⟨h, ⟨gl⟩, d, t₀, os⟩ :=
  n_code (x.go h (HR.start h))
end
end Mine

end
-- Top
section
open PySem PySem.W PySem.W.X PyProof.Rows
set_option maxRecDepth 100000
set_option Elab.async false
namespace Mine.Drv
open Lean Meta Elab Tactic PySem PySem.W PySem.W.X PySem.W.XRun PySem.W.ZRun

/-- writes the top's objects out: one constant an object, and the tree of them, as Mine.ktop -/
def layTop : TacticM Unit := do
  let p ← progOf (mkConst ``PySem.Challenge.pw_ez0189_01)
  let some (h, h') ← twoRuns p | throwError "the top does not come through"
  let P := mkConst ``Params
  let fr ← withLocalDeclD `P P fun q => do
    (xFragOf q (some "law") h h').mapM fun (a, _, e) => do
      let e ← match ← ZFast.quick e with | some (e', _) => pure e' | none => pure e
      let nm := (`Mine.zo).appendIndexAfter a
      addDecl (.defnDecl { name := nm, levelParams := [], type := ← mkArrow P (mkConst ``Obj), value := ← mkLambdaFVars #[q] e, hints := .abbrev, safety := .safe })
      return (a, nm)
  let tv ← withLocalDeclD `P P fun q => do mkLambdaFVars #[q] (← ktE q (fr.map fun (a, c) => (a, c)))
  addDecl (.defnDecl { name := `Mine.ktop, levelParams := [], type := ← mkArrow P (mkConst ``KT), value := tv, hints := .abbrev, safety := .safe })
  ZFast.laying.set true
  let r ← ZFast.prime ``Mine.hs0
  ZFast.laying.set false
  let some (a, b) := r | throwError "no twin of hs0"
  addDecl (.defnDecl { name := `Mine.hs, levelParams := [], type := ← mkArrow P (← mkArrow (mkConst ``Str) (mkConst ``Int)), value := mkConst a, hints := .abbrev, safety := .safe })
  let ft ← mkArrow P (← mkArrow (mkConst ``Str) (mkConst ``Int))
  addDecl (.thmDecl { name := `Mine.hs_is, levelParams := [], type := mkApp3 (mkConst ``Eq [1]) ft (mkConst ``Mine.hs0) (mkConst `Mine.hs), value := mkConst b })
  logInfo m!"TOP {fr.length} objects"
end Mine.Drv
theorem Mine.laid : True := by
  run_tac Mine.Drv.layTop
  trivial
theorem Mine.hs_at (w : World) (x : Str) : Mine.hs w.params x = hashStr w x := by
  rw [← Mine.hs_is]; rfl

end
-- SXD
section
open PySem PySem.W PySem.W.X PyProof.Rows
set_option maxRecDepth 100000
set_option Elab.async false
namespace Mine

theorem runS_by (r : XV → Heap → Nat → Nat → Nat → RunT) (e : @runS = r) {V : XV} {h₀ : Heap} {n t₀ : Nat} (f : Nat) {c : Code} {md : Option (List Frame)} {κ : Kont} {t : Sem Fin} {W : List (Addr × Obj)} {T : BT} {m i : Nat} {gl : List GenState}
    (x : r V h₀ n t₀ f c md κ t W T m i gl) : Go V h₀ n t₀ c md κ t W T m i gl := by
  subst e
  exact runS_sound f _ _ _ _ _ _ _ _ _ x

theorem callR_by (r : RunT → Code → Option (List Frame) → Kont → Code → Option Value → Bool → List Value → (Result → Sem Fin) → RestT) (e : @callR = r) {V : XV} {h₀ : Heap} {n t₀ : Nat} {c : Code} {md : Option (List Frame)} {κ : Kont} {W : List (Addr × Obj)} {T : BT} {m i : Nat} {gl : List GenState}
    {c' : Code} {hd : Option Value} {g : Bool} {l : List Value} {k : Result → Sem Fin} (x : r (Go V h₀ n t₀) c md κ c' hd g l k W T m i gl) : Go V h₀ n t₀ c md κ (.call c' hd g l k) W T m i gl := by
  subst e
  exact go_call x

theorem again_by (r : Sem Fin) {V : XV} {h₀ : Heap} {n t₀ : Nat} {c : Code} {md : Option (List Frame)} {κ : Kont} {W : List (Addr × Obj)} {T : BT} {m i : Nat} {gl : List GenState} {c' : Code} (e : denote table c' = r) (hq : c'.quiet = true)
    (x : Go V h₀ n t₀ c' md κ r W T m i gl) : Go V h₀ n t₀ c md κ (.pure (.again c')) W T m i gl := by
  subst e
  exact go_again hq x

theorem ne_off (n i j : Nat) (h : Nat.beq i j = false) : n + i ≠ n + j := fun e => Nat.ne_of_beq_eq_false h (Nat.add_left_cancel e)
theorem ne_lit (i j : Nat) (h : Nat.beq i j = false) : i ≠ j := Nat.ne_of_beq_eq_false h
theorem all_nil (a : Addr) : ∀ p ∈ ([] : List (Addr × Obj)), p.1 ≠ a := fun _ h => nomatch h
theorem all_cons (a : Addr) (x : Addr) (o : Obj) (W : List (Addr × Obj)) (h : x ≠ a) (r : ∀ p ∈ W, p.1 ≠ a) : ∀ p ∈ (x, o) :: W, p.1 ≠ a := fun p hp => by
  rcases List.mem_cons.mp hp with rfl | hp
  · exact h
  · exact r p hp
theorem no_nil (a : Addr) : ∀ x ∈ ([] : List Addr), x ≠ a := fun _ h => nomatch h
theorem no_cons (a x : Addr) (M : List Addr) (h : x ≠ a) (r : ∀ y ∈ M, y ≠ a) : ∀ y ∈ x :: M, y ≠ a := fun y hy => by
  rcases List.mem_cons.mp hy with rfl | hy
  · exact h
  · exact r y hy

theorem go_eq {V : XV} {h₀ : Heap} {n t₀ : Nat} {c : Code} {md : Option (List Frame)} {κ : Kont} {t : Sem Fin} {W : List (Addr × Obj)} {T : BT} {m i : Nat} {gl : List GenState} (t' : Sem Fin) (e : t = t') (x : Go V h₀ n t₀ c md κ t' W T m i gl) : Go V h₀ n t₀ c md κ t W T m i gl := by
  subst e; exact x

theorem g_meet (b : Bool) (F : Bool → Prop) (x : F true) (y : F false) : F b := by
  cases b with
  | true => exact x
  | false => exact y

/-- what stands of h₁ in h, but for the addresses M -/
structure Kp (h₁ : Heap) (M : List Addr) (h : Heap) : Prop where
  keep : ∀ b o, h₁.get? b = some o → (∀ x ∈ M, x ≠ b) → h.get? b = some o
  size : h₁.objs.size ≤ h.objs.size

theorem Kp.refl (h : Heap) (M : List Addr) : Kp h M h := ⟨fun _ _ e _ => e, Nat.le_refl _⟩

theorem means_of_go {V : XV} {h₀ : Heap} {n t₀ : Nat} {c : Code} {md : Option (List Frame)} {κ : Kont} {t : Sem Fin} {W : List (Addr × Obj)} {T : BT} {m i : Nat} {gl : List GenState} {h : Heap} (D : HR h₀ n h W T m)
    (x : Go V h₀ n t₀ c md κ t W T m i gl) : Mn V c md κ t ⟨h, ⟨gl⟩, V.d, t₀ + i, V.os⟩ := x.go h D
theorem means_rebase {V : XV} {t : Nat} {c : Code} {md : Option (List Frame)} {κ : Kont} {tr : Sem Fin} {gl : List GenState} {h : Heap} (n : Nat) (hn : h.objs.size = n)
    (x : Go V h n t c md κ tr [] .nil 0 0 gl) : Mn V c md κ tr ⟨h, ⟨gl⟩, V.d, t, V.os⟩ := by subst hn; exact x.go h (HR.start h)
theorem lk_size {h : Heap} {a : Addr} {o : Obj} (e : h.get? a = some o) : a < h.objs.size := Heap.lt_size e

theorem Kp.of {h₁ h₀ h : Heap} {M : List Addr} {n : Nat} {W : List (Addr × Obj)} {T : BT} {m : Nat} (K : Kp h₁ M h₀) (D : HR h₀ n h W T m) (hw : ∀ p ∈ W, p.1 ∈ M ∨ h₁.objs.size ≤ p.1) : Kp h₁ M h := by
  refine ⟨fun b o e q => D.keep b o (K.keep b o e q) fun p hp e' => ?_, Nat.le_trans K.size (by rw [D.size, D.base]; exact Nat.le_add_right ..)⟩
  rcases hw p hp with h2 | h2
  · exact q _ h2 e'
  · exact Nat.lt_irrefl _ (Nat.lt_of_lt_of_le (e' ▸ Heap.lt_size e) h2)
theorem Kp.step {h₁ y h : Heap} {M M' : List Addr} (a : Kp h₁ M y) (b : Kp y M' h) (hm : ∀ x ∈ M', x ∈ M ∨ h₁.objs.size ≤ x) : Kp h₁ M h := by
  refine ⟨fun x o e q => b.keep x o (a.keep x o e q) fun z hz e' => ?_, Nat.le_trans a.size b.size⟩
  rcases hm z hz with h2 | h2
  · exact q _ h2 e'
  · exact Nat.lt_irrefl _ (Nat.lt_of_lt_of_le (e' ▸ Heap.lt_size e) h2)
theorem allx_nil (M : List Addr) (n : Nat) : ∀ x ∈ ([] : List Addr), x ∈ M ∨ n ≤ x := fun _ h => nomatch h
theorem allx_cons (M : List Addr) (n : Nat) (x : Addr) (W : List Addr) (h : x ∈ M ∨ n ≤ x) (r : ∀ y ∈ W, y ∈ M ∨ n ≤ y) : ∀ y ∈ x :: W, y ∈ M ∨ n ≤ y := fun y hy => by
  rcases List.mem_cons.mp hy with rfl | hy
  · exact h
  · exact r y hy
/-- the first heap: its written-out objects, and all of it -/
structure TopT where
  kt : KT
  h0 : Heap
/-- the top's objects stand -/
def TopK (T : TopT) (h : Heap) : Prop := (∀ a o, a < 642 → T.kt.get a = some o → h.get? a = some o) ∧ ∀ a o, a < 643 → T.h0.get? a = some o → h.get? a = some o
theorem TopK.at {T : TopT} {h : Heap} (x : TopK T h) (a : Addr) (o : Obj) (ha : Nat.blt a 642 = true) (e : T.kt.get a = some o) : h.get? a = some o := x.1 a o (Nat.le_of_ble_eq_true ha) e
theorem TopK.hr {T : TopT} {h₀ h : Heap} {n : Nat} {W : List (Addr × Obj)} {B : BT} {m : Nat} (x : TopK T h₀) (D : HR h₀ n h W B m) (hw : ∀ p ∈ W, p.1 ∈ ([] : List Addr) ∨ 643 ≤ p.1) : TopK T h := by
  have key : ∀ a o, a < 643 → h₀.get? a = some o → h.get? a = some o := fun a o ha e =>
    D.keep a o e fun p hp e' => by
      rcases hw p hp with h1 | h1
      · cases h1
      · exact Nat.lt_irrefl _ (Nat.lt_of_lt_of_le ha (e' ▸ h1))
  exact ⟨fun a o ha e => key a o (Nat.lt_succ_of_lt ha) (x.1 a o ha e), fun a o ha e => key a o ha (x.2 a o ha e)⟩
theorem TopK.kp {T : TopT} {h₀ h : Heap} {M : List Addr} (x : TopK T h₀) (K : Kp h₀ M h) (hm : ∀ y ∈ M, 643 ≤ y) : TopK T h := by
  have key : ∀ a o, a < 643 → h₀.get? a = some o → h.get? a = some o := fun a o ha e =>
    K.keep a o e fun y hy e' => Nat.lt_irrefl _ (Nat.lt_of_lt_of_le ha (e' ▸ hm y hy))
  exact ⟨fun a o ha e => key a o (Nat.lt_succ_of_lt ha) (x.1 a o ha e), fun a o ha e => key a o ha (x.2 a o ha e)⟩
theorem allm_nil : ∀ y ∈ ([] : List Addr), 643 ≤ y := fun _ h => nomatch h
theorem allm_cons (x : Addr) (M : List Addr) (h : 643 ≤ x) (r : ∀ y ∈ M, 643 ≤ y) : ∀ y ∈ x :: M, 643 ≤ y := fun y hy => by
  rcases List.mem_cons.mp hy with rfl | hy
  · exact h
  · exact r y hy
/-- as Kp, with a stretch of addresses that may change -/
structure KI (h₁ : Heap) (lo hi : Nat) (M : List Addr) (h : Heap) : Prop where
  keep : ∀ (b : Addr) o, h₁.get? b = some o → ((b : Nat) < lo ∨ hi ≤ (b : Nat)) → (∀ x ∈ M, x ≠ b) → h.get? b = some o
  size : h₁.objs.size ≤ h.objs.size
theorem KI.refl (h : Heap) (lo hi : Nat) (M : List Addr) : KI h lo hi M h := ⟨fun _ _ e _ _ => e, Nat.le_refl _⟩
theorem KI.of {h₁ h₀ h : Heap} {lo hi : Nat} {M : List Addr} {n : Nat} {W : List (Addr × Obj)} {T : BT} {m : Nat} (K : KI h₁ lo hi M h₀) (D : HR h₀ n h W T m)
    (hw : ∀ p ∈ W, (p.1 ∈ M ∨ h₁.objs.size ≤ p.1) ∨ (lo ≤ p.1 ∧ p.1 < hi)) : KI h₁ lo hi M h := by
  refine ⟨fun b o e r q => D.keep b o (K.keep b o e r q) fun p hp e' => ?_, Nat.le_trans K.size (by rw [D.size, D.base]; exact Nat.le_add_right ..)⟩
  rcases hw p hp with (h2 | h2) | h2
  · exact q _ h2 e'
  · exact Nat.lt_irrefl _ (Nat.lt_of_lt_of_le (e' ▸ Heap.lt_size e) h2)
  · rw [e'] at h2
    rcases r with r | r
    · exact Nat.lt_irrefl _ (Nat.lt_of_lt_of_le r h2.1)
    · exact Nat.lt_irrefl _ (Nat.lt_of_lt_of_le h2.2 r)
theorem TopK.ki {T : TopT} {h₀ h : Heap} {lo hi : Nat} {M : List Addr} (x : TopK T h₀) (K : KI h₀ lo hi M h) (hl : Nat.ble 643 lo = true) (hm : ∀ y ∈ M, 643 ≤ y) : TopK T h := by
  have key : ∀ a o, a < 643 → h₀.get? a = some o → h.get? a = some o := fun a o ha e =>
    K.keep a o e (.inl (Nat.lt_of_lt_of_le ha (Nat.le_of_ble_eq_true hl))) fun y hy e' => Nat.lt_irrefl _ (Nat.lt_of_lt_of_le ha (e' ▸ hm y hy))
  exact ⟨fun a o ha e => key a o (Nat.lt_succ_of_lt ha) (x.1 a o ha e), fun a o ha e => key a o ha (x.2 a o ha e)⟩
theorem allk_nil (M : List Addr) (n lo hi : Nat) : ∀ p ∈ ([] : List (Addr × Obj)), (p.1 ∈ M ∨ n ≤ p.1) ∨ (lo ≤ p.1 ∧ p.1 < hi) := fun _ h => nomatch h
theorem allk_cons (M : List Addr) (n lo hi : Nat) (x : Addr) (o : Obj) (W : List (Addr × Obj)) (h : (x ∈ M ∨ n ≤ x) ∨ (lo ≤ x ∧ x < hi)) (r : ∀ p ∈ W, (p.1 ∈ M ∨ n ≤ p.1) ∨ (lo ≤ p.1 ∧ p.1 < hi)) :
    ∀ p ∈ (x, o) :: W, (p.1 ∈ M ∨ n ≤ p.1) ∨ (lo ≤ p.1 ∧ p.1 < hi) := by
  intro p hp
  rcases List.mem_cons.mp hp with rfl | h1
  · exact h
  · exact r p h1
theorem all_lt_succ {P : Nat → Prop} {k : Nat} (a : ∀ i, i < k → P i) (b : P k) : ∀ i, i < k + 1 → P i := by
  intro i hi
  by_cases h : i = k
  · exact h ▸ b
  · exact a i (by omega)
theorem skol {P : Nat → Nat → Nat → Prop} {k : Nat} (h : ∀ i, i < k → ∃ a b, P i a b) : ∃ f g : Nat → Nat, ∀ i, i < k → P i (f i) (g i) := by
  refine ⟨fun i => if hi : i < k then Classical.choose (h i hi) else 0, fun i => if hi : i < k then Classical.choose (Classical.choose_spec (h i hi)) else 0, fun i hi => ?_⟩
  simp only [dif_pos hi]
  exact Classical.choose_spec (Classical.choose_spec (h i hi))
abbrev listO (vs : List Value) (e : Nat) : Obj := { cls := .type "list", dict := none, data := .seq vs.toArray e, slots := #[] }
/-- pairs of numbers -/
abbrev pairO (i j : Int) (ti tj : Nat) : Obj := { cls := .type "tuple", dict := none, data := .seq #[.int i ti, .int j tj] 0, slots := #[] }
/-- pairs that lie behind the law's own objects stand -/
def PK (h h' : Heap) : Prop := ∀ (a : Addr) i j ti tj, 687 ≤ (a : Nat) → h.get? a = some (pairO i j ti tj) → h'.get? a = some (pairO i j ti tj)
theorem PK.refl (h : Heap) : PK h h := fun _ _ _ _ _ _ e => e
theorem PK.trans {h h' h'' : Heap} (a : PK h h') (b : PK h' h'') : PK h h'' := fun x i j ti tj hx e => b x i j ti tj hx (a x i j ti tj hx e)
def noSeq (o : Obj) : Bool := match o.data with | .seq _ _ => false | _ => true
/-- what of a heap is no pair -/
inductive NoPair (h : Heap) (x : Addr) : Prop
  | low (e : Nat.blt x 687 = true)
  | lowp (e : (x : Nat) + 1 ≤ 687)
  | data (o : Obj) (e : h.get? x = some o) (n : noSeq o = true)
  | list (vs : List Value) (e : Nat) (q : h.get? x = some { cls := .type "list", dict := none, data := .seq vs.toArray e, slots := #[] })
theorem allp_nil (h : Heap) : ∀ p ∈ ([] : List (Addr × Obj)), NoPair h p.1 := fun _ h => nomatch h
theorem allp_cons (h : Heap) (x : Addr) (o : Obj) (W : List (Addr × Obj)) (a : NoPair h x) (r : ∀ p ∈ W, NoPair h p.1) : ∀ p ∈ (x, o) :: W, NoPair h p.1 := by
  intro p hp
  rcases List.mem_cons.mp hp with rfl | h1
  · exact a
  · exact r p h1
theorem PK.hr {h₁ h₀ h : Heap} {n : Nat} {W : List (Addr × Obj)} {T : BT} {m : Nat} (K : PK h₁ h₀) (D : HR h₀ n h W T m) (hw : ∀ p ∈ W, NoPair h₀ p.1) : PK h₁ h := by
  intro a i j ti tj ha e
  have e0 := K a i j ti tj ha e
  refine D.keep a _ e0 fun p hp he => ?_
  cases hw p hp with
  | low q => rw [he] at q; exact Nat.lt_irrefl _ (Nat.lt_of_lt_of_le (Nat.le_of_ble_eq_true q) ha)
  | lowp q => rw [he] at q; exact Nat.lt_irrefl _ (Nat.lt_of_lt_of_le q ha)
  | data o q nq => rw [he, e0] at q; cases q; cases nq
  | list vs e q =>
    rw [he, e0] at q
    have := congrArg Obj.cls (Option.some.inj q)
    revert this
    show ¬ (Value.type "tuple" = Value.type "list")
    decide
theorem allq_nil (h : Heap) : ∀ x ∈ ([] : List Addr), NoPair h x := fun _ h => nomatch h
theorem allq_cons (h : Heap) (x : Addr) (W : List Addr) (a : NoPair h x) (r : ∀ y ∈ W, NoPair h y) : ∀ y ∈ x :: W, NoPair h y := by
  intro y hy
  rcases List.mem_cons.mp hy with rfl | h1
  · exact a
  · exact r y h1
theorem PK.kp {h₁ h₀ h : Heap} {M : List Addr} (K : PK h₁ h₀) (D : Kp h₀ M h) (hw : ∀ x ∈ M, NoPair h₀ x) : PK h₁ h := by
  intro a i j ti tj ha e
  have e0 := K a i j ti tj ha e
  refine D.keep a _ e0 fun p hp he => ?_
  cases hw p hp with
  | low q => rw [he] at q; exact Nat.lt_irrefl _ (Nat.lt_of_lt_of_le (Nat.le_of_ble_eq_true q) ha)
  | lowp q => rw [he] at q; exact Nat.lt_irrefl _ (Nat.lt_of_lt_of_le q ha)
  | data o q nq => rw [he, e0] at q; cases q; cases nq
  | list vs e q =>
    rw [he, e0] at q
    have := congrArg Obj.cls (Option.some.inj q)
    revert this
    show ¬ (Value.type "tuple" = Value.type "list")
    decide
theorem allw_nil (M : List Addr) (n : Nat) : ∀ p ∈ ([] : List (Addr × Obj)), p.1 ∈ M ∨ n ≤ p.1 := fun _ h => nomatch h
theorem allw_cons (M : List Addr) (n : Nat) (x : Addr) (o : Obj) (W : List (Addr × Obj)) (h : x ∈ M ∨ n ≤ x) (r : ∀ p ∈ W, p.1 ∈ M ∨ n ≤ p.1) : ∀ p ∈ (x, o) :: W, p.1 ∈ M ∨ n ≤ p.1 := fun p hp => by
  rcases List.mem_cons.mp hp with rfl | hp
  · exact h
  · exact r p hp

theorem grown (F : List Value → Obj) (v : Value) (L : List Value) : F (@List.rec Value (fun _ => List Value) [v] (fun a _ ih => a :: ih) L) = F (L ++ [v]) := by
  congr 1
  induction L with
  | nil => rfl
  | cons a l ih => simp only [List.cons_append]; rw [← ih]
/-- a look at the stack that finds nothing but such an activation -/
def quietAll {β : Type} (f : Code × Pos → Option β) : Prop := ∀ x : Code × Pos, isFin x.1 = false → f x = none
theorem notFin {id : String} {args : Args} (h : isFin (.builtin id args) = false) : ¬ id = "lifetime.gc.finalise" := by
  intro e
  simp [isFin, e] at h
theorem findSome_none {β : Type} (f : Code × Pos → Option β) (l : List (Code × Pos)) (q : quietAll f) (h : NF l) : l.findSome? f = none := by
  rw [List.findSome?_eq_none_iff]
  intro x hx
  exact q x (h.all x hx)

theorem d_step {u v x k l k' l' : Nat} (h1 : u + k ≤ v + l) (h2 : v + k' ≤ x + l') : u + (k + k') ≤ x + (l + l') := by omega
theorem d_fin {u x K L k l : Nat} (h : u + K ≤ x + L) (e : Nat.ble (k + L) (l + K) = true) : u + k ≤ x + l := by
  have := Nat.le_of_ble_eq_true e
  omega
theorem d_nle {x y : Nat} (h : ¬ x ≤ y) : y + 1 ≤ x := by omega
theorem d_nlt {x y : Nat} (h : ¬ x < y) : y ≤ x := by omega
theorem d_ne1 {u x k l : Nat} (h : u + (k + 1) ≤ x + l) : u + k ≠ x + l := by omega
theorem d_ne2 {u x k l : Nat} (h : x + (l + 1) ≤ u + k) : u + k ≠ x + l := by omega
namespace Drv
open Lean Meta Elab Tactic PySem PySem.W PySem.W.X PySem.W.XRun PySem.W.ZRun

def natTy : Lean.Expr := mkConst ``Nat
def addE (a b : Lean.Expr) : Lean.Expr := mkApp6 (mkConst ``HAdd.hAdd [0, 0, 0]) natTy natTy natTy (mkApp2 (mkConst ``instHAdd [0]) natTy (mkConst ``instAddNat)) a b

/-- a number as base and written rest; a written number has no base -/
def numNF (e : Lean.Expr) : Nat → MetaM (Option Lean.Expr × Nat)
  | 0 => return (some e, 0)
  | fuel + 1 => do
    let e ← instantiateMVars e
    let e := e.consumeMData.headBeta
    if let some k := e.rawNatLit? then return (none, k)
    if let .lit (.natVal k) := e then return (none, k)
    if e.isFVar then return (some e, 0)
    let add (x y : Lean.Expr) : MetaM (Option Lean.Expr × Nat) := do
      let (bx, kx) ← numNF x fuel
      let (bY, ky) ← numNF y fuel
      match bx, bY with
      | none, none => return (none, kx + ky)
      | some b, none => return (some b, kx + ky)
      | none, some b => return (some b, kx + ky)
      | some _, some _ => return (some e, 0)
    if e.isAppOfArity ``HAdd.hAdd 6 then
      let a := e.getAppArgs
      return ← add a[4]! a[5]!
    if e.isAppOfArity ``HMul.hMul 6 then
      let a := e.getAppArgs
      return (some (mkNatMul a[4]! a[5]!), 0)
    if e.isAppOfArity ``Nat.add 2 then
      return ← add e.appFn!.appArg! e.appArg!
    if e.isAppOfArity ``Nat.succ 1 then
      let (b, k) ← numNF e.appArg! fuel
      return (b, k + 1)
    if e.isAppOfArity ``OfNat.ofNat 3 then
      if let .lit (.natVal k) := e.getAppArgs[1]! then return (none, k)
    let v ← kw e
    if v == e then return (some e, 0)
    if let .lit (.natVal k) := v then return (none, k)
    if v.isFVar then return (some v, 0)
    if v.isAppOf ``Nat.zero then return (none, 0)
    if v.isAppOfArity ``Nat.succ 1 then
      -- a field of a record: its own text, where that is a sum
      if let .const f _ := e.getAppFn then
        if (← getProjectionFnInfo? f).isSome then
          if let some e1 ← unfoldDefinition? e then
            let w ← whnfCore e1
            if w.isAppOfArity ``HAdd.hAdd 6 || w.isAppOfArity ``Nat.add 2 || w.isFVar then return ← numNF w fuel
      let (b, k) ← numNF v.appArg! fuel
      return (b, k + 1)
    -- a projection or a match that whnf opens to a sum
    let w ← whnfCore e
    if w != e then return ← numNF w fuel
    return (some e, 0)

def numE : Option Lean.Expr × Nat → Lean.Expr
  | (none, k) => mkRawNatLit k
  | (some b, 0) => b
  | (some b, k) => addE b (mkRawNatLit k)
def addrNF (e : Lean.Expr) : MetaM Lean.Expr := do return numE (← numNF e 40)

def boolT : Lean.Expr := mkConst ``Bool.true
def rflB (b : Name) : Lean.Expr := rflAt (mkConst ``Bool) (mkConst b)

structure Sta where
  V : Lean.Expr
  h0 : Lean.Expr
  n : Lean.Expr
  t0 : Lean.Expr
  c : Lean.Expr
  md : Lean.Expr
  k : Lean.Expr
  t : Lean.Expr
  W : Lean.Expr
  T : Lean.Expr
  m : Lean.Expr
  i : Lean.Expr
  gl : Lean.Expr

def staOf (e : Lean.Expr) : Option Sta :=
  let e := e.consumeMData.headBeta
  if e.isAppOfArity ``Mine.Go 13 then
    let a := e.getAppArgs
    some ⟨a[0]!, a[1]!, a[2]!, a[3]!, a[4]!, a[5]!, a[6]!, a[7]!, a[8]!, a[9]!, a[10]!, a[11]!, a[12]!⟩
  else none
def Sta.ty (s : Sta) : Lean.Expr := mkAppN (mkConst ``Mine.Go) #[s.V, s.h0, s.n, s.t0, s.c, s.md, s.k, s.t, s.W, s.T, s.m, s.i, s.gl]
def Sta.run (s : Sta) (r : Lean.Expr) (f : Nat) : Lean.Expr := mkAppN r #[s.V, s.h0, s.n, s.t0, mkRawNatLit f, s.c, s.md, s.k, s.t, s.W, s.T, s.m, s.i, s.gl]

def pairs (e : Lean.Expr) : Nat → List (Lean.Expr × Lean.Expr)
  | 0 => []
  | f + 1 => if e.isAppOfArity ``List.cons 3 then
      let p := e.getAppArgs[1]!
      if p.isAppOfArity ``Prod.mk 4 then (p.getAppArgs[2]!, p.getAppArgs[3]!) :: pairs e.appArg! f else pairs e.appArg! f
    else []

def btGet (T : Lean.Expr) (j : Nat) : Nat → Option Lean.Expr
  | 0 => none
  | f + 1 => if T.isAppOfArity ``BT.node 3 then
      let a := T.getAppArgs
      if j == 0 then some a[0]! else if j % 2 == 1 then btGet a[1]! (j / 2) f else btGet a[2]! (j / 2 - 1) f
    else none
def btSet (T : Lean.Expr) (j : Nat) (o : Lean.Expr) : Nat → Lean.Expr
  | 0 => T
  | f + 1 => if T.isAppOfArity ``BT.node 3 then
      let a := T.getAppArgs
      let g := T.getAppFn
      if j == 0 then mkApp3 g o a[1]! a[2]! else if j % 2 == 1 then mkApp3 g a[0]! (btSet a[1]! (j / 2) o f) a[2]! else mkApp3 g a[0]! a[1]! (btSet a[2]! (j / 2 - 1) o f)
    else T

/-- offset of a in the run's own objects -/
def offOf (n a : Lean.Expr) : MetaM (Option Nat) := do
  let (bn, kn) ← numNF n 40
  let (ba, ka) ← numNF a 40
  if bn == ba && ka ≥ kn then return some (ka - kn) else return none

def tryTac (p : Lean.Expr) (tac : TacticM Unit) : TacticM (Option Lean.Expr) := do
  let saved ← saveState
  tryCatchRuntimeEx (do
    try
      let m ← mkFreshExprSyntheticOpaqueMVar p
      let gs ← Term.withoutErrToSorry (Tactic.run m.mvarId! (Tactic.withoutRecover tac))
      if gs.isEmpty then
        let v ← instantiateMVars m
        unless v.hasSorry do return some v
      saved.restore
      return none
    catch _ =>
      saved.restore
      return none) fun _ => do
    saved.restore
    return none

/-- the context without what arithmetic does not read -/
def thinCtx : MetaM LocalContext := do
  let mut l ← getLCtx
  for d in ← getLCtx do
    if d.isImplementationDetail then continue
    let t := (← instantiateMVars d.type).consumeMData
    if t.isForall then
      let ip ← isProp t
      if ip then l := l.erase d.fvarId
    else match t.getAppFn with
      | .const n _ =>
        if n == ``Eq then
          let ty := (← whnfR t.getAppArgs[0]!)
          unless ty.isConstOf ``Nat || ty.isConstOf ``Int || t.getAppArgs[0]!.isConstOf ``Addr || ty.hasExprMVar do l := l.erase d.fvarId
        else if n.getPrefix == `Mine || n == ``Exists || n == ``PySem.TypeCalled then l := l.erase d.fvarId
      | _ => pure ()
  return l
/-- only the bounds that hang together with the goal -/
def nearCtx (p : Lean.Expr) : MetaM LocalContext := do
  let l0 ← getLCtx
  let mut l := l0
  let mut cands : Array (FVarId × Array FVarId) := #[]
  for d in l0 do
    if d.isImplementationDetail then continue
    let t := (← instantiateMVars d.type).consumeMData
    match t.getAppFn with
    | .const n _ =>
      if t.isForall then l := l.erase d.fvarId
      else if n == ``LE.le || n == ``LT.lt || n == ``Eq then
        let ty ← whnfR t.getAppArgs[0]!
        if ty.isConstOf ``Nat then
          cands := cands.push (d.fvarId, (Lean.collectFVars {} t).fvarIds)
        else l := l.erase d.fvarId
      else if n == ``Nat || n == ``Heap || n == ``Int then pure ()
      else if ← isProp t then l := l.erase d.fvarId
    | _ =>
      let ip ← (if t.isForall then isProp t else pure false)
      if ip then l := l.erase d.fvarId
  let mut have_ := (Lean.collectFVars {} p).fvarIds
  let mut out : Array FVarId := #[]
  for _ in [0:4] do
    let mut new := have_
    for (h, xs) in cands do
      if !out.contains h && xs.any (have_.contains ·) then
        out := out.push h
        for x in xs do
          if !new.contains x then new := new.push x
    have_ := new
  for (h, _) in cands do
    if !out.contains h then l := l.erase h
  return l
def tryArith (p : Lean.Expr) (tac : TacticM Unit) : TacticM (Option Lean.Expr) := do
  let near ← nearCtx p
  if let some h ← withLCtx near (← getLocalInstances) (tryTac p tac) then return some h
  let l ← thinCtx
  withLCtx l (← getLocalInstances) (tryTac p tac)

def leE (a b : Lean.Expr) : Lean.Expr := mkApp4 (mkConst ``LE.le [0]) natTy (mkConst ``instLENat) a b
def ltE (a b : Lean.Expr) : Lean.Expr := mkApp4 (mkConst ``LT.lt [0]) natTy (mkConst ``instLTNat) a b
/-- a sum's base and its written rest, by sight -/
def lin (e : Lean.Expr) : Nat → Option Lean.Expr × Nat
  | 0 => (some e, 0)
  | f + 1 =>
    let e := e.consumeMData
    let add (x y : Option Lean.Expr × Nat) : Option Lean.Expr × Nat := match x.1, y.1 with
      | none, b => (b, x.2 + y.2)
      | b, none => (b, x.2 + y.2)
      | some _, some _ => (some e, 0)
    match e with
    | .lit (.natVal k) => (none, k)
    | .fvar _ => (some e, 0)
    | _ => match e.getAppFn with
      | .const n _ =>
        let k := e.getAppNumArgs
        if n == ``HAdd.hAdd && k == 6 then add (lin e.appFn!.appArg! f) (lin e.appArg! f)
        else if n == ``OfNat.ofNat && k == 3 then match e.appFn!.appArg! with
          | .lit (.natVal k) => (none, k)
          | _ => (some e, 0)
        else if n == ``Nat.add && k == 2 then add (lin e.appFn!.appArg! f) (lin e.appArg! f)
        else if n == ``Nat.succ && k == 1 then let (b, j) := lin e.appArg! f; (b, j + 1)
        else if n == ``HMul.hMul && k == 6 then
          let x := e.appFn!.appArg!
          let x := match x with | .lit (.natVal k) => mkNatLit k | _ => x
          (some (mkNatMul x e.appArg!), 0)
        else (some e, 0)
      | _ => (some e, 0)
def sumE (b : Option Lean.Expr) (k : Nat) : Lean.Expr := addE (b.getD (mkRawNatLit 0)) (mkRawNatLit k)
def idxOf (l : Array (Option Lean.Expr)) (x : Option Lean.Expr) : Option Nat := l.findIdx? (· == x)
/-- s + k ≤ t + l, by a chain of the bounds in the context -/
def lePath (s : Option Lean.Expr) (k : Nat) (t : Option Lean.Expr) (l : Nat) : MetaM (Option Lean.Expr) := do
  let mut atoms : Array (Option Lean.Expr) := #[none]
  let mut edges : Array (Nat × Nat × Nat × Nat × Lean.Expr × Nat) := #[]
  -- (u, k, v, l, hypothesis, kind): u + k ≤ v + l
  for x in [s, t] do
    if (idxOf atoms x).isNone then atoms := atoms.push x
  let mut todo : List (Lean.Expr × Lean.Expr) := []
  for d in ← getLCtx do
    if d.isImplementationDetail then continue
    let ty ← instantiateMVars d.type
    if let .const n _ := ty.getAppFn then
      if n == ``LE.le || n == ``LT.lt || n == ``Eq || n == ``And || n == ``Not then todo := (ty, d.toExpr) :: todo
  for _ in [0:1000] do
    match todo with
    | [] => break
    | (ty, h) :: rest =>
      todo := rest
      if let .const n _ := ty.getAppFn then
        let c := ty.getAppNumArgs
        if n == ``And && c == 2 then
          let (x, y) := (ty.appFn!.appArg!, ty.appArg!)
          todo := (x, mkApp3 (mkConst ``And.left) x y h) :: (y, mkApp3 (mkConst ``And.right) x y h) :: todo
        else
          let neg := n == ``Not && c == 1
          let ty := if neg then ty.appArg! else ty
          let n := ty.getAppFn.constName?.getD `x
          let c := ty.getAppNumArgs
          let le := n == ``LE.le && c == 4
          let lt := n == ``LT.lt && c == 4
          let eq := n == ``Eq && c == 3
          if le || lt || (eq && !neg) then
            let T := ty.getAppArgs[0]!
            if T.isConstOf ``Nat || T.isConstOf ``Addr then
              let (xE, yE) := (ty.appFn!.appArg!, ty.appArg!)
              let (bx, kx) := lin xE 20
              let (bY, ky) := lin yE 20
              let mut u := 0
              match idxOf atoms bx with
              | some i => u := i
              | none => u := atoms.size; atoms := atoms.push bx
              let mut v := 0
              match idxOf atoms bY with
              | some i => v := i
              | none => v := atoms.size; atoms := atoms.push bY
              if neg && le then edges := edges.push (v, ky + 1, u, kx, mkApp3 (mkConst ``Mine.d_nle) xE yE h, 0)
              else if neg then edges := edges.push (v, ky, u, kx, mkApp3 (mkConst ``Mine.d_nlt) xE yE h, 0)
              else if le then edges := edges.push (u, kx, v, ky, h, 0)
              else if lt then edges := edges.push (u, kx + 1, v, ky, h, 0)
              else edges := (edges.push (u, kx, v, ky, h, 1)).push (v, ky, u, kx, h, 2)
  for j in [1:atoms.size] do edges := edges.push (0, 0, j, 0, mkRawNatLit 0, 3)
  let some is := idxOf atoms s | return none
  let some it := idxOf atoms t | return none
  let mut dist : Array (Option Int) := Array.replicate atoms.size none
  let mut pred : Array Nat := Array.replicate atoms.size 0
  dist := dist.set! is (some 0)
  let need : Int := (k : Int) - (l : Int)
  let mut more := true
  for _ in [0:10] do
    if more then
      more := false
      for q in [0:edges.size] do
        let (u, a, v, b, _, _) := edges[q]!
        match dist[u]! with
        | none => pure ()
        | some du =>
          let w := du + (a : Int) - (b : Int)
          let better := match dist[v]! with | none => true | some dv => dv < w
          if better && v != is then
            dist := dist.set! v (some w)
            pred := pred.set! v q
            more := true
  let some dt := dist[it]! | return none
  if dt < need then return none
  -- the chain back
  let mut path : List Nat := []
  let mut cur := it
  for _ in [0:40] do
    if cur == is then break
    let q := pred[cur]!
    path := q :: path
    cur := edges[q]!.1
  unless cur == is do return none
  let mut K := 0
  let mut L := 0
  let mut pf := mkApp (mkConst ``Nat.le_refl) (sumE s 0)
  let S := s.getD (mkRawNatLit 0)
  for q in path do
    let (u, a, v, b, h, kind) := edges[q]!
    let U := (atoms[u]!).getD (mkRawNatLit 0)
    let V := (atoms[v]!).getD (mkRawNatLit 0)
    let ty := leE (addE U (mkRawNatLit a)) (addE V (mkRawNatLit b))
    let h' := match kind with
      | 0 => h
      | 1 => mkApp3 (mkConst ``Nat.le_of_eq) (addE U (mkRawNatLit a)) (addE V (mkRawNatLit b)) h
      | 2 => mkApp3 (mkConst ``Nat.le_of_eq) (addE U (mkRawNatLit a)) (addE V (mkRawNatLit b)) (mkApp4 (mkConst ``Eq.symm [1]) natTy (addE V (mkRawNatLit b)) (addE U (mkRawNatLit a)) h)
      | _ => mkApp (mkConst ``Nat.zero_le) (addE V (mkRawNatLit 0))
    let h' ← mkExpectedTypeHint h' ty
    pf := mkAppN (mkConst ``Mine.d_step) #[S, U, V, mkRawNatLit K, mkRawNatLit L, mkRawNatLit a, mkRawNatLit b, pf, h']
    K := K + a
    L := L + b
    let _ := V
    pf ← mkExpectedTypeHint pf (leE (addE S (mkRawNatLit K)) (addE V (mkRawNatLit L)))
  let X := t.getD (mkRawNatLit 0)
  return some (mkAppN (mkConst ``Mine.d_fin) #[S, X, mkRawNatLit K, mkRawNatLit L, mkRawNatLit k, mkRawNatLit l, pf, rflB ``Bool.true])
def linLe (a b : Lean.Expr) : MetaM (Option Lean.Expr) := do
  let (s, k) := lin a 20
  let (t, l) := lin b 20
  match ← lePath s k t l with
  | some h => return some (← mkExpectedTypeHint h (leE a b))
  | none => return none
def linLt (a b : Lean.Expr) : MetaM (Option Lean.Expr) := do
  let (s, k) := lin a 20
  let (t, l) := lin b 20
  match ← lePath s (k + 1) t l with
  | some h => return some (← mkExpectedTypeHint h (ltE a b))
  | none => return none

def neProof (a b : Lean.Expr) : TacticM (Option Lean.Expr) := do
  let (ba, ka) ← numNF a 40
  let (bb, kb) ← numNF b 40
  if ba == bb then
    if ka == kb then return none
    let p := mkApp3 (mkConst ``Ne [1]) natTy a b
    match ba with
    | none => return some (← mkExpectedTypeHint (mkApp3 (mkConst ``Mine.ne_lit) (mkRawNatLit ka) (mkRawNatLit kb) (rflB ``Bool.false)) p)
    | some x => return some (← mkExpectedTypeHint (mkApp4 (mkConst ``Mine.ne_off) x (mkRawNatLit ka) (mkRawNatLit kb) (rflB ``Bool.false)) p)
  let nice (x : Option Lean.Expr) (k : Nat) := match x with | none => mkNatLit k | some b => if k == 0 then b else addE b (mkNatLit k)
  let p := mkApp3 (mkConst ``Ne [1]) natTy a b
  let (la, ja) := lin (numE (ba, ka)) 20
  let (lb, jb) := lin (numE (bb, kb)) 20
  if let some h ← lePath la (ja + 1) lb jb then
    return some (← mkExpectedTypeHint (mkAppN (mkConst ``Mine.d_ne1) #[la.getD (mkRawNatLit 0), lb.getD (mkRawNatLit 0), mkRawNatLit ja, mkRawNatLit jb, h]) p)
  if let some h ← lePath lb (jb + 1) la ja then
    return some (← mkExpectedTypeHint (mkAppN (mkConst ``Mine.d_ne2) #[la.getD (mkRawNatLit 0), lb.getD (mkRawNatLit 0), mkRawNatLit ja, mkRawNatLit jb, h]) p)
  match ← tryArith (mkApp3 (mkConst ``Ne [1]) natTy (nice ba ka) (nice bb kb)) (do evalTactic (← `(tactic| first | (with_reducible assumption) | (apply Ne.symm; with_reducible assumption) | omega))) with
  | some h => return some (← mkExpectedTypeHint h p)
  | none => return none

def allNe (a : Lean.Expr) (W : Lean.Expr) : Nat → TacticM (Option Lean.Expr)
  | 0 => return none
  | f + 1 => do
    if W.isAppOfArity ``List.cons 3 then
      let p := W.getAppArgs[1]!
      let (x, o) := (p.getAppArgs[2]!, p.getAppArgs[3]!)
      let some h ← neProof x a | return none
      let some r ← allNe a W.appArg! f | return none
      return some (mkAppN (mkConst ``Mine.all_cons) #[a, x, o, W.appArg!, h, r])
    else return some (mkApp (mkConst ``Mine.all_nil) a)
def noNe (a : Lean.Expr) (M : Lean.Expr) : Nat → TacticM (Option Lean.Expr)
  | 0 => return none
  | f + 1 => do
    if M.isAppOfArity ``List.cons 3 then
      let x := M.getAppArgs[1]!
      let some h ← neProof x a | return none
      let some r ← noNe a M.appArg! f | return none
      return some (mkAppN (mkConst ``Mine.no_cons) #[a, x, M.appArg!, h, r])
    else return some (mkApp (mkConst ``Mine.no_nil) a)

def niceN (e : Lean.Expr) : MetaM Lean.Expr := do
  let (b, k) ← numNF e 40
  return match b with | none => mkNatLit k | some b => if k == 0 then b else addE b (mkNatLit k)
/-- a < lo ∨ hi ≤ a -/
def outOf (a lo hi : Lean.Expr) : TacticM (Option Lean.Expr) := do
  let mk (a lo hi : Lean.Expr) := mkApp2 (mkConst ``Or) (ltE a lo) (leE hi a)
  let (a', lo', hi') := (← niceN a, ← niceN lo, ← niceN hi)
  if let some h ← linLt a' lo' then return some (← mkExpectedTypeHint (mkApp3 (mkConst ``Or.inl) (ltE a' lo') (leE hi' a') h) (mk a lo hi))
  if let some h ← linLe hi' a' then return some (← mkExpectedTypeHint (mkApp3 (mkConst ``Or.inr) (ltE a' lo') (leE hi' a') h) (mk a lo hi))
  match ← tryArith (mk (← niceN a) (← niceN lo) (← niceN hi)) (do evalTactic (← `(tactic| omega))) with
  | some h => return some (← mkExpectedTypeHint h (mk a lo hi))
  | none => return none
def inside (a lo hi : Lean.Expr) : TacticM (Option Lean.Expr) := do
  let mk (a lo hi : Lean.Expr) := mkApp2 (mkConst ``And) (leE lo a) (ltE a hi)
  let (a', lo', hi') := (← niceN a, ← niceN lo, ← niceN hi)
  if let some h1 ← linLe lo' a' then
    if let some h2 ← linLt a' hi' then return some (← mkExpectedTypeHint (mkApp4 (mkConst ``And.intro) (leE lo' a') (ltE a' hi') h1 h2) (mk a lo hi))
  match ← tryArith (mk (← niceN a) (← niceN lo) (← niceN hi)) (do evalTactic (← `(tactic| omega))) with
  | some h => return some (← mkExpectedTypeHint h (mk a lo hi))
  | none => return none

def getEqn (t : Lean.Expr) : Option (Lean.Expr × Lean.Expr × Lean.Expr) := do
  let (_, l, r) ← t.eq?
  guard (l.isAppOfArity ``Heap.get? 2 && r.isAppOfArity ``Option.some 2)
  return (l.appFn!.appArg!, l.appArg!, r.appArg!)

mutual
/-- the object at a in h by the context's facts: h.get? a = some o -/
def resolve (h a : Lean.Expr) : Nat → TacticM (Option (Lean.Expr × Lean.Expr))
  | 0 => return none
  | f + 1 => do
    let lctx ← getLCtx
    -- facts by name
    for d in lctx do
      if d.isImplementationDetail then continue
      let t ← instantiateMVars d.type
      if let some (h', a', o) := getEqn t then
        if h' == h && (a' == a || (← addrNF a') == a) then
          return some (o, d.toExpr)
    -- the top's objects
    if let .lit (.natVal _) := a then
      for d in lctx do
        if d.isImplementationDetail then continue
        let t ← instantiateMVars d.type
        if t.isAppOfArity ``Mine.TopK 2 && t.appArg! == h then
          let kt := t.appFn!.appArg!
          let v ← kw (mkApp2 (mkConst ``KT.get) (mkApp (mkConst ``Mine.TopT.kt) kt) a)
          if v.isAppOfArity ``Option.some 2 then
            let o := v.appArg!
            let ooT := mkApp (mkConst ``Option [0]) (mkConst ``Obj)
            return some (o, mkAppN (mkConst ``Mine.TopK.at) #[kt, h, d.toExpr, a, o, rflB ``Bool.true, rflAt ooT (mkApp2 (mkConst ``Option.some [0]) (mkConst ``Obj) o)])
    -- families
    for d in lctx do
      if d.isImplementationDetail then continue
      let t ← instantiateMVars d.type
      unless t.isForall do continue
      if (t.find? fun y => y.isConstOf ``Heap.get?).isNone then continue
      let saved ← saveState
      let (xs, _, concl) ← withReducible (forallMetaTelescopeReducing t)
      if let some (h', a', o) := getEqn concl then
        if h' == h then
          let aN := match a with | .lit (.natVal k) => mkNatLit k | _ => a
          if ← withReducible (isDefEq a' aN) then
            let mut good := true
            for x in xs do
              let xi := x.mvarId!
              unless ← xi.isAssigned do
                let xt ← instantiateMVars (← xi.getType)
                if ← isProp xt then
                  match ← tryTac xt (do evalTactic (← `(tactic| first | assumption | omega | decide))) with
                  | some p => xi.assign p
                  | none => good := false
                else good := false
            if good then
              let pf ← instantiateMVars (mkAppN d.toExpr xs)
              return some (← instantiateMVars o, pf)
      saved.restore
    -- what an elder state says
    for d in lctx do
      if d.isImplementationDetail then continue
      let t ← instantiateMVars d.type
      if t.isAppOfArity ``Mine.HR 6 then
        let x := t.getAppArgs
        if x[2]! == h then
          if let some (o, l) ← look x[0]! x[1]! x[3]! x[4]! a f then
            return some (o, mkAppN (mkConst ``Mine.HR.get) #[x[0]!, x[1]!, x[2]!, x[3]!, x[4]!, x[5]!, d.toExpr, a, o, l])
      if t.isAppOfArity ``Mine.Kp 3 then
        let x := t.getAppArgs
        if x[2]! == h then
          if let some no ← noNe a x[1]! 40 then
            if let some (o, e) ← resolve x[0]! a f then
              return some (o, mkAppN (mkConst ``Mine.Kp.keep) #[x[0]!, x[1]!, x[2]!, d.toExpr, a, o, e, no])
      if t.isAppOfArity ``Mine.KI 5 then
        let x := t.getAppArgs
        if x[4]! == h && x[0]! != h then
          if let some no ← noNe a x[3]! 40 then
            if let some out ← outOf a x[1]! x[2]! then
              if let some (o, e) ← resolve x[0]! a f then
                return some (o, mkAppN (mkConst ``Mine.KI.keep) #[x[0]!, x[1]!, x[2]!, x[3]!, x[4]!, d.toExpr, a, o, e, out, no])
    return none
/-- Lk h₀ n W T a o -/
def look (h0 n W T a : Lean.Expr) : Nat → TacticM (Option (Lean.Expr × Lean.Expr))
  | 0 => return none
  | f + 1 => do
    let oT := mkConst ``Obj
    if let some j ← offOf n a then
      let some o := btGet T j 40 | return none
      let ha ← mkExpectedTypeHint (rflAt natTy a) (mkApp3 (mkConst ``Eq [1]) natTy a (addE n (mkRawNatLit j)))
      let hg := rflAt (mkApp (mkConst ``Option [0]) oT) (mkApp2 (mkConst ``Option.some [0]) oT o)
      return some (o, mkAppN (mkConst ``Mine.Lk.new) #[h0, n, W, T, a, o, mkRawNatLit j, ha, hg])
    let mut q := 0
    for (x, o) in pairs W 200 do
      if x == a || (← addrNF x) == a then
        let pT := mkApp2 (mkConst ``Prod [0, 0]) natTy oT
        let pr := mkApp4 (mkConst ``Prod.mk [0, 0]) natTy oT a o
        let hp := mkAppN (mkConst ``List.mem_of_getElem? [0]) #[pT, W, mkRawNatLit q, pr, rflAt (mkApp (mkConst ``Option [0]) pT) (mkApp2 (mkConst ``Option.some [0]) pT pr)]
        return some (o, mkAppN (mkConst ``Mine.Lk.ov) #[h0, n, W, T, a, o, hp])
      q := q + 1
    let some hn ← allNe a W 200 | return none
    let some (o, e) ← resolve h0 a f | return none
    return some (o, mkAppN (mkConst ``Mine.Lk.old) #[h0, n, W, T, a, o, e, hn])
end

def cons3 (a : Lean.Expr) : List Lean.Expr → Lean.Expr
  | [] => mkApp (mkConst ``List.nil [0]) a
  | x :: r => mkApp3 (mkConst ``List.cons [0]) a x (cons3 a r)

/-- (o, W', T', Up) for a turn of a to o' -/
def turn (s : Sta) (a : Lean.Expr) (mk : Lean.Expr → TacticM Lean.Expr) : TacticM (Option (Lean.Expr × Lean.Expr × Lean.Expr × Lean.Expr × Lean.Expr)) := do
  let oT := mkConst ``Obj
  let pT := mkApp2 (mkConst ``Prod [0, 0]) natTy oT
  let rW := rflAt (mkApp (mkConst ``List [0]) pT)
  let rT := rflAt (mkConst ``BT)
  if let some j ← offOf s.n a then
    let some o := btGet s.T j 40 | return none
    let o' ← mk o
    let T' := btSet s.T j o' 40
    let ha ← mkExpectedTypeHint (rflAt natTy a) (mkApp3 (mkConst ``Eq [1]) natTy a (addE s.n (mkRawNatLit j)))
    let hg := rflAt (mkApp (mkConst ``Option [0]) oT) (mkApp2 (mkConst ``Option.some [0]) oT o)
    return some (o, o', s.W, T', mkAppN (mkConst ``Mine.Up.new) #[s.h0, s.n, s.W, s.T, a, o, o', s.W, T', mkRawNatLit j, ha, hg, rT T', rW s.W])
  let mut q := 0
  let ps := pairs s.W 200
  for (x, o) in ps do
    if x == a || (← addrNF x) == a then
      let o' ← mk o
      let pr (o : Lean.Expr) := mkApp4 (mkConst ``Prod.mk [0, 0]) natTy oT a o
      let W' := cons3 pT ((ps.take q).map (fun (x, o) => mkApp4 (mkConst ``Prod.mk [0, 0]) natTy oT x o) ++ pr o' :: (ps.drop (q + 1)).map (fun (x, o) => mkApp4 (mkConst ``Prod.mk [0, 0]) natTy oT x o))
      let hp := rflAt (mkApp (mkConst ``Option [0]) pT) (mkApp2 (mkConst ``Option.some [0]) pT (pr o))
      return some (o, o', W', s.T, mkAppN (mkConst ``Mine.Up.ov) #[s.h0, s.n, s.W, s.T, a, o, o', W', s.T, mkRawNatLit q, hp, rT s.T, rW W'])
    q := q + 1
  let some hn ← allNe a s.W 200 | return none
  let some (o, e) ← resolve s.h0 a 30 | return none
  let o' ← mk o
  let W' := mkApp3 (mkConst ``List.cons [0]) pT (mkApp4 (mkConst ``Prod.mk [0, 0]) natTy oT a o') s.W
  return some (o, o', W', s.T, mkAppN (mkConst ``Mine.Up.old) #[s.h0, s.n, s.W, s.T, a, o, o', W', s.T, e, hn, rT s.T, rW W'])

structure Cfg where
  /-- further ways to close a side condition -/
  side : Option (Lean.Expr → TacticM (Option Lean.Expr)) := none
  /-- the twin of runS and its equation -/
  run : Lean.Expr
  runE : Lean.Expr
  callR : Lean.Expr
  callRE : Lean.Expr
  den : Lean.Expr
  denE : Lean.Expr
  /-- contracts: by the builtin's id -/
  specs : List (String × Name) := []
  /-- say what is done -/
  log : Bool := false
  /-- codes at which to stop: forLoop, compLoop -/
  loops : Bool := true
  /-- stop before a def's body -/
  func : Bool := false
  /-- stop before a call of this builtin -/
  stopAt : List String := []
  splits : Nat := 0
  steps : Nat := 100000

def twinOf (c : Name) : MetaM (Lean.Expr × Lean.Expr) := do
  ZFast.laying.set true
  let r ← ZFast.prime c
  ZFast.laying.set false
  match r with
  | some (a, b) => return (mkConst a, mkConst b)
  | none => return (mkConst c, ← mkEqRefl (mkConst c))

def mkCfg : MetaM Cfg := do
  let (r, e) ← twinOf ``Mine.runS
  let (r2, e2) ← twinOf ``Mine.callR
  let d := mkApp (mkConst ``denote) (mkConst ``table)
  let (d', de) ← match ← ZFast.quick d with
    | some (x, h) => pure (x, h)
    | none => pure (d, ← mkEqRefl d)
  return { run := r, runE := e, callR := r2, callRE := e2, den := d', denE := de }

def newMVar (ty : Lean.Expr) : MetaM Lean.Expr := mkFreshExprSyntheticOpaqueMVar ty

/-- a text by its bytes -/
def strOf (e : Lean.Expr) : MetaM (Option String) := do
  if let .lit (.strVal s) := e then return some s
  let mut l ← kw (mkApp2 (mkConst ``Array.toList [0]) (mkConst ``UInt8) (mkApp (mkConst ``ByteArray.data) (mkApp (mkConst ``String.toByteArray) e)))
  let mut out := ""
  for _ in [0:200] do
    if l.isAppOfArity ``List.cons 3 then
      let x ← kw (mkApp (mkConst ``UInt8.toNat) l.getAppArgs[1]!)
      match x with
      | .lit (.natVal k) => out := out.push (Char.ofNat k)
      | _ => return none
      l ← kw l.appArg!
    else break
  if l.isAppOf ``List.nil then return some out else return none

def strNF (e : Lean.Expr) : MetaM Lean.Expr := do
  match ← strOf e with
  | some s => return mkStrLit s
  | none => return e
/-- a PySem.Str written out -/
def pstrNF (e : Lean.Expr) : MetaM Lean.Expr := do
  let v ← kw e
  if v.isAppOfArity ``Str.mk 1 then return mkApp v.appFn! (← nArr v.appArg! kw)
  return v
def intNF (e : Lean.Expr) : MetaM Lean.Expr := do
  let e ← instantiateMVars e
  let e := e.headBeta
  if e.hasFVar then
    if e.isAppOf ``Int.ofNat || e.isFVar then return e
    let w ← whnfCore e
    return w
  let v ← kw e
  if v.isAppOfArity ``Int.ofNat 1 || v.isAppOfArity ``Int.negSucc 1 then return mkApp v.appFn! (← kw v.appArg!)
  return v
def valNF (e : Lean.Expr) : MetaM Lean.Expr := do
  let v ← kw e
  match v.getAppFn.constName? with
  | some ``Value.int => return mkApp2 v.getAppFn (← intNF v.appFn!.appArg!) (← addrNF v.appArg!)
  | some ``Value.str => return mkApp2 v.getAppFn (← pstrNF v.appFn!.appArg!) (← addrNF v.appArg!)
  | some ``Value.ref => return mkApp v.getAppFn (← addrNF v.appArg!)
  | some ``Value.type => return mkApp v.getAppFn (← strNF v.appArg!)
  | some ``Value.builtin => return mkApp v.getAppFn (← strNF v.appArg!)
  | some ``Value.bool =>
    let b ← kw v.appArg!
    return mkApp v.getAppFn (if b.isConst then b else v.appArg!)
  | _ => return v
def optNF (f : Lean.Expr → MetaM Lean.Expr) (e : Lean.Expr) : MetaM Lean.Expr := do
  let v ← kw e
  if v.isAppOfArity ``Option.some 2 then return mkApp v.appFn! (← f v.appArg!)
  return v
def entNF (e : Lean.Expr) : MetaM Lean.Expr := do
  let v ← kw e
  unless v.isAppOfArity ``DictEntry.mk 3 do return v
  let a := v.getAppArgs
  let key ← valNF a[1]!
  let val ← valNF a[2]!
  let mut h := a[0]!
  if key.isAppOfArity ``Value.str 2 then
    -- the hash of a written name, by the world's
    for d in ← getLCtx do
      if d.isImplementationDetail then continue
      if d.type.isConstOf ``World then
        let x := mkApp2 (mkConst `Mine.hs) (mkApp (mkConst ``World.params) d.toExpr) key.appFn!.appArg!
        if h == x then break
        match Kernel.isDefEq (← getEnv) (← getLCtx) h x with
        | .ok true => h := x
        | _ => pure ()
        break
  else
    h ← intNF h
  return mkApp3 v.getAppFn h key val
def objNF (e : Lean.Expr) : MetaM Lean.Expr := do
  let e ← kw e
  unless e.isAppOfArity ``Obj.mk 4 do return e
  let a := e.getAppArgs
  let dt ← kw a[2]!
  let x := dt.getAppArgs
  let dt ← match dt.getAppFn.constName? with
    | some ``PySem.Data.dict => pure (mkApp2 dt.getAppFn (← nArr x[0]! entNF) (numE (← numNF x[1]! 40)))
    | some ``PySem.Data.seq => pure (mkApp2 dt.getAppFn (← nArr x[0]! valNF) (numE (← numNF x[1]! 40)))
    | some ``PySem.Data.fields => pure (mkApp dt.getAppFn (← nArr x[0]! valNF))
    | some ``PySem.Data.cell => pure (mkApp dt.getAppFn (← optNF valNF x[0]!))
    | some ``PySem.Data.prim => pure (mkApp dt.getAppFn (← valNF x[0]!))
    | _ => pure dt
  let dct ← optNF addrNF a[1]!
  return mkApp4 (mkConst ``Obj.mk) (← valNF a[0]!) dct dt (← nArr a[3]! kw)

/-- a list that grew inside a tree, written as ++ -/
def growNF (o : Lean.Expr) : MetaM (Option (Lean.Expr × Lean.Expr)) := do
  unless o.isAppOfArity ``Obj.mk 4 do return none
  let a := o.getAppArgs
  let dt := a[2]!
  unless dt.isAppOfArity ``Data.seq 2 do return none
  let arr := dt.getAppArgs[0]!
  unless arr.isAppOfArity ``Array.mk 2 || arr.isAppOfArity ``List.toArray 2 do return none
  let X ← whnfCore arr.appArg!
  unless X.isAppOf ``List.rec && X.getAppNumArgs == 5 do return none
  let x := X.getAppArgs
  let nl ← kw x[2]!
  unless nl.isAppOfArity ``List.cons 3 do return none
  let v ← valNF nl.getAppArgs[1]!
  let L ← kw x[4]!
  let vT := mkConst ``Value
  let lT := mkApp (mkConst ``List [0]) vT
  let app := mkApp6 (mkConst ``HAppend.hAppend [0, 0, 0]) lT lT lT (mkApp2 (mkConst ``instHAppendOfAppend [0]) lT (mkApp (mkConst ``List.instAppend [0]) vT)) L (mkApp3 (mkConst ``List.cons [0]) vT v (mkApp (mkConst ``List.nil [0]) vT))
  let mkO (l : Lean.Expr) := mkApp4 (mkConst ``Obj.mk) a[0]! a[1]! (mkApp2 (mkConst ``Data.seq) (mkApp2 (mkConst ``List.toArray [0]) vT l) dt.appArg!) a[3]!
  let lam := Lean.Expr.lam `l lT (mkO (.bvar 0)) .default
  let pf := mkApp3 (mkConst ``Mine.grown) lam v L
  let o' := mkO app
  let pf ← mkExpectedTypeHint pf (mkApp3 (mkConst ``Eq [1]) (mkConst ``Obj) o o')
  return some (o', pf)
def treeNF (T : Lean.Expr) : Nat → MetaM Lean.Expr
  | 0 => return T
  | f + 1 => do
    if (← laidOut.get).contains T then return T
    let v ← kw T
    if v.isAppOfArity ``BT.node 3 then
      let a := v.getAppArgs
      let o ← if (← laidOut.get).contains a[0]! then pure a[0]! else objNF a[0]!
      let r := mkApp3 (mkConst ``BT.node) o (← treeNF a[1]! f) (← treeNF a[2]! f)
      laidOut.modify fun s => (s.insert r).insert o
      return r
    laidOut.modify fun s => s.insert v
    return v

/-- the state with its numbers, heap and generators written out -/
def tidy (s : Sta) : MetaM Sta := do
  let T ← treeNF s.T 60
  let m := numE (← numNF s.m 60)
  let i := numE (← numNF s.i 60)
  let gl ← nList s.gl kw
  return { s with T, m, i, gl }

def codeNF (c : Lean.Expr) : MetaM Lean.Expr := do
  let c ← kw c
  if c.isAppOfArity ``Code.call 2 then
    let f ← kw c.appFn!.appArg!
    let f ← (if f.isAppOfArity ``Value.ref 1 then return mkApp f.appFn! (← addrNF f.appArg!)
      else if f.isAppOfArity ``Value.builtin 1 || f.isAppOfArity ``Value.type 1 then return mkApp f.appFn! (← strNF f.appArg!)
      else return f : MetaM Lean.Expr)
    let a ← kw c.appArg!
    if a.isAppOfArity ``Args.mk 2 then
      let pos ← nList a.appFn!.appArg! fun v => do
        let v ← kw v
        if v.isAppOfArity ``Value.ref 1 then return mkApp v.appFn! (← addrNF v.appArg!)
        if v.isAppOfArity ``Value.int 2 then return mkApp2 v.getAppFn v.appFn!.appArg! (← addrNF v.appArg!)
        return v
      let kws ← nList a.appArg! kw
      return mkApp2 c.getAppFn f (mkApp2 a.getAppFn pos kws)
    return mkApp2 c.getAppFn f a
  return c

def briefly (e : Lean.Expr) (n : Nat := 300) : MetaM String := do
  let s ← withOptions (fun o => (o.set `pp.maxSteps (400 : Nat)).set `pp.deepTerms false) (do return toString (← ppExpr e))
  return (s.take n).toString

/-- one go of the machine: from Go to the next ask; the new goal's statement is in head form -/
def runOn (cf : Cfg) (g : MVarId) (s : Sta) (f : Nat := 400) : TacticM MVarId := g.withContext do
  let e := s.run cf.run f
  let v ← kw e
  let m ← newMVar v
  g.assign (mkAppN (mkConst ``Mine.runS_by) #[cf.run, cf.runE, s.V, s.h0, s.n, s.t0, mkRawNatLit f, s.c, s.md, s.k, s.t, s.W, s.T, s.m, s.i, s.gl, m])
  return m.mvarId!

/-- the twins' own numbers and tests opened -/
def open1 (p : Lean.Expr) : MetaM Lean.Expr := do
  let env ← getEnv
  let rec go (e : Lean.Expr) : Nat → Lean.Expr
    | 0 => e
    | f + 1 => e.replace fun y =>
      if y.isApp then
        match y.getAppFn with
        | .const n _ => match n with
          | .str _ nm => if nm.startsWith "zw" then
              match env.find? n with
              | some (.defnInfo d) =>
                let b := d.type.getForallBody
                if (b.isConstOf ``Int || b.isConstOf ``Nat || b.isConstOf ``Bool) && d.levelParams.isEmpty then some (go (d.value.beta (y.getAppArgs.map fun a => go a f)) f) else none
              | _ => none
            else none
          | _ => none
        | _ => none
      else none
  return go p 6

/-- a Bool's value, by arithmetic -/
def proveBool (b : Lean.Expr) : TacticM (Option (Name × Lean.Expr)) := do
  let b2 ← open1 b
  let tac ← `(tactic| ((try simp only [Int.ofNat_eq_natCast, gt_iff_lt, Z.modQ_eq.symm, Bool.and_eq_true, Bool.or_eq_true, decide_eq_true_eq, beq_iff_eq, Bool.not_eq_true', Bool.and_eq_false_iff, Bool.or_eq_false_iff, decide_eq_false_iff_not, beq_eq_false_iff_ne]); first | omega | ((repeat' split) <;> (try simp) <;> omega)))
  for v in [``Bool.true, ``Bool.false] do
    let ty (x : Lean.Expr) := mkApp3 (mkConst ``Eq [1]) (mkConst ``Bool) x (mkConst v)
    if let some h ← tryTac (ty b2) (do evalTactic tac) then return some (v, ← mkExpectedTypeHint h (ty b))
  return none

/-- what default assumption may look at -/
def arithP (p : Lean.Expr) : Nat → Bool
  | 0 => false
  | f + 1 => match p.getAppFn with
    | .const n _ => n == ``LE.le || n == ``LT.lt || n == ``GE.ge || n == ``GT.gt || n == ``Nat.le || n == ``Nat.lt || ((n == ``Eq || n == ``Ne) && (p.getAppArgs[0]?.map (fun T => T.isConstOf ``Nat || T.isConstOf ``Int || T.isConstOf ``Addr)).getD false) || (n == ``Not && p.getAppNumArgs == 1 && arithP p.appArg! f)
    | _ => false
/-- a proof of p: what lies at hand, and the bounds that hang together with it -/
def proveCheap (p : Lean.Expr) : TacticM (Option Lean.Expr) := do
  for d in ← getLCtx do
    if d.isImplementationDetail then continue
    let t ← instantiateMVars d.type
    let t0 := if t.isAppOfArity ``Not 1 then t.appArg! else t
    if t.isAppOfArity ``Not 1 && t0.isAppOfArity ``LT.lt 4 && p.isAppOfArity ``Not 1 && (t0.find? fun y => y.isConstOf ``Array.push || y.isConstOf ``List.rec).isSome then
      if let .ok true := Kernel.isDefEq (← getEnv) (← getLCtx) t p then return some (← mkExpectedTypeHint d.toExpr p)
    if let some (_, l, _) := t0.eq? then
      if l.isAppOfArity `Mine.hs 2 then
        let p0 := if p.isAppOfArity ``Not 1 then p.appArg! else p
        if t.isAppOfArity ``Not 1 == p.isAppOfArity ``Not 1 && p0.isAppOf ``Eq then
          if let .ok true := Kernel.isDefEq (← getEnv) (← getLCtx) t p then return some (← mkExpectedTypeHint d.toExpr p)
  if (p.find? fun y => y.isConstOf ``S.codeS || y.isConstOf ``condFn || y.isConstOf ``Params.strHash).isSome then return none
  let hd := p.getAppFn
  for d in ← getLCtx do
    if d.isImplementationDetail then continue
    let t ← instantiateMVars d.type
    if t == p then return some d.toExpr
    if t.getAppFn == hd && hd.isConst then
      if ← withReducible (isDefEq t p) then return some d.toExpr
  if arithP p 4 then
    if let some h ← tryArith p (do evalTactic (← `(tactic| omega))) then return some h
  return none
def proveDear (p : Lean.Expr) : TacticM (Option Lean.Expr) := do
  if (p.find? fun y => y.isConstOf ``S.codeS || y.isConstOf ``condFn || y.isConstOf ``Params.strHash).isSome then return none
  let t1 ← if arithP p 4 then `(tactic| first | omega | (simp only [Nat.le_eq, Nat.blt_eq, List.size_toArray, List.length_map, List.length_append, List.length_cons, List.length_nil, Int.ofNat_eq_natCast]; omega))
    else `(tactic| first | omega | assumption | (simp only [Nat.le_eq, Nat.blt_eq, List.size_toArray, List.length_map, List.length_append, List.length_cons, List.length_nil, Int.ofNat_eq_natCast]; omega))
  if let some h ← tryTac p (do evalTactic t1) then return some h
  -- the twins' own numbers opened
  let p2 ← open1 p
  if p2 != p then
    let t2 ← `(tactic| first | omega | ((try simp only [Int.ofNat_eq_natCast, gt_iff_lt]); first | omega | ((repeat' split) <;> omega)))
    if let some h ← tryTac p2 (do evalTactic t2) then return some (← mkExpectedTypeHint h p)
  return none
/-- a proof of p, or of its negation -/
def proveEither (p np : Lean.Expr) : TacticM (Option (Bool × Lean.Expr)) := do
  if let some h ← proveCheap p then return some (true, h)
  if let some h ← proveCheap np then return some (false, h)
  if let some h ← proveDear p then return some (true, h)
  if let some h ← proveDear np then return some (false, h)
  return none

structure Dec where
  prop : Lean.Expr
  inst : Lean.Expr
  ctx : Lean.Expr → Lean.Expr

/-- the chain of stuck majors of a stuck term, outermost first -/
def chain (v : Lean.Expr) : MetaM (Array (Lean.Expr × (Lean.Expr → Lean.Expr))) := do
  let mut out : Array (Lean.Expr × (Lean.Expr → Lean.Expr)) := #[]
  let mut e := v
  let mut ctx : Lean.Expr → Lean.Expr := id
  for _ in [0:40] do
    let some M ← majorOf e | break
    let e' := e
    let c' := ctx
    let put (x : Lean.Expr) : Lean.Expr := match e'.getAppFn with
      | .const _ _ => Id.run do
        let args := e'.getAppArgs
        match args.findIdx? (· == M) with
        | some _ => return e'.replace fun y => if y == M then some x else none
        | none => return e'
      | .proj sn k _ => mkAppN (.proj sn k x) e'.getAppArgs
      | _ => e'
    ctx := fun x => c' (put x)
    out := out.push (M, ctx)
    e ← kw M
    if ← isCtor e then break
  return out

inductive Did where
  | next (gs : List MVarId)
  | stop (why : String)

def shortCode (c : Lean.Expr) : MetaM String := do
  if c.isAppOfArity ``Code.call 2 then
    let f := c.appFn!.appArg!
    return s!"call {← briefly f 60}"
  return s!"{c.getAppFn.constName?.getD `code}"

def idOf (c : Lean.Expr) : MetaM (Option String) := do
  if c.isAppOfArity ``Code.call 2 then
    let f := c.appFn!.appArg!
    if f.isAppOfArity ``Value.builtin 1 then return ← strOf f.appArg!
    if f.isAppOfArity ``Value.type 1 then return (← strOf f.appArg!).map ("type:" ++ ·)
  return none

def goMVar (s : Sta) : MetaM MVarId := do return (← newMVar s.ty).mvarId!

def stepIn (cf : Cfg) (g : MVarId) (s : Sta) (c' hd gd l k : Lean.Expr) : TacticM (List MVarId) := g.withContext do
  let goE := mkAppN (mkConst ``Mine.Go) #[s.V, s.h0, s.n, s.t0]
  let e := mkAppN cf.callR #[goE, s.c, s.md, s.k, c', hd, gd, l, k, s.W, s.T, s.m, s.i, s.gl]
  let v ← kw e
  let m ← newMVar v
  g.assign (mkAppN (mkConst ``Mine.callR_by) #[cf.callR, cf.callRE, s.V, s.h0, s.n, s.t0, s.c, s.md, s.k, s.W, s.T, s.m, s.i, s.gl, c', hd, gd, l, k, m])
  return [m.mvarId!]

/-- a heap out of a state that is written out -/
def heapNF (e : Lean.Expr) : Nat → MetaM Lean.Expr
  | 0 => return e
  | f + 1 => do
    let e := (← instantiateMVars e).consumeMData.headBeta
    if e.isAppOfArity ``Shared.heap 1 then
      let x ← kw e.appArg!
      if x.isAppOfArity ``Shared.mk 5 then return ← heapNF x.getAppArgs[0]! f
      return e
    if e.isAppOfArity ``Heap.update 3 then
      let a := e.getAppArgs
      return mkApp3 e.getAppFn (← heapNF a[0]! f) a[1]! a[2]!
    if e.isAppOfArity ``Heap.push 2 then
      let a := e.getAppArgs
      return mkApp2 e.getAppFn (← heapNF a[0]! f) a[1]!
    return e

/-- the rest of a contract: R r s' -/
def backToGo (s : Sta) (D : Lean.Expr) (g : MVarId) : TacticM (Option MVarId) := g.withContext do
  let ty := (← instantiateMVars (← g.getType)).headBeta
  unless ty.isAppOfArity ``Mine.Mn 6 do throwError "contract's rest: {ty}"
  let a := ty.getAppArgs
  let S ← kw a[5]!
  unless S.isAppOfArity ``Shared.mk 5 do throwError "contract's rest: the state"
  let p := S.getAppArgs
  let hN (e : Lean.Expr) : MetaM Lean.Expr := heapNF e 40
  let h ← hN p[0]!
  let dT ← instantiateMVars (← inferType D)
  let hh := dT.getAppArgs[2]!
  let i' ← do
    let (b, k) ← numNF p[3]! 60
    let (b0, k0) ← numNF s.t0 60
    if b == b0 && k ≥ k0 then pure (some (k - k0)) else pure none
  let fin (s' : Sta) (D' : Lean.Expr) (h' : Lean.Expr) : TacticM (Option MVarId) := do
    let m ← goMVar s'
    let pf := mkAppN (mkConst ``Mine.means_of_go) #[s'.V, s'.h0, s'.n, s'.t0, s'.c, s'.md, s'.k, s'.t, s'.W, s'.T, s'.m, s'.i, s'.gl, h', D', mkMVar m]
    g.assign pf
    return some m
  let t := a[4]!.headBeta
  match i' with
  | some i' =>
    let s := { s with t, i := mkRawNatLit i' }
    let rec walk (h : Lean.Expr) (f : Nat) : TacticM (Option (Sta × Lean.Expr × Lean.Expr)) := do
      if h == hh then return some (s, D, h)
      match f with
      | 0 => return none
      | f + 1 =>
        if h.isAppOfArity ``Heap.update 3 then
          let x := h.getAppArgs
          let some (s, D, h0) ← walk (← hN x[0]!) f | return none
          let ad ← addrNF x[1]!
          let f := x[2]!
          let some (o, o', W', T', u) ← turn s ad (fun o => do
              let y := (mkApp f o).headBeta
              if f.isLambda && !(f.bindingBody!.hasLooseBVars) then return y else objNF y) | throwError "contract's rest: no object to turn"
          let D' := mkAppN (mkConst ``Mine.HR.upd) #[s.h0, s.n, h0, s.W, W', s.T, T', s.m, D, ad, o, o', f, u, rflAt (mkConst ``Obj) o', rflB ``Bool.false]
          return some ({ s with W := W', T := T' }, D', mkApp3 (mkConst ``Heap.update) h0 ad f)
        if h.isAppOfArity ``Heap.push 2 then
          let some (s, D, h0) ← walk (← hN h.appFn!.appArg!) f | return none
          let o := h.appArg!
          let T' ← treeNF (mkApp3 (mkConst ``BT.ins) s.T s.m o) 60
          let D' := mkAppN (mkConst ``Mine.HR.alloc) #[s.h0, s.n, h0, s.W, s.T, s.m, D, o, rflB ``Bool.false, rflB ``Bool.true]
          let m' := numE (← numNF (addE s.m (mkRawNatLit 1)) 60)
          return some ({ s with T := T', m := m' }, D', mkApp2 (mkConst ``Heap.push) h0 o)
        return none
    if let some (s, D, h) ← walk h 12 then return ← fin s D h
  | none => pure ()
  -- another heap: a new base
  unless h.isFVar do throwError "contract's rest: heap {h}"
  let sz := mkApp2 (mkConst ``Array.size [0]) (mkConst ``Obj) (mkApp (mkConst ``Heap.objs) h)
  let mut szp := (sz, rflAt natTy sz)
  for d in ← getLCtx do
    if d.isImplementationDetail then continue
    let t ← instantiateMVars d.type
    if let some (_, l, r) := t.eq? then
      if l == sz then szp := (r, d.toExpr)
  let (sz, szE) := szp
  let pT := mkApp2 (mkConst ``Prod [0, 0]) natTy (mkConst ``Obj)
  let s' := { s with h0 := h, n := sz, t0 := p[3]!, t, W := mkApp (mkConst ``List.nil [0]) pT, T := mkConst ``BT.nil, m := mkRawNatLit 0, i := mkRawNatLit 0 }
  let m ← goMVar s'
  g.assign (mkAppN (mkConst ``Mine.means_rebase) #[s'.V, s'.t0, s'.c, s'.md, s'.k, s'.t, s'.gl, h, sz, szE, mkMVar m])
  return some m

/-- a contract at a call -/
def bySpec (say : Bool) (side : Option (Lean.Expr → TacticM (Option Lean.Expr))) (g : MVarId) (s : Sta) (spec : Name) (c' hd gd l k : Lean.Expr) : TacticM (Option (List MVarId)) := g.withContext do
  let saved ← saveState
  let okE := rflB ``Bool.true
  let hT := mkConst ``Heap
  let arE := mkAppN (mkConst ``Mine.arOf) #[s.V, s.c, s.md, s.k, hd]
  let V := s.V
  let plain := (← kw s.md).isAppOf ``Option.none
  let xTy ← withLocalDeclD `h hT fun h => withLocalDeclD `D (mkAppN (mkConst ``Mine.HR) #[s.h0, s.n, h, s.W, s.T, s.m]) fun D => do
    let R ← withLocalDeclD `r (mkConst ``PySem.Result) fun r => withLocalDeclD `s' (mkConst ``Shared) fun s' =>
      mkLambdaFVars #[r, s'] (mkAppN (mkConst ``Mine.Mn) #[V, s.c, s.md, s.k, (mkApp k r).headBeta, s'])
    let S := mkAppN (mkConst ``Shared.mk) #[h, mkApp2 (mkConst ``Array.mk [0]) (mkConst ``GenState) s.gl, mkApp (mkConst ``XV.d) V, addE s.t0 s.i, mkApp (mkConst ``XV.os) V]
    mkForallFVars #[h, D] (mkAppN (mkConst (if plain then ``Mine.codeN else ``codeAny)) #[mkApp2 (mkConst ``model) (mkApp (mkConst ``XV.prog) V) (mkApp (mkConst ``XV.w) V), arE, c', R, S])
  let x ← newMVar xTy
  let (ids, g1) ← x.mvarId!.introN 2 [`hZ, `DZ]
  let D := mkFVar ids[1]!
  let r ← g1.withContext do
    let anyC := ((← getConstInfo spec).type.getForallBody).isAppOf ``codeAny
    let g1 ← if plain && anyC then (do return (← g1.apply (mkConst ``Mine.codeN_any)).headD g1 : TacticM MVarId) else pure g1
    let gs ← (do try g1.apply (mkConst spec) catch ex => (if say then logInfo m!"contract {spec}: {ex.toMessageData}" else pure ()); return none : TacticM (Option (List MVarId)))
    return gs
  let some gs := r | (if !say then saved.restore else pure ()); return none
  let mut out : List MVarId := []
  for q in gs do
    if ← q.isAssigned then continue
    let ok ← q.withContext do
      let ty ← instantiateMVars (← q.getType)
      -- a look into the heap
      if let some (_, l, _) := ty.eq? then
        if l.isAppOfArity ``Heap.get? 2 then
          let hx ← heapNF l.appFn!.appArg! 40
          let a ← addrNF l.appArg!
          let dT ← instantiateMVars (← inferType D)
          unless hx == dT.getAppArgs[2]! do
            IO.eprintln s!"heap {hx} {dT.getAppArgs[2]!}"
            return false
          let some (o, lk) ← look s.h0 s.n s.W s.T a 30 | IO.eprintln s!"look {a}"; return false
          let pf := mkAppN (mkConst ``Mine.HR.get) #[s.h0, s.n, hx, s.W, s.T, s.m, D, a, o, lk]
          let want := ty.getAppArgs[2]!
          unless ← withReducible (isDefEq want (mkApp2 (mkConst ``Option.some [0]) (mkConst ``Obj) o)) do
            IO.eprintln s!"object {want} {o}"
            return false
          q.assign pf
          return true
        -- the heap's size
        if l.isAppOfArity ``Array.size 2 && l.appArg!.isAppOfArity ``Heap.objs 1 then
          let hx ← heapNF l.appArg!.appArg! 40
          let dT ← instantiateMVars (← inferType D)
          unless hx == dT.getAppArgs[2]! do return false
          unless ← withReducible (isDefEq ty.getAppArgs[2]! (numE (← numNF (addE s.n s.m) 40))) do return false
          q.assign (mkAppN (mkConst ``Mine.HR.size) #[s.h0, s.n, hx, s.W, s.T, s.m, D])
          return true
      return true
    unless ok do
      if say then logInfo m!"contract {spec}: no object: {← q.withContext do instantiateMVars (← q.getType)}"
      if !say then saved.restore
      return none
  -- the side conditions, then the rest
  let mut conts : List MVarId := []
  for q in gs do
    if ← q.isAssigned then continue
    let ty ← q.withContext do instantiateMVars (← q.getType)
    let concl := ty.getForallBody
    if concl.headBeta.isAppOfArity ``Mine.Mn 6 || concl.getAppFn.isLambda then
      conts := conts ++ [q]
      continue
    let ok ← q.withContext do
      unless ← isProp ty do return true
      if let some f := side then
        if let some p ← f ty then
          q.assign p
          return true
      match ← tryTac ty (do evalTactic (← `(tactic| first | (with_reducible assumption) | omega | assumption | rfl | decide | (simp; omega) | simp))) with
      | some p => q.assign p; return true
      | none =>
        if let some (oT, l, r) := ty.eq? then
          if oT.isConstOf ``Int then
            if let .ok true := Kernel.isDefEq (← getEnv) (← getLCtx) l r then
              q.assign (← mkExpectedTypeHint (rflAt oT l) ty)
              return true
        return false
    unless ok do
      if say then logInfo m!"contract {spec}: {ty}"
      if !say then saved.restore
      return none
  for q in conts do
    if ← q.isAssigned then continue
    let (fs, q1) ← q.intros
    let mut q' := q1
    for f in fs do
      q' ← q'.withContext do
        let ty ← instantiateMVars (← f.getType)
        if ty.isAppOfArity ``LE.le 4 && (ty.appFn!.appFn!.appFn!.appArg!.isConstOf ``Nat || ty.appFn!.appFn!.appFn!.appArg!.isConstOf ``Addr) then
          q'.replaceLocalDeclDefEq f (leE (← niceN ty.appFn!.appArg!) (← niceN ty.appArg!))
        else return q'
    let some g2 ← backToGo s D q' | saved.restore; return none
    out := out ++ [g2]
  g.assign (mkAppN (mkConst ``Mine.go_spec) #[V, s.h0, s.n, s.t0, s.c, s.md, s.k, s.W, s.T, s.m, s.i, s.gl, c', hd, gd, l, k, okE, x, rflB ``Bool.false])
  return some out

def headForm (t : Lean.Expr) : Bool := match t.getAppFn with
  | .const n _ => [``Sem.load, ``Sem.update, ``Sem.call, ``Sem.pure, ``Sem.loadIfAlive].contains n
  | _ => false

/-- the same state, by sight or by the kernel -/
def sameSta (a b : Lean.Expr) : MetaM Bool := do
  if a == b then return true
  match staOf a, staOf b with
  | some s, some t =>
    unless s.T == t.T && s.W == t.W && s.m == t.m && s.i == t.i do return false
    unless s.t.getAppFn == t.t.getAppFn do return false
    match Kernel.isDefEq (← getEnv) (← getLCtx) a b with
    | .ok r => return r
    | .error _ => return false
  | _, _ => return false

/-- both ways of a Bool that meet again soon -/
def meet (stp : MVarId → TacticM Did) (g : MVarId) (M : Lean.Expr) (ctx : Lean.Expr → Lean.Expr) (n : Nat) : TacticM (Option MVarId) := g.withContext do
  let saved ← saveState
  let (tyT, tyF) := (ctx (mkConst ``Bool.true), ctx (mkConst ``Bool.false))
  let lctx ← getLCtx
  let seen (g : MVarId) : TacticM (Option Lean.Expr) := do
    let t ← instantiateMVars (← g.getType)
    if t.hasAnyFVar (fun x => !lctx.contains x) then return none
    match staOf t with
    | some s => if headForm s.t then return some (← tidy s).ty else return none
    | none => return none
  -- the first run: where do they meet?
  let mut a := (← newMVar tyT).mvarId!
  let mut b := (← newMVar tyF).mvarId!
  let mut sa : Array (Option Lean.Expr) := #[]
  let mut sb : Array (Option Lean.Expr) := #[]
  let mut goA := true
  let mut goB := true
  let mut at? : Option (Nat × Nat) := none
  for _ in [0:n] do
    if at?.isSome || (!goA && !goB) then break
    if goA then
      match ← stp a with
      | .next [a'] =>
        a := a'
        let x ← seen a
        sa := sa.push x
        if let some x := x then
          for j in [0:sb.size] do
            if at?.isNone then
              if let some y := sb[j]! then
                if ← sameSta x y then at? := some (sa.size, j + 1)
      | _ => goA := false
    if goB && at?.isNone then
      match ← stp b with
      | .next [b'] =>
        b := b'
        let y ← seen b
        sb := sb.push y
        if let some y := y then
          for j in [0:sa.size] do
            if at?.isNone then
              if let some x := sa[j]! then
                if ← sameSta x y then at? := some (j + 1, sb.size)
      | _ => goB := false
  saved.restore
  let some (na, nb) := at? | return none
  -- the second run: to the meeting
  let (mT, mF) := (← newMVar tyT, ← newMVar tyF)
  a := mT.mvarId!
  b := mF.mvarId!
  for _ in [0:na] do
    let .next [a'] ← stp a | throwError "meet"
    a := a'
  for _ in [0:nb] do
    let .next [b'] ← stp b | throwError "meet"
    b := b'
  let P ← instantiateMVars (← a.getType)
  let lam := Lean.Expr.lam `b (mkConst ``Bool) ((ctx (mkFVar ⟨`zz⟩)).abstract #[mkFVar ⟨`zz⟩]) .default
  let f ← withLocalDeclD `x P fun x => do
    a.assign x
    b.assign x
    let pf := mkAppN (mkConst ``Mine.g_meet) #[M, lam, ← instantiateMVars mT, ← instantiateMVars mF]
    mkLambdaFVars #[x] pf
  let m ← newMVar P
  g.assign (mkApp f m)
  return some m.mvarId!

def step1 (cf : Cfg) (meets : Option (MVarId → Lean.Expr → (Lean.Expr → Lean.Expr) → TacticM (Option MVarId))) (g : MVarId) : TacticM Did := g.withContext do
  let ty ← instantiateMVars (← g.getType)
  if ty.isForall then
    let (_, g') ← g.intro1P
    return .next [g']
  if let some s := staOf ty then
    let t := s.t.headBeta
    let s ← tidy { s with t }
    -- a new object whose class hangs on a test
    if let some y := s.T.find? fun y => y.isAppOfArity ``condFn 4 && y.getAppArgs[0]!.isConstOf ``String && !y.hasLooseBVars then
      let b := y.getAppArgs[1]!
      match ← proveBool b with
      | none => return .stop s!"a class that hangs on {← briefly b 600}"
      | some (v, h) =>
        let lamT := Lean.Expr.lam `b (mkConst ``Bool) ((s.T.replace fun z => if z == b then some (mkFVar ⟨`zz⟩) else none).abstract #[mkFVar ⟨`zz⟩]) .default
        let T' := (mkApp lamT (mkConst v)).headBeta
        let lam := Lean.Expr.lam `b (mkConst ``Bool) ({ s with T := s.T.replace fun z => if z == b then some (mkFVar ⟨`zz⟩) else none }.ty.abstract #[mkFVar ⟨`zz⟩]) .default
        laidOut.set {}
        let m ← goMVar { s with T := T' }
        g.assign (mkAppN (mkConst ``Z.g_bool) #[b, mkConst v, h, lam, mkMVar m])
        return .next [m]
    if t.isAppOfArity ``Sem.load 4 || t.isAppOfArity ``Sem.loadIfAlive 3 then
      let alive := t.isAppOfArity ``Sem.loadIfAlive 3
      let x := t.getAppArgs
      let a ← addrNF x[1]!
      let k := t.appArg!
      match ← look s.h0 s.n s.W s.T a 30 with
      | none => return .stop s!"load: nothing known at {← briefly a}"
      | some (o, l) =>
        let t' := if alive then (mkApp k (mkApp2 (mkConst ``Option.some [0]) (mkConst ``Obj) o)).headBeta else (mkApp k o).headBeta
        let g' ← goMVar { s with t := t' }
        if alive then
          g.assign (mkAppN (mkConst ``Mine.go_alive) #[s.V, s.h0, s.n, s.t0, s.c, s.md, s.k, s.W, s.T, s.m, s.i, s.gl, a, k, o, l, mkMVar g'])
        else
          g.assign (mkAppN (mkConst ``Mine.go_load) #[s.V, s.h0, s.n, s.t0, s.c, s.md, s.k, s.W, s.T, s.m, s.i, s.gl, a, x[2]!, k, o, l, mkMVar g'])
        return .next [g']
    if t.isAppOfArity ``Sem.update 5 then
      let x := t.getAppArgs
      let a ← addrNF x[1]!
      let (q, f, k) := (x[2]!, x[3]!, x[4]!)
      let grew ← IO.mkRef (none : Option Lean.Expr)
      match ← turn s a (fun o => do
          let o' ← objNF (mkApp f o).headBeta
          match ← growNF o' with
          | some (o2, pf) => grew.set (some pf); return o2
          | none => return o') with
      | none => return .stop s!"update: nothing known at {← briefly a}"
      | some (o, o', W', T', u) =>
        let hf := (← grew.get).getD (rflAt (mkConst ``Obj) o')
        let t' := (mkApp k (mkConst ``Unit.unit)).headBeta
        let g' ← goMVar { s with t := t', W := W', T := T' }
        g.assign (mkAppN (mkConst ``Mine.go_update) #[s.V, s.h0, s.n, s.t0, s.c, s.md, s.k, s.W, s.T, s.m, s.i, s.gl, a, q, f, k, o, o', W', T', u, hf, rflB ``Bool.false, mkMVar g'])
        return .next [g']
    if t.isAppOfArity ``Sem.call 6 then
      let x := t.getAppArgs
      let c' ← codeNF x[1]!
      let (hd, gd, l, k) := (← kw x[2]!, x[3]!, x[4]!, x[5]!)
      let id? ← idOf c'
      if cf.log then
        let w ← (match id? with | some i => pure ("call " ++ i) | none => shortCode c' : MetaM String)
        logInfo m!"{w}"
      if let some id := id? then
        if cf.stopAt.contains id then return .stop s!"call {id}"
        for (i, sp) in cf.specs do
          if i == id then
            match ← bySpec cf.log cf.side g s sp c' hd gd l k with
            | some gs => return .next gs
            | none => if cf.log then logInfo m!"contract {sp} does not fit"
      return .next (← stepIn cf g s c' hd gd l k)
    if t.isAppOfArity ``Sem.pure 2 then
      let fin ← kw t.appArg!
      if fin.isAppOfArity ``Fin.again 1 then
        let c' ← codeNF fin.appArg!
        if cf.log then logInfo m!"again {← shortCode c'}"
        if cf.func && c'.isAppOf ``Code.func then return .stop "a def's body"
        let t' := (mkApp cf.den c').headBeta
        let g' ← goMVar { s with c := c', t := t' }
        let e ← mkCongrFun cf.denE c'
        g.assign (mkAppN (mkConst ``Mine.again_by) #[t', s.V, s.h0, s.n, s.t0, s.c, s.md, s.k, s.W, s.T, s.m, s.i, s.gl, c', e, rflB ``Bool.true, mkMVar g'])
        return .next [g']
    if cf.loops && (s.c.isAppOf ``Code.forLoop || s.c.isAppOf ``Code.compLoop) && t == mkApp cf.den s.c then return .stop s!"loop {s.c.getAppFn.constName!}"
    if cf.loops && s.c.isAppOfArity ``Code.builtin 2 && t == mkApp cf.den s.c then
      if let some id ← strOf s.c.appFn!.appArg! then
        if id == "list.extend.loop" then return .stop "loop list.extend"
    -- run on
    return .next [← runOn cf g s]
  if ty.isAppOfArity ``Mine.Fini 10 then
    let a := ty.getAppArgs
    let T ← treeNF a[6]! 60
    let m := numE (← numNF a[7]! 60)
    let i := numE (← numNF a[8]! 60)
    let ty' := mkAppN ty.getAppFn (a.set! 6 T |>.set! 7 m |>.set! 8 i)
    if ty' == ty then return .stop "end"
    let m ← newMVar ty'
    g.assign m
    return .next [m.mvarId!]
  if ty.isConstOf ``Mine.NoRun then return .stop "no run"
  -- a stuck state
  if cf.log then IO.eprintln "kw state"
  let v ← kw ty
  if v != ty then
    let m ← newMVar v
    g.assign m
    return .next [m.mvarId!]
  if cf.log then IO.eprintln "chain"
  let ch ← chain v
  if cf.log then IO.eprintln s!"chain {ch.size}"
  -- the stack's looks
  for (M, ctx) in ch do
    let MT ← whnfCore (← inferType M)
    if cf.log then IO.eprintln s!"look at {← briefly MT 100}"
    let mw ← kw M
    if MT.isConstOf ``Bool then
      -- own looks at the stack
      if let .proj _ _ (.const on _) := mw.getAppFn then
        if on == ``oRoom || on == ``oNear || on == ``oOver || on == ``oWarm then
          let sa := mw.getAppArgs
          let mut lie? := none
          for d in ← getLCtx do
            if d.isImplementationDetail then continue
            let t ← instantiateMVars d.type
            if t.isAppOfArity ``Lies 2 then
              if t.appArg! == sa[0]! then lie? := some (d.toExpr, t.appFn!.appArg!)
          let some (lie, A') := lie? | return .stop "the stack is not known"
          let lt (f : Name) (n : Name) : MetaM Lean.Expr := do
            return mkApp3 (mkConst ``Nat.le_of_ble_eq_true) (mkApp (mkConst ``Nat.succ) (mkApp (mkConst f) A')) (mkConst n) (rflAt (mkConst ``Bool) (mkConst ``Bool.true))
          let h ← if on == ``oRoom then mkAppM ``Lies.room #[lie, ← lt ``PySem.Around.units ``cLine]
            else
              let hd ← lt ``PySem.Around.depth ``recursionLimit
              mkAppM (if on == ``oNear then ``Lies.near' else if on == ``oOver then ``Lies.over else ``Lies.warm) #[lie, hd, sa[1]!]
          let lam := Lean.Expr.lam `b (mkConst ``Bool) ((ctx (mkFVar ⟨`zz⟩)).abstract #[mkFVar ⟨`zz⟩]) .default
          let ty' := ctx (mkConst ``Bool.false)
          let m ← newMVar ty'
          g.assign (mkAppN (mkConst ``Z.g_bool) #[M, mkConst ``Bool.false, h, lam, m])
          return .next [m.mvarId!]
      if let some (p, iff) ← boolProp M then
        let lam := Lean.Expr.lam `b (mkConst ``Bool) ((ctx (mkFVar ⟨`zz⟩)).abstract #[mkFVar ⟨`zz⟩]) .default
        let r ← proveEither p (mkApp (mkConst ``Not) p)
        if let some (true, h) := r then
          let m ← newMVar (ctx (mkConst ``Bool.true))
          g.assign (mkAppN (mkConst ``Z.g_bool) #[M, mkConst ``Bool.true, ← mkAppM ``Iff.mpr #[iff, h], lam, m])
          return .next [m.mvarId!]
        if let some (false, h) := r then
          let m ← newMVar (ctx (mkConst ``Bool.false))
          g.assign (mkAppN (mkConst ``Z.g_bool) #[M, mkConst ``Bool.false, ← mkAppM ``Z.bool_no #[iff, h], lam, m])
          return .next [m.mvarId!]
      if (M.find? fun y => y.isConstOf ``Params.followText).isSome then
        if let some f := meets then
          if let some g' ← f g M ctx then return .next [g']
          return .stop s!"two ways that do not meet: {← briefly M 1500} --- {← briefly v 3000}"
    if MT.isAppOfArity ``Option 1 && M.isAppOfArity ``List.findSome? 4 then
      let f := M.getAppArgs[2]!
      let l := M.getAppArgs[3]!
      if l.isAppOfArity ``List.cons 3 then
        let below := l.appArg!
        let hd := l.appFn!.appArg!
        for d in ← getLCtx do
          if d.isImplementationDetail then continue
          let t ← whnfCore (← instantiateMVars d.type)
          let nfT := mkApp (mkConst ``Mine.NF) below
          if t.isApp && t.getAppNumArgs == 1 && t.appArg! == below && (match Kernel.isDefEq (← getEnv) (← getLCtx) t nfT with | .ok b => b | _ => false) then
            IO.eprintln "FS found"
            let want ← mkAppM ``Mine.quietAll #[f]
            match ← tryTac want (do evalTactic (← `(tactic| (rintro ⟨c, p⟩ h; cases c <;> first | rfl | exact dif_neg (Mine.notFin h))))) with
            | none =>
              IO.eprintln "FS not shown"
              let m ← mkFreshExprSyntheticOpaqueMVar want
              try
                let gs ← Tactic.run m.mvarId! (do evalTactic (← `(tactic| (rintro ⟨c, p⟩ h; cases c <;> first | rfl | exact dif_neg (Mine.notFin h)))))
                IO.eprintln s!"left {gs.length}"
              catch ex => IO.eprintln s!"FS {← ex.toMessageData.toString}"
            | some q =>
              let hdW ← whnfCore hd
              let nf := mkApp5 (mkConst ``Mine.NF.cons) hdW.getAppArgs[2]! hdW.getAppArgs[3]! below (rflB ``Bool.false) (← mkExpectedTypeHint d.toExpr nfT)
              let h ← mkAppM ``Mine.findSome_none #[f, l, q, nf]
              let lam := Lean.Expr.lam `b MT ((ctx (mkFVar ⟨`zz⟩)).abstract #[mkFVar ⟨`zz⟩]) .default
              let r := mkApp (mkConst ``Option.none MT.getAppFn.constLevels!) MT.appArg!
              let m ← newMVar (ctx r)
              g.assign (mkAppN (mkConst ``Z.g_num) #[MT, M, r, h, lam, m])
              return .next [m.mvarId!]
    if MT.isAppOfArity ``Option 1 then
      for d in ← getLCtx do
        if d.isImplementationDetail then continue
        let t := (← instantiateMVars d.type).consumeMData
        if let some (oT, l, r) := t.eq? then
          if oT.isAppOfArity ``Option 1 && r.isAppOfArity ``Option.some 2 && !l.isAppOfArity ``Heap.get? 2 then
            if (← withReducible (isDefEq oT MT)) && (← withReducible (isDefEq l M)) then
              let lam := Lean.Expr.lam `b MT ((ctx (mkFVar ⟨`zz⟩)).abstract #[mkFVar ⟨`zz⟩]) .default
              let m ← newMVar (ctx r)
              g.assign (mkAppN (mkConst ``Z.g_num) #[MT, M, r, d.toExpr, lam, m])
              return .next [m.mvarId!]
    if MT.isConstOf ``DictEntry then
      for d in ← getLCtx do
        if d.isImplementationDetail then continue
        let dt := (← instantiateMVars d.type).consumeMData
        unless dt.isForall do continue
        if let some (oT, l0, _) := dt.getForallBody.eq? then
          unless oT.isConstOf ``DictEntry && l0.getAppFn == M.getAppFn do continue
          let (xs, _, c) ← forallMetaTelescopeReducing dt (some 1)
          let some (_, l, r) := c.eq? | continue
          if ← withReducible (isDefEq l M) then
            let r ← instantiateMVars r
            let lam := Lean.Expr.lam `b MT ((v.replace fun y => if y == M then some (mkFVar ⟨`zz⟩) else none).abstract #[mkFVar ⟨`zz⟩]) .default
            let m ← newMVar (v.replace fun y => if y == M then some r else none)
            g.assign (mkAppN (mkConst ``Z.g_num) #[MT, M, r, ← instantiateMVars (mkAppN d.toExpr xs), lam, m])
            return .next [m.mvarId!]
    if MT.isAppOfArity ``Decidable 1 then
      let p := MT.appArg!
      let np := mkApp (mkConst ``Not) p
      let lam := Lean.Expr.lam `d MT ((ctx (mkFVar ⟨`zz⟩)).abstract #[mkFVar ⟨`zz⟩]) .default
      let yes (h : Lean.Expr) : TacticM Did := do
        let m ← newMVar (ctx (mkApp2 (mkConst ``Decidable.isTrue) p h))
        g.assign (mkAppN (mkConst ``Z.g_true) #[p, M, h, lam, m])
        return .next [m.mvarId!]
      let no (h : Lean.Expr) : TacticM Did := do
        let m ← newMVar (ctx (mkApp2 (mkConst ``Decidable.isFalse) p h))
        g.assign (mkAppN (mkConst ``Z.g_false) #[p, M, h, lam, m])
        return .next [m.mvarId!]
      if !p.hasFVar then
        match ← byKernel (foldQ p) with
        | some (true, h) => return ← yes (← mkExpectedTypeHint h p)
        | some (false, h) => return ← no (← mkExpectedTypeHint h np)
        | none => pure ()
      match ← proveEither p np with
      | some (true, h) => return ← yes h
      | some (false, h) => return ← no h
      | none => pure ()
  let mut say := ""
  for (M, _) in ch.toList.reverse.take 9 do
    say := say ++ s!"\n  [{← briefly (← inferType M) 100}] {← briefly M 500}"
  return .stop s!"stuck: {← briefly v 300}{say}"

def step0 (cf : Cfg) (g : MVarId) : TacticM Did := step1 cf none g
def stepM (cf : Cfg) (g : MVarId) : TacticM Did := step1 cf (some fun g M ctx => meet (step0 cf) g M ctx 120) g
def step (cf : Cfg) (g : MVarId) : TacticM Did := step1 cf (some fun g M ctx => meet (stepM cf) g M ctx 120) g

/-- the tree of a code, by the fast table -/
def fast (cf : Cfg) (g : MVarId) : TacticM MVarId := g.withContext do
  let some s := staOf (← instantiateMVars (← g.getType)) | return g
  unless s.t.isAppOfArity ``denote 2 do
    ZFast.laying.set true
    let q ← ZFast.quick s.t
    ZFast.laying.set false
    match q with
    | none => return g
    | some (t', e) =>
      let g' ← goMVar { s with t := t' }
      g.assign (mkAppN (mkConst ``Mine.go_eq) #[s.V, s.h0, s.n, s.t0, s.c, s.md, s.k, s.t, s.W, s.T, s.m, s.i, s.gl, t', e, mkMVar g'])
      return g'
  let c := s.t.appArg!
  let t' := (mkApp cf.den c).headBeta
  let g' ← goMVar { s with t := t' }
  g.assign (mkAppN (mkConst ``Mine.go_eq) #[s.V, s.h0, s.n, s.t0, s.c, s.md, s.k, s.t, s.W, s.T, s.m, s.i, s.gl, t', ← mkCongrFun cf.denE c, mkMVar g'])
  return g'

def drive (cf : Cfg) (g0 : MVarId) : TacticM (List (MVarId × String)) := do
  let mut todo := [g0]
  let mut left := []
  for _ in [0:cf.steps] do
    match todo with
    | [] => break
    | g :: rest =>
      match ← step cf g with
      | .next gs => todo := gs ++ rest
      | .stop why => left := left ++ [(g, why)]; todo := rest
  return left ++ todo.map fun g => (g, "steps")

def clean (g : MVarId) : TacticM MVarId := g.withContext do
  let mut g := g
  for d in ← getLCtx do
    if d.isImplementationDetail then continue
    if d.type.isAppOf ``Lies then g ← (try g.clear d.fvarId catch _ => pure g)
    else
      let t ← instantiateMVars d.type
      let mut away := t.isConstOf ``True
      for x in (Lean.collectFVars {} t).fvarIds do
        let xt ← instantiateMVars (← x.getType)
        if xt.isAppOfArity ``List 1 && (xt.find? fun y => y.isConstOf ``Code).isSome then away := true
      if away then g ← (try g.clear d.fvarId catch _ => pure g)
  let ds ← g.withContext do return (← getLCtx)
  for d in ds do
    if d.isImplementationDetail then continue
    if d.type.isConstOf ``Pos || d.type.isAppOf ``List then g ← (try g.clear d.fvarId catch _ => pure g)
  return g

def run (cf : Cfg) : TacticM Unit := do
  let g ← fast cf (← getMainGoal)
  let rest := (← getGoals).tail!
  let l ← drive cf g
  for (_, w) in l do logInfo m!"LEFT {w}"
  setGoals ((← l.mapM fun (g, _) => clean g) ++ rest)

/-- from a loop's head on -/
def runFrom (cf : Cfg) : TacticM Unit := do
  let g ← getMainGoal
  let rest := (← getGoals).tail!
  let g ← g.withContext do
    let some s := staOf (← instantiateMVars (← g.getType)) | throwError "no Go"
    runOn cf g (← tidy s)
  let l ← drive cf g
  for (_, w) in l do logInfo m!"LEFT {w}"
  setGoals ((← l.mapM fun (g, _) => clean g) ++ rest)

def btAll (T : Lean.Expr) (j s : Nat) : Nat → List (Nat × Lean.Expr)
  | 0 => []
  | f + 1 => if T.isAppOfArity ``BT.node 3 then
      let a := T.getAppArgs
      -- index i of this node: i = s * x + j
      (j, a[0]!) :: btAll a[1]! (s + j) (2 * s) f ++ btAll a[2]! (2 * s + j) (2 * s) f
    else []

/-- the twins' own numbers opened in the goal, then arithmetic -/
def numbers : TacticM Unit := withMainContext do
  let g ← getMainGoal
  let ty ← instantiateMVars (← g.getType)
  let ty' ← open1 ty
  let g' ← g.replaceTargetDefEq ty'
  replaceMainGoal [g']
  evalTactic (← `(tactic| ((try simp only [Int.ofNat_eq_natCast, gt_iff_lt]); first | omega | ((repeat' split) <;> (try simp) <;> omega))))

/-- prints the state -/
def showSta : TacticM Unit := withMainContext do
  let some s := staOf (← instantiateMVars (← (← getMainGoal).getType)) | throwError "no Go"
  let s ← tidy s
  logInfo m!"base {s.n} m {s.m} i {s.i} t0 {s.t0}\nW: {s.W}"
  for (j, o) in (btAll s.T 0 1 40).toArray.qsort (fun a b => a.1 < b.1) do
    logInfo m!"  +{j}: {o}"
  logInfo m!"code {s.c.getAppFn}"

/-- closes h.get? a = some o from what is known -/
def fact : TacticM Unit := withMainContext do
  let g ← getMainGoal
  let ty ← instantiateMVars (← g.getType)
  let some (_, l, r) := ty.eq? | throwError "fact: no equation"
  unless l.isAppOfArity ``Heap.get? 2 do throwError "fact: no look"
  let h := l.appFn!.appArg!
  let a ← addrNF l.appArg!
  let some (o, pf) ← resolve h a 30 | throwError "fact: nothing known at {a}"
  let someO := mkApp2 (mkConst ``Option.some [0]) (mkConst ``Obj) o
  if r.hasExprMVar then
    unless ← isDefEq r someO do throwError "fact: another object: {o}"
  else
    match Kernel.isDefEq (← getEnv) (← getLCtx) r someO with
    | .ok true => pure ()
    | _ => throwError "fact: another object: {o}"
  let r ← instantiateMVars r
  let T := mkApp (mkConst ``Option [0]) (mkConst ``Obj)
  let eq1 ← mkExpectedTypeHint pf (mkApp3 (mkConst ``Eq [1]) T l r)
  g.assign eq1
  replaceMainGoal []

def listElems (M : Lean.Expr) : Nat → List Lean.Expr
  | 0 => []
  | f + 1 => if M.isAppOfArity ``List.cons 3 then M.getAppArgs[1]! :: listElems M.appArg! f else []

def leProof (n x : Lean.Expr) : TacticM (Option Lean.Expr) := do
  let le := mkApp4 (mkConst ``LE.le [0]) natTy (mkConst ``instLENat) n x
  let (bn, kn) ← numNF n 40
  let (bx, kx) ← numNF x 40
  if bn.isNone && bx.isNone then
    if kn ≤ kx then return some (← mkExpectedTypeHint (mkApp3 (mkConst ``Nat.le_of_ble_eq_true) (mkRawNatLit kn) (mkRawNatLit kx) (rflB ``Bool.true)) le)
    return none
  let x' := match bx with | none => mkNatLit kx | some b => if kx == 0 then b else addE b (mkNatLit kx)
  let n' := match bn with | none => mkNatLit kn | some b => if kn == 0 then b else addE b (mkNatLit kn)
  if let some h ← linLe n' x' then return some (← mkExpectedTypeHint h le)
  match ← tryArith (mkApp4 (mkConst ``LE.le [0]) natTy (mkConst ``instLENat) n' x') (do evalTactic (← `(tactic| omega))) with
  | some h => return some (← mkExpectedTypeHint h le)
  | none => return none

/-- the changed objects are among those that may change -/
def allW (M n W : Lean.Expr) : Nat → TacticM (Option Lean.Expr)
  | 0 => return none
  | f + 1 => do
    if W.isAppOfArity ``List.cons 3 then
      let p := W.getAppArgs[1]!
      let (x, o) := (p.getAppArgs[2]!, p.getAppArgs[3]!)
      let inM := mkApp5 (mkConst ``Membership.mem [0, 0]) natTy (mkApp (mkConst ``List [0]) natTy) (mkApp (mkConst ``List.instMembership [0]) natTy) M x
      let le := mkApp4 (mkConst ``LE.le [0]) natTy (mkConst ``instLENat) n x
      let mut h? := none
      let mut q := 0
      for y in listElems M 60 do
        if h?.isNone then
          if y == x || (← addrNF y) == (← addrNF x) then
            let hp := mkAppN (mkConst ``List.mem_of_getElem? [0]) #[natTy, M, mkRawNatLit q, x, rflAt (mkApp (mkConst ``Option [0]) natTy) (mkApp2 (mkConst ``Option.some [0]) natTy x)]
            h? := some (mkApp3 (mkConst ``Or.inl) inM le hp)
        q := q + 1
      if h?.isNone then
        if let some h ← leProof n x then
          h? := some (mkApp3 (mkConst ``Or.inr) inM le h)
      let some h := h? | return none
      let some r ← allW M n W.appArg! f | return none
      return some (mkAppN (mkConst ``Mine.allw_cons) #[M, n, x, o, W.appArg!, h, r])
    else return some (mkApp2 (mkConst ``Mine.allw_nil) M n)

def allX (M n W : Lean.Expr) : Nat → TacticM (Option Lean.Expr)
  | 0 => return none
  | f + 1 => do
    if W.isAppOfArity ``List.cons 3 then
      let x := W.getAppArgs[1]!
      let inM := mkApp5 (mkConst ``Membership.mem [0, 0]) natTy (mkApp (mkConst ``List [0]) natTy) (mkApp (mkConst ``List.instMembership [0]) natTy) M x
      let le := mkApp4 (mkConst ``LE.le [0]) natTy (mkConst ``instLENat) n x
      let mut h? := none
      let mut q := 0
      for y in listElems M 60 do
        if h?.isNone then
          if y == x || (← addrNF y) == (← addrNF x) then
            let hp := mkAppN (mkConst ``List.mem_of_getElem? [0]) #[natTy, M, mkRawNatLit q, x, rflAt (mkApp (mkConst ``Option [0]) natTy) (mkApp2 (mkConst ``Option.some [0]) natTy x)]
            h? := some (mkApp3 (mkConst ``Or.inl) inM le hp)
        q := q + 1
      if h?.isNone then
        if let some h ← leProof n x then
          h? := some (mkApp3 (mkConst ``Or.inr) inM le h)
      let some h := h? | return none
      let some r ← allX M n W.appArg! f | return none
      return some (mkAppN (mkConst ``Mine.allx_cons) #[M, n, x, W.appArg!, h, r])
    else return some (mkApp2 (mkConst ``Mine.allx_nil) M n)
/-- Kp h₁ M h, by what the context says of the heaps between -/
def kpChain (h1 M sz h : Lean.Expr) : Nat → TacticM (Option Lean.Expr)
  | 0 => return none
  | f + 1 => do
    if h1 == h then return some (mkApp2 (mkConst ``Mine.Kp.refl) h1 M)
    for d in ← getLCtx do
      if d.isImplementationDetail then continue
      let t ← instantiateMVars d.type
      if t.isAppOfArity ``Mine.Kp 3 && t.getAppArgs[2]! == h && t.getAppArgs[0]! == h1 && t.getAppArgs[1]! == M then return some d.toExpr
    for d in ← getLCtx do
      if d.isImplementationDetail then continue
      let t ← instantiateMVars d.type
      if t.isAppOfArity ``Mine.HR 6 && t.getAppArgs[2]! == h then
        let y := t.getAppArgs
        if y[0]! != h then
          if let some r ← kpChain h1 M sz y[0]! f then
            if let some hw ← allW M sz y[3]! 60 then
              return some (mkAppN (mkConst ``Mine.Kp.of) #[h1, y[0]!, h, M, y[1]!, y[3]!, y[4]!, y[5]!, r, d.toExpr, hw])
      if t.isAppOfArity ``Mine.Kp 3 && t.getAppArgs[2]! == h then
        let y := t.getAppArgs
        if y[0]! != h then
          if let some r ← kpChain h1 M sz y[0]! f then
            if let some hw ← allX M sz y[1]! 60 then
              return some (mkAppN (mkConst ``Mine.Kp.step) #[h1, y[0]!, h, M, y[1]!, r, d.toExpr, hw])
    return none
def kpGoal (g : MVarId) (ty : Lean.Expr) : TacticM Bool := g.withContext do
  let x := ty.getAppArgs
  let sz := mkApp2 (mkConst ``Array.size [0]) (mkConst ``Obj) (mkApp (mkConst ``Heap.objs) x[0]!)
  match ← kpChain x[0]! x[1]! sz x[2]! 30 with
  | some p => g.assign p; return true
  | none => return false

def allK (M n lo hi W : Lean.Expr) : Nat → TacticM (Option Lean.Expr)
  | 0 => return none
  | f + 1 => do
    if W.isAppOfArity ``List.cons 3 then
      let p := W.getAppArgs[1]!
      let (x, o) := (p.getAppArgs[2]!, p.getAppArgs[3]!)
      let inM := mkApp5 (mkConst ``Membership.mem [0, 0]) natTy (mkApp (mkConst ``List [0]) natTy) (mkApp (mkConst ``List.instMembership [0]) natTy) M x
      let le := leE n x
      let old := mkApp2 (mkConst ``Or) inM le
      let mid := mkApp2 (mkConst ``And) (leE lo x) (ltE x hi)
      let mut h? := none
      let mut q := 0
      for y in listElems M 60 do
        if h?.isNone then
          if y == x || (← addrNF y) == (← addrNF x) then
            let hp := mkAppN (mkConst ``List.mem_of_getElem? [0]) #[natTy, M, mkRawNatLit q, x, rflAt (mkApp (mkConst ``Option [0]) natTy) (mkApp2 (mkConst ``Option.some [0]) natTy x)]
            h? := some (mkApp3 (mkConst ``Or.inl) old mid (mkApp3 (mkConst ``Or.inl) inM le hp))
        q := q + 1
      if h?.isNone then
        if let some h ← inside x lo hi then
          h? := some (mkApp3 (mkConst ``Or.inr) old mid h)
      if h?.isNone then
        if let some h ← leProof n x then
          h? := some (mkApp3 (mkConst ``Or.inl) old mid (mkApp3 (mkConst ``Or.inr) inM le h))
      let some h := h? | return none
      let some r ← allK M n lo hi W.appArg! f | return none
      return some (mkAppN (mkConst ``Mine.allk_cons) #[M, n, lo, hi, x, o, W.appArg!, h, r])
    else return some (mkApp4 (mkConst ``Mine.allk_nil) M n lo hi)

def kiGoal (g : MVarId) (ty : Lean.Expr) : TacticM Bool := g.withContext do
  let x := ty.getAppArgs
  if x[0]! == x[4]! then
    g.assign (mkApp4 (mkConst ``Mine.KI.refl) x[0]! x[1]! x[2]! x[3]!)
    return true
  let sz := mkApp2 (mkConst ``Array.size [0]) (mkConst ``Obj) (mkApp (mkConst ``Heap.objs) x[0]!)
  for d in ← getLCtx do
    if d.isImplementationDetail then continue
    let t ← instantiateMVars d.type
    if t.isAppOfArity ``Mine.HR 6 && t.getAppArgs[2]! == x[4]! then
      let y := t.getAppArgs
      let mut base : Option Lean.Expr := none
      if y[0]! == x[0]! then base := some (mkApp4 (mkConst ``Mine.KI.refl) x[0]! x[1]! x[2]! x[3]!)
      for d2 in ← getLCtx do
        if d2.isImplementationDetail then continue
        let t2 ← instantiateMVars d2.type
        if t2.isAppOfArity ``Mine.KI 5 then
          let z := t2.getAppArgs
          if z[0]! == x[0]! && z[4]! == y[0]! && z[1]! == x[1]! && z[2]! == x[2]! && z[3]! == x[3]! then base := some d2.toExpr
      if let some b := base then
        if let some hw ← allK x[3]! sz x[1]! x[2]! y[3]! 60 then
          g.assign (mkAppN (mkConst ``Mine.KI.of) #[x[0]!, y[0]!, x[4]!, x[1]!, x[2]!, x[3]!, y[1]!, y[3]!, y[4]!, y[5]!, b, d.toExpr, hw])
          return true
  return false

def allM (M : Lean.Expr) : Nat → TacticM (Option Lean.Expr)
  | 0 => return none
  | f + 1 => do
    if M.isAppOfArity ``List.cons 3 then
      let x := M.getAppArgs[1]!
      let some h ← leProof (mkNatLit 643) x | return none
      let some r ← allM M.appArg! f | return none
      return some (mkApp4 (mkConst ``Mine.allm_cons) x M.appArg! h r)
    else return some (mkConst ``Mine.allm_nil)

/-- TopK kt h -/
def topOf (kt h : Lean.Expr) : Nat → TacticM (Option Lean.Expr)
  | 0 => return none
  | f + 1 => do
    for d in ← getLCtx do
      if d.isImplementationDetail then continue
      let t ← instantiateMVars d.type
      if t.isAppOfArity ``Mine.TopK 2 && t.appArg! == h then return some d.toExpr
      if t.isAppOfArity ``Mine.HR 6 && t.getAppArgs[2]! == h then
        let y := t.getAppArgs
        if let some x ← topOf kt y[0]! f then
          let nilA := mkApp (mkConst ``List.nil [0]) natTy
          let some hw ← allW nilA (mkNatLit 643) y[3]! 80 | return none
          return some (mkAppN (mkConst ``Mine.TopK.hr) #[kt, y[0]!, h, y[1]!, y[3]!, y[4]!, y[5]!, x, d.toExpr, hw])
      if t.isAppOfArity ``Mine.Kp 3 && t.appArg! == h then
        let y := t.getAppArgs
        if y[0]! != h then
          if let some x ← topOf kt y[0]! f then
            let some hm ← allM y[1]! 80 | return none
            return some (mkAppN (mkConst ``Mine.TopK.kp) #[kt, y[0]!, h, y[1]!, x, d.toExpr, hm])
      if t.isAppOfArity ``Mine.KI 5 && t.appArg! == h then
        let y := t.getAppArgs
        if y[0]! != h then
          if let some x ← topOf kt y[0]! f then
            let some hm ← allM y[3]! 80 | return none
            return some (mkAppN (mkConst ``Mine.TopK.ki) #[kt, y[0]!, h, y[1]!, y[2]!, y[3]!, x, d.toExpr, rflB ``Bool.true, hm])
    return none

def allP (h0 W : Lean.Expr) : Nat → TacticM (Option Lean.Expr)
  | 0 => return none
  | f + 1 => do
    if W.isAppOfArity ``List.cons 3 then
      let p := W.getAppArgs[1]!
      let (x, o) := (p.getAppArgs[2]!, p.getAppArgs[3]!)
      let mut h? := none
      let xa ← addrNF x
      if let .lit (.natVal k) := xa then
        if k < 687 then h? := some (mkApp3 (mkConst ``Mine.NoPair.low) h0 x (rflB ``Bool.true))
      if h?.isNone then
        if let some (o, e) ← resolve h0 xa 30 then
          if (← kw (mkApp (mkConst ``Mine.noSeq) o)).isConstOf ``Bool.true then
            h? := some (mkAppN (mkConst ``Mine.NoPair.data) #[h0, x, o, e, rflB ``Bool.true])
          else
            let dt ← kw (mkApp (mkConst ``Obj.data) o)
            if dt.isAppOfArity ``Data.seq 2 then
              let ar := dt.getAppArgs[0]!
              let ar' ← kw (mkApp2 (mkConst ``Array.toList [0]) (mkConst ``Value) ar)
              let obj := mkApp2 (mkConst ``Mine.listO) ar' dt.getAppArgs[1]!
              if let .ok true := Kernel.isDefEq (← getEnv) (← getLCtx) o obj then
                h? := some (mkAppN (mkConst ``Mine.NoPair.list) #[h0, x, ar', dt.getAppArgs[1]!, e])
      if h?.isNone then
        if let some h ← leProof (mkNatAdd x (mkNatLit 1)) (mkNatLit 687) then
          h? := some (mkApp3 (mkConst ``Mine.NoPair.lowp) h0 x h)
      let some h := h? | return none
      let some r ← allP h0 W.appArg! f | return none
      return some (mkAppN (mkConst ``Mine.allp_cons) #[h0, x, o, W.appArg!, h, r])
    else return some (mkApp (mkConst ``Mine.allp_nil) h0)

def noPair (h0 x : Lean.Expr) : TacticM (Option Lean.Expr) := do
  let xa ← addrNF x
  if let .lit (.natVal k) := xa then
    if k < 687 then return some (mkApp3 (mkConst ``Mine.NoPair.low) h0 x (rflB ``Bool.true))
  if let some (o, e) ← resolve h0 xa 30 then
    if (← kw (mkApp (mkConst ``Mine.noSeq) o)).isConstOf ``Bool.true then
      return some (mkAppN (mkConst ``Mine.NoPair.data) #[h0, x, o, e, rflB ``Bool.true])
    let dt ← kw (mkApp (mkConst ``Obj.data) o)
    if dt.isAppOfArity ``Data.seq 2 then
      let ar := dt.getAppArgs[0]!
      let ar' ← kw (mkApp2 (mkConst ``Array.toList [0]) (mkConst ``Value) ar)
      let obj := mkApp2 (mkConst ``Mine.listO) ar' dt.getAppArgs[1]!
      if let .ok true := Kernel.isDefEq (← getEnv) (← getLCtx) o obj then
        return some (mkAppN (mkConst ``Mine.NoPair.list) #[h0, x, ar', dt.getAppArgs[1]!, e])
  if let some h ← leProof (mkNatAdd x (mkNatLit 1)) (mkNatLit 687) then
    return some (mkApp3 (mkConst ``Mine.NoPair.lowp) h0 x h)
  return none
def allQ (h0 W : Lean.Expr) : Nat → TacticM (Option Lean.Expr)
  | 0 => return none
  | f + 1 => do
    if W.isAppOfArity ``List.cons 3 then
      let x := W.getAppArgs[1]!
      let some h ← noPair h0 x | return none
      let some r ← allQ h0 W.appArg! f | return none
      return some (mkApp5 (mkConst ``Mine.allq_cons) h0 x W.appArg! h r)
    else return some (mkApp (mkConst ``Mine.allq_nil) h0)

def pkGoal (h1 h : Lean.Expr) : Nat → TacticM (Option Lean.Expr)
  | 0 => return none
  | f + 1 => do
    if h1 == h then return some (mkApp (mkConst ``Mine.PK.refl) h)
    for d in ← getLCtx do
      if d.isImplementationDetail then continue
      let t ← instantiateMVars d.type
      if t.isAppOfArity ``Mine.PK 2 && t.appArg! == h && t.appFn!.appArg! != h then
        if let some x ← pkGoal h1 t.appFn!.appArg! f then
          return some (mkAppN (mkConst ``Mine.PK.trans) #[h1, t.appFn!.appArg!, h, x, d.toExpr])
      if t.isAppOfArity ``Mine.HR 6 && t.getAppArgs[2]! == h then
        let y := t.getAppArgs
        if let some x ← pkGoal h1 y[0]! f then
          if let some hw ← allP y[0]! y[3]! 80 then
            return some (mkAppN (mkConst ``Mine.PK.hr) #[h1, y[0]!, h, y[1]!, y[3]!, y[4]!, y[5]!, x, d.toExpr, hw])
    for d in ← getLCtx do
      if d.isImplementationDetail then continue
      let t ← instantiateMVars d.type
      if t.isAppOfArity ``Mine.Kp 3 && t.appArg! == h && t.getAppArgs[0]! != h then
        let y := t.getAppArgs
        if let some x ← pkGoal h1 y[0]! f then
          if let some hw ← allQ y[0]! y[1]! 80 then
            return some (mkAppN (mkConst ``Mine.PK.kp) #[h1, y[0]!, h, y[1]!, x, d.toExpr, hw])
    return none

/-- ∀ i, i < k + 1 → P i -/
def ltSucc? (ty : Lean.Expr) : Option (Lean.Expr × Lean.Expr) := Id.run do
  let .forallE n d (.forallE _ lt b _) _ := ty | return none
  unless d == natTy && lt.isAppOfArity ``LT.lt 4 do return none
  let a := lt.getAppArgs
  unless a[2]! == .bvar 0 do return none
  let y := a[3]!
  unless y.isAppOfArity ``HAdd.hAdd 6 do return none
  let one := y.getAppArgs[5]!
  unless one == mkRawNatLit 1 || one == mkNatLit 1 do return none
  let k := y.getAppArgs[4]!
  if k.hasLooseBVars || b.hasLooseBVar 0 then return none
  return some (.lam n natTy (b.lowerLooseBVars 1 1) .default, k.lowerLooseBVars 1 1)

/-- ∃ and ∧ are opened; looks into the heap are closed from what is known; the rest is left -/
def facts : TacticM Unit := do
  let g ← getMainGoal
  let rest := (← getGoals).tail!
  let mut todo := [g]
  let mut left : List MVarId := []
  for _ in [0:400] do
    match todo with
    | [] => break
    | g :: r =>
      todo := r
      let ty0 ← g.withContext do instantiateMVars (← g.getType)
      let ty ← g.withContext do whnfR ty0
      let g ← if ty == ty0 then pure g else g.replaceTargetDefEq ty
      if ty.isAppOfArity ``Exists 2 then
        let a := ty.getAppArgs
        let g' ← g.withContext do
          let w ← mkFreshExprMVar a[0]!
          let us := ty.getAppFn.constLevels!
          let m ← newMVar (mkApp a[1]! w).headBeta
          g.assign (mkApp4 (mkConst ``Exists.intro us) a[0]! a[1]! w m)
          return m.mvarId!
        todo := g' :: todo
      else if ty.isAppOfArity ``And 2 then
        let a := ty.getAppArgs
        let (x, y) ← g.withContext do
          let x ← newMVar a[0]!
          let y ← newMVar a[1]!
          g.assign (mkApp4 (mkConst ``And.intro) a[0]! a[1]! x y)
          return (x.mvarId!, y.mvarId!)
        todo := x :: y :: todo
      else if (getEqn ty).isSome then
        setGoals [g]
        try fact catch _ => left := left ++ [g]
      else if ty.isAppOfArity ``Mine.TopK 2 then
        match ← g.withContext do topOf ty.appFn!.appArg! ty.appArg! 40 with
        | some p => g.assign p
        | none => left := left ++ [g]
      else if ty.isAppOfArity ``Mine.PK 2 then
        match ← g.withContext do pkGoal ty.appFn!.appArg! ty.appArg! 40 with
        | some p => g.assign p
        | none => left := left ++ [g]
      else if ty.isAppOfArity ``Mine.KI 5 then
        unless ← kiGoal g ty do left := left ++ [g]
      else if ty.isAppOfArity ``Mine.Kp 3 then
        unless ← kpGoal g ty do left := left ++ [g]
      else if let some (lam, k) := ltSucc? ty then
        let (x, y) ← g.withContext do
          let x ← newMVar (.forallE `i natTy (.forallE `hi (mkApp4 (mkConst ``LT.lt [0]) natTy (mkConst ``instLTNat) (.bvar 0) k) ((lam.liftLooseBVars 0 2).beta #[.bvar 1]) .default) .default)
          let y ← newMVar (lam.beta #[k])
          g.assign (mkAppN (mkConst ``Mine.all_lt_succ) #[lam, k, x, y])
          return (x.mvarId!, y.mvarId!)
        todo := x :: y :: todo
      else if ty.isForall && ((getEqn ty.getForallBody).isSome || ((ty.getForallBody.isAppOfArity ``Exists 2 || ty.getForallBody.isAppOfArity ``And 2) && !ty.isArrow)) then
        let (_, g') ← g.intros
        todo := g' :: todo
      else
        match ← g.withContext do (if ty.hasExprMVar then return none else tryTac ty (do evalTactic (← `(tactic| assumption)))) with
        | some p => g.assign p
        | none => left := left ++ [g]
  setGoals (left ++ todo ++ rest)

/-- side conditions: pairs that stand, room on the stack -/
def sideOf (ty : Lean.Expr) : TacticM (Option Lean.Expr) := do
  if ty.isAppOfArity `Mine.PV 3 then
    let a := ty.getAppArgs
    let hh ← heapNF a[0]! 40
    for d in ← getLCtx do
      if d.isImplementationDetail then continue
      let t ← instantiateMVars d.type
      if t.isAppOfArity `Mine.PV 3 then
        let b := t.getAppArgs
        if b[1]! == a[1]! then
          if let some p ← pkGoal b[0]! hh 40 then
            if ← isDefEq a[2]! b[2]! then
              return some (mkAppN (mkConst `Mine.PV.mono) #[b[0]!, hh, b[1]!, b[2]!, d.toExpr, p])
    return none
  if ty.isAppOfArity ``LT.lt 4 then
    let a := ty.getAppArgs
    if a[0]!.isConstOf ``Nat && (a[2]!.find? fun y => y.isConstOf ``PySem.Around.units || y.isConstOf ``PySem.Around.in1).isSome then
      let l := mkApp (mkConst ``Nat.succ) a[2]!
      let b := mkApp2 (mkConst ``Nat.ble) l a[3]!
      if let .ok true := Kernel.isDefEq (← getEnv) (← getLCtx) b (mkConst ``Bool.true) then
        return some (← mkExpectedTypeHint (mkApp3 (mkConst ``Nat.le_of_ble_eq_true) l a[3]! (rflB ``Bool.true)) ty)
  return none

def go (specs : List (String × Name)) (log : Bool := false) : TacticM Unit := do
  let cf ← mkCfg
  run { cf with specs, log, side := some sideOf }
def goFrom (specs : List (String × Name)) (log : Bool := false) : TacticM Unit := do
  let cf ← mkCfg
  runFrom { cf with specs, log, side := some sideOf }

end Drv
end Mine

end
-- Specs
section
open PySem PySem.W PySem.W.X PyProof.Rows
set_option maxRecDepth 100000
set_option Elab.async false
namespace Mine

abbrev tupO (vs : List Value) : Obj := { cls := .type "tuple", dict := none, data := .seq vs.toArray 0, slots := #[] }
abbrev dictO (es : List DictEntry) (e : Nat) : Obj := { cls := .type "dict", dict := none, data := .dict es.toArray e, slots := #[] }

section
variable {prog : Program} {w : World} {A : Around} {R : Result → Shared → Prop} {s : Shared}

theorem code_of_meets {T : String} {name : Str} {id : String} {B : Builtin} {self : Value} {rest : List Value} {S : PySem.Spec} (slot : Slot T name id) (hT : s.TypeIs self T)
    (entry : entryFor table id = some B) (args : argsOk id ⟨self :: rest, []⟩) (g : MeetsIn prog w (B ⟨self :: rest, []⟩) S) (h : S A R s) :
    codeAny (model prog w) A (.call (.builtin id) ⟨self :: rest, []⟩) R s :=
  codeAny_call_builtin slot.plain entry (slot.check _ _ _ _ _ _ _ _ hT args (g A R s h))

theorem typeIs_obj {a : Addr} {c : String} {dct : Option Addr} {dt : Data} {sl : Array (Option Value)} (ho : s.heap.get? a = some { cls := .type c, dict := dct, data := dt, slots := sl }) : s.TypeIs (.ref a) c := ⟨_, ho, rfl⟩

theorem upd_congr {h : Heap} {a : Addr} {o : Obj} {f g : Obj → Obj} (ho : h.get? a = some o) (e : f o = g o) : h.update a f = h.update a g := by
  obtain ⟨objs, l⟩ := h
  have ho' := (Heap.get?_some_iff.mp ho).1
  show Heap.mk (objs.modify a f) l = Heap.mk (objs.modify a g) l
  congr 1
  apply Array.ext
  · simp
  · intro i h1 h2
    rw [Array.getElem_modify, Array.getElem_modify]
    split
    · rename_i hi
      subst hi
      have h3 : a < objs.size := by simpa using h1
      have : objs[a] = o := by
        have z : objs[a]? = some o := ho'
        rw [Array.getElem?_eq_getElem h3] at z
        exact Option.some.inj z
      rw [this, e]
    · rfl

theorem seq_push {vs : List Value} {e : Nat} {v : Value} : (Obj.mapSeq fun x => x.push v) (listO vs e) = listO (vs ++ [v]) (e + 1) := by
  show Obj.mk _ _ (Data.seq (vs.toArray.push v) (if (vs.toArray.push v).size == vs.toArray.size then e else e + 1)) _ = _
  rw [if_neg (by simp)]
  simp

theorem spec_list_append {a : Addr} {vs : List Value} {e : Nat} {v : Value} (ho : s.heap.get? a = some (listO vs e)) (hz : vs.length ≤ 1000000)
    (h : R (.ok (.ret .none)) { s with heap := s.heap.update a (fun _ => listO (vs ++ [v]) (e + 1)) }) : codeAny (model prog w) A (.call (.builtin "list.append") ⟨[.ref a, v], []⟩) R s := by
  have hz2 : vs.toArray.size ≤ sizeLine := by
    have : vs.toArray.size ≤ 1000000 := by simpa using hz
    rw [sizeLine_eq]; omega
  refine code_of_meets F.slot_list_append (typeIs_obj ho) F.entry_list_append (F.args_list_append_2 _ _) ((AutoListH.list_append_list_val_0 a vs.toArray e v hz2).inModel prog w) ⟨ho, ?_⟩
  have e1 : s.heap.update a (Obj.mapSeq fun x => x.push v) = s.heap.update a (fun _ => listO (vs ++ [v]) (e + 1)) := upd_congr ho seq_push
  rw [e1]
  exact h

theorem spec_list_getitem {a : Addr} {vs : List Value} {e : Nat} {k : Int} {t : Tok} (x : Value) (ho : s.heap.get? a = some (listO vs e)) (h0 : 0 ≤ k) (hfit : k < 2 ^ 63) (hx : vs[k.toNat]? = some x)
    (h : R (.ok (.ret x)) s) : codeAny (model prog w) A (.call (.builtin "list.__getitem__") ⟨[.ref a, .int k t], []⟩) R s := by
  refine code_of_meets (S := fun _ R s' => s' = s ∧ R (.ok (.ret x)) s) slot_list_getitem (typeIs_obj ho) entry_list_getitem (args_list_getitem _ _) (.of_wp ?_) ⟨rfl, h⟩
  rintro A R s' ⟨rfl, h⟩
  show wpAny _ _ (Builtin.List.listSubscript? (.int k t) >>= _) _ _ s'
  refine wpAny_bind (wpAny_listSubscript_int (fitsIndex_of h0 hfit) ?_)
  clear hfit
  obtain ⟨j, rfl⟩ := Int.eq_ofNat_of_zero_le h0
  have hx' : vs.toArray[j]? = some x := by simpa using hx
  show wpAny _ _ ((seqItemAt a j >>= fun r => pure (r.map (j, ·))) >>= _) _ _ s'
  refine wpAny_bind (wpAny_bind (wpAny_seqItemAt ho rfl (wpAny_pure ?_)))
  rw [hx']
  first
    | exact wpAny_bind (wpAny_pure (wpAny_pure ⟨x, rfl, h⟩))
    | exact wpAny_pure ⟨x, rfl, h⟩

abbrev lit (l : Addr) (i : Int) : Obj := { cls := .type "list_iterator", dict := none, data := .fields #[.ref l, .int i 0], slots := #[] }

theorem spec_list_next {it l : Addr} {vs : List Value} {e : Nat} {i : Int} (x : Value) (hit : s.heap.get? it = some (lit l i)) (hl : s.heap.get? l = some (listO vs e)) (hx : vs[i.toNat]? = some x)
    (h : R (.ok (.ret x)) { s with heap := s.heap.update it (fun _ => lit l (i + 1)) }) : codeAny (model prog w) A (.call (.builtin "list_iterator.__next__") ⟨[.ref it], []⟩) R s := by
  refine code_of_meets (S := fun _ R s' => s' = s ∧ R (.ok (.ret x)) { s with heap := s.heap.update it (fun _ => lit l (i + 1)) }) slot_listiter_next (typeIs_obj hit) entry_listiter_next (args_listiter_next _) (.of_wp ?_) ⟨rfl, h⟩
  rintro A R s' ⟨rfl, h⟩
  show wpAny _ _ (field (.ref it) 0 >>= _) _ _ s'
  refine wpAny_bind (wpAny_field hit rfl (x := .ref l) rfl ?_)
  show wpAny _ _ (if (Value.ref l == Value.none) = true then _ else _) _ _ s'
  rw [if_neg (show ¬ ((Value.ref l == Value.none) = true) from Bool.false_ne_true)]
  show wpAny _ _ (field (.ref it) 1 >>= _) _ _ s'
  refine wpAny_bind (wpAny_field hit rfl (x := .int i 0) rfl ?_)
  show wpAny _ _ (seqItems? (.ref l) >>= _) _ _ s'
  refine wpAny_bind (wpAny_seqItems hl rfl ?_)
  have hx' : vs.toArray[i.toNat]? = some x := by simpa using hx
  simp only [hx']
  refine wpAny_bind (wpAny_setField hit rfl (by simp) (wpAny_pure ⟨x, rfl, ?_⟩))
  have e1 : ∀ f, f (lit l i) = lit l (i + 1) → s'.heap.update it f = s'.heap.update it (fun _ => lit l (i + 1)) := fun f hf => upd_congr hit hf
  rw [e1 _ rfl]
  exact h
end

def specs0 : List (String × Lean.Name) := [("list.append", ``spec_list_append), ("list.__getitem__", ``spec_list_getitem), ("list_iterator.__next__", ``spec_list_next)]

/-- a loop by a word I over its turns; the head's tree is t -/
theorem means_loop {V : XV} {c : Code} {md : Option (List Frame)} {κ : Kont} {t : Sem Fin} {gl : List GenState} {h₁ : Heap} {t₁ : Nat} (N : Nat) (I : Nat → Heap → Prop) (hI : I 0 h₁)
    (step : ∀ k h t', k ≤ N → I k h → (∀ h' t'', k < N → I (k + 1) h' → Go V h' h'.objs.size t'' c md κ t [] .nil 0 0 gl) → Go V h h.objs.size t' c md κ t [] .nil 0 0 gl) :
    Mn V c md κ t ⟨h₁, ⟨gl⟩, V.d, t₁, V.os⟩ := by
  have key : ∀ j k h t', N - k = j → k ≤ N → I k h → Go V h h.objs.size t' c md κ t [] .nil 0 0 gl := by
    intro j
    induction j with
    | zero => intro k h t' hj hk x; exact step k h t' hk x (fun _ _ hlt => absurd hlt (by omega))
    | succ j ih => intro k h t' hj hk x; exact step k h t' hk x (fun h' t'' hlt x' => ih (k + 1) h' t'' (by omega) (by omega) x')
  exact (key N 0 h₁ t₁ (by omega) (by omega) hI).go h₁ (HR.start h₁)

theorem go_loop {V : XV} {h₀ : Heap} {n t₀ : Nat} {c : Code} {md : Option (List Frame)} {κ : Kont} {t : Sem Fin} {W : List (Addr × Obj)} {T : BT} {m i : Nat} {gl : List GenState}
    (N : Nat) (I : Heap → Nat → Heap → Prop) (hI : ∀ h₁, HR h₀ n h₁ W T m → I h₁ 0 h₁)
    (step : ∀ h₁ (_ : HR h₀ n h₁ W T m) k h t', k ≤ N → I h₁ k h → (∀ h' t'', k < N → I h₁ (k + 1) h' → Go V h' h'.objs.size t'' c md κ t [] .nil 0 0 gl) → Go V h h.objs.size t' c md κ t [] .nil 0 0 gl) :
    Go V h₀ n t₀ c md κ t W T m i gl := ⟨fun h₁ D => means_loop N (I h₁) (hI h₁ D) (step h₁ D)⟩

theorem go_reach {V : XV} {h₀ : Heap} {n t₀ : Nat} {c : Code} {md : Option (List Frame)} {κ : Kont} {t : Sem Fin} {W : List (Addr × Obj)} {T : BT} {m i : Nat} {gl : List GenState} {X : Heap → Prop}
    (IH : ∀ h' t'', X h' → Go V h' h'.objs.size t'' c md κ t [] .nil 0 0 gl) (hx : ∀ h', HR h₀ n h' W T m → X h') : Go V h₀ n t₀ c md κ t W T m i gl :=
  ⟨fun h D => (IH h (t₀ + i) (hx h D)).go h (HR.start h)⟩

end Mine

end
-- Law
section
open PySem PySem.W PySem.W.X PyProof.Rows
set_option maxRecDepth 100000
set_option Elab.async false
set_option maxHeartbeats 0
namespace Mine
abbrev lawProg : Program := PySem.Challenge.pw_ez0189_01
abbrev lawA : Around := callerA.mark none

namespace Drv
open Lean Meta Elab Tactic PySem PySem.W PySem.W.X PySem.W.XRun PySem.W.ZRun
def envNF (e : Lean.Expr) : MetaM Lean.Expr := do
  let e ← kw e
  unless e.isAppOfArity ``Env.mk 9 do throwError "env: {e.getAppFn} {e.getAppNumArgs}"
  let a := e.getAppArgs
  let cells ← nList a[3]! fun p => do
    let p ← kw p
    let x := p.getAppArgs
    return mkApp4 p.getAppFn x[0]! x[1]! (← pstrNF x[2]!) (← addrNF x[3]!)
  let scope ← kw a[0]!
  let sa := scope.getAppArgs
  let names ← nList sa[1]! fun p => do
    let p ← kw p
    let x := p.getAppArgs
    return mkApp4 p.getAppFn x[0]! x[1]! (← pstrNF x[2]!) (← kw x[3]!)
  let scope := mkAppN scope.getAppFn (sa.set! 1 names |>.set! 0 (← kw sa[0]!))
  return mkAppN e.getAppFn #[scope, ← addrNF a[1]!, ← addrNF a[2]!, cells, ← pstrNF a[4]!, ← optNF addrNF a[5]!, ← valNF a[6]!, ← optNF addrNF a[7]!, ← addrNF a[8]!]
/-- writes the law's body and its frame out -/
def layLaw : TacticM Unit := withMainContext do
  let some s := staOf (← instantiateMVars (← (← getMainGoal).getType)) | throwError "no Go"
  let fin ← kw s.t.appArg!
  let c ← kw fin.appArg!
  let body := c.appFn!.appArg!
  let env ← envNF c.appArg!
  logInfo m!"ENV cells {env.getAppArgs[3]!} locals {env.getAppArgs[1]!} {env.getAppArgs[4]!} {env.getAppArgs[5]!} {env.getAppArgs[6]!} {env.getAppArgs[7]!}"
  logInfo m!"names {env.getAppArgs[0]!.getAppArgs[1]!}"
  if body.hasFVar || env.hasFVar then throwError "not closed"
  addDecl (.defnDecl { name := `Mine.lawBody, levelParams := [], type := mkApp (mkConst ``List [0]) (mkConst ``Stmt), value := body, hints := .abbrev, safety := .safe })
  addDecl (.defnDecl { name := `Mine.lawEnv, levelParams := [], type := mkConst ``Env, value := env, hints := .abbrev, safety := .safe })
end Drv
theorem lawLaid (w : World) (h : Heap) (vs : List Value) (d : Drawn) (os : OsState) (t₀ : Nat) (R : Result → Shared → Prop) (hT : TopK ⟨ktop w.params, h⟩ h) (hn : h.objs.size = 643)
  (hscr : h.get? 642 = some {cls := .type "list", data := .seq vs.toArray 0}) : codeAny (model lawProg w) lawA (.call (.ref 641) ⟨[.ref 642], []⟩) R ⟨h, ⟨[]⟩, d, t₀, os⟩ ∨ True := by
  right
  have : (Go ⟨lawProg, w, h, 0, .nil, [], lawA, R, d, 0, os⟩ h 643 t₀ (.call (.ref 641) ⟨[.ref 642], []⟩) none .base (denote table (.call (.ref 641) ⟨[.ref 642], []⟩)) [] .nil 0 0 []) ∨ True := by
    apply Classical.byContradiction
    intro hf
    apply hf
    left
    run_tac do
      let cf ← Drv.mkCfg
      Drv.run { cf with func := true }
    run_tac Drv.showSta
    run_tac Drv.layLaw
    exfalso
    exact hf (.inr trivial)
  trivial
end Mine

end
-- Base
section
open PySem PySem.W PySem.W.X PyProof.Rows
set_option maxRecDepth 100000
set_option Elab.async false
namespace Mine
noncomputable section
noncomputable abbrev lawCode : Code := .func lawBody lawEnv

/-- the rest of the law's body from its k-th statement on goes well -/
def LawAt (w : World) (R : Result → Shared → Prop) (k : Nat) (s : Shared) : Prop :=
  ∀ Γ p, Γ.code = lawCode → Γ.Below lawA → NF Γ.below → Sem.wp (model lawProg w) Γ (execs (lawBody.drop k) lawEnv) (fun f _ s' => R (.ok (.ret (match f with | .ret v => v | _ => .none))) s') (fun _ _ _ => False) p s
def Law (w : World) (R : Result → Shared → Prop) (d : Drawn) (os : OsState) (k : Nat) (gl : List GenState) (h : Heap) (t : Nat) : Prop := LawAt w R k ⟨h, ⟨gl⟩, d, t, os⟩

/-- the V of a statement's run -/
abbrev stV (w : World) (R : Result → Shared → Prop) (d : Drawn) (os : OsState) : XV := ⟨lawProg, w, {}, 0, .nil, [], lawA, R, d, 0, os⟩

/-- what is wanted behind the k-th statement -/
def StEnd (w : World) (R : Result → Shared → Prop) (k : Nat) : Result → Shared → Prop := fun r s' => match r with
  | .ok .next => LawAt w R (k + 1) s'
  | .ok f => R (.ok (.ret (match f with | .ret v => v | _ => .none))) s'
  | .error _ => False

theorem stEnd_next {w : World} {R : Result → Shared → Prop} {k : Nat} {h : Heap} {gl : List GenState} {d : Drawn} {t : Nat} {os : OsState} (x : Law w R d os (k + 1) gl h t) : StEnd w R k (.ok .next) ⟨h, ⟨gl⟩, d, t, os⟩ := x
theorem stEnd_ret {w : World} {R : Result → Shared → Prop} {k : Nat} {v : Value} {s : Shared} (x : R (.ok (.ret v)) s) : StEnd w R k (.ok (.ret v)) s := x

theorem law_step {w : World} {R : Result → Shared → Prop} {d : Drawn} {os : OsState} {k : Nat} {gl : List GenState} {h : Heap} {t : Nat} {n : Nat} (st : Stmt) (hst : lawBody.drop k = st :: lawBody.drop (k + 1)) (hn : h.objs.size = n)
    (x : Go (stV w (StEnd w R k) d os) h n t lawCode none .base ((exec st lawEnv).bind fun f => .pure (.done f)) [] .nil 0 0 gl) : Law w R d os k gl h t := by
  subst hn
  have z := x.go h (HR.start h)
  intro Γ p hc hΓ hN
  rw [hst]
  show Sem.wp _ Γ ((exec st lawEnv).bind fun f => match f with | .next => execs (lawBody.drop (k + 1)) lawEnv | f => pure f) _ _ _ _
  have y := z Γ p hc hΓ hN
  rw [Sem.wp_bind] at y ⊢
  refine Sem.wp_mono _ _ _ (fun f p' s' q => ?_) (fun e p' s' q => ?_) p _ y
  · have q' : StEnd w R k (.ok f) s' := q
    cases f with
    | next => exact q' Γ p' hc hΓ hN
    | brk => exact q'
    | cont => exact q'
    | ret v => exact q'
  · exact q

theorem law_start {w : World} {R : Result → Shared → Prop} {d : Drawn} {os : OsState} {gl : List GenState} {h : Heap} {t : Nat} (x : Law w R d os 0 gl h t) :
    codeN (model lawProg w) lawA lawCode R ⟨h, ⟨gl⟩, d, t, os⟩ := by
  refine n_code ?_
  intro Γ p hc hΓ hN
  have y := x Γ p hc hΓ hN
  show Sem.wp _ Γ (Sem.bind point fun _ => Sem.bind ((execs lawBody lawEnv).onRaise (leaving lawEnv)) fun f => match f with | .ret v => ret v | _ => ret .none) _ _ _ _
  rw [Sem.wp_bind]
  show Sem.wp _ _ (Sem.bind ((execs lawBody lawEnv).onRaise (leaving lawEnv)) fun f => match f with | .ret v => ret v | _ => ret .none) _ _ p _
  rw [Sem.wp_bind, Sem.wp_onRaise]
  refine Sem.wp_mono _ _ _ (fun f p' s' q => ?_) (fun e p' s' q => q.elim) p _ y
  cases f <;> exact q

/-- a loop; the base's size by a name -/
theorem go_loopN {V : XV} {h₀ : Heap} {n t₀ : Nat} {c : Code} {md : Option (List Frame)} {κ : Kont} {t : Sem Fin} {W : List (Addr × Obj)} {T : BT} {m i : Nat} {gl : List GenState}
    (N : Nat) (I : Heap → Nat → Heap → Prop) (hI : ∀ h₁, HR h₀ n h₁ W T m → h₁.objs.size = n + m → I h₁ 0 h₁)
    (step : ∀ h₁ (_ : HR h₀ n h₁ W T m) (_ : h₁.objs.size = n + m) k h t' n', h.objs.size = n' → k ≤ N → I h₁ k h → (∀ h' t'', k < N → I h₁ (k + 1) h' → Go V h' h'.objs.size t'' c md κ t [] .nil 0 0 gl) → Go V h n' t' c md κ t [] .nil 0 0 gl) :
    Go V h₀ n t₀ c md κ t W T m i gl :=
  ⟨fun h₁ D => means_loop N (I h₁) (hI h₁ D D.size) (fun k h t' hk x IH => step h₁ D D.size k h t' _ rfl hk x IH)⟩

/-- an entry of a frame's names -/
noncomputable abbrev en (w : World) (x : Str) (tk : Nat) (v : Value) : DictEntry := ⟨hs w.params x, .str x tk, v⟩
abbrev frameO (es : List DictEntry) (e : Nat) : Obj := { cls := .type "frame", dict := none, data := .dict es.toArray e, slots := #[] }
abbrev cellO (v : Option Value) : Obj := { cls := .type "cell", dict := none, data := .cell v, slots := #[] }
abbrev rngI (k left : Int) : Obj := { cls := .type "range_iterator", dict := none, data := .fields #[.int k 0, .int left 0, .int 1 0], slots := #[] }

/- the names that are met -/
namespace Nm
abbrev script : Str := ⟨#[115, 99, 114, 105, 112, 116]⟩
abbrev numbers : Str := ⟨#[110, 117, 109, 98, 101, 114, 115]⟩
abbrev size : Str := ⟨#[115, 105, 122, 101]⟩
abbrev names : Str := ⟨#[110, 97, 109, 101, 115]⟩
abbrev weights : Str := ⟨#[119, 101, 105, 103, 104, 116, 115]⟩
abbrev weighed : Str := ⟨#[119, 101, 105, 103, 104, 101, 100]⟩
abbrev graph : Str := ⟨#[103, 114, 97, 112, 104]⟩
abbrev name : Str := ⟨#[110, 97, 109, 101]⟩
abbrev weight : Str := ⟨#[119, 101, 105, 103, 104, 116]⟩
abbrev pairs : Str := ⟨#[112, 97, 105, 114, 115]⟩
abbrev joined : Str := ⟨#[106, 111, 105, 110, 101, 100]⟩
abbrev told : Str := ⟨#[116, 111, 108, 100]⟩
abbrev cover : Str := ⟨#[99, 111, 118, 101, 114]⟩
abbrev least : Str := ⟨#[108, 101, 97, 115, 116]⟩
abbrev bits : Str := ⟨#[98, 105, 116, 115]⟩
abbrev k : Str := ⟨#[107]⟩
abbrev one : Str := ⟨#[111, 110, 101]⟩
abbrev other : Str := ⟨#[111, 116, 104, 101, 114]⟩
abbrev pair : Str := ⟨#[112, 97, 105, 114]⟩
abbrev self : Str := ⟨#[115, 101, 108, 102]⟩
abbrev G : Str := ⟨#[71]⟩
abbrev cost : Str := ⟨#[99, 111, 115, 116]⟩
abbrev u : Str := ⟨#[117]⟩
abbrev v : Str := ⟨#[118]⟩
abbrev n : Str := ⟨#[110]⟩
abbrev d : Str := ⟨#[100]⟩
abbrev nbrs : Str := ⟨#[110, 98, 114, 115]⟩
abbrev nbr : Str := ⟨#[110, 98, 114]⟩
abbrev seen : Str := ⟨#[115, 101, 101, 110]⟩
abbrev e : Str := ⟨#[101]⟩
abbrev ne : Str := ⟨#[110, 101]⟩
abbrev dd : Str := ⟨#[100, 100]⟩
abbrev datadict : Str := ⟨#[100, 97, 116, 97, 100, 105, 99, 116]⟩
abbrev ebunch_to_add : Str := ⟨#[101, 98, 117, 110, 99, 104, 95, 116, 111, 95, 97, 100, 100]⟩
abbrev attr : Str := ⟨#[97, 116, 116, 114]⟩
abbrev newdict : Str := ⟨#[110, 101, 119, 100, 105, 99, 116]⟩
abbrev u_of_edge : Str := ⟨#[117, 95, 111, 102, 95, 101, 100, 103, 101]⟩
abbrev heavy : Str := ⟨#[104, 101, 97, 118, 121]⟩
abbrev nbunch : Str := ⟨#[110, 98, 117, 110, 99, 104]⟩
abbrev data : Str := ⟨#[100, 97, 116, 97]⟩
abbrev node_for_adding : Str := ⟨#[110, 111, 100, 101, 95, 102, 111, 114, 95, 97, 100, 100, 105, 110, 103]⟩
abbrev attr_dict : Str := ⟨#[97, 116, 116, 114, 95, 100, 105, 99, 116]⟩
abbrev adj : Str := ⟨#[97, 100, 106]⟩
abbrev nodes : Str := ⟨#[110, 111, 100, 101, 115]⟩
abbrev edges : Str := ⟨#[101, 100, 103, 101, 115]⟩
abbrev inst : Str := ⟨#[105, 110, 115, 116, 97, 110, 99, 101]⟩
abbrev owner : Str := ⟨#[111, 119, 110, 101, 114]⟩
abbrev cache : Str := ⟨#[99, 97, 99, 104, 101]⟩
abbrev val : Str := ⟨#[118, 97, 108]⟩
abbrev func : Str := ⟨#[102, 117, 110, 99]⟩
abbrev attrname : Str := ⟨#[97, 116, 116, 114, 110, 97, 109, 101]⟩
abbrev x_adjdict : Str := ⟨#[95, 97, 100, 106, 100, 105, 99, 116]⟩
abbrev x_node : Str := ⟨#[95, 110, 111, 100, 101]⟩
abbrev x_adj : Str := ⟨#[95, 97, 100, 106]⟩
abbrev dot0 : Str := ⟨#[46, 48]⟩
end Nm

/-- names of the comprehension's own frame: none ahead of the first turn, one behind it -/
def Loc1 (w : World) (x : Str) (k : Nat) (h : Heap) (a : Addr) : Prop :=
  ∃ es ep, h.get? a = some (dictO es ep) ∧ (k = 0 → es = [] ∧ ep = 0) ∧ (0 < k → ep = 1 ∧ ∃ v tk, es = [en w x tk v])

theorem IntsAre.append {us vs : List Value} {ms ns : List Int} (a : IntsAre us ms) (b : IntsAre vs ns) : IntsAre (us ++ vs) (ms ++ ns) := by
  induction a with
  | nil => exact b
  | cons n t _ ih => exact .cons n t ih
theorem IntsAre.snoc {us : List Value} {ms : List Int} (a : IntsAre us ms) (n : Int) (t : Nat) : IntsAre (us ++ [.int n t]) (ms ++ [n]) := IntsAre.append a (.cons n t .nil)
theorem IntsAre.at {us : List Value} {ms : List Int} (a : IntsAre us ms) : ∀ {i : Nat} {n : Int}, ms[i]? = some n → ∃ t, us[i]? = some (.int n t) := by
  induction a with
  | nil => intro i n h; simp at h
  | cons n t _ ih =>
    intro i m h
    cases i with
    | zero => exact ⟨t, by simpa using h⟩
    | succ i => simpa using ih (by simpa using h)
theorem IntsAre.len {us : List Value} {ms : List Int} (a : IntsAre us ms) : us.length = ms.length := by
  induction a with
  | nil => rfl
  | cons n t _ ih => simp [ih]

def numAt (ns : List Int) (k : Nat) : Int := if ns = [] then 0 else ns.getD (k % ns.length) 0
/-- the first k values of a function -/
def tab (k : Nat) (f : Nat → Int) : List Int := (List.range k).map f
theorem tab_len (k : Nat) (f : Nat → Int) : (tab k f).length = k := by simp [tab]
theorem tab_snoc (f : Nat → Int) (k : Nat) : tab (k + 1) f = tab k f ++ [f k] := by unfold tab; rw [List.range_succ, List.map_append]; rfl
theorem tab_at (f : Nat → Int) {k n : Nat} (hk : k < n) : (tab n f)[k]? = some (f k) := by
  unfold tab
  rw [List.getElem?_map, List.getElem?_range hk]; rfl
theorem modQ_nat (a b : Nat) : Z.modQ (a : Int) (b : Int) = ((a % b : Nat) : Int) := by
  rw [← Z.modQ_eq]
  exact Int.fmod_eq_emod_of_nonneg _ (by omega)

theorem modQ_pos (a : Int) (b : Nat) : Z.modQ a (b : Int) = a % (b : Int) := by
  rw [← Z.modQ_eq]
  exact Int.fmod_eq_emod_of_nonneg _ (by omega)

theorem modQ_is (a : Int) (b : Nat) (hb : 0 < b) : Z.modQ a (b : Int) = ((a % (b : Int)).toNat : Int) := by
  rw [modQ_pos]
  have := Int.emod_nonneg a (b := (b : Int)) (by omega)
  omega

structure S0 (w : World) (H0 : Heap) (vs : List Value) (h : Heap) : Prop where
  kt : TopK ⟨ktop w.params, H0⟩ h
  sz : h.objs.size = 652
  scr : h.get? 642 = some (listO vs 0)
  fr : ∃ tk, h.get? 643 = some (frameO [en w Nm.script tk (.ref 642)] 1)
  cells : ∀ a : Nat, 644 ≤ a → a ≤ 651 → h.get? a = some (cellO none)
end
end Mine
namespace Mine.Drv
open Lean Meta Elab Tactic PySem PySem.W PySem.W.X PySem.W.XRun PySem.W.ZRun
/-- the plain ends of a turn -/
def ends : TacticM Unit := do
  evalTactic (← `(tactic| all_goals (first | (exact HR.size (by assumption)) | omega | (exact fun h => absurd h (by omega)) | (exact fun _ => ⟨rfl, _, _, rfl⟩) | skip)))
/-- a turn of a loop, from its head back to its head -/
def goTurn (specs : List (String × Name)) (log : Bool := false) : TacticM Unit := do
  goFrom specs log
  let ih := mkIdent `IH
  evalTactic (← `(tactic| refine go_reach (fun h t hx => $ih h t (by omega) hx) (fun h' D => ?_)))
  evalTactic (← `(tactic| try unfold Loc1))
  facts
  ends
end Mine.Drv
namespace Mine.Drv
open Lean Meta Elab Tactic PySem PySem.W PySem.W.X PySem.W.XRun PySem.W.ZRun
def showHR : TacticM Unit := withMainContext do
  for d in ← getLCtx do
    if d.isImplementationDetail then continue
    let t ← instantiateMVars d.type
    if t.isAppOfArity ``Mine.HR 6 then
      let a := t.getAppArgs
      logInfo m!"HR {a[0]!} n {a[1]!} {a[2]!} m {a[5]!}\n W: {a[3]!}"
      for (j, o) in (btAll a[4]! 0 1 40).toArray.qsort (fun a b => a.1 < b.1) do
        logInfo m!"  {numE (← numNF (addE a[1]! (mkRawNatLit j)) 40)}: {o}"
end Mine.Drv

end
-- Root
section
open PySem PySem.W PySem.W.X PyProof.Rows PySem.Spec PySem.Calls
set_option maxRecDepth 100000
set_option Elab.async false
set_option maxHeartbeats 0
namespace Mine
/-- the one context in which a claim's call runs -/
abbrev callerC : PySem.Ctx := ⟨.builtin "claim.caller" {}, none, none, [], none⟩

theorem ends1 {prog : Program} {w : World} {t : Sem Fin} {s : Shared} {R : Result → Shared → Prop} (hreg : s.asleep)
    (h : Sem.wp (model prog w) callerC t (fun fin _ s' => ∃ f, fin = .done f ∧ (R (.ok f) s' ∧ leftWithCleanup s'.gens = false)) (fun e _ s' => R (.error e) s' ∧ leftWithCleanup s'.gens = false) default s) :
    ∃ n r s' s'', runN (denote table) prog w n s ⟨t, .builtin "claim.caller" {}, default, []⟩ = .halted (outcomeOf r) s' ∧
      schedN (denote table) prog w n (.single s ⟨t, .builtin "claim.caller" {}, default, []⟩) = .halted (outcomeOf r) s' ∧ s'.forget = s''.forget ∧ R r s'' := by
  have h' : Sem.wp (model prog w) callerC t (Sem.finPost (model prog w) callerC fun r s' => R r s' ∧ leftWithCleanup s'.gens = false) (fun e _ s' => R (.error e) s' ∧ leftWithCleanup s'.gens = false) default s := by
    refine Sem.wp_mono _ _ t (fun fin p' s' q => ?_) (fun _ _ _ q => q) default s h
    obtain ⟨f, rfl, hf⟩ := q
    exact hf
  obtain ⟨n, r, s₁, s₂, hs, hn, hfo, hR⟩ := wp_halts_full (M := model prog w) (R := R) hreg h'
  exact ⟨n, r, s₂, s₁, hn, hs, hfo, hR⟩

/-- the call's contract from the one context -/
theorem from1 {c : ClaimW} {tree : List Value → Sem Fin} {w : World} {s : Shared} {free : Addr → Prop} {gens : Prop} {kept : Heap → Prop} (hz : s.asleep) (hgens : s.gens = #[])
    (hspec : ∀ args, c.pre args = true → WData.layableAll args = true → ∀ ord : List DictEntry → List DictEntry, (∀ l, (ord l).Perm l) →
      ∃ vs s₁, layAllW c.records (classAt s.heap) w.params ord args s = some (vs, s₁) ∧
        Sem.wp (model c.prog w) callerC (tree vs) (fun fin _ s' => ∃ f, fin = .done f ∧ (c.Ends s args vs s₁ (.ok f) s' ∧ s'.os = s.os ∧ AllBare s'.gens ∧ kept s'.heap))
          (fun e _ s' => c.Ends s args vs s₁ (.error e) s' ∧ s'.os = s.os ∧ AllBare s'.gens ∧ kept s'.heap) default s₁) :
    c.CallFrom (fun vs => ⟨tree vs, .builtin "claim.caller" {}, default, []⟩) w free gens kept s := by
  intro args hpre hlay ord hord
  obtain ⟨vs, s₁, hlaid, hcode⟩ := hspec args hpre hlay ord hord
  have hal := layAllW_rest _ _ _ hlaid
  obtain ⟨k, r, s', s'', hrun, hsched, hfo, hcase, hos, hkp⟩ := ends1 (prog := c.prog) (w := w) (t := tree vs) (s := s₁)
    (R := fun r s' => c.Ends s args vs s₁ r s' ∧ s'.os = s.os ∧ kept s'.heap) (Shared.asleep_of_life hal.2.2.2 hz)
    (Sem.wp_mono _ _ _ (fun fin _ s' q => let ⟨f, e, h1, h2, h3, h4⟩ := q; ⟨f, e, ⟨h1, h2, h4⟩, leftWithCleanup_false_of_bare h3⟩)
      (fun e _ s' q => let ⟨h1, h2, h3, h4⟩ := q; ⟨⟨h1, h2, h4⟩, leftWithCleanup_false_of_bare h3⟩) _ _ hcode)
  obtain ⟨eh, _, _, eo, _⟩ := Shared.forget_eq hfo
  have hcase' := hcase.congr eh
  have hkp' : kept s'.heap := by rw [eh]; exact hkp
  have hos' : s'.os = s.os := eo.trans hos
  have hlife : s'.heap.life = s.heap.life := (runN_life _ _ _ hrun).trans hal.2.2.2
  refine ⟨vs, s₁, hlaid, k, outcomeOf r, s', hsched, ?_, (fun _ i x hx => by rw [hgens] at hx; simp at hx), hkp', by rw [hlife], Shared.rest_eq hos'⟩
  rcases hcase' with ⟨v, rfl, d1, d2, d3, d4, d5⟩ | ⟨e, ob, cls, rfl, d1, d2, d3, d4, d5⟩
  · exact .inl ⟨v, rfl, d1, d2, d3, fun b o y _ => d4 b o y, d5⟩
  · exact .inr ⟨e, ob, cls, rfl, d1, d2, d3, d4, fun b o y _ => d5 b o y⟩

/-- what is to be shown of the call, in the one context -/
abbrev WalkN (q : Program) (loose : List Str) (XP : (Str → Option Value) → Heap → Prop) {α : Type} (Yf : Shared → α) (Ya : World → α) (r : RowW) (d : DefRec) (kwd : List (Str × Expr)) : Prop :=
  ∀ (w : World) (s₀ s₁ : Shared) (mg mb : Str → Option Value), Ground q loose r.records XP w s₀ mg mb s₁.heap → Yf s₀ = Ya w → ∀ (a : Addr) (o : Obj) (pm cd doc dV kV : Value), s₁.heap.get? a = some o →
    o.data = .func { docDef d.name d.params d.body d.scope pm cd doc with defaults := dV, kwdefaults := kV } → s₁.heap.CodeRec cd d.name → Dflts mg s₁.heap d.params kwd dV kV → mg d.name = some (.ref a) → s₁.gens = #[] →
    ∀ (args : List WData) (vals : List Value) (as : List Addr), Laid r.records w s₀ s₁ args vals as → r.claim.pre args = true → WData.layableAll args = true → ReadsAllW r.records (classAt s₀.heap) s₁.heap vals args as → WellAll w.params s₁.heap vals args → (∀ a ∈ as, (a == sysModules) = false) →
      codeN (model r.prog w) lawA (.call (.ref a) ⟨vals, []⟩) (fun res s' => (∃ v, res = .ok (.ret v)) ∧ GoodWG r.claim (classAt s₀.heap) (ExcName.means s₀.heap) args s₁ res s') s₁

theorem callN {prog : Program} {w : World} {f : Value} {vs : List Value} {R : Result → Shared → Prop} {p : Pos} {s : Shared} (x : codeN (model prog w) lawA (.call f ⟨vs, []⟩) (fun r s' => (∃ v, r = .ok (.ret v)) ∧ R r s') s) :
    Sem.wp (model prog w) callerC (PySem.call f vs) (fun v _ s' => R (.ok (.ret v)) s') (fun e _ s' => R (.error e) s') p s := by
  unfold PySem.call
  rw [Sem.wp_runValue]
  have y := x (callerC.enter (.call f ⟨vs, []⟩) none p) p rfl (caller_in.enter _ none p (by intro h; cases h)) (NF.cons (by rfl) NF.nil)
  refine wpCode_mono (fun r s' q => ?_) y
  obtain ⟨⟨v, rfl⟩, h⟩ := q
  exact h

theorem holdsN {r : OpenRow} {q : Program} {loose : List Str} {Xt : Shared → Bool} {XP : (Str → Option Value) → Heap → Prop} {α : Type} {Yf : Shared → α} {Ya : World → α} {d : DefRec} {kwd : List (Str × Expr)} {N : Nat}
    (left : LeftO r.prog q loose Xt Yf Ya N)
    (hX : ∀ s, Xt s = true → XP (s.heap.nsMap mainGlobals) s.heap) (hXk : ∀ mg h h', XP mg h → (∀ b o, h.get? b = some o → h'.get? b = some o) → XP mg h')
    (hdef : defOf q r.name = some (d, kwd)) (hp : r.prog.theDef r.name = some (d.params, d.body, d.scope)) (hk : kwWritten? d.params.kwonlyargs d.params.kw_defaults = some kwd) (hRf : ∀ s, Xt s = true → RecFacts r.records s.heap) (hwr : (!r.writes || r.records.isEmpty) = true)
    (k1 : r.wellSaid = true) (ok : (chainsOk q && opensWell r.prog && (frees r.toRowW && r.within.isEmpty)) = true) (hb : r.prog.bare) (hw : r.toRowW.promised)
    (walk : WalkN q loose XP Yf Ya r.toRowW d kwd) : r.Holds := by
  obtain ⟨ok1, ok2⟩ := Bool.and_eq_true_iff.mp ok
  obtain ⟨hch, hopen⟩ := Bool.and_eq_true_iff.mp ok1
  obtain ⟨hfr, hwithin⟩ := Bool.and_eq_true_iff.mp ok2
  obtain ⟨hsame, hu, ha, hap, hm⟩ := frees_parts hfr
  have hwi : r.claim.within = [] := List.isEmpty_iff.mp hwithin
  have B := left.behind (XP := fun mg h => XP mg h ∧ RecFacts r.records h) (fun s hs => ⟨hX s hs, hRf s hs⟩) hch
  refine ⟨k1, hw, ⟨hb, hopen, by show r.makers.map _ = []; rw [hm]; rfl⟩, hw.witness, fun w => ⟨(B w).1, fun s' hs' => ?_⟩⟩
  obtain ⟨s₀, hf, hg0, s, hT, hz, hgs, hg, G, y⟩ := (B w).2 s' hs'
  obtain ⟨X, RF⟩ := G.X
  have G0 : Ground q loose [] XP w s (s.heap.nsMap mainGlobals) (s.heap.nsMap builtinsNs) s.heap := ⟨G.T, G.B, G.D, G.TE, G.TD, G.W, X, G.cls, G.has, G.apart, G.once, G.K⟩
  have GR : Ground q loose r.records XP w s _ _ s.heap := RF.ground G0
  refine ⟨s₀, hf, hg0, s, hT, fun n hn => ?_, RF.1, RF.2.1, ?_⟩
  · obtain rfl : n = r.name := by split at hn <;> simp_all
    exact pinned_of_view hg G0 hdef hp hk
  have hgens : s.gens = #[] := Array.eq_empty_of_size_eq_zero (beq_iff_eq.mp hgs)
  refine from1 (c := r.claim) hz hgens fun args hpre hlay ord hord => ?_
  obtain ⟨⟨vs, s₁⟩, hlaid⟩ := Option.isSome_iff_exists.mp (layAllW_isSome (P := w.params) (ord := ord) GR.has args r.args s (pre_splitW hpre).1)
  have keeps := layAllW_keeps _ _ _ hlaid
  have hal := layAllW_rest _ _ _ hlaid
  obtain ⟨as, hrd, hin, hold⟩ := reads_layAllW hord _ _ _ hlaid hlay s₁.heap (fun _ _ e => e)
  have L : Laid r.records w s s₁ args vs as := ⟨⟨ord, hord, hlaid⟩, hrd, hin, hold, keeps, hal.1.trans hgens, hal.2.2.1⟩
  have G1 := GR.keeps hXk keeps
  obtain ⟨a, o, pm, cd, doc, dV, kV, h1, h2, h3, h4, h5⟩ := G1.fn hdef
  have hn : d.name = r.name := defOf_name hdef
  have run := callN (p := default) (walk w s s₁ _ _ G1 y a o pm cd doc dV kV h2 h3 h4 h5 (hn ▸ h1) L.gens args vs as L hpre hlay L.reads L.well (L.low G.low))
  refine ⟨vs, s₁, hlaid, ?_⟩
  have fin : ∀ res s'', GoodWG r.claim (classAt s.heap) (ExcName.means s.heap) args s₁ res s'' → r.claim.Ends s args vs s₁ res s'' ∧ s''.os = s.os ∧ AllBare s''.gens ∧ (r.writes = true → namesKept r.prog r.keeps s.heap s''.heap ∧ ∀ x ∈ r.records, ∀ a, classAt s.heap x.1 = some a → recordClass s''.heap a x.1 (x.2.map (·.1)) = true) := by
    intro res s'' g
    have z := g.laid (c := r.claim) hsame hwi (ident_freeW hu ha hap) L
    exact ⟨z.1, z.2.1, z.2.2, fun q => ⟨namesKept_of hT hg r.keeps keeps g.2.1.old, noTable hwr q⟩⟩
  have ns : wpAny (model r.prog w) callerA (nsGet mainNs r.name) (fun v s'' => v = some (.ref a) ∧ s'' = s₁) (fun _ _ => False) s₁ := wpAny_nsGet G1.T.g ⟨h1, rfl⟩
  show Sem.wp _ callerC (Sem.bind (nsGet mainNs r.name) _) _ _ _ _
  rw [Sem.wp_bind]
  refine Sem.wp_mono _ _ _ (fun v p' s'' q => ?_) (fun _ _ _ q => q.elim) _ _ (ns callerC default caller_in)
  obtain ⟨rfl, rfl⟩ := q
  show Sem.wp _ callerC (Sem.bind (PySem.call (.ref a) vs) fun v => ret v) _ _ _ _
  rw [Sem.wp_bind]
  have run := callN (p := p') (walk w s s'' _ _ G1 y a o pm cd doc dV kV h2 h3 h4 h5 (hn ▸ h1) L.gens args vs as L hpre hlay L.reads L.well (L.low G.low))
  exact Sem.wp_mono _ _ _ (fun v p' s' g => ⟨_, rfl, fin _ _ g⟩) (fun e p' s' g => fin _ _ g) _ _ run
end Mine

end
-- Head
section
open PySem PySem.W PySem.W.X PyProof.Rows PySem.Spec PySem.Calls
set_option maxRecDepth 100000
set_option Elab.async false
set_option maxHeartbeats 0
namespace Mine.Drv
open Lean Meta Elab Tactic
/-- the library's head, with the call asked for in the one context alone -/
def headN : TacticM Unit := withMainContext do
  let g ← getMainGoal
  let m ← mkFreshExprSyntheticOpaqueMVar (← g.getType)
  -- the trees of the top's states get no twins: a twin's equation is quadratic in the tree's objects
  for i in [0:20000] do
    for x in ["tree", "heap"] do
      PySem.W.Fast.primed.modify (·.insert ((`Mine.headed).str s!"{x}_{i}") none)
  let gs ← Tactic.run m.mvarId! (do evalTactic (← `(tactic| z_head)))
  let pf ← instantiateMVars m
  unless pf.isAppOf ``PySem.W.holds_openX do throwError "head: {pf.getAppFn}"
  let a := pf.getAppArgs
  let f := mkAppN (mkConst ``Mine.holdsN) (a.extract 0 (a.size - 1))
  let fT ← whnf (← inferType f)
  let w ← mkFreshExprSyntheticOpaqueMVar fT.bindingDomain! `hc
  g.assign (mkApp f w)
  let mut out := []
  for x in gs do
    if (← x.getTag).eraseMacroScopes == `hc then continue
    out := out ++ [x]
  setGoals (out ++ [w.mvarId!])
end Mine.Drv
namespace Mine
/-- what is to be shown of the call of the law -/
abbrev LawCall : Prop := ∀ (w : World) (c : ClaimW) (cl : Str → Option Addr) (mean : ExcName → Option Value) (args : List WData) (vs : List Value) (ns : List Int) (s₁ : Shared), KT.Holds s₁.heap 1 0 (ktop w.params) → s₁.heap.objs.size = 642 + 1 → s₁.gens = #[] →
    s₁.heap.get? 642 = some {cls := .type "list", data := .seq vs.toArray} → IntsAre vs ns → vs.length ≤ 63 → (∀ cls, c.raises args cls = false) → c.post args (.bool true) args = true →
    codeN (model lawProg w) lawA (.call (.ref 641) ⟨[.ref 642], []⟩) (fun res s' => (∃ v, res = .ok (.ret v)) ∧ GoodWG c cl mean args s₁ res s') s₁
/-- the row holds if the call does what it shall -/
theorem headed (H : LawCall) : PySem.Challenge.rw_ez0189_01.Holds := by
  w_on
  o_law
  run_tac Mine.Drv.headN
  case hw => w_witness2
  k_fill
  intro w s₀ s₁ mg mb G y fa o pm cd doc dV kV ho hd hcd hD hmg hg args vals as L hpre hlay hrd hwl hlo
  z_open y L KX ZH ZN ZT
  refine Ground.open G ?_
  intro T B D TE TW
  wrow_args hpre hlay hrd hwl hlo
  obtain ⟨hat, hsz⟩ := script_at L
  have htk := script_toks L ZT
  rw [ZN] at hat hsz
  subst hat
  x_fa T KX hmg
  all_lens
  z_lists L
  refine H _ _ _ _ _ _ _ _ ZH hsz hg (by assumption) (by assumption) (by omega) (raisesW_false ?_) ?_
  · wrow_none_raised
  · wrow_post
end Mine

end
-- Dict
section
open PySem PySem.W PySem.W.X PyProof.Rows
set_option maxRecDepth 100000
set_option Elab.async false
namespace Mine

/-- a dict's entries: int keys, their values -/
inductive DE : List DictEntry → List (Int × Value) → Prop
  | nil : DE [] []
  | cons (k : Int) (t : Nat) (v : Value) {es : List DictEntry} {kvs : List (Int × Value)} : DE es kvs → DE (⟨hashInt k, .int k t, v⟩ :: es) ((k, v) :: kvs)
theorem DE.snoc {es : List DictEntry} {kvs : List (Int × Value)} (h : DE es kvs) (k : Int) (t : Nat) (v : Value) : DE (es ++ [⟨hashInt k, .int k t, v⟩]) (kvs ++ [(k, v)]) := by
  induction h with
  | nil => exact .cons k t v .nil
  | cons k' t' v' _ ih => exact .cons k' t' v' ih
theorem DE.len {es : List DictEntry} {kvs : List (Int × Value)} (h : DE es kvs) : es.length = kvs.length := by
  induction h with
  | nil => rfl
  | cons _ _ _ _ ih => simp [ih]
theorem isInt_self (k : Int) (t : Nat) : Value.isInt k (.int k t) = true := by simp [Value.isInt]
theorem DE.keys {prog : Program} {w : World} {es : List DictEntry} {kvs : List (Int × Value)} (h : DE es kvs) : KeysOf (intKind prog w) es.toArray := by
  intro e he
  have he' : e ∈ es := by simpa using he
  clear he
  induction h with
  | nil => cases he'
  | cons k t v _ ih =>
    rcases List.mem_cons.mp he' with rfl | h1
    · exact ⟨k, isInt_self k t, rfl⟩
    · exact ih h1
theorem DE.pairs {prog : Program} {w : World} {es : List DictEntry} {kvs : List (Int × Value)} (h : DE es kvs) : Pairs (intKind prog w) es kvs := by
  induction h with
  | nil => exact .nil
  | cons k t v _ ih => exact .cons (isInt_self k t) rfl ih
theorem DE.ofModify {es : List DictEntry} {kvs : List (Int × Value)} (h : DE es kvs) (hn : (kvs.map (·.1)).Nodup) {k : Int} {i : Nat} (hi : (es.findIdx? fun e => Value.isInt k e.key) = some i) (v : Value) :
    DE (es.modify i fun e => { e with val := v }) (kvs.map fun kv => if kv.1 = k then (kv.1, v) else kv) := by
  induction h generalizing i with
  | nil => simp at hi
  | @cons k' t' v' es kvs h ih =>
    rw [List.map_cons, List.nodup_cons] at hn
    by_cases hk : k' = k
    · subst hk
      rw [List.findIdx?_cons, if_pos (isInt_self _ _)] at hi
      cases hi
      rw [List.map_cons, if_pos rfl, map_store_of_not_mem kvs _ v hn.1]
      exact DE.cons k' t' v h
    · have hne : Value.isInt k (.int k' t') = false := by simp [Value.isInt]; exact hk
      rw [List.findIdx?_cons, hne] at hi
      simp only [Bool.false_eq_true, if_false, Option.map_eq_some_iff] at hi
      obtain ⟨j, hj, rfl⟩ := hi
      rw [List.map_cons, if_neg hk]
      exact DE.cons k' t' v' (ih hn.2 hj)

section
variable {prog : Program} {w : World} {A : Around} {R : Result → Shared → Prop} {s : Shared}

theorem mapOf_DE {h : Heap} {d : Addr} {es : List DictEntry} {ep : Nat} {kvs : List (Int × Value)} (ho : h.get? d = some (dictO es ep)) (hd : DE es kvs) : h.MapOf (intKind prog w) d (valueAt kvs) := by
  refine ⟨_, es.toArray, ep, ho, ⟨rfl, rfl, rfl⟩, rfl, hd.keys, fun k => ?_⟩
  rw [← (hd.pairs (prog := prog) (w := w)).find k]
  simp [findBy]

theorem sys_ne {d : Addr} (h : d ≠ 1) : (d == sysModules) = false := by
  have : d ≠ sysModules := h
  simpa using this

theorem spec_dict_contains_no {d : Addr} {es : List DictEntry} {ep : Nat} {kvs : List (Int × Value)} {k : Int} {t : Tok} (ho : s.heap.get? d = some (dictO es ep)) (hs : d ≠ 1) (hd : DE es kvs) (hv : valueAt kvs k = none)
    (h : R (.ok (.ret (.bool false))) { s with toks := s.toks + 1 }) : codeAny (model prog w) A (.call (.builtin "dict.__contains__") ⟨[.ref d, .int k t], []⟩) R s := by
  refine code_of_meets slot_dict_contains (typeIs_obj ho) entry_dict_contains (args_dict_contains _ _) (meets_dict_contains (intKind prog w) d (isInt_self k t) (sys_ne hs)) ⟨_, mapOf_DE ho hd, ?_⟩
  rw [hv]; exact h
theorem spec_dict_contains_yes {d : Addr} {es : List DictEntry} {ep : Nat} {kvs : List (Int × Value)} {k : Int} {t : Tok} (ho : s.heap.get? d = some (dictO es ep)) (hs : d ≠ 1) (hd : DE es kvs) (hv : (valueAt kvs k).isSome = true)
    (h : R (.ok (.ret (.bool true))) { s with toks := s.toks + 1 }) : codeAny (model prog w) A (.call (.builtin "dict.__contains__") ⟨[.ref d, .int k t], []⟩) R s := by
  refine code_of_meets slot_dict_contains (typeIs_obj ho) entry_dict_contains (args_dict_contains _ _) (meets_dict_contains (intKind prog w) d (isInt_self k t) (sys_ne hs)) ⟨_, mapOf_DE ho hd, ?_⟩
  rw [hv]; exact h
theorem spec_dict_getitem {d : Addr} {es : List DictEntry} {ep : Nat} {kvs : List (Int × Value)} {k : Int} {t : Tok} {v : Value} (ho : s.heap.get? d = some (dictO es ep)) (hd : DE es kvs) (hv : valueAt kvs k = some v)
    (h : R (.ok (.ret v)) { s with toks := s.toks + 1 }) : codeAny (model prog w) A (.call (.builtin "dict.__getitem__") ⟨[.ref d, .int k t], []⟩) R s :=
  code_of_meets slot_dict_getitem (typeIs_obj ho) entry_dict_getitem (args_dict_getitem _ _) (meets_dict_getitem (intKind prog w) d (isInt_self k t)) ⟨_, _, mapOf_DE ho hd, hv, h⟩
theorem spec_dict_get_no {d : Addr} {es : List DictEntry} {ep : Nat} {kvs : List (Int × Value)} {k : Int} {t : Tok} {dflt : Value} (ho : s.heap.get? d = some (dictO es ep)) (hs : d ≠ 1) (hd : DE es kvs) (hv : valueAt kvs k = none)
    (h : R (.ok (.ret dflt)) { s with toks := s.toks + 1 }) : codeAny (model prog w) A (.call (.builtin "dict.get") ⟨[.ref d, .int k t, dflt], []⟩) R s := by
  refine code_of_meets F.slot_dict_get (typeIs_obj ho) F.entry_dict_get (F.args_dict_get_3 _ _ _) (meets_dict_get_default (intKind prog w) (k := k) (key := .int k t) d (isInt_self k t) (sys_ne hs) dflt) ⟨_, mapOf_DE ho hd, ?_⟩
  rw [hv]; exact h

theorem valueAt_none {kvs : List (Int × Value)} {k : Int} (h : valueAt kvs k = none) : (kvs.findIdx? fun kv => decide (kv.1 = k)) = none := by
  rw [List.findIdx?_eq_none_iff]
  intro x hx
  unfold valueAt at h
  rw [Option.map_eq_none_iff, List.find?_eq_none] at h
  simpa using h x hx

/-- a new key -/
theorem wpAny_dictSet_new {E : Value → Shared → Prop} {d : Addr} {es : List DictEntry} {ep : Nat} {kvs : List (Int × Value)} {k : Int} {t : Tok} {v : Value} {Q : Unit → Shared → Prop} (ho : s.heap.get? d = some (dictO es ep)) (hd : DE es kvs)
    (hv : valueAt kvs k = none) (hz : es.length ≤ 1000000) (hQ : Q () { s with heap := s.heap.update d (fun _ => dictO (es ++ [⟨hashInt k, .int k t, v⟩]) (ep + 1)), toks := s.toks + 1 }) :
    wpAny (model prog w) A (dictSet d (.int k t) v) Q E s := by
  have hz2 : es.toArray.size ≤ sizeLine := by
    have : es.toArray.size ≤ 1000000 := by simpa using hz
    rw [sizeLine_eq]; omega
  unfold dictSet
  try with_reducible refine wpAny_holding ?_
  refine wpAny_bind ((intKind prog w).pyHash (isInt_self k t) ?_)
  unfold dictSetHashed
  try with_reducible refine wpAny_holding ?_
  refine wpAny_bind (wpAny_dictFind_of (knd := intKind prog w) (s := { s with toks := s.toks + 1 }) (isInt_self k t) ho rfl hd.keys ?_)
  have hi : (es.toArray.findIdx? fun e => (intKind prog w).is k e.key) = none := by
    have := (hd.pairs (prog := prog) (w := w)).findIdx k
    rw [valueAt_none hv] at this
    simpa using this
  rw [hi]
  refine wpAny_bind (wpAny_rule (wpAny_updateDictKeys (hz := hz2) (s := { s with toks := s.toks + 1 }) ho rfl ?_))
  have e1 : ∀ f, f (dictO es ep) = dictO (es ++ [⟨hashInt k, .int k t, v⟩]) (ep + 1) → s.heap.update d f = s.heap.update d (fun _ => dictO (es ++ [⟨hashInt k, .int k t, v⟩]) (ep + 1)) := fun f hf => upd_congr ho hf
  show Q () { s with heap := s.heap.update d (Obj.mapDictKeys _), toks := s.toks + 1 }
  rw [e1 _ (by
    show Obj.mk _ _ (Data.dict (es.toArray.push _) (ep + 1)) _ = _
    simp; rfl)]
  exact hQ

theorem spec_dict_set_new {d : Addr} {es : List DictEntry} {ep : Nat} {kvs : List (Int × Value)} {k : Int} {t : Tok} {v : Value} (ho : s.heap.get? d = some (dictO es ep)) (hd : DE es kvs) (hv : valueAt kvs k = none) (hz : es.length ≤ 1000000)
    (h : R (.ok (.ret .none)) { s with heap := s.heap.update d (fun _ => dictO (es ++ [⟨hashInt k, .int k t, v⟩]) (ep + 1)), toks := s.toks + 1 }) :
    codeAny (model prog w) A (.call (.builtin "dict.__setitem__") ⟨[.ref d, .int k t, v], []⟩) R s := by
  refine code_of_meets (S := fun _ R' s' => s' = s ∧ R' (.ok (.ret .none)) { s with heap := s.heap.update d (fun _ => dictO (es ++ [⟨hashInt k, .int k t, v⟩]) (ep + 1)), toks := s.toks + 1 }) slot_dict_setitem (typeIs_obj ho) entry_dict_setitem (args_dict_setitem _ _ _) (.of_wp ?_) ⟨rfl, h⟩
  rintro A R' s' ⟨rfl, h⟩
  show wpAny _ _ (Builtin.Dict.notOrdered "__setitem__" ⟨[.ref d, .int k t, v], []⟩ >>= _) _ _ s'
  refine wpAny_bind (wpAny_notOrdered_dict (typeIs_obj ho) ?_)
  show wpAny _ _ (dictSet d (.int k t) v >>= _) _ _ s'
  exact wpAny_bind (wpAny_dictSet_new ho hd hv hz (wpAny_pure ⟨.none, rfl, h⟩))

/-- a key that is there -/
theorem wpAny_dictSet_old {E : Value → Shared → Prop} {d : Addr} {es : List DictEntry} {ep : Nat} {kvs : List (Int × Value)} {k : Int} {t : Tok} {v : Value} {Q : Unit → Shared → Prop} (ho : s.heap.get? d = some (dictO es ep)) (hd : DE es kvs)
    (hn : (kvs.map (·.1)).Nodup) (hv : (valueAt kvs k).isSome = true)
    (hQ : ∀ es', DE es' (kvs.map fun kv => if kv.1 = k then (kv.1, v) else kv) → Q () { s with heap := s.heap.update d (fun _ => dictO es' ep), toks := s.toks + 1 }) :
    wpAny (model prog w) A (dictSet d (.int k t) v) Q E s := by
  unfold dictSet
  try with_reducible refine wpAny_holding ?_
  refine wpAny_bind ((intKind prog w).pyHash (isInt_self k t) ?_)
  unfold dictSetHashed
  try with_reducible refine wpAny_holding ?_
  refine wpAny_bind (wpAny_dictFind_of (knd := intKind prog w) (s := { s with toks := s.toks + 1 }) (isInt_self k t) ho rfl hd.keys ?_)
  have hi : (es.toArray.findIdx? fun e => (intKind prog w).is k e.key) = kvs.findIdx? fun kv => decide (kv.1 = k) := by
    have := (hd.pairs (prog := prog) (w := w)).findIdx k
    simpa using this
  have hex : ∃ i, (kvs.findIdx? fun kv => decide (kv.1 = k)) = some i := by
    cases hf : kvs.findIdx? fun kv => decide (kv.1 = k) with
    | some i => exact ⟨i, rfl⟩
    | none =>
      exfalso
      rw [List.findIdx?_eq_none_iff] at hf
      unfold valueAt at hv
      rw [Option.isSome_map] at hv
      obtain ⟨x, hx⟩ := Option.isSome_iff_exists.mp hv
      have h1 := List.mem_of_find?_eq_some hx
      have h2 := List.find?_some hx
      have := hf x h1
      rw [this] at h2
      cases h2
  obtain ⟨i, hi2⟩ := hex
  rw [hi, hi2]
  have hi3 : (es.findIdx? fun e => Value.isInt k e.key) = some i := by
    have := (hd.pairs (prog := prog) (w := w)).findIdx k
    exact this.trans hi2
  refine wpAny_bind (wpAny_rule (wpAny_bind (wpAny_updateDict (s := { s with toks := s.toks + 1 }) ho rfl (wpAny_point ?_))))
  have e1 : ∀ f, f (dictO es ep) = dictO (es.modify i fun e => { e with val := v }) ep → s.heap.update d f = s.heap.update d (fun _ => dictO (es.modify i fun e => { e with val := v }) ep) := fun f hf => upd_congr ho hf
  show Q () { s with heap := s.heap.update d (Obj.mapDict _), toks := s.toks + 1 }
  rw [e1 _ (by
    show Obj.mk _ _ (Data.dict (es.toArray.modify i _) ep) _ = _
    simp)]
  exact hQ _ (hd.ofModify hn hi3 v)

theorem spec_dict_set_old {d : Addr} {es : List DictEntry} {ep : Nat} {kvs : List (Int × Value)} {k : Int} {t : Tok} {v : Value} (ho : s.heap.get? d = some (dictO es ep)) (hd : DE es kvs) (hn : (kvs.map (·.1)).Nodup) (hv : (valueAt kvs k).isSome = true)
    (h : ∀ es', DE es' (kvs.map fun kv => if kv.1 = k then (kv.1, v) else kv) → R (.ok (.ret .none)) { s with heap := s.heap.update d (fun _ => dictO es' ep), toks := s.toks + 1 }) :
    codeAny (model prog w) A (.call (.builtin "dict.__setitem__") ⟨[.ref d, .int k t, v], []⟩) R s := by
  refine code_of_meets (S := fun _ R' s' => s' = s ∧ ∀ es', DE es' (kvs.map fun kv => if kv.1 = k then (kv.1, v) else kv) → R' (.ok (.ret .none)) { s with heap := s.heap.update d (fun _ => dictO es' ep), toks := s.toks + 1 }) slot_dict_setitem (typeIs_obj ho) entry_dict_setitem (args_dict_setitem _ _ _) (.of_wp ?_) ⟨rfl, h⟩
  rintro A R' s' ⟨rfl, h⟩
  show wpAny _ _ (Builtin.Dict.notOrdered "__setitem__" ⟨[.ref d, .int k t, v], []⟩ >>= _) _ _ s'
  refine wpAny_bind (wpAny_notOrdered_dict (typeIs_obj ho) ?_)
  show wpAny _ _ (dictSet d (.int k t) v >>= _) _ _ s'
  exact wpAny_bind (wpAny_dictSet_old ho hd hn hv (fun es' he => wpAny_pure ⟨.none, rfl, h es' he⟩))
end

/-- a table of keys by their numbers -/
def kv (n : Nat) (nm : Nat → Int) (f : Nat → Value) : List (Int × Value) := (List.range n).map fun i => (nm i, f i)
theorem kv_snoc (n : Nat) (nm : Nat → Int) (f : Nat → Value) : kv (n + 1) nm f = kv n nm f ++ [(nm n, f n)] := by unfold kv; rw [List.range_succ, List.map_append]; rfl
theorem kv_keys (n : Nat) (nm : Nat → Int) (f : Nat → Value) : (kv n nm f).map (·.1) = (List.range n).map nm := by unfold kv; rw [List.map_map]; rfl
theorem kv_at {n : Nat} {nm : Nat → Int} (f : Nat → Value) {b : Nat} (hb : n ≤ b) (inj : ∀ i j, i < b → j < b → nm i = nm j → i = j) {j : Nat} (hj : j < n) : valueAt (kv n nm f) (nm j) = some (f j) := by
  induction n with
  | zero => omega
  | succ n ih =>
    rw [kv_snoc]
    unfold valueAt
    rw [List.find?_append]
    by_cases hjn : j < n
    · have := ih (by omega) hjn
      unfold valueAt at this
      obtain ⟨x, hx, hx2⟩ := Option.map_eq_some_iff.mp this
      rw [hx]
      simpa using hx2
    · obtain rfl : j = n := by omega
      have hnone : ((kv j nm f).find? fun kv => kv.1 = nm j) = none := by
        rw [List.find?_eq_none]
        intro x hx
        unfold kv at hx
        obtain ⟨i, hi, rfl⟩ := List.mem_map.mp hx
        have hi' : i < j := List.mem_range.mp hi
        simp only [decide_eq_true_eq]
        intro e
        have := inj i j (by omega) (by omega) e
        omega
      rw [hnone]
      simp
theorem kv_none {n : Nat} {nm : Nat → Int} (f : Nat → Value) {b : Nat} (inj : ∀ i j, i < b → j < b → nm i = nm j → i = j) {j : Nat} (hj : n ≤ j) (hb : j < b) : valueAt (kv n nm f) (nm j) = none := by
  unfold valueAt
  rw [Option.map_eq_none_iff, List.find?_eq_none]
  intro x hx
  unfold kv at hx
  obtain ⟨i, hi, rfl⟩ := List.mem_map.mp hx
  have hi' : i < n := List.mem_range.mp hi
  simp only [decide_eq_true_eq]
  intro e
  have := inj i j (by omega) hb e
  omega
theorem kv_nodup {n : Nat} {nm : Nat → Int} (f : Nat → Value) {b : Nat} (hb : n ≤ b) (inj : ∀ i j, i < b → j < b → nm i = nm j → i = j) : ((kv n nm f).map (·.1)).Nodup := by
  rw [kv_keys]
  rw [List.nodup_iff_pairwise_ne, List.pairwise_map]
  refine List.Pairwise.imp_of_mem ?_ (List.pairwise_lt_range (n := n))
  intro a c ha hc hlt e
  have := inj a c (by have := List.mem_range.mp ha; omega) (by have := List.mem_range.mp hc; omega) e
  omega
theorem kv_store {n : Nat} {nm : Nat → Int} (f : Nat → Value) {b : Nat} (hb : n ≤ b) (inj : ∀ i j, i < b → j < b → nm i = nm j → i = j) {j : Nat} (hj : j < n) (v : Value) :
    (kv n nm f).map (fun p => if p.1 = nm j then (p.1, v) else p) = kv n nm (fun i => if i = j then v else f i) := by
  unfold kv
  rw [List.map_map]
  apply List.map_congr_left
  intro i hi
  have hi' : i < n := List.mem_range.mp hi
  show (if nm i = nm j then (nm i, v) else (nm i, f i)) = (nm i, if i = j then v else f i)
  by_cases e : i = j
  · subst e; simp
  · have : nm i ≠ nm j := fun q => e (inj i j (by omega) (by omega) q)
    rw [if_neg this, if_neg e]

def specsD : List (String × Lean.Name) := specs0 ++ [("dict.__contains__", ``spec_dict_contains_no), ("dict.__contains__", ``spec_dict_contains_yes), ("dict.__getitem__", ``spec_dict_getitem), ("dict.get", ``spec_dict_get_no),
  ("dict.__setitem__", ``spec_dict_set_new), ("dict.__setitem__", ``spec_dict_set_old)]
end Mine

end
-- Spec2
section
open PySem PySem.W PySem.W.X PyProof.Rows
set_option maxRecDepth 100000
set_option Elab.async false
namespace Mine
section
variable {prog : Program} {w : World} {A : Around} {R : Result → Shared → Prop} {s : Shared}
theorem code_of_new {id : String} {B : Builtin} {args : Args} {S : PySem.Spec} (hp : plainId id = true) (hc : checkBuiltinCall id args = pure ()) (entry : entryFor table id = some B)
    (g : Meets (B args) S) (h : S A R s) : codeAny (model prog w) A (.call (.builtin id) args) R s :=
  codeAny_call_builtin hp entry (by rw [hc]; exact wpAny_pure (g prog w A R s h))
theorem spec_enumerate_new {l : Addr} {vs : List Value} {e q : Nat} (ho : s.heap.get? l = some (listO vs e)) (hq : s.heap.objs.size = q)
    (h : R (.ok (.ret (.ref (q + 1)))) { s with heap := (s.heap.push { cls := .type "list_iterator", data := .fields #[.ref l, .int 0 0] }).push { cls := .type "enumerate", data := .fields #[.none, .bool false, .ref q, .int 0 0, .none, .none] } }) :
    codeAny (model prog w) A (.call (.builtin "enumerate.__new__") ⟨[.type "enumerate", .ref l], []⟩) R s := by
  refine code_of_new (by decide +kernel) (F.newCall_enumerate_1 _) F.entry_enumerate_new (meets_enumerate_newL l vs.toArray e none #[]) ⟨ho, ?_⟩
  have hz : (s.heap.push { cls := .type "list_iterator", data := .fields #[.ref l, .int 0 0] }).objs.size = q + 1 := by rw [← hq]; exact Heap.size_push ..
  rw [hz, hq]
  exact h

/-- powers of two; whole parts by them -/
def pw (k : Nat) : Int := 2 ^ k
def fdp (a : Int) (k : Nat) : Int := a.fdiv (2 ^ k)
theorem pw_bits : Builtin.Int.intBits 2 = 2 := by decide +kernel
theorem spec_pow2 {k : Nat} {t u : Tok} (hk : k ≤ 29) (h : R (.ok (.ret (.int (pw k) s.toks))) { s with toks := s.toks + 1 }) :
    codeAny (model prog w) A (.call (.builtin "int.__pow__") ⟨[.int 2 t, .int (k : Int) u], []⟩) R s := by
  by_cases h0 : k = 0
  · subst h0
    exact code_of_meets F.slot_int_pow rfl F.entry_int_pow (F.args_int_pow_2 _ _) (Meets.inModel (Gives.meets (AutoIntG9.int___pow___int_int_0 2 t ((0 : Nat) : Int) u (by decide) (by decide))) _ _) h
  · have hb : ¬ ((k : Int) == 0) = true := by simpa using h0
    have ht : ¬ Builtin.Int.intTooBig (((Builtin.Int.intBits 2 : Nat) : Int) * (k : Int)) = true := by
      rw [pw_bits]
      unfold Builtin.Int.intTooBig
      simp only [decide_eq_true_eq]
      rw [bitsLine_eq]
      omega
    exact code_of_meets F.slot_int_pow rfl F.entry_int_pow (F.args_int_pow_2 _ _) (Meets.inModel (Gives.meets (AutoIntG2.int___pow___int_int_4 2 t (k : Int) u (by omega) hb (by decide) (by decide) ht)) _ _) h
theorem pw_small {k : Nat} (hk : k ≤ 29) : (pw k).natAbs < 1073741824 ∧ pw k ≠ 0 := by
  have : ∀ k : Fin 30, (pw k).natAbs < 1073741824 ∧ pw k ≠ 0 := by decide +kernel
  exact this ⟨k, by omega⟩
theorem spec_fd_pw {k : Nat} {a : Int} {t u : Tok} (hk : k ≤ 29) (h : R (.ok (.ret (.int (fdp a k) s.toks))) { s with toks := s.toks + 1 }) :
    codeAny (model prog w) A (.call (.builtin "int.__floordiv__") ⟨[.int a t, .int (pw k) u], []⟩) R s := by
  have hn : ¬ Builtin.divisionGoesByPylong a (pw k) = true := by rw [PyProof.noPylong_small (pw_small hk).1]; decide
  exact code_of_meets F.slot_int_floordiv rfl F.entry_int_floordiv (F.args_int_floordiv_2 _ _) (Meets.inModel (Gives.meets (AutoIntG4.int___floordiv___int_int_1 a t (pw k) u (by simpa using (pw_small hk).2) hn)) _ _) h
end
def specsE : List (String × Lean.Name) := specsD ++ [("enumerate.__new__", ``spec_enumerate_new), ("int.__pow__", ``spec_pow2), ("int.__floordiv__", ``spec_fd_pw)]
end Mine

end
-- AllDefs
section
open PySem PySem.W PySem.W.X PyProof.Rows
set_option maxRecDepth 100000
set_option Elab.async false
set_option maxHeartbeats 0
namespace Mine
-- Seg0

structure S1 (w : World) (H0 : Heap) (vs : List Value) (N : Nat → Int) (h : Heap) : Prop where
  kt : TopK ⟨ktop w.params, H0⟩ h
  sz : h.objs.size = 660
  scr : h.get? 642 = some (listO vs 0)
  fr : ∃ tk, h.get? 643 = some (frameO [en w Nm.script tk (.ref 642)] 1)
  num : h.get? 644 = some (cellO (some (.ref 656)))
  cells : ∀ a : Nat, 645 ≤ a → a ≤ 651 → h.get? a = some (cellO none)
  lst : ∃ us e, h.get? 656 = some (listO us e) ∧ IntsAre us (tab 18 N)

-- Seg1

structure S2 (w : World) (H0 : Heap) (vs : List Value) (N : Nat → Int) (sz : Nat) (h : Heap) : Prop where
  kt : TopK ⟨ktop w.params, H0⟩ h
  hz : h.objs.size = 660
  scr : h.get? 642 = some (listO vs 0)
  fr : ∃ tk tk2 tk3, h.get? 643 = some (frameO [en w Nm.script tk (.ref 642), en w Nm.size tk2 (.int (sz : Int) tk3)] 2)
  num : h.get? 644 = some (cellO (some (.ref 656)))
  cells : ∀ a : Nat, 645 ≤ a → a ≤ 651 → h.get? a = some (cellO none)
  lst : ∃ us e, h.get? 656 = some (listO us e) ∧ IntsAre us (tab 18 N)

-- Seg2

/-- behind names -/
structure S3 (w : World) (H0 : Heap) (N : Nat → Int) (sz : Nat) (h : Heap) : Prop where
  kt : TopK ⟨ktop w.params, H0⟩ h
  hz : h.objs.size = 666
  fr : ∃ tk tk2 tk3, h.get? 643 = some (frameO [en w Nm.script tk (.ref 642), en w Nm.size tk2 (.int (sz : Int) tk3)] 2)
  c644 : h.get? 644 = some (cellO (some (.ref 656)))
  c645 : h.get? 645 = some (cellO (some (.ref 662)))
  cells : ∀ a : Nat, 646 ≤ a → a ≤ 651 → h.get? a = some (cellO none)
  lst : ∃ us e, h.get? 656 = some (listO us e) ∧ IntsAre us (tab 18 N)
  nam : ∃ us e, h.get? 662 = some (listO us e) ∧ IntsAre us (tab sz (fun k => 8 * N (3 + k) + k))

-- Seg3

/-- behind weights -/
structure S4 (w : World) (H0 : Heap) (N : Nat → Int) (sz : Nat) (h : Heap) : Prop where
  kt : TopK ⟨ktop w.params, H0⟩ h
  hz : h.objs.size = 672
  fr : ∃ tk tk2 tk3, h.get? 643 = some (frameO [en w Nm.script tk (.ref 642), en w Nm.size tk2 (.int (sz : Int) tk3)] 2)
  c644 : h.get? 644 = some (cellO (some (.ref 656)))
  c645 : h.get? 645 = some (cellO (some (.ref 662)))
  c646 : h.get? 646 = some (cellO (some (.ref 668)))
  cells : ∀ a : Nat, 647 ≤ a → a ≤ 651 → h.get? a = some (cellO none)
  lst : ∃ us e, h.get? 656 = some (listO us e) ∧ IntsAre us (tab 18 N)
  nam : ∃ us e, h.get? 662 = some (listO us e) ∧ IntsAre us (tab sz (fun k => 8 * N (3 + k) + k))
  wei : ∃ us e, h.get? 668 = some (listO us e) ∧ IntsAre us (tab sz (fun k => Z.modQ (N (10 + k)) 10))

-- Seg4

/-- behind weighed -/
structure S5 (w : World) (H0 : Heap) (N : Nat → Int) (sz : Nat) (wd : Bool) (h : Heap) : Prop where
  kt : TopK ⟨ktop w.params, H0⟩ h
  hz : h.objs.size = 672
  fr : ∃ tk tk2 tk3 tk4, h.get? 643 = some (frameO [en w Nm.script tk (.ref 642), en w Nm.size tk2 (.int (sz : Int) tk3), en w Nm.weighed tk4 (.bool wd)] 3)
  c644 : h.get? 644 = some (cellO (some (.ref 656)))
  c645 : h.get? 645 = some (cellO (some (.ref 662)))
  c646 : h.get? 646 = some (cellO (some (.ref 668)))
  cells : ∀ a : Nat, 647 ≤ a → a ≤ 651 → h.get? a = some (cellO none)
  lst : ∃ us e, h.get? 656 = some (listO us e) ∧ IntsAre us (tab 18 N)
  nam : ∃ us e, h.get? 662 = some (listO us e) ∧ IntsAre us (tab sz (fun k => 8 * N (3 + k) + k))
  wei : ∃ us e, h.get? 668 = some (listO us e) ∧ IntsAre us (tab sz (fun k => Z.modQ (N (10 + k)) 10))

/-- behind the graph's making -/
structure S6 (w : World) (H0 : Heap) (N : Nat → Int) (sz : Nat) (wd : Bool) (h : Heap) : Prop where
  kt : TopK ⟨ktop w.params, H0⟩ h
  hz : h.objs.size = 682
  fr : ∃ tk tk2 tk3 tk4, h.get? 643 = some (frameO [en w Nm.script tk (.ref 642), en w Nm.size tk2 (.int (sz : Int) tk3), en w Nm.weighed tk4 (.bool wd)] 3)
  c644 : h.get? 644 = some (cellO (some (.ref 656)))
  c645 : h.get? 645 = some (cellO (some (.ref 662)))
  c646 : h.get? 646 = some (cellO (some (.ref 668)))
  c647 : h.get? 647 = some (cellO (some (.ref 673)))
  cells : ∀ a : Nat, 648 ≤ a → a ≤ 651 → h.get? a = some (cellO none)
  lst : ∃ us e, h.get? 656 = some (listO us e) ∧ IntsAre us (tab 18 N)
  nam : ∃ us e, h.get? 662 = some (listO us e) ∧ IntsAre us (tab sz (fun k => 8 * N (3 + k) + k))
  wei : ∃ us e, h.get? 668 = some (listO us e) ∧ IntsAre us (tab sz (fun k => Z.modQ (N (10 + k)) 10))
  g673 : h.get? 673 = some { cls := .ref 623, dict := some 672, data := .plain, slots := #[] }
  g672 : ∃ t1 t2 t3, h.get? 672 = some (dictO [en w Nm.graph t1 (.ref 677), en w Nm.x_node t2 (.ref 679), en w Nm.x_adj t3 (.ref 681)] 3)
  g677 : h.get? 677 = some (dictO [] 0)
  g679 : h.get? 679 = some (dictO [] 0)
  g681 : h.get? 681 = some (dictO [] 0)

-- Seg6

/-- what stays from the graph's making on: the numbers, the names, the weights, the graph -/
structure Stay (w : World) (H0 : Heap) (N : Nat → Int) (nm wt : Nat → Int) (sz : Nat) (h : Heap) : Prop where
  kt : TopK ⟨ktop w.params, H0⟩ h
  c644 : h.get? 644 = some (cellO (some (.ref 656)))
  c645 : h.get? 645 = some (cellO (some (.ref 662)))
  c647 : h.get? 647 = some (cellO (some (.ref 673)))
  lst : ∃ us e, h.get? 656 = some (listO us e) ∧ IntsAre us (tab 18 N)
  nam : ∃ us e, h.get? 662 = some (listO us e) ∧ IntsAre us (tab sz nm)
  wei : ∃ us e, h.get? 668 = some (listO us e) ∧ IntsAre us (tab sz wt)
  g673 : h.get? 673 = some { cls := .ref 623, dict := some 672, data := .plain, slots := #[] }
  g672 : ∃ t1 t2 t3, h.get? 672 = some (dictO [en w Nm.graph t1 (.ref 677), en w Nm.x_node t2 (.ref 679), en w Nm.x_adj t3 (.ref 681)] 3)
  g677 : h.get? 677 = some (dictO [] 0)

/-- the law's frame ahead of the loop's first turn, and behind it -/
def Fr6 (w : World) (sz : Nat) (wd : Bool) (k : Nat) (h : Heap) : Prop :=
  ∃ es ep, h.get? 643 = some (frameO es ep) ∧ ∃ tk tk2 tk3 tk4,
    (k = 0 → ep = 3 ∧ es = [en w Nm.script tk (.ref 642), en w Nm.size tk2 (.int (sz : Int) tk3), en w Nm.weighed tk4 (.bool wd)]) ∧
    (0 < k → ep = 5 ∧ ∃ tk5 tk6 v1 v2, es = [en w Nm.script tk (.ref 642), en w Nm.size tk2 (.int (sz : Int) tk3), en w Nm.weighed tk4 (.bool wd), en w Nm.name tk5 v1, en w Nm.weight tk6 v2])

/-- the graph's nodes -/
structure Gr (w : World) (nm wt : Nat → Int) (sz : Nat) (h : Heap) : Prop where
  node : ∃ es ep, h.get? 679 = some (dictO es ep) ∧ DE es (kv sz nm (fun i => .ref (10 * i + 696 : Nat)))
  adj : ∃ es ep, h.get? 681 = some (dictO es ep) ∧ DE es (kv sz nm (fun i => .ref (10 * i + 694 : Nat)))
  att : ∀ i : Nat, i < sz → ∃ tk tk2, h.get? (10 * i + 696 : Nat) = some (dictO [en w Nm.heavy tk (.int (wt i) tk2)] 1)

/-- the law's frame behind the nodes' loop -/
def Fr7 (w : World) (sz : Nat) (wd : Bool) (h : Heap) : Prop :=
  ∃ tk tk2 tk3 tk4 tk5 tk6 v1 v2, h.get? 643 = some (frameO [en w Nm.script tk (.ref 642), en w Nm.size tk2 (.int (sz : Int) tk3), en w Nm.weighed tk4 (.bool wd), en w Nm.name tk5 v1, en w Nm.weight tk6 v2] 5)

-- Seg7

/-- values that are pairs of naturals -/
def PV (h : Heap) (vs : List Value) (ps : List (Nat × Nat)) : Prop :=
  vs.length = ps.length ∧ ∀ (k i j : Nat), ps[k]? = some (i, j) → ∃ (a ti tj : Nat), vs[k]? = some (Value.ref a) ∧ 687 ≤ a ∧ h.get? a = some (pairO (i : Nat) (j : Nat) ti tj)
theorem PV.nil (h : Heap) : PV h [] [] := ⟨rfl, fun k i j x => by simp at x⟩
theorem PV.mono {h h' : Heap} {vs : List Value} {ps : List (Nat × Nat)} (p : PV h vs ps) (keep : PK h h') : PV h' vs ps :=
  ⟨p.1, fun k x y hk => let ⟨b, t1, t2, h1, h2, h3⟩ := p.2 k x y hk; ⟨b, t1, t2, h1, h2, keep _ _ _ _ _ h2 h3⟩⟩
theorem PV.snoc {h : Heap} {vs : List Value} {ps : List (Nat × Nat)} (p : PV h vs ps) {a i j ti tj : Nat}
    (hlo : 687 ≤ a) (ha : h.get? a = some (pairO (i : Nat) (j : Nat) ti tj)) : PV h (vs ++ [.ref a]) (ps ++ [(i, j)]) := by
  refine ⟨by simp [p.1], fun k x y hk => ?_⟩
  by_cases hkl : k < ps.length
  · rw [List.getElem?_append_left hkl] at hk
    obtain ⟨b, t1, t2, h1, h2, h3⟩ := p.2 k x y hk
    exact ⟨b, t1, t2, by rw [List.getElem?_append_left (by rw [p.1]; exact hkl)]; exact h1, h2, h3⟩
  · have hke : k = ps.length := by
      have := (List.getElem?_eq_some_iff.mp hk).1
      simp at this; omega
    subst hke
    simp only [List.getElem?_concat_length, Option.some.injEq, Prod.mk.injEq] at hk
    obtain ⟨rfl, rfl⟩ := hk
    exact ⟨a, ti, tj, by rw [← p.1]; simp, hlo, ha⟩
def pairsOf (n : Nat) : List (Nat × Nat) := (List.range n).flatMap fun i => (List.range i).map fun j => (i, j)
theorem pairsOf_succ (n : Nat) : pairsOf (n + 1) = pairsOf n ++ (List.range n).map fun j => (n, j) := by unfold pairsOf; rw [List.range_succ, List.flatMap_append]; simp
/-- a row's first pairs -/
def rowOf (n j : Nat) : List (Nat × Nat) := (List.range j).map fun j => (n, j)
theorem rowOf_succ (n j : Nat) : rowOf n (j + 1) = rowOf n j ++ [(n, j)] := by unfold rowOf; rw [List.range_succ, List.map_append]; rfl

/-- a comprehension's two locals -/
def Loc2 (w : World) (x y : Str) (c : Nat) (h : Heap) (a : Addr) : Prop :=
  ∃ es ep, h.get? a = some (dictO es ep) ∧ (c = 0 → es = [] ∧ ep = 0) ∧ (c = 1 → ep = 1 ∧ ∃ v tk, es = [en w x tk v]) ∧ (2 ≤ c → ep = 2 ∧ ∃ v tk v2 tk2, es = [en w x tk v, en w y tk2 v2])
/-- inside the inner loop -/
def Loc2in (w : World) (x y : Str) (k j : Nat) (h : Heap) (a : Addr) : Prop :=
  ∃ es ep tk tkk, h.get? a = some (dictO es ep) ∧ (k ≤ 1 ∧ j = 0 → ep = 1 ∧ es = [en w x tk (.int (k : Nat) tkk)]) ∧ (2 ≤ k ∨ 0 < j → ep = 2 ∧ ∃ v2 tk2, es = [en w x tk (.int (k : Nat) tkk), en w y tk2 v2])

theorem pairsOf_len {k : Nat} (h : k ≤ 7) : (pairsOf k).length ≤ 21 := by
  have : ∀ k : Fin 8, (pairsOf k).length ≤ 21 := by decide
  exact this ⟨k, by omega⟩
theorem PV.bound {h : Heap} {vs : List Value} {k j : Nat} (p : PV h vs (pairsOf k ++ rowOf k j)) (hk : k ≤ 7) (hj : j ≤ 7) : vs.length ≤ 1000000 := by
  rw [p.1, List.length_append]
  have := pairsOf_len hk
  simp only [rowOf, List.length_map, List.length_range]
  omega

/-- what stands from here on -/
structure Env (w : World) (H0 : Heap) (N nm wt : Nat → Int) (sz : Nat) (h : Heap) : Prop where
  kt : TopK ⟨ktop w.params, H0⟩ h
  c644 : h.get? 644 = some (cellO (some (.ref 656)))
  c645 : h.get? 645 = some (cellO (some (.ref 662)))
  c647 : h.get? 647 = some (cellO (some (.ref 673)))
  lst : ∃ us e, h.get? 656 = some (listO us e) ∧ IntsAre us (tab 18 N)
  nam : ∃ us e, h.get? 662 = some (listO us e) ∧ IntsAre us (tab sz nm)
  wei : ∃ us e, h.get? 668 = some (listO us e) ∧ IntsAre us (tab sz wt)
  g673 : h.get? 673 = some { cls := .ref 623, dict := some 672, data := .plain, slots := #[] }
  node : ∃ es ep, h.get? 679 = some (dictO es ep) ∧ DE es (kv sz nm (fun i => .ref (10 * i + 696 : Nat)))
  adj : ∃ es ep, h.get? 681 = some (dictO es ep) ∧ DE es (kv sz nm (fun i => .ref (10 * i + 694 : Nat)))
  att : ∃ f g : Nat → Nat, ∀ i : Nat, i < sz → h.get? (10 * i + 696 : Nat) = some (dictO [en w Nm.heavy (f i) (.int (wt i) (g i))] 1)

/-- the graph's own names, ahead of told -/
abbrev Own (w : World) (h : Heap) : Prop := ∃ t1 t2 t3, h.get? 672 = some (dictO [en w Nm.graph t1 (.ref 677), en w Nm.x_node t2 (.ref 679), en w Nm.x_adj t3 (.ref 681)] 3)
abbrev Empties (sz : Nat) (h : Heap) : Prop := ∀ i : Nat, i < sz → h.get? (10 * i + 694 : Nat) = some (dictO [] 0)
/-- the law's frame behind pairs -/
def Fr8 (w : World) (sz : Nat) (wd : Bool) (p : Addr) (h : Heap) : Prop :=
  ∃ tk tk2 tk3 tk4 tk5 tk6 tk7 v1 v2, h.get? 643 = some (frameO [en w Nm.script tk (.ref 642), en w Nm.size tk2 (.int (sz : Int) tk3), en w Nm.weighed tk4 (.bool wd), en w Nm.name tk5 v1, en w Nm.weight tk6 v2, en w Nm.pairs tk7 (.ref p)] 6)

-- Seg8

/-- a comprehension's two locals that are told together -/
def Loc2t (w : World) (x y : Str) (c : Nat) (h : Heap) (a : Addr) : Prop :=
  ∃ es ep, h.get? a = some (dictO es ep) ∧ (c = 0 → es = [] ∧ ep = 0) ∧ (0 < c → ep = 2 ∧ ∃ v tk v2 tk2, es = [en w x tk v, en w y tk2 v2])
abbrev enumO (it : Addr) (k : Int) (old : Value) : Obj := { cls := .type "enumerate", dict := none, data := .fields #[.none, .bool false, .ref it, .int k 0, .none, old], slots := #[] }
/-- the pairs whose bit is set -/
def chosen (b : Nat → Bool) (ps : List (Nat × Nat)) (k : Nat) : List (Nat × Nat) := (List.range k).filterMap fun i => if b i then ps[i]? else none
noncomputable def joinedOf (n1 : Int) (sz : Nat) : List (Nat × Nat) := chosen (fun k => Z.modQ (fdp n1 k) 2 == 1) (pairsOf sz) (pairsOf sz).length
theorem chosen_len (b : Nat → Bool) (ps : List (Nat × Nat)) (k : Nat) : (chosen b ps k).length ≤ k := by
  have := List.length_filterMap_le (fun i => if b i then ps[i]? else none) (List.range k)
  simpa [chosen] using this
theorem chosen_yes {b : Nat → Bool} {ps : List (Nat × Nat)} {k : Nat} {x : Nat × Nat} (hk : ps[k]? = some x) (hb : b k = true) : chosen b ps (k + 1) = chosen b ps k ++ [x] := by
  unfold chosen
  rw [List.range_succ, List.filterMap_append]
  simp [hb, hk]
theorem chosen_no {b : Nat → Bool} {ps : List (Nat × Nat)} {k : Nat} (hb : b k = false) : chosen b ps (k + 1) = chosen b ps k := by
  unfold chosen
  rw [List.range_succ, List.filterMap_append]
  simp [hb]

-- Seg9

/-- values that are pairs of the nodes' names -/
def EV (nm : Nat → Int) (h : Heap) (vs : List Value) (ps : List (Nat × Nat)) : Prop :=
  vs.length = ps.length ∧ ∀ (k i j : Nat), ps[k]? = some (i, j) → ∃ (a ti tj : Nat), vs[k]? = some (Value.ref a) ∧ 687 ≤ a ∧ h.get? a = some (pairO (nm i) (nm j) ti tj)
theorem EV.nil (nm : Nat → Int) (h : Heap) : EV nm h [] [] := ⟨rfl, fun k i j x => by simp at x⟩
theorem EV.mono {nm : Nat → Int} {h h' : Heap} {vs : List Value} {ps : List (Nat × Nat)} (p : EV nm h vs ps) (keep : PK h h') : EV nm h' vs ps :=
  ⟨p.1, fun k x y hk => let ⟨b, t1, t2, h1, h2, h3⟩ := p.2 k x y hk; ⟨b, t1, t2, h1, h2, keep _ _ _ _ _ h2 h3⟩⟩
theorem EV.snoc {nm : Nat → Int} {h : Heap} {vs : List Value} {ps : List (Nat × Nat)} (p : EV nm h vs ps) {a i j ti tj : Nat}
    (hlo : 687 ≤ a) (ha : h.get? a = some (pairO (nm i) (nm j) ti tj)) : EV nm h (vs ++ [.ref a]) (ps ++ [(i, j)]) := by
  refine ⟨by simp [p.1], fun k x y hk => ?_⟩
  by_cases hkl : k < ps.length
  · rw [List.getElem?_append_left hkl] at hk
    obtain ⟨b, t1, t2, h1, h2, h3⟩ := p.2 k x y hk
    exact ⟨b, t1, t2, by rw [List.getElem?_append_left (by rw [p.1]; exact hkl)]; exact h1, h2, h3⟩
  · have hke : k = ps.length := by
      have := (List.getElem?_eq_some_iff.mp hk).1
      simp at this; omega
    subst hke
    simp only [List.getElem?_concat_length, Option.some.injEq, Prod.mk.injEq] at hk
    obtain ⟨rfl, rfl⟩ := hk
    exact ⟨a, ti, tj, by rw [← p.1]; simp, hlo, ha⟩

/-- which end comes first -/
noncomputable def orient (n17 : Int) (p : Nat × Nat) : Nat × Nat := if Z.modQ (fdp n17 p.1) 2 = 0 then (p.1, p.2) else (p.2, p.1)

/-- the neighbours of every node -/
def addE (nb : Nat → List Nat) (e : Nat × Nat) : Nat → List Nat := fun i => if i = e.1 then nb i ++ [e.2] else if i = e.2 then nb i ++ [e.1] else nb i
def nbOf (es : List (Nat × Nat)) : Nat → List Nat := es.foldl addE (fun _ => [])
/-- the inner dicts hold the neighbours' names -/
def Adj (sz : Nat) (nm : Nat → Int) (nb : Nat → List Nat) (h : Heap) : Prop :=
  ∀ i : Nat, i < sz → ∃ es ep kvs, h.get? (10 * i + 694 : Nat) = some (dictO es ep) ∧ DE es kvs ∧ kvs.map (·.1) = (nb i).map nm ∧ ∀ p ∈ kvs, ∃ a, p.2 = Value.ref a

theorem refs_snoc {kvs : List (Int × Value)} {k : Int} {v : Addr} (h : ∀ p ∈ kvs, ∃ a, p.2 = Value.ref a) : ∀ p ∈ kvs ++ [(k, Value.ref v)], ∃ a, p.2 = Value.ref a := by
  intro p hp
  rcases List.mem_append.mp hp with hp | hp
  · exact h p hp
  · rw [List.mem_singleton.mp hp]; exact ⟨v, rfl⟩
theorem nbOf_snoc (es : List (Nat × Nat)) (e : Nat × Nat) : nbOf (es ++ [e]) = addE (nbOf es) e := by simp [nbOf, List.foldl_append]
theorem nbOf_ind {P : List (Nat × Nat) → Prop} (h0 : P []) (hs : ∀ es e, P es → P (es ++ [e])) (es : List (Nat × Nat)) : P es := by
  have : ∀ n (es : List (Nat × Nat)), es.length = n → P es := by
    intro n
    induction n with
    | zero => intro es h; obtain rfl := List.length_eq_zero_iff.mp h; exact h0
    | succ n ih =>
      intro es h
      have hne : es ≠ [] := by intro e; subst e; simp at h
      rw [← List.dropLast_concat_getLast hne]
      exact hs _ _ (ih _ (by simp [h]))
  exact this _ es rfl
theorem nbOf_mem {es : List (Nat × Nat)} : ∀ {i z : Nat}, z ∈ nbOf es i → ∃ e ∈ es, e.1 = z ∨ e.2 = z := by
  induction es using nbOf_ind with
  | h0 => intro i z h; simp [nbOf] at h
  | hs es e ih =>
    intro i z h
    rw [nbOf_snoc] at h
    have old : z ∈ nbOf es i → ∃ e' ∈ es ++ [e], e'.1 = z ∨ e'.2 = z := fun q => by
      obtain ⟨e', h1, h2⟩ := ih q
      exact ⟨e', List.mem_append_left _ h1, h2⟩
    unfold addE at h
    split at h
    · rcases List.mem_append.mp h with q | q
      · exact old q
      · exact ⟨e, by simp, .inr (List.mem_singleton.mp q).symm⟩
    · split at h
      · rcases List.mem_append.mp h with q | q
        · exact old q
        · exact ⟨e, by simp, .inl (List.mem_singleton.mp q).symm⟩
      · exact old h
theorem nbOf_len (es : List (Nat × Nat)) (i : Nat) : (nbOf es i).length ≤ es.length := by
  induction es using nbOf_ind with
  | h0 => simp [nbOf]
  | hs es e ih =>
    rw [nbOf_snoc]
    unfold addE
    split
    · simp; exact ih
    · split
      · simp; exact ih
      · simp; omega
theorem keys_none {kvs : List (Int × Value)} {l : List Nat} {nm : Nat → Int} {b y : Nat} (inj : ∀ i j, i < b → j < b → nm i = nm j → i = j) (hk : kvs.map (·.1) = l.map nm) (hy : y < b) (hl : ∀ z ∈ l, z < b) (hn : y ∉ l) : valueAt kvs (nm y) = none := by
  unfold valueAt
  rw [Option.map_eq_none_iff, List.find?_eq_none]
  intro x hx
  simp only [decide_eq_true_eq]
  intro e
  have h1 : x.1 ∈ kvs.map (·.1) := List.mem_map_of_mem hx
  rw [hk] at h1
  obtain ⟨z, hz, h2⟩ := List.mem_map.mp h1
  have := inj z y (hl z hz) hy (h2.trans e)
  exact hn (this ▸ hz)
theorem kv_key {n : Nat} {nm : Nat → Int} {f : Nat → Value} (inj : ∀ i j, i < n → j < n → nm i = nm j → i = j) {j : Nat} (hj : j < n) {v : Value} (hv : f j = v) : valueAt (kv n nm f) (nm j) = some v := by
  rw [kv_at f (Nat.le_refl n) inj hj, hv]

/-- the edges' loop: the frame's names -/
def FrE (w : World) (k : Nat) (l at_ : Addr) (h : Heap) (a : Addr) : Prop :=
  ∃ es ep tk1 tk2 tk3, h.get? a = some (frameO es ep) ∧ (k = 0 → ep = 3 ∧ es = [en w Nm.self tk1 (.ref 673), en w Nm.ebunch_to_add tk2 (.ref l), en w Nm.attr tk3 (.ref at_)]) ∧
    (0 < k → ep = 9 ∧ ∃ tk4 v4 tk5 v5 tk6 v6 tk7 v7 tk8 v8 tk9 v9, es = [en w Nm.self tk1 (.ref 673), en w Nm.ebunch_to_add tk2 (.ref l), en w Nm.attr tk3 (.ref at_),
      en w Nm.e tk4 v4, en w Nm.ne tk5 v5, en w Nm.u tk6 v6, en w Nm.v tk7 v7, en w Nm.dd tk8 v8, en w Nm.datadict tk9 v9])

end Mine

end
-- Spec3
section
open PySem PySem.W PySem.W.X PyProof.Rows
set_option maxRecDepth 100000
set_option Elab.async false
namespace Mine
section
variable {prog : Program} {w : World} {A : Around} {R : Result → Shared → Prop} {s : Shared}
theorem isStrOf_self (x : Str) (t : Nat) : Value.isStrOf x (.str x t) = true := by simp [Value.isStrOf]
theorem spec_dict_get_str {d : Addr} {x : Str} {tk : Nat} {v : Value} {ep : Nat} {t : Tok} {dflt : Value} (ho : s.heap.get? d = some (dictO [⟨hs w.params x, .str x tk, v⟩] ep)) (hne : d ≠ 1)
    (h : R (.ok (.ret v)) { s with toks := s.toks + 1 }) : codeAny (model prog w) A (.call (.builtin "dict.get") ⟨[.ref d, .str x t, dflt], []⟩) R s := by
  have hm : s.heap.MapOf (strKind prog w) d (fun y => if y = x then some v else none) := by
    refine ⟨_, _, _, ho, ⟨rfl, rfl, rfl⟩, rfl, ?_, fun k => ?_⟩
    · intro e he
      have : e = ⟨hs w.params x, .str x tk, v⟩ := by simpa using he
      subst this
      exact ⟨x, isStrOf_self x tk, hs_at w x⟩
    · unfold findBy
      by_cases hk : k = x
      · subst hk
        have : (PySem.strKind prog w).is k (.str k tk) = true := isStrOf_self k tk
        simp [this]
      · have : (PySem.strKind prog w).is k (.str x tk) = false := by
          show Value.isStrOf k (.str x tk) = false
          cases q : Value.isStrOf k (.str x tk) with
          | false => rfl
          | true => exact absurd (Value.isStrOf_inj _ _ _ q (isStrOf_self x tk)) hk
        simp [hk, this]
  refine code_of_meets F.slot_dict_get (typeIs_obj ho) F.entry_dict_get (F.args_dict_get_3 _ _ _) (meets_dict_get_default (strKind prog w) (k := x) (key := .str x t) d (isStrOf_self x t) (sys_ne hne) dflt) ⟨_, hm, ?_⟩
  rw [if_pos rfl]
  exact h

abbrev setO (es : Array (Int × Value)) (ep : Nat) (t : SetTable) : Obj := { cls := .type "set", dict := none, data := .set es ep t, slots := #[] }
/-- a set of whole numbers -/
def SS (es : Array (Int × Value)) (t : SetTable) (S : Int → Bool) (n : Nat) : Prop :=
  (∀ e ∈ es.toList, (∃ k, Value.isInt k e.2 = true ∧ e.1 = hashInt k) ∧ e.2.scannable = true) ∧ (∀ k, S k = true ↔ ∃ e ∈ es.toList, Value.isInt k e.2 = true) ∧ es.size < scanBound ∧ t.fits es.size = true ∧ es.size = n
theorem SS.of {h : Heap} {d : Addr} {es : Array (Int × Value)} {ep : Nat} {t : SetTable} {S : Int → Bool} {n : Nat} (ho : h.get? d = some (setO es ep t)) (x : SS es t S n) : h.SetOf (intKind prog w) d S n :=
  ⟨_, es, ep, t, ho, ⟨rfl, rfl, rfl⟩, rfl, x.1, x.2.1, x.2.2.1, x.2.2.2.1, x.2.2.2.2⟩
theorem SS.congr {es : Array (Int × Value)} {t : SetTable} {S S' : Int → Bool} {n n' : Nat} (x : SS es t S n) (e : ∀ k, S' k = S k) (hn : n' = n) : SS es t S' n' := by
  have : S' = S := funext e
  subst this; subst hn
  exact x
theorem SS.new (b : Bool) : SS #[] (SetTable.fresh 0 0 b) (fun _ => false) 0 := by
  refine ⟨fun e he => by simp at he, fun k => ?_, by decide, by cases b <;> decide, rfl⟩
  simp

theorem spec_set_contains_yes {d : Addr} {es : Array (Int × Value)} {ep : Nat} {t : SetTable} {S : Int → Bool} {n : Nat} {k : Int} {tk : Tok} (ho : s.heap.get? d = some (setO es ep t)) (hS : SS es t S n) (hv : S k = true)
    (h : R (.ok (.ret (.bool true))) { s with toks := s.toks + 1 }) : codeAny (model prog w) A (.call (.builtin "set.__contains__") ⟨[.ref d, .int k tk], []⟩) R s := by
  refine code_of_meets (S := fun _ R' s' => s' = s ∧ R' (.ok (.ret (.bool true))) { s with toks := s.toks + 1 }) F.slot_set_contains (typeIs_obj ho) entry_set_contains (F.args_set_contains_2 _ _) (.of_wp ?_) ⟨rfl, h⟩
  rintro A R' s' ⟨rfl, h⟩
  unfold Builtin.«frozenset.__contains__» Builtin.Frozenset.oneOther
  simp only [List.isEmpty_nil, bind_assoc]
  unfold Builtin.Frozenset.addrOf Builtin.Frozenset.withSetAsKey setContains
  refine wpAny_bind (wpAny_pure ?_)
  try dsimp only
  refine wpAny_bind (wpAny_pure ?_)
  try dsimp only
  refine wpAny_bind (wpAny_tryCatch ?_)
  refine wpAny_holding ?_
  refine wpAny_bind ((intKind prog w).pyHash (isInt_self k tk) ?_)
  refine wpAny_bind (wpAny_setFind_of (knd := intKind prog w) (s := { s' with toks := s'.toks + 1 }) (isInt_self k tk) rfl (SS.of ho hS) fun r hr => ?_)
  refine wpAny_pure ?_
  show wpAny _ _ (ret (Value.bool r.isSome)) _ _ _
  rw [hr, hv]
  exact wpAny_pure ⟨_, rfl, h⟩
theorem spec_set_contains_no {d : Addr} {es : Array (Int × Value)} {ep : Nat} {t : SetTable} {S : Int → Bool} {n : Nat} {k : Int} {tk : Tok} (ho : s.heap.get? d = some (setO es ep t)) (hS : SS es t S n) (hv : S k = false)
    (h : R (.ok (.ret (.bool false))) { s with toks := s.toks + 1 }) : codeAny (model prog w) A (.call (.builtin "set.__contains__") ⟨[.ref d, .int k tk], []⟩) R s := by
  refine code_of_meets (S := fun _ R' s' => s' = s ∧ R' (.ok (.ret (.bool false))) { s with toks := s.toks + 1 }) F.slot_set_contains (typeIs_obj ho) entry_set_contains (F.args_set_contains_2 _ _) (.of_wp ?_) ⟨rfl, h⟩
  rintro A R' s' ⟨rfl, h⟩
  unfold Builtin.«frozenset.__contains__» Builtin.Frozenset.oneOther
  simp only [List.isEmpty_nil, bind_assoc]
  unfold Builtin.Frozenset.addrOf Builtin.Frozenset.withSetAsKey setContains
  refine wpAny_bind (wpAny_pure ?_)
  try dsimp only
  refine wpAny_bind (wpAny_pure ?_)
  try dsimp only
  refine wpAny_bind (wpAny_tryCatch ?_)
  refine wpAny_holding ?_
  refine wpAny_bind ((intKind prog w).pyHash (isInt_self k tk) ?_)
  refine wpAny_bind (wpAny_setFind_of (knd := intKind prog w) (s := { s' with toks := s'.toks + 1 }) (isInt_self k tk) rfl (SS.of ho hS) fun r hr => ?_)
  refine wpAny_pure ?_
  show wpAny _ _ (ret (Value.bool r.isSome)) _ _ _
  rw [hr, hv]
  exact wpAny_pure ⟨_, rfl, h⟩
theorem spec_set_add {hh : Heap} {gs : Array GenState} {dr : Drawn} {tks : Nat} {os : OsState} {d : Addr} {es : Array (Int × Value)} {ep : Nat} {t : SetTable} {S : Int → Bool} {n q : Nat} {k : Int} {tk : Tok} (ho : hh.get? d = some (setO es ep t)) (hS : SS es t S n) (hroom : n + 1 < scanBound) (hv : S k = false) (hq : hh.objs.size = q)
    (h : ∀ h' es' ep' t', h'.objs.size = q → Kp hh [d] h' → h'.get? d = some (setO es' ep' t') → SS es' t' (fun z => S z || decide (z = k)) (n + 1) → R (.ok (.ret .none)) ⟨h', gs, dr, tks + 1, os⟩) :
    codeAny (model prog w) A (.call (.builtin "set.add") ⟨[.ref d, .int k tk], []⟩) R ⟨hh, gs, dr, tks, os⟩ := by
  refine code_of_meets (S := fun _ R' s' => s' = ⟨hh, gs, dr, tks, os⟩ ∧ ∀ h' es' ep' t', h'.objs.size = q → Kp hh [d] h' → h'.get? d = some (setO es' ep' t') → SS es' t' (fun z => S z || decide (z = k)) (n + 1) → R' (.ok (.ret .none)) ⟨h', gs, dr, tks + 1, os⟩)
    F.slot_set_add (typeIs_obj (s := ⟨hh, gs, dr, tks, os⟩) ho) F.entry_set_add (F.args_set_add_2 _ _) (.of_wp ?_) ⟨rfl, h⟩
  rintro A R' s' ⟨rfl, h⟩
  unfold Builtin.«set.add» Builtin.Frozenset.oneOther
  simp only [List.isEmpty_nil, bind_assoc]
  unfold Builtin.Frozenset.addrOf setAdd
  refine wpAny_bind (wpAny_pure ?_)
  try dsimp only
  refine wpAny_bind (wpAny_pure ?_)
  try dsimp only
  refine wpAny_bind ?_
  refine wpAny_holding ?_
  refine wpAny_bind ((intKind prog w).pyHash (isInt_self k tk) ?_)
  refine wpAny_setAddHashed_of (knd := intKind prog w) (s := ⟨hh, gs, dr, tks + 1, os⟩) (isInt_self k tk) rfl (SS.of ho hS) hroom fun h' hsb hS' => ?_
  show wpAny _ _ (ret Value.none) _ _ _
  rw [hv] at hS'
  obtain ⟨o, es', ep', t', ho', hex, hd, h1, h2, h3, h4, h5⟩ := hS'
  refine wpAny_pure ⟨_, rfl, h h' es' ep' t' (hsb.1.trans hq) ⟨fun b o e hb => (hsb.2 b (fun e' => hb d (List.mem_singleton.mpr rfl) e'.symm)).trans e, Nat.le_of_eq hsb.1.symm⟩ ?_ ⟨h1, h2, h3, h4, h5⟩⟩
  obtain ⟨c, dd, dt, sl⟩ := o
  obtain ⟨rfl, rfl, rfl⟩ := hex
  obtain rfl : dt = .set es' ep' t' := hd
  exact ho'
end
def specsF : List (String × Lean.Name) := specsE ++ [("dict.get", ``spec_dict_get_str), ("set.__contains__", ``spec_set_contains_yes), ("set.__contains__", ``spec_set_contains_no), ("set.add", ``spec_set_add)]
end Mine

end
-- Cut
section
open PySem PySem.W PySem.W.X PyProof.Rows
set_option maxRecDepth 100000
set_option Elab.async false
namespace Mine
section
variable {V : XV} {h₀ : Heap} {n t₀ : Nat} {c : Code} {κ : Kont} {W : List (Addr × Obj)} {T : BT} {m i : Nat} {gl : List GenState}
/-- what a part's run ends in -/
def QF (V : XV) (c : Code) (κ : Kont) (K : Flow → Sem Fin) (G : Value → Sem Unit) : Result → Shared → Prop := fun r s' => match r with
  | .ok f => Mn V c none κ ((K f).onRaise G) s'
  | .error _ => False
def QV (V : XV) (c : Code) (κ : Kont) (K : Value → Sem Fin) (G : Value → Sem Unit) : Result → Shared → Prop := fun r s' => match r with
  | .ok (.ret v) => Mn V c none κ ((K v).onRaise G) s'
  | _ => False
theorem go_cutF {X : Sem Flow} {K : Flow → Sem Fin} {G : Value → Sem Unit}
    (x : Go ⟨V.prog, V.w, {}, 0, .nil, [], aroundOf V true κ, QF V c κ K G, V.d, 0, V.os⟩ h₀ n t₀ c none .base (X.bind fun f => .pure (.done f)) W T m i gl) : Go V h₀ n t₀ c none κ ((X.bind K).onRaise G) W T m i gl := by
  refine ⟨fun h D => ?_⟩
  have y0 := x.go h D
  intro Γ p hc hΓ hN
  have y := y0 Γ p hc hΓ hN
  rw [Sem.wp_bind] at y
  rw [Sem.wp_onRaise, Sem.wp_bind]
  refine Sem.wp_mono _ _ _ (fun f p' s' q => ?_) (fun e p' s' q => ?_) p _ y
  · have q' : Mn V c none κ ((K f).onRaise G) s' := q
    have z := q' Γ p' hc hΓ hN
    rw [Sem.wp_onRaise] at z
    exact z
  · exact False.elim q
theorem go_cutV {X : Sem Value} {K : Value → Sem Fin} {G : Value → Sem Unit}
    (x : Go ⟨V.prog, V.w, {}, 0, .nil, [], aroundOf V true κ, QV V c κ K G, V.d, 0, V.os⟩ h₀ n t₀ c none .base (X.bind fun v => .pure (.done (.ret v))) W T m i gl) : Go V h₀ n t₀ c none κ ((X.bind K).onRaise G) W T m i gl := by
  refine ⟨fun h D => ?_⟩
  have y0 := x.go h D
  intro Γ p hc hΓ hN
  have y := y0 Γ p hc hΓ hN
  rw [Sem.wp_bind] at y
  rw [Sem.wp_onRaise, Sem.wp_bind]
  refine Sem.wp_mono _ _ _ (fun f p' s' q => ?_) (fun e p' s' q => ?_) p _ y
  · have q' : Mn V c none κ ((K f).onRaise G) s' := q
    have z := q' Γ p' hc hΓ hN
    rw [Sem.wp_onRaise] at z
    exact z
  · exact False.elim q
/-- behind the cut -/
theorem fini_F {V' : XV} {K : Flow → Sem Fin} {G : Value → Sem Unit} {f : Flow} (hR : V'.R₀ = QF V c κ K G) (hd : V'.d = V.d) (ho : V'.os = V.os)
    (x : Go V h₀ n t₀ c none κ ((K f).onRaise G) W T m i gl) : Fini V' h₀ n t₀ (.ok f) W T m i gl := by
  refine ⟨fun h D => ?_⟩
  rw [hR, hd, ho]
  exact x.go h D
theorem fini_V {V' : XV} {K : Value → Sem Fin} {G : Value → Sem Unit} {v : Value} (hR : V'.R₀ = QV V c κ K G) (hd : V'.d = V.d) (ho : V'.os = V.os)
    (x : Go V h₀ n t₀ c none κ ((K v).onRaise G) W T m i gl) : Fini V' h₀ n t₀ (.ok (.ret v)) W T m i gl := by
  refine ⟨fun h D => ?_⟩
  rw [hR, hd, ho]
  exact x.go h D
end

/-- a dict comprehension's turn: up to the key -/
def dcHead (kx target iter : Expr) (it : Value) (env : PySem.Env) : Sem Flow :=
  (standAt iter.pos).bind fun _ => (pyNext it).bind fun o => match o with
    | none => pure .next
    | some v => (letOwnedTupleGo target it v).bind fun _ => (assign target env v).bind fun _ => (eval kx env).bind fun kv => pure (.ret kv)
/-- the store -/
def dcStore (kx vx : Expr) (c : Code) (D : Addr) (kv vv : Value) : Sem Fin :=
  (standAt { kx.pos with endLine := vx.pos.endLine, endCol := vx.pos.endCol }).bind fun _ => (holding [kv, vv] (dictSet D kv vv)).bind fun _ => .pure (.again c)
def dcTail (kx vx : Expr) (c : Code) (D : Addr) (env : PySem.Env) (f : Flow) : Sem Fin := match f with
  | .ret kv => (holding [kv] (eval vx env)).bind fun vv => dcStore kx vx c D kv vv
  | _ => pure (.done .next)

theorem dc_turn (kx vx target iter : Expr) (scope : Scope) (pos : Pos) (it : Value) (D : Addr) (env : PySem.Env) :
    compTurn (.DictComp kx vx [⟨target, iter, [], 0⟩] scope pos) 0 it (.ref D) env = (dcHead kx target iter it env).bind (dcTail kx vx (.compLoop (.DictComp kx vx [⟨target, iter, [], 0⟩] scope pos) 0 it (.ref D) env) D env) := by
  rw [compTurn_dict]
  unfold dcHead
  simp only [Sem.bind_assoc]
  show (standAt iter.pos).bind _ = _
  congr 1; funext _
  show (pyNext it).bind _ = _
  congr 1; funext o
  cases o with
  | none => rfl
  | some v =>
    simp only [Sem.bind_assoc]
    show (letOwnedTupleGo target it v).bind _ = _
    congr 1; funext _
    show (assign target env v).bind _ = _
    congr 1; funext _
    show ((eval kx env).bind _).bind _ = _
    rw [Sem.bind_assoc]
    congr 1; funext kv
    show ((holding [kv] (eval vx env)).bind _).bind _ = (holding [kv] (eval vx env)).bind _
    rw [Sem.bind_assoc]
    try rfl

theorem denote_comp (e : Expr) (d : Nat) (it acc : Value) (env : PySem.Env) : ∃ G, denote table (.compLoop e d it acc env) = (compTurn e d it acc env).onRaise G := by
  show ∃ G, (if (Code.compLoop e d it acc env).isFrame then (compTurn e d it acc env).onRaise (leaving env) else (compTurn e d it acc env).onRaise (fun x => do noteFrame x env; theTreesLotGoes x)) = _
  split <;> exact ⟨_, rfl⟩
section
variable {V : XV} {h₀ : Heap} {n t₀ : Nat} {κ : Kont} {W : List (Addr × Obj)} {T : BT} {m i : Nat} {gl : List GenState}
theorem go_dc {kx vx target iter : Expr} {scope : Scope} {pos : Pos} {it : Value} {D : Addr} {env : PySem.Env}
    (x : ∀ G, Go ⟨V.prog, V.w, {}, 0, .nil, [], aroundOf V true κ, QF V (.compLoop (.DictComp kx vx [⟨target, iter, [], 0⟩] scope pos) 0 it (.ref D) env) κ (dcTail kx vx (.compLoop (.DictComp kx vx [⟨target, iter, [], 0⟩] scope pos) 0 it (.ref D) env) D env) G, V.d, 0, V.os⟩
      h₀ n t₀ (.compLoop (.DictComp kx vx [⟨target, iter, [], 0⟩] scope pos) 0 it (.ref D) env) none .base ((dcHead kx target iter it env).bind fun f => .pure (.done f)) W T m i gl) :
    Go V h₀ n t₀ (.compLoop (.DictComp kx vx [⟨target, iter, [], 0⟩] scope pos) 0 it (.ref D) env) none κ (denote table (.compLoop (.DictComp kx vx [⟨target, iter, [], 0⟩] scope pos) 0 it (.ref D) env)) W T m i gl := by
  obtain ⟨G, e⟩ := denote_comp (.DictComp kx vx [⟨target, iter, [], 0⟩] scope pos) 0 it (.ref D) env
  rw [e, dc_turn]
  exact go_cutF (x G)
theorem go_dcStore {c c' : Code} {kx vx : Expr} {G : Value → Sem Unit} {d : Addr} {es : List DictEntry} {ep : Nat} {kvs : List (Int × Value)} {k : Int} {t : Nat} {v : Value} {W' : List (Addr × Obj)} {T' : BT}
    (u : Up h₀ n W T d (dictO es ep) (dictO (es ++ [⟨hashInt k, .int k t, v⟩]) (ep + 1)) W' T') (hd : DE es kvs) (hv : valueAt kvs k = none) (hz : es.length ≤ 1000000)
    (x : Go V h₀ n t₀ c none κ (.pure (.again c')) W' T' m (i + 1) gl) : Go V h₀ n t₀ c none κ ((dcStore kx vx c' d (.int k t) v).onRaise G) W T m i gl := by
  refine ⟨fun h D => ?_⟩
  have z := x.go _ (D.upd (f := fun _ => dictO (es ++ [⟨hashInt k, .int k t, v⟩]) (ep + 1)) u rfl rfl)
  have ho : h.get? d = some (dictO es ep) := D.get u.lk
  have y : wpAny (model V.prog V.w) ((aroundOf V true κ).under c) (dcStore kx vx c' d (.int k t) v) (fun a s' => a = .again c' ∧ s' = ⟨h.update d (fun _ => dictO (es ++ [⟨hashInt k, .int k t, v⟩]) (ep + 1)), ⟨gl⟩, V.d, t₀ + (i + 1), V.os⟩) (fun _ _ => False) ⟨h, ⟨gl⟩, V.d, t₀ + i, V.os⟩ := by
    unfold dcStore
    refine wpAny_bind (wpAny_standAt ?_)
    refine wpAny_bind (wpAny_holding (wpAny_dictSet_new (s := ⟨h, ⟨gl⟩, V.d, t₀ + i, V.os⟩) ho hd hv hz ?_))
    exact wpAny_pure ⟨rfl, rfl⟩
  intro Γ p hc hΓ hN
  rw [Sem.wp_onRaise]
  refine Sem.wp_mono _ _ _ (fun f p' s' q => ?_) (fun e p' s' q => ?_) p _ (wpOwn_of_wpAny y Γ p hc hΓ)
  · obtain ⟨rfl, rfl⟩ := q
    exact z Γ p' hc hΓ hN
  · exact False.elim q
end
end Mine
namespace Mine.Drv
open Lean Meta Elab Tactic PySem PySem.W PySem.W.X PySem.W.XRun PySem.W.ZRun
/-- the fast tree of a loop's head turned back -/
def unden : TacticM Unit := withMainContext do
  let g ← getMainGoal
  let cf ← mkCfg
  let some s := staOf (← instantiateMVars (← g.getType)) | throwError "no Go"
  let t' := mkApp2 (mkConst ``denote) (mkConst ``table) s.c
  let g' ← goMVar { s with t := t' }
  let e ← mkEqSymm (← mkCongrFun cf.denE s.c)
  g.assign (mkAppN (mkConst ``Mine.go_eq) #[s.V, s.h0, s.n, s.t0, s.c, s.md, s.k, s.t, s.W, s.T, s.m, s.i, s.gl, t', e, mkMVar g'])
  replaceMainGoal [g']
/-- Up, W' and T' found -/
def up : TacticM Unit := withMainContext do
  let g ← getMainGoal
  let ty ← instantiateMVars (← g.getType)
  unless ty.isAppOfArity ``Mine.Up 9 do throwError "no Up"
  let a := ty.getAppArgs
  let x := mkConst ``Unit
  let s : Sta := ⟨x, a[0]!, a[1]!, x, x, x, x, x, a[2]!, a[3]!, x, x, x⟩
  let ad ← addrNF a[4]!
  let some (o, _, W', T', u) ← turn s ad (fun _ => return a[6]!) | throwError "up: nothing known"
  unless ← isDefEq a[5]! o do throwError "up: {o}"
  unless ← isDefEq a[7]! W' do throwError "up: W"
  unless ← isDefEq a[8]! T' do throwError "up: T"
  g.assign u
  replaceMainGoal []
/-- what is to be shown at a head that several ways reach is asked last; the ways say which head it is -/
def share (nm : Name) (keep : List Name) (npos : Nat) (J : TacticM (TSyntax `term)) : TacticM Unit := do
  let g ← getMainGoal
  let rest := (← getGoals).tail!
  let (key, m) ← g.withContext do
    let some s := staOf (← instantiateMVars (← g.getType)) | throwError "share: no Go"
    let Jt ← J
    let JE ← Term.elabTerm Jt (some (← mkArrow (mkConst ``Heap) (.sort .zero)))
    Term.synthesizeSyntheticMVarsNoPostponing
    let JE ← instantiateMVars JE
    let mut l ← getLCtx
    for d in (← getLCtx).foldl (fun a d => d :: a) [] do
      unless d.isImplementationDetail || keep.contains d.userName do l := l.erase d.fvarId
    let posT := mkConst ``Pos
    let rec fnT (ty : Lean.Expr) : Nat → Lean.Expr
      | 0 => ty
      | k + 1 => .forallE `p posT (fnT ty k) .default
    let mk (ty : Lean.Expr) : MetaM Lean.Expr := mkFreshExprMVarAt l #[] (fnT ty npos)
    let c ← mk (mkConst ``Code)
    let md ← mk (mkApp (mkConst ``Option [0]) (mkApp (mkConst ``List [0]) (mkConst ``Frame)))
    let k ← mk (mkConst ``Kont)
    let tr ← mk (mkApp (mkConst ``Sem) (mkConst ``PySem.Fin))
    let ds := (Array.range npos).map fun _ => (`pp, fun (_ : Array Lean.Expr) => (pure posT : TacticM Lean.Expr))
    let P ← withLocalDeclsD ds fun ps => withLocalDeclD `h' (mkConst ``Heap) fun h => withLocalDeclD `t' natTy fun t => withLocalDeclD `n' natTy fun n => do
      let sz := mkApp2 (mkConst ``Array.size [0]) (mkConst ``Obj) (mkApp (mkConst ``Heap.objs) h)
      withLocalDeclD `hn (mkApp3 (mkConst ``Eq [1]) natTy sz n) fun hn => withLocalDeclD `hJ (mkApp JE h).headBeta fun hJ => do
        let pT := mkApp2 (mkConst ``Prod [0, 0]) natTy (mkConst ``Obj)
        let s' : Sta := { s with h0 := h, n := n, t0 := t, c := mkAppN c ps, md := mkAppN md ps, k := mkAppN k ps, t := mkAppN tr ps, W := mkApp (mkConst ``List.nil [0]) pT, T := mkConst ``BT.nil, m := mkRawNatLit 0, i := mkRawNatLit 0 }
        mkForallFVars (ps ++ #[h, t, n, hn, hJ]) s'.ty
    let key ← newMVar P
    let m ← newMVar (.forallE nm P (← g.getType) .default)
    g.assign (mkApp m key)
    return (key, m)
  let (_, m') ← m.mvarId!.intro nm
  setGoals (m' :: key.mvarId! :: rest)
end Mine.Drv

end
-- E10
section
open PySem PySem.W PySem.W.X PyProof.Rows
set_option maxRecDepth 100000
set_option Elab.async false
set_option maxHeartbeats 0
namespace Mine
theorem DE.at {es : List DictEntry} {kvs : List (Int × Value)} (h : DE es kvs) : ∀ {i : Nat} {k : Int} {v : Value}, kvs[i]? = some (k, v) → ∃ tk, es[i]? = some ⟨hashInt k, .int k tk, v⟩ := by
  induction h with
  | nil => intro i k v h; simp at h
  | cons k t v _ ih =>
    intro i k' v' h
    cases i with
    | zero => simp at h; obtain ⟨rfl, rfl⟩ := h; exact ⟨t, rfl⟩
    | succ i => simpa using ih (by simpa using h)
theorem kv_get {n : Nat} {nm : Nat → Int} {f : Nat → Value} {i : Nat} (h : i < n) : (kv n nm f)[i]? = some (nm i, f i) := by
  unfold kv
  rw [List.getElem?_map, List.getElem?_range h]; rfl
theorem kv_len (n : Nat) (nm : Nat → Int) (f : Nat → Value) : (kv n nm f).length = n := by simp [kv]

abbrev itemIt (dd : Addr) (k n ep : Int) (ok ov : Value) : Obj := { cls := .type "dict_itemiterator", dict := none, data := .fields #[.none, .bool false, .ref dd, .int k 0, .int n 0, .int ep 0, ok, ov], slots := #[] }
/-- costs by the nodes' names -/
def CostD (nm c : Nat → Int) (k : Nat) (h : Heap) (a : Addr) : Prop := ∃ (es : List DictEntry) (ep : Nat) (tg : Nat → Nat), h.get? a = some (dictO es ep) ∧ DE es (kv k nm (fun i => .int (c i) (tg i)))
theorem kv_congr {n : Nat} {nm : Nat → Int} {f g : Nat → Value} (e : ∀ i, i < n → f i = g i) : kv n nm f = kv n nm g := by
  unfold kv
  apply List.map_congr_left
  intro i hi
  rw [e i (List.mem_range.mp hi)]
theorem CostD.snoc {nm c : Nat → Int} {k : Nat} {es : List DictEntry} {tg : Nat → Nat} {h : Heap} {a : Addr} {ep t tv : Nat} (hd : DE es (kv k nm (fun i => .int (c i) (tg i))))
    (ho : h.get? a = some (dictO (es ++ [⟨hashInt (nm k), .int (nm k) t, .int (c k) tv⟩]) ep)) : CostD nm c (k + 1) h a := by
  refine ⟨_, _, fun i => if i = k then tv else tg i, ho, ?_⟩
  rw [kv_snoc]
  have e : kv k nm (fun i => Value.int (c i) (if i = k then tv else tg i)) = kv k nm (fun i => .int (c i) (tg i)) := by
    apply kv_congr
    intro i hi
    rw [if_neg (by omega)]
  rw [e]
  simp only [if_true]
  exact hd.snoc _ _ _
theorem Kp.new {h h₁ h' : Heap} {M : List Addr} (a : Kp h [] h₁) (b : Kp h₁ M h') (hm : ∀ x ∈ M, h.objs.size ≤ x) : Kp h [] h' :=
  ⟨fun x o e _ => b.keep x o (a.keep x o e (fun _ q => nomatch q)) (fun y hy q => Nat.lt_irrefl _ (Nat.lt_of_lt_of_le (lk_size e) (q ▸ hm y hy))), Nat.le_trans a.size b.size⟩
/-- behind the cost table -/
def J10 (w : World) (nm c : Nat → Int) (sz n epn : Nat) (h h' : Heap) : Prop :=
  Kp h [] h' ∧ PK h h' ∧ n + 6 ≤ h'.objs.size ∧ (∃ tk, h'.get? n = some (frameO [en w Nm.G tk (.ref 673)] 1)) ∧ (∃ x tx y, h'.get? (n + 3 : Nat) = some (itemIt 679 (sz : Nat) (sz : Nat) epn (.int x tx) (.ref y)))
    ∧ (∃ v, h'.get? (n + 1 : Nat) = some (cellO (some v))) ∧ CostD nm c sz h' (n + 4 : Nat) ∧ (∃ v tk v2 tk2, h'.get? (n + 5 : Nat) = some (dictO [en w Nm.n tk v, en w Nm.d tk2 v2] 2))
abbrev LRs := (Nat → Int) × List Nat
/-- a step of the local ratio -/
def lrStep (s : LRs) (e : Nat × Nat) : LRs := if e.1 ∈ s.2 ∨ e.2 ∈ s.2 then s else if s.1 e.1 ≤ s.1 e.2 then (fun k => if k = e.2 then s.1 e.2 - s.1 e.1 else s.1 k, s.2 ++ [e.1]) else (fun k => if k = e.1 then s.1 e.1 - s.1 e.2 else s.1 k, s.2 ++ [e.2])
def outE (i : Nat) (l : List Nat) : List (Nat × Nat) := (l.filter (fun y => decide (i ≤ y))).map (fun y => (i, y))
def eoN (nb : Nat → List Nat) (i : Nat) : List (Nat × Nat) := (List.range i).flatMap fun k => outE k (nb k)
def lrAt (c : Nat → Int) (es : List (Nat × Nat)) : LRs := es.foldl lrStep (c, [])
theorem eoN_succ (nb : Nat → List Nat) (i : Nat) : eoN nb (i + 1) = eoN nb i ++ outE i (nb i) := by
  unfold eoN; rw [List.range_succ, List.flatMap_append]; simp
theorem outE_take_yes {i j y : Nat} {l : List Nat} (hy : l[j]? = some y) (h : i ≤ y) : outE i (l.take (j + 1)) = outE i (l.take j) ++ [(i, y)] := by
  unfold outE; rw [List.take_add_one, hy]; simp [List.filter_append, h]
theorem outE_take_no {i j y : Nat} {l : List Nat} (hy : l[j]? = some y) (h : ¬ i ≤ y) : outE i (l.take (j + 1)) = outE i (l.take j) := by
  unfold outE; rw [List.take_add_one, hy]; simp [List.filter_append, h]
theorem lrAt_snoc (c : Nat → Int) (es : List (Nat × Nat)) (e : Nat × Nat) : lrAt c (es ++ [e]) = lrStep (lrAt c es) e := by simp [lrAt, List.foldl_append]
/-- the costs that are left and the cover so far lie in the heap -/
def LRh (nm : Nat → Int) (sz : Nat) (a b : Addr) (s : LRs) (h : Heap) : Prop :=
  CostD nm s.1 sz h a ∧ ∃ es ep t, h.get? b = some (setO es ep t) ∧ SS es t (fun z => decide (z ∈ s.2.map nm)) s.2.length
/-- the nodes that the view has told -/
def SeenD (nm : Nat → Int) (k : Nat) (h : Heap) (a : Addr) : Prop := ∃ (es : List DictEntry) (ep : Nat) (tg : Nat → Nat), h.get? a = some (dictO es ep) ∧ DE es (kv k nm (fun i => .int 1 (tg i)))
theorem SeenD.snoc {nm : Nat → Int} {k : Nat} {es : List DictEntry} {tg : Nat → Nat} {h : Heap} {a : Addr} {ep t tv : Nat} (hd : DE es (kv k nm (fun i => .int 1 (tg i))))
    (ho : h.get? a = some (dictO (es ++ [⟨hashInt (nm k), .int (nm k) t, .int 1 tv⟩]) ep)) : SeenD nm (k + 1) h a := by
  refine ⟨_, _, fun i => if i = k then tv else tg i, ho, ?_⟩
  rw [kv_snoc]
  have e : kv k nm (fun i => Value.int 1 (if i = k then tv else tg i)) = kv k nm (fun i => .int 1 (tg i)) := by
    apply kv_congr
    intro i hi
    rw [if_neg (by omega)]
  rw [e]
  simp only [if_true]
  exact hd.snoc _ _ _
/-- the consumer's names -/
def LocC (w : World) (n n1 : Nat) (b : Bool) (h : Heap) : Prop :=
  ∃ tG tc tv es ep, h.get? n = some (frameO es ep) ∧ (b = false → ep = 3 ∧ es = [en w Nm.G tG (.ref 673), en w Nm.cost tc (.ref (n + 4)), en w Nm.cover tv (.ref n1)])
    ∧ (b = true → ep = 5 ∧ ∃ t1 v1 t2 v2, es = [en w Nm.G tG (.ref 673), en w Nm.cost tc (.ref (n + 4)), en w Nm.cover tv (.ref n1), en w Nm.u t1 v1, en w Nm.v t2 v2])
/-- the view's names: none yet, a node and its neighbours, a neighbour too -/
def LocG (w : World) (a s sn : Nat) (k : Nat) (h : Heap) : Prop :=
  ∃ t1 t2 es ep, h.get? a = some (frameO es ep) ∧ (k = 0 → ep = 2 ∧ es = [en w Nm.self t1 (.ref s), en w Nm.seen t2 (.ref sn)])
    ∧ (k = 1 → ep = 4 ∧ ∃ t3 v3 t4 v4, es = [en w Nm.self t1 (.ref s), en w Nm.seen t2 (.ref sn), en w Nm.n t3 v3, en w Nm.nbrs t4 v4])
    ∧ (k = 2 → ep = 5 ∧ ∃ t3 v3 t4 v4 t5 v5, es = [en w Nm.self t1 (.ref s), en w Nm.seen t2 (.ref sn), en w Nm.n t3 v3, en w Nm.nbrs t4 v4, en w Nm.nbr t5 v5])
abbrev keyIt (dd : Addr) (k n ep : Int) : Obj := { cls := .type "dict_keyiterator", dict := none, data := .fields #[.ref dd, .int k 0, .int n 0, .int ep 0], slots := #[] }
theorem key_at {kvs : List (Int × Value)} {l : List Nat} {nm : Nat → Int} (e : kvs.map (·.1) = l.map nm) {j y : Nat} (hy : l[j]? = some y) : ∃ v, kvs[j]? = some (nm y, v) := by
  have h : (kvs.map (·.1))[j]? = (l.map nm)[j]? := by rw [e]
  rw [List.getElem?_map, List.getElem?_map, hy] at h
  cases q : kvs[j]? with
  | none => rw [q] at h; cases h
  | some x =>
    rw [q] at h
    obtain ⟨a, b⟩ := x
    simp at h
    subst h
    exact ⟨b, rfl⟩
theorem key_ref {kvs : List (Int × Value)} (h : ∀ p ∈ kvs, ∃ a, p.2 = Value.ref a) {j : Nat} {k : Int} {v : Value} (hj : kvs[j]? = some (k, v)) : ∃ a, v = .ref a := h _ (List.mem_of_getElem? hj)
theorem dentry {es : List DictEntry} {j : Nat} {x : DictEntry} (h : es[j]? = some x) : ∀ hh : ((j : Nat) : Int).toNat < es.toArray.size, es.toArray[((j : Nat) : Int).toNat]'hh = x := by
  intro hh
  have := (List.getElem?_eq_some_iff.mp h).2
  simpa using this
/-- the view's names at a node -/
def LocGi (w : World) (a s sn : Nat) (x : Int) (nbrs : Addr) (b : Bool) (h : Heap) : Prop :=
  ∃ t1 t2 t3 t3' t4 es ep, h.get? a = some (frameO es ep) ∧ (b = false → ep = 4 ∧ es = [en w Nm.self t1 (.ref s), en w Nm.seen t2 (.ref sn), en w Nm.n t3 (.int x t3'), en w Nm.nbrs t4 (.ref nbrs)])
    ∧ (b = true → ep = 5 ∧ ∃ t5 v5, es = [en w Nm.self t1 (.ref s), en w Nm.seen t2 (.ref sn), en w Nm.n t3 (.int x t3'), en w Nm.nbrs t4 (.ref nbrs), en w Nm.nbr t5 v5])
/-- behind the copy's start -/
def J11 (w : World) (nm : Nat → Int) (sz i n n' n3 m epi epa : Nat) (b : Bool) (s : LRs) (h₂ h : Heap) : Prop :=
  Kp h₂ [n, n + 4, n' + 2, n' + 11, n' + 13, n' + 16] h ∧ PK h₂ h ∧ n3 + 6 ≤ h.objs.size ∧ (∃ tk, h.get? (n' + 16 : Nat) = some (itemIt 681 ((i + 1 : Nat) : Int) (sz : Nat) epa (.int (nm i) tk) (.ref (10 * i + 694 : Nat))))
    ∧ SeenD nm i h (n' + 13 : Nat) ∧ LRh nm sz (n + 4) (n' + 2) s h ∧ h.get? (n3 + 4 : Nat) = some (listO [] 2) ∧ h.get? (n3 + 5 : Nat) = some (keyIt (10 * i + 694 : Nat) ((0 : Nat) : Int) (m : Nat) epi)
    ∧ LocC w n (n' + 2) b h ∧ LocGi w (n' + 11) (n' + 6) (n' + 13) (nm i) (10 * i + 694 : Nat) b h
theorem CostD.put {nm c : Nat → Int} {sz : Nat} {tg : Nat → Nat} {h : Heap} {a : Addr} {es : List DictEntry} {ep j tv : Nat} {v : Int} (ho : h.get? a = some (dictO es ep))
    (hd : DE es ((kv sz nm (fun i => .int (c i) (tg i))).map fun p => if p.1 = nm j then (p.1, .int v tv) else p)) (inj : ∀ i j, i < sz → j < sz → nm i = nm j → i = j) (hj : j < sz) : CostD nm (fun k => if k = j then v else c k) sz h a := by
  rw [kv_store _ (Nat.le_refl sz) inj hj] at hd
  refine ⟨es, ep, fun k => if k = j then tv else tg k, ho, ?_⟩
  have e : kv sz nm (fun i => Value.int (if i = j then v else c i) (if i = j then tv else tg i)) = kv sz nm (fun i => if i = j then .int v tv else .int (c i) (tg i)) := by
    apply kv_congr
    intro i _
    by_cases h : i = j <;> simp [h]
  rw [e]
  exact hd
theorem SS.add {nm : Nat → Int} {es : Array (Int × Value)} {t : SetTable} {S : Int → Bool} {cov : List Nat} {u : Nat} (hS : S = fun z => decide (z ∈ cov.map nm)) (x : SS es t (fun z => S z || decide (z = nm u)) (cov.length + 1)) :
    SS es t (fun z => decide (z ∈ (cov ++ [u]).map nm)) (cov ++ [u]).length := by
  subst hS
  refine x.congr (fun k => ?_) (by simp)
  simp only [List.map_append, List.map_cons, List.map_nil, List.mem_append, List.mem_singleton, Bool.decide_or]
theorem in_map {nm : Nat → Int} {b : Nat} (inj : ∀ i j, i < b → j < b → nm i = nm j → i = j) {l : List Nat} (hl : ∀ z ∈ l, z < b) {x : Nat} (hx : x < b) : (nm x ∈ l.map nm) ↔ x ∈ l := by
  constructor
  · intro h
    obtain ⟨z, hz, e⟩ := List.mem_map.mp h
    exact inj z x (hl z hz) hx e ▸ hz
  · exact List.mem_map_of_mem
/-- the cover holds ends of edges -/
theorem lrAt_lt {c : Nat → Int} {b : Nat} {es : List (Nat × Nat)} (h : ∀ e ∈ es, e.1 < b ∧ e.2 < b) : ∀ z ∈ (lrAt c es).2, z < b := by
  have : ∀ (es : List (Nat × Nat)) (s : LRs), (∀ z ∈ s.2, z < b) → (∀ e ∈ es, e.1 < b ∧ e.2 < b) → ∀ z ∈ (es.foldl lrStep s).2, z < b := by
    intro es
    induction es with
    | nil => intro s h _; exact h
    | cons e es ih =>
      intro s hs he
      refine ih _ ?_ (fun e' h' => he e' (List.mem_cons_of_mem _ h'))
      have := he e (List.mem_cons_self ..)
      unfold lrStep
      split
      · exact hs
      · split <;> (intro z hz; simp only [List.mem_append, List.mem_singleton] at hz; rcases hz with hz | rfl; exact hs z hz; omega)
  exact this es _ (fun z hz => by simp at hz) h
theorem outE_mem {i : Nat} {l : List Nat} {e : Nat × Nat} (h : e ∈ outE i l) : e.1 = i ∧ e.2 ∈ l ∧ i ≤ e.2 := by
  unfold outE at h
  obtain ⟨y, hy, rfl⟩ := List.mem_map.mp h
  have := List.mem_filter.mp hy
  exact ⟨rfl, this.1, by simpa using this.2⟩
theorem eoN_mem {nb : Nat → List Nat} {i : Nat} {e : Nat × Nat} (h : e ∈ eoN nb i) : e.1 < i ∧ e.2 ∈ nb e.1 ∧ e.1 ≤ e.2 := by
  unfold eoN at h
  obtain ⟨k, hk, he⟩ := List.mem_flatMap.mp h
  have := outE_mem he
  rw [← this.1] at hk
  exact ⟨List.mem_range.mp hk, by rw [this.1]; exact this.2.1, by rw [this.1]; exact this.2.2⟩
theorem eoN_nil {nb : Nat → List Nat} {i : Nat} (h : ∀ k, k < i → nb k = []) : eoN nb i = [] := by
  unfold eoN
  rw [List.flatMap_eq_nil_iff]
  intro k hk
  rw [h k (List.mem_range.mp hk)]; rfl
theorem lrAt_len (c : Nat → Int) (es : List (Nat × Nat)) : (lrAt c es).2.length ≤ es.length := by
  have : ∀ (es : List (Nat × Nat)) (s : LRs), (es.foldl lrStep s).2.length ≤ s.2.length + es.length := by
    intro es
    induction es with
    | nil => intro s; simp
    | cons e es ih =>
      intro s
      have h1 := ih (lrStep s e)
      have h2 : (lrStep s e).2.length ≤ s.2.length + 1 := by
        unfold lrStep
        split
        · omega
        · split <;> simp
      simp only [List.foldl_cons, List.length_cons]
      omega
  simpa [lrAt] using this es (c, [])
theorem outE_len {i : Nat} {l : List Nat} : (outE i l).length ≤ l.length := by
  unfold outE
  rw [List.length_map]
  exact List.length_filter_le ..
theorem eoN_len {nb : Nat → List Nat} (h : ∀ i, (nb i).length ≤ 21) (i : Nat) : (eoN nb i).length ≤ 21 * i := by
  induction i with
  | zero => simp [eoN]
  | succ i ih =>
    rw [eoN_succ, List.length_append]
    have := outE_len (i := i) (l := nb i)
    have := h i
    omega
/-- the graph's own names, edges told -/
abbrev Own2 (w : World) (h : Heap) : Prop := ∃ t1 t2 t3 t4 ed, h.get? 672 = some { cls := .type "dict", dict := none, data := .dict [en w Nm.graph t1 (.ref 677), en w Nm.x_node t2 (.ref 679), en w Nm.x_adj t3 (.ref 681), en w Nm.edges t4 (.ref ed)].toArray 4, slots := #[none] }
end Mine

end
-- E11
section
open PySem PySem.W PySem.W.X PyProof.Rows
set_option maxRecDepth 100000
set_option Elab.async false
set_option maxHeartbeats 0
namespace Mine
/-- a list of numbers -/
def NumL (h : Heap) (a : Addr) (ns : List Int) : Prop := ∃ us e, h.get? a = some (listO us e) ∧ IntsAre us ns
/-- a list of pairs -/
def PairL (h : Heap) (a : Addr) (ps : List (Nat × Nat)) : Prop := ∃ us e, h.get? a = some (listO us e) ∧ PV h us ps
/-- a set of names -/
def NameS (nm : Nat → Int) (h : Heap) (a : Addr) (cov : List Nat) : Prop := ∃ es ep t, h.get? a = some (setO es ep t) ∧ SS es t (fun z => decide (z ∈ cov.map nm)) cov.length
/-- what stands behind the call -/
structure E11 (w : World) (H0 : Heap) (N nm wt : Nat → Int) (sz : Nat) (jn : List (Nat × Nat)) (nb : Nat → List Nat) (cov : List Nat) (p q τ n : Nat) (h : Heap) : Prop where
  env : Env w H0 N nm wt sz h
  hp : 10 * sz + 689 ≤ p
  hpq : p < q
  hqt : q < τ
  htn : τ < n
  own : Own2 w h
  adj : Adj sz nm nb h
  c648 : h.get? 648 = some (cellO (some (.ref q)))
  c649 : h.get? 649 = some (cellO (some (.ref τ)))
  prs : PairL h p (pairsOf sz)
  jnd : PairL h q jn
  told : NameS nm h τ cov

theorem ne3 (a : Nat) (h1 : a ≠ 643) (h2 : a ≠ 650) (h3 : a ≠ 651) : ∀ x ∈ ([643, 650, 651] : List Addr), x ≠ a := by
  intro x hx
  simp only [List.mem_cons, List.not_mem_nil, or_false] at hx
  rcases hx with rfl | rfl | rfl <;> (intro e; first | exact h1 e.symm | exact h2 e.symm | exact h3 e.symm)
theorem NumL.keep {h h' : Heap} {a : Nat} {ns : List Int} (x : NumL h a ns) (K : Kp h [643, 650, 651] h') (ha : 652 ≤ a) : NumL h' a ns :=
  let ⟨us, e, h1, h2⟩ := x
  ⟨us, e, K.keep _ _ h1 (ne3 a (by omega) (by omega) (by omega)), h2⟩
theorem PairL.keep {h h' : Heap} {a : Nat} {ps : List (Nat × Nat)} (x : PairL h a ps) (K : Kp h [643, 650, 651] h') (P : PK h h') (ha : 652 ≤ a) : PairL h' a ps :=
  let ⟨us, e, h1, h2⟩ := x
  ⟨us, e, K.keep _ _ h1 (ne3 a (by omega) (by omega) (by omega)), h2.mono P⟩
theorem E11.keep {w : World} {H0 : Heap} {N nm wt : Nat → Int} {sz : Nat} {jn : List (Nat × Nat)} {nb : Nat → List Nat} {cov : List Nat} {p q τ n n' : Nat} {h h' : Heap} (E : E11 w H0 N nm wt sz jn nb cov p q τ n h)
    (hn : h.objs.size = n) (hn' : h'.objs.size = n') (K : Kp h [643, 650, 651] h') (P : PK h h') : E11 w H0 N nm wt sz jn nb cov p q τ n' h' := by
  obtain ⟨⟨kt, c644, c645, c647, ⟨us, e, lst, hus⟩, ⟨un, en', nam, hun⟩, ⟨uw, ew, wei, huw⟩, g673, ⟨esn, epn, node, hden⟩, ⟨esa, epa, adj, hdea⟩, ⟨ft, gt, att⟩⟩, hp, hpq, hqt, htn, ⟨t1, t2, t3, t4, ed, g672⟩, adjs, c648, c649, prs, jnd, ⟨est, ept, tst, tset, hSS⟩⟩ := E
  have k : ∀ (a : Nat) o, h.get? a = some o → a ≠ 643 → a ≠ 650 → a ≠ 651 → h'.get? a = some o := fun a o e h1 h2 h3 => K.keep a o e (ne3 a h1 h2 h3)
  refine ⟨⟨kt.kp K ?_, k _ _ c644 (by decide) (by decide) (by decide), k _ _ c645 (by decide) (by decide) (by decide), k _ _ c647 (by decide) (by decide) (by decide), ⟨us, e, k _ _ lst (by decide) (by decide) (by decide), hus⟩,
    ⟨un, en', k _ _ nam (by decide) (by decide) (by decide), hun⟩, ⟨uw, ew, k _ _ wei (by decide) (by decide) (by decide), huw⟩, k _ _ g673 (by decide) (by decide) (by decide), ⟨esn, epn, k _ _ node (by decide) (by decide) (by decide), hden⟩,
    ⟨esa, epa, k _ _ adj (by decide) (by decide) (by decide), hdea⟩, ⟨ft, gt, fun i hi => k _ _ (att i hi) (by omega) (by omega) (by omega)⟩⟩, hp, hpq, hqt, ?_, ⟨t1, t2, t3, t4, ed, k _ _ g672 (by decide) (by decide) (by decide)⟩, ?_,
    k _ _ c648 (by decide) (by decide) (by decide), k _ _ c649 (by decide) (by decide) (by decide), prs.keep K P (by omega), jnd.keep K P (by omega), ⟨est, ept, tst, k _ _ tset (by omega) (by omega) (by omega), hSS⟩⟩
  · intro y hy
    simp only [List.mem_cons, List.not_mem_nil, or_false] at hy
    rcases hy with rfl | rfl | rfl <;> decide
  · have := K.size
    omega
  · intro i hi
    obtain ⟨es, ep, kvs, h1, h2⟩ := adjs i hi
    exact ⟨es, ep, kvs, k _ _ h1 (by omega) (by omega) (by omega), h2⟩
/-- the nodes that are told, as numbers -/
def covL (cov : List Nat) (k : Nat) : List Int := ((List.range k).filter (fun i => decide (i ∈ cov))).map (fun i : Nat => (i : Int))
theorem covL_yes {cov : List Nat} {k : Nat} (h : k ∈ cov) : covL cov (k + 1) = covL cov k ++ [(k : Int)] := by
  unfold covL; rw [List.range_succ, List.filter_append, List.map_append]; simp [h]
theorem covL_no {cov : List Nat} {k : Nat} (h : k ∉ cov) : covL cov (k + 1) = covL cov k := by
  unfold covL; rw [List.range_succ, List.filter_append, List.map_append]; simp [h]
theorem covL_len (cov : List Nat) (k : Nat) : (covL cov k).length ≤ k := by
  unfold covL
  rw [List.length_map]
  have := List.length_filter_le (fun i => decide (i ∈ cov)) (List.range k)
  simpa using this
theorem covL_mem {cov : List Nat} {k i : Nat} : ((i : Nat) : Int) ∈ covL cov k ↔ i < k ∧ i ∈ cov := by
  unfold covL
  simp only [List.mem_map, List.mem_filter, List.mem_range, decide_eq_true_eq]
  constructor
  · rintro ⟨a, h, e⟩
    have : a = i := by omega
    exact this ▸ h
  · exact fun h => ⟨i, h, rfl⟩
/-- the graph's own names, edges and adj told -/
abbrev Own3 (w : World) (h : Heap) : Prop := ∃ t1 t2 t3 t4 ed t5, h.get? 672 = some { cls := .type "dict", dict := none, data := .dict [en w Nm.graph t1 (.ref 677), en w Nm.x_node t2 (.ref 679), en w Nm.x_adj t3 (.ref 681), en w Nm.edges t4 (.ref ed), en w Nm.adj t5 (.ref 681)].toArray 5, slots := #[none] }
/-- what stands behind the cover -/
structure E12 (w : World) (H0 : Heap) (N nm wt : Nat → Int) (sz : Nat) (jn : List (Nat × Nat)) (nb : Nat → List Nat) (cov : List Nat) (cw : Nat → Int) (p q τ wl cv n : Nat) (h : Heap) : Prop where
  e : E11 w H0 N nm wt sz jn nb cov p q τ n h
  wlh : wl = 668 ∨ (τ < wl ∧ wl < n)
  c646 : h.get? 646 = some (cellO (some (.ref wl)))
  wts : NumL h wl (tab sz cw)
  cvh : τ < cv ∧ cv < n
  c650 : h.get? 650 = some (cellO (some (.ref cv)))
  cvs : NumL h cv (covL cov sz)
theorem E12.keep {w : World} {H0 : Heap} {N nm wt : Nat → Int} {sz : Nat} {jn : List (Nat × Nat)} {nb : Nat → List Nat} {cov : List Nat} {cw : Nat → Int} {p q τ wl cv n n' : Nat} {h h' : Heap} (E : E12 w H0 N nm wt sz jn nb cov cw p q τ wl cv n h)
    (hn : h.objs.size = n) (hn' : h'.objs.size = n') (K : Kp h [643, 651] h') (P : PK h h') : E12 w H0 N nm wt sz jn nb cov cw p q τ wl cv n' h' := by
  obtain ⟨e, wlh, c646, wts, cvh, c650, cvs⟩ := E
  have K' : Kp h [643, 650, 651] h' := ⟨fun b o e q => K.keep b o e fun x hx => q x (by simp only [List.mem_cons, List.not_mem_nil, or_false] at hx ⊢; rcases hx with h | h <;> simp [h]), K.size⟩
  have hp := e.hp
  have hpq := e.hpq
  have hqt := e.hqt
  have hs := K.size
  refine ⟨e.keep hn hn' K' P, ?_, K.keep _ _ c646 ?_, wts.keep K' (by omega), ⟨cvh.1, by omega⟩, K.keep _ _ c650 ?_, cvs.keep K' (by omega)⟩
  · rcases wlh with h | h
    · exact .inl h
    · exact .inr ⟨h.1, by omega⟩
  · intro x hx
    simp only [List.mem_cons, List.not_mem_nil, or_false] at hx
    rcases hx with rfl | rfl <;> decide
  · intro x hx
    simp only [List.mem_cons, List.not_mem_nil, or_false] at hx
    rcases hx with rfl | rfl <;> decide
theorem Env.keep {w : World} {H0 : Heap} {N nm wt : Nat → Int} {sz : Nat} {h h' : Heap} (E : Env w H0 N nm wt sz h) (K : Kp h [643, 651, 672] h') : Env w H0 N nm wt sz h' := by
  obtain ⟨kt, c644, c645, c647, ⟨us, e, lst, hus⟩, ⟨un, en', nam, hun⟩, ⟨uw, ew, wei, huw⟩, g673, ⟨esn, epn, node, hden⟩, ⟨esa, epa, adj, hdea⟩, ⟨ft, gt, att⟩⟩ := E
  have ne : ∀ a : Nat, a ≠ 643 → a ≠ 651 → a ≠ 672 → ∀ x ∈ ([643, 651, 672] : List Addr), x ≠ a := by
    intro a h1 h2 h3 x hx
    simp only [List.mem_cons, List.not_mem_nil, or_false] at hx
    rcases hx with rfl | rfl | rfl <;> (intro e; first | exact h1 e.symm | exact h2 e.symm | exact h3 e.symm)
  have k : ∀ (a : Nat) o, h.get? a = some o → a ≠ 643 → a ≠ 651 → a ≠ 672 → h'.get? a = some o := fun a o e h1 h2 h3 => K.keep a o e (ne a h1 h2 h3)
  refine ⟨kt.kp K ?_, k _ _ c644 (by decide) (by decide) (by decide), k _ _ c645 (by decide) (by decide) (by decide), k _ _ c647 (by decide) (by decide) (by decide), ⟨us, e, k _ _ lst (by decide) (by decide) (by decide), hus⟩,
    ⟨un, en', k _ _ nam (by decide) (by decide) (by decide), hun⟩, ⟨uw, ew, k _ _ wei (by decide) (by decide) (by decide), huw⟩, k _ _ g673 (by decide) (by decide) (by decide), ⟨esn, epn, k _ _ node (by decide) (by decide) (by decide), hden⟩,
    ⟨esa, epa, k _ _ adj (by decide) (by decide) (by decide), hdea⟩, ⟨ft, gt, fun i hi => k _ _ (att i hi) (by omega) (by omega) (by omega)⟩⟩
  intro y hy
  simp only [List.mem_cons, List.not_mem_nil, or_false] at hy
  rcases hy with rfl | rfl | rfl <;> decide
end Mine

end
-- Spec4
section
open PySem PySem.W PySem.W.X PyProof.Rows
set_option maxRecDepth 100000
set_option Elab.async false
namespace Mine
def eqI (k : Int) : Value → Bool
  | .int a _ => a == k
  | _ => false
theorem any_ints {us : List Value} {ns : List Int} (h : IntsAre us ns) (k : Int) : us.toArray.any (eqI k) = decide (k ∈ ns) := by
  rw [List.any_toArray]
  induction h with
  | nil => simp
  | cons n t _ ih => rw [List.any_cons, ih]; simp only [eqI, List.mem_cons, Bool.decide_or]; congr 1; by_cases e : n = k
                     · subst e; simp
                     · have e' : ¬ k = n := fun q => e q.symm
                       simp [e, e']
theorem eq_ints {us : List Value} {ns : List Int} (h : IntsAre us ns) (k : Int) (t : Nat) : ∀ y, y ∈ us.toArray → MeetsSeq.EqGives y (.int k t) (eqI k y) := by
  intro y hy
  have hy' : y ∈ us := by simpa using hy
  clear hy
  induction h with
  | nil => cases hy'
  | cons n u _ ih =>
    rcases List.mem_cons.mp hy' with rfl | h
    · exact MeetsSeq.EqGives.int n k u t
    · exact ih h
section
variable {prog : Program} {w : World} {A : Around} {R : Result → Shared → Prop} {s : Shared}
theorem spec_list_contains_yes {l : Addr} {us : List Value} {e : Nat} {ns : List Int} {k : Int} {t : Tok} (ho : s.heap.get? l = some (listO us e)) (hi : IntsAre us ns) (hv : k ∈ ns)
    (h : R (.ok (.ret (.bool true))) s) : codeAny (model prog w) A (.call (.builtin "list.__contains__") ⟨[.ref l, .int k t], []⟩) R s := by
  refine code_of_meets F.slot_list_contains (typeIs_obj ho) F.entry_list_contains (F.args_list_contains_2 _ _) ((SeqInW.list_containsW l us.toArray e none #[] (.int k t) (eqI k) (eq_ints hi k t)).inModel prog w) ⟨ho, ?_⟩
  rw [any_ints hi k, decide_eq_true hv]; exact h
theorem spec_list_contains_no {l : Addr} {us : List Value} {e : Nat} {ns : List Int} {k : Int} {t : Tok} (ho : s.heap.get? l = some (listO us e)) (hi : IntsAre us ns) (hv : ¬ k ∈ ns)
    (h : R (.ok (.ret (.bool false))) s) : codeAny (model prog w) A (.call (.builtin "list.__contains__") ⟨[.ref l, .int k t], []⟩) R s := by
  refine code_of_meets F.slot_list_contains (typeIs_obj ho) F.entry_list_contains (F.args_list_contains_2 _ _) ((SeqInW.list_containsW l us.toArray e none #[] (.int k t) (eqI k) (eq_ints hi k t)).inModel prog w) ⟨ho, ?_⟩
  rw [any_ints hi k, decide_eq_false hv]; exact h
theorem spec_set_len {d : Addr} {es : Array (Int × Value)} {ep : Nat} {t : SetTable} {S : Int → Bool} {n : Nat} (ho : s.heap.get? d = some (setO es ep t)) (hS : SS es t S n)
    (h : R (.ok (.ret (.int (n : Nat) s.toks))) { s with toks := s.toks + 1 }) : codeAny (model prog w) A (.call (.builtin "set.__len__") ⟨[.ref d], []⟩) R s := by
  refine code_of_meets (S := fun _ R' s' => s' = s ∧ R' (.ok (.ret (.int (n : Nat) s.toks))) { s with toks := s.toks + 1 }) F.slot_set_len (typeIs_obj ho) entry_set_len (F.args_set_len_1 _) (.of_wp ?_) ⟨rfl, h⟩
  rintro A R' s' ⟨rfl, h⟩
  unfold Builtin.«frozenset.__len__» Builtin.Frozenset.slot0 slotArgs
  simp only [List.isEmpty_nil, Bool.not_true, Bool.false_eq_true, ↓reduceIte, bind_assoc, List.length_nil, bne_self_eq_false]
  unfold Builtin.Frozenset.addrOf Builtin.Frozenset.sizeOf
  refine wpAny_bind (wpAny_pure ?_)
  try dsimp only
  refine wpAny_bind (wpAny_pure ?_)
  refine wpAny_bind (wpAny_bind (wpAny_setEntries_of ho rfl hS.2.2.2.1 (wpAny_pure ?_)))
  show wpAny _ _ (retInt _) _ _ _
  unfold retInt
  rw [hS.2.2.2.2]
  exact wpAny_bind (wpAny_mkInt (wpAny_pure ⟨_, rfl, h⟩))
/-- a pair of numbers -/
theorem any_pair (i j k : Int) (ti tj : Nat) : (#[Value.int i ti, Value.int j tj] : Array Value).any (eqI k) = decide (i = k ∨ j = k) := by
  have : (#[Value.int i ti, Value.int j tj] : Array Value).any (eqI k) = ([Value.int i ti, Value.int j tj].any (eqI k)) := List.any_toArray ..
  rw [this]
  simp [eqI, Bool.decide_or]
  rfl
theorem eq_pair (i j k : Int) (ti tj t : Nat) : ∀ y, y ∈ (#[Value.int i ti, Value.int j tj] : Array Value) → MeetsSeq.EqGives y (.int k t) (eqI k y) := by
  intro y hy
  have hy' : y ∈ [Value.int i ti, Value.int j tj] := by simpa using hy
  rcases List.mem_cons.mp hy' with rfl | hy'
  · exact MeetsSeq.EqGives.int i k ti t
  · rcases List.mem_cons.mp hy' with rfl | hy'
    · exact MeetsSeq.EqGives.int j k tj t
    · cases hy'
theorem spec_tuple_contains_yes {l : Addr} {i j k : Int} {ti tj : Nat} {t : Tok} (ho : s.heap.get? l = some (pairO i j ti tj)) (hv : i = k ∨ j = k)
    (h : R (.ok (.ret (.bool true))) s) : codeAny (model prog w) A (.call (.builtin "tuple.__contains__") ⟨[.ref l, .int k t], []⟩) R s := by
  refine code_of_meets F.slot_tuple_contains (typeIs_obj ho) F.entry_tuple_contains (F.args_tuple_contains_2 _ _) ((PySem.SeqAt.tuple_containsAt l #[.int i ti, .int j tj] 0 none #[] (.int k t) (eqI k)).inModel prog w) ⟨ho, fun y hy => (eq_pair i j k ti tj t y hy).at _ _, ?_⟩
  rw [any_pair, decide_eq_true hv]; exact h
theorem spec_tuple_contains_no {l : Addr} {i j k : Int} {ti tj : Nat} {t : Tok} (ho : s.heap.get? l = some (pairO i j ti tj)) (hv : ¬ (i = k ∨ j = k))
    (h : R (.ok (.ret (.bool false))) s) : codeAny (model prog w) A (.call (.builtin "tuple.__contains__") ⟨[.ref l, .int k t], []⟩) R s := by
  refine code_of_meets F.slot_tuple_contains (typeIs_obj ho) F.entry_tuple_contains (F.args_tuple_contains_2 _ _) ((PySem.SeqAt.tuple_containsAt l #[.int i ti, .int j tj] 0 none #[] (.int k t) (eqI k)).inModel prog w) ⟨ho, fun y hy => (eq_pair i j k ti tj t y hy).at _ _, ?_⟩
  rw [any_pair, decide_eq_false hv]; exact h
end
def specsG : List (String × Lean.Name) := specsF ++ [("list.__contains__", ``spec_list_contains_yes), ("list.__contains__", ``spec_list_contains_no), ("set.__len__", ``spec_set_len), ("tuple.__contains__", ``spec_tuple_contains_yes), ("tuple.__contains__", ``spec_tuple_contains_no)]
end Mine

end
-- Spec5
section
open PySem PySem.W PySem.W.X PyProof.Rows
set_option maxRecDepth 100000
set_option Elab.async false
namespace Mine
theorem upd_size (h : Heap) (a : Addr) (f : Obj → Obj) : (h.update a f).objs.size = h.objs.size := (Heap.SameBut.update h a f).1
theorem runs_size {M : Model} {Γ : Ctx} {p : Pos} {t : Sem Fin} {fs : List Frame} {s s' : Shared} {e : End} (h : Runs M Γ p t fs s e s') : s.heap.objs.size ≤ s'.heap.objs.size := by
  induction h <;> (try simp only [Shared.setGen, Heap.size_push, upd_size] at *) <;> omega
theorem codeAny_size {M : Model} {A : Around} {c : Code} {R : Result → Shared → Prop} {s : Shared} (x : codeAny M A c R s) : codeAny M A c (fun r s' => s.heap.objs.size ≤ s'.heap.objs.size ∧ R r s') s := fun Γ p hc hΓ => by
  obtain ⟨r, s', hr, hR⟩ := x Γ p hc hΓ
  exact ⟨r, s', hr, runs_size hr, hR⟩
def natInts (us : List Value) : Array (Int × Tok) := (us.filterMap fun v => match v with | .int n t => some (n, t) | _ => none).toArray
theorem natInts_eq {us : List Value} {ns : List Int} (h : IntsAre us ns) : intItems (natInts us) = us.toArray := by
  unfold intItems natInts
  apply Array.ext'
  simp only [Array.toList_map]
  induction h with
  | nil => rfl
  | cons n t _ ih => simp only [List.filterMap_cons, List.map_cons]; rw [ih]
theorem preSum_ints {us : List Value} {ns : List Int} (h : IntsAre us ns) : preSum (PySem.numAt (natInts us)) (natInts us).size = ns.sum := by
  rw [preSum_eq, List.take_of_length_le (by simp)]
  congr 1
  unfold natInts
  induction h with
  | nil => rfl
  | cons n t _ ih => simp only [List.filterMap_cons, List.map_cons]; rw [ih]
section
variable {prog : Program} {w : World} {A : Around} {R : Result → Shared → Prop} {s : Shared}
theorem code_fn {id : String} {b : Builtin} {args : List Value} (hk : builtinKind id = none) (hp : plainId id = true) (hb : entryFor table id = some b) (ha : argsOk id ⟨args, []⟩)
    (hc : wpAny (model prog w) A.in1 (b ⟨args, []⟩) (fun fin s' => match fin with | .done f => R (.ok f) s' | .again c' => c'.quiet = true ∧ codeAny (model prog w) A c' R s') (fun e s' => R (.error e) s') s) :
    codeAny (model prog w) A (.call (.builtin id) ⟨args, []⟩) R s := by
  refine codeAny_call_builtin hp hb ?_
  simp only [checkBuiltinCall, hk]
  cases hsig : Manifest.signature? id with
  | none => exact wpAny_pure hc
  | some sig =>
    simp only [argsOk, hsig] at ha
    have h2 : Bind.checkArgs id sig ⟨args, []⟩ = pure () := ha
    show wpAny _ A.in1 (Bind.checkArgs id sig ⟨args, []⟩) _ _ s
    rw [h2]; exact wpAny_pure hc
theorem spec_sum {hh : Heap} {gs : Array GenState} {dr : Drawn} {tks : Nat} {os : OsState} {l : Addr} {us : List Value} {e : Nat} {ns : List Int} {q : Nat} (ho : hh.get? l = some (listO us e)) (hi : IntsAre us ns) (hA : A.handled = none) (hq : hh.objs.size = q)
    (h : ∀ h' tk t' q', h'.objs.size = q' → q ≤ q' → Kp hh [] h' → R (.ok (.ret (.int ns.sum t'))) ⟨h', gs, dr, tk, os⟩) :
    codeAny (model prog w) A (.call (.builtin "sum") ⟨[.ref l], []⟩) R ⟨hh, gs, dr, tks, os⟩ := by
  have X : codeAny (model prog w) A (.call (.builtin "sum") ⟨[.ref l], []⟩) (fun r s' => ∃ h' tk t', s' = ⟨h', gs, dr, tk, os⟩ ∧ (∀ b o, hh.get? b = some o → h'.get? b = some o) ∧ r = .ok (.ret (.int ns.sum t'))) ⟨hh, gs, dr, tks, os⟩ := by
    refine code_fn F.kind_sum F.plain_sum F.entry_sum (F.args_sum1 _) ?_
    unfold Builtin.«sum»
    simp only [List.length_cons, List.length_nil]
    rw [if_neg (by decide)]
    refine wpAny_bind (wpAny_of_eq (show Builtin.Builtins.bindParams "sum" ["start"] 0 { } = pure [none] from rfl) ?_)
    have hl : (⟨hh, gs, dr, tks, os⟩ : Shared).heap.IsList l (intItems (natInts us)) := ⟨_, ho, rfl, e, by rw [natInts_eq hi]⟩
    refine wpAny_bind (iter_intList hl fun s₂ e₂ st hfp hlI => ?_)
    subst e₂
    refine wpAny_bind (wpAny_mkInt ?_)
    refine wpAny_bind (wpAny_pure ?_)
    simp only [List.forIn_cons, List.forIn_nil]
    refine wpAny_bind (wpAny_bind (wpAny_bind (wpAny_isInstance (T := "int") (b := false) (typeIs_int _ _ _) PySem.sub_int_str ?_)))
    simp only [Bool.false_eq_true, if_false]
    refine wpAny_pure (wpAny_bind (wpAny_bind (wpAny_isInstance (T := "int") (b := false) (typeIs_int _ _ _) PySem.sub_int_bytes ?_)))
    simp only [Bool.false_eq_true, if_false]
    refine wpAny_pure (wpAny_bind (wpAny_bind (wpAny_isInstance (T := "int") (b := false) (typeIs_int _ _ _) PySem.sub_int_bytearray ?_)))
    simp only [Bool.false_eq_true, if_false]
    refine wpAny_pure (wpAny_pure ?_)
    refine wpAny_bind (wpAny_newObj_type ?_)
    have W := Walks.list (prog := prog) (w := w) (A := A.in1) hA hh.objs.size l hlI (intItems (natInts us))
    have hSf : (hh.push { cls := .type "list_iterator", data := .fields #[.ref l, .int 0 0] }).objs.size ∉ [hh.objs.size, l] := fun hm => Nat.lt_irrefl _ (hfp _ hm)
    refine wpAny_pure ⟨plainId_quiet F.plain_sum_loop _, codeAny_sum_loopG W (PySem.numAt (natInts us)) (fun _ _ => intItems_at) _ hSf _ 0 _ _ 0 0 (Or.inl rfl) rfl (Nat.zero_le _)
      (W.frame _ _ _ st fun b _ o e => Heap.get?_push_of_some _ e) (Heap.get?_push_size _ rfl) fun h' tk t' hk => ?_⟩
    refine ⟨h', tk, t', rfl, fun b o hb => ?_, ?_⟩
    · have hlt := Heap.lt_size hb
      refine hk b o (fun hm => ?_) ?_ ?_
      · rw [List.mem_singleton.mp hm] at hlt; exact Nat.lt_irrefl _ hlt
      · refine Nat.ne_of_lt ?_
        show b < (hh.push _).objs.size
        rw [Heap.size_push]; exact Nat.lt_succ_of_lt hlt
      · exact Heap.get?_push_of_some _ (Heap.get?_push_of_some _ hb)
    · have e2 : (intItems (natInts us)).size = (natInts us).size := by simp [intItems]
      rw [e2, preSum_ints hi]
  refine codeAny_mono (codeAny_size X) ?_
  rintro r s' ⟨hz, h', tk, t', rfl, hk, rfl⟩
  have hz' : hh.objs.size ≤ h'.objs.size := hz
  exact h h' tk t' _ rfl (hq ▸ hz') ⟨fun b o e _ => hk b o e, hz'⟩
end
def specsH : List (String × Lean.Name) := specsG ++ [("sum", ``spec_sum)]
end Mine

end
-- Spec6
section
open PySem PySem.W PySem.W.X PyProof.Rows
set_option maxRecDepth 100000
set_option Elab.async false
namespace Mine
section
variable {prog : Program} {w : World} {A : Around} {R : Result → Shared → Prop} {s : Shared}
theorem spec_list_sort {hh : Heap} {gs : Array GenState} {dr : Drawn} {tks : Nat} {os : OsState} {l : Addr} {us : List Value} {e : Nat} {ns : List Int} {q : Nat} (ho : hh.get? l = some (listO us e)) (hi : IntsAre us ns) (h64 : us.length < 64) (hq : hh.objs.size = q)
    (h : ∀ h' q' out e' ns', h'.objs.size = q' → q ≤ q' → Kp hh [l] h' → h'.get? l = some (listO out e') → IntsAre out ns' → ns'.Perm ns → ns'.Pairwise (· ≤ ·) → R (.ok (.ret .none)) ⟨h', gs, dr, tks, os⟩) :
    codeAny (model prog w) A (.call (.builtin "list.sort") ⟨[.ref l], []⟩) R ⟨hh, gs, dr, tks, os⟩ := by
  have X : codeAny (model prog w) A (.call (.builtin "list.sort") ⟨[.ref l], []⟩) (fun r s' => ∃ (out : Array Value) (ns' : List Int), IntsAre out.toList ns' ∧ ns'.Perm ns ∧ ns'.Pairwise (· ≤ ·) ∧ r = .ok (.ret .none) ∧ s' = ⟨sortedHeap hh l us out, gs, dr, tks, os⟩) ⟨hh, gs, dr, tks, os⟩ := by
    refine code_of_meets (S := fun _ R' s' => s' = ⟨hh, gs, dr, tks, os⟩ ∧ ∀ (out : Array Value) (ns' : List Int), IntsAre out.toList ns' → ns'.Perm ns → ns'.Pairwise (· ≤ ·) → R' (.ok (.ret .none)) ⟨sortedHeap hh l us out, gs, dr, tks, os⟩)
      slot_list_sort (typeIs_obj (s := ⟨hh, gs, dr, tks, os⟩) ho) entry_list_sort (args_list_sort _) (.of_wp ?_) ⟨rfl, fun out ns' a1 a2 a3 => ⟨out, ns', a1, a2, a3, rfl, rfl⟩⟩
    rintro A R' s' ⟨rfl, h⟩
    exact list_sort_tree (s := ⟨hh, gs, dr, tks, os⟩) ho hi h64 fun out ns' a1 a2 a3 => ⟨_, rfl, h out ns' a1 a2 a3⟩
  refine codeAny_mono (codeAny_size X) ?_
  rintro r s' ⟨hz, out, ns', a1, a2, a3, rfl, rfl⟩
  have hz' : hh.objs.size ≤ (sortedHeap hh l us out).objs.size := hz
  obtain ⟨e', he'⟩ := sortedHeap_at (out := out) ho
  refine h _ _ out.toList e' ns' rfl (hq ▸ hz') ⟨fun b o hb hne => ?_, hz'⟩ he' a1 a2 a3
  rw [sortedHeap_old (fun q => hne l (List.mem_singleton.mpr rfl) q.symm) (Heap.lt_size hb)]; exact hb
theorem spec_sorted {hh : Heap} {gs : Array GenState} {dr : Drawn} {tks : Nat} {os : OsState} {l : Addr} {us : List Value} {e : Nat} {ns : List Int} {q : Nat} (ho : hh.get? l = some (listO us e)) (hi : IntsAre us ns) (h64 : us.length < 64) (hq : hh.objs.size = q)
    (h : ∀ h' q' out e' ns', h'.objs.size = q' → q ≤ q' → Kp hh [] h' → h'.get? (q + 1) = some (listO out e') → IntsAre out ns' → ns'.Perm ns → ns'.Pairwise (· ≤ ·) → R (.ok (.ret (.ref (q + 1)))) ⟨h', gs, dr, tks, os⟩) :
    codeAny (model prog w) A (.call (.builtin "sorted") ⟨[.ref l], []⟩) R ⟨hh, gs, dr, tks, os⟩ := by
  have X : codeAny (model prog w) A (.call (.builtin "sorted") ⟨[.ref l], []⟩) (fun r s' => ∃ (out : Array Value) (ns' : List Int), IntsAre out.toList ns' ∧ ns'.Perm ns ∧ ns'.Pairwise (· ≤ ·) ∧ r = .ok (.ret (.ref (hh.objs.size + 1))) ∧ s' = ⟨sortedAll hh us out, gs, dr, tks, os⟩) ⟨hh, gs, dr, tks, os⟩ := by
    refine code_fn kind_sorted plain_sorted entry_sorted (args_sorted1 _) ?_
    have hl : (⟨hh, gs, dr, tks, os⟩ : Shared).heap.IsList l us.toArray := ⟨_, ho, rfl, e, rfl⟩
    unfold Builtin.«sorted»
    refine wpAny_bind (m := checkCount "sorted" 1 1 _) (wpAny_pure ?_)
    refine wpAny_bind (collect_list hl ?_ (by rw [sizeLine_eq]; omega))
    refine wpAny_bind (wpAny_newList ?_ )
    have hsz : ((hh.push (seqObj "list" #[] 0)).update hh.objs.size (Obj.mapSeq (· ++ us.toArray))).objs.size = hh.objs.size + 1 := by
      rw [Heap.size_update, size_push']
    have hoL : (((hh.push (seqObj "list" #[] 0)).update hh.objs.size (Obj.mapSeq (· ++ us.toArray))).push (seqObj "list" us.toArray 0)).get? (hh.objs.size + 1) = some (seqObj "list" us.toArray 0) := by
      rw [← hsz]; exact Heap.get?_push_size _ rfl
    show wpAny _ _ _ _ _ (⟨((hh.push (seqObj "list" #[] 0)).update hh.objs.size (Obj.mapSeq (· ++ us.toArray))).push (seqObj "list" us.toArray 0), gs, dr, tks, os⟩ : Shared)
    rw [hsz]
    refine wpAny_bind (wpAny_holding (wpAny_call_entry slot_list_sort ⟨_, hoL, rfl⟩ entry_list_sort (list_sort_tree hoL hi h64 fun out ns' a1 a2 a3 => ⟨_, rfl, ?_⟩) (args_list_sort _)))
    exact wpAny_pure ⟨out, ns', a1, a2, a3, rfl, rfl⟩
  refine codeAny_mono (codeAny_size X) ?_
  rintro r s' ⟨hz, out, ns', a1, a2, a3, rfl, rfl⟩
  have hz' : hh.objs.size ≤ (sortedAll hh us out).objs.size := hz
  obtain ⟨e', he'⟩ := sortedAll_at hh us out
  subst hq
  exact h _ _ out.toList e' ns' rfl hz' ⟨fun b o hb _ => sortedAll_old hb, hz'⟩ he' a1 a2 a3
theorem sorted_same {l1 l2 : List Int} (p : l1.Perm l2) (h1 : l1.Pairwise (· ≤ ·)) (h2 : l2.Pairwise (· ≤ ·)) : l1 = l2 := List.Perm.eq_of_pairwise (fun a b _ _ x y => Int.le_antisymm x y) h1 h2 p
theorem eqs_ints {us us2 : List Value} {ns : List Int} (h1 : IntsAre us ns) (h2 : IntsAre us2 ns) : us.length = us2.length ∧ ∀ (j : Nat) (_ : j < us.length) (_ : j < us2.length), MeetsSeq.EqGives us[j] us2[j] true := by
  refine ⟨(IntsAre.len h1).trans (IntsAre.len h2).symm, fun j a b => ?_⟩
  have hj : j < ns.length := by rw [← IntsAre.len h1]; exact a
  obtain ⟨t1, e1⟩ := IntsAre.at h1 (i := j) (List.getElem?_eq_getElem hj)
  obtain ⟨t2, e2⟩ := IntsAre.at h2 (i := j) (List.getElem?_eq_getElem hj)
  rw [(List.getElem?_eq_some_iff.mp e1).2, (List.getElem?_eq_some_iff.mp e2).2]
  have := MeetsSeq.EqGives.int ns[j] ns[j] t1 t2
  simpa using this
theorem spec_list_ne {l b : Addr} {us us2 : List Value} {e e2 : Nat} {ns1 ns2 ns : List Int} (ho : s.heap.get? l = some (listO us e)) (hb : s.heap.get? b = some (listO us2 e2)) (h1 : IntsAre us ns1) (h2 : IntsAre us2 ns2)
    (p1 : ns1.Perm ns) (p2 : ns2.Perm ns) (q1 : ns1.Pairwise (· ≤ ·)) (q2 : ns2.Pairwise (· ≤ ·)) (h : R (.ok (.ret (.bool false))) s) : codeAny (model prog w) A (.call (.builtin "list.__ne__") ⟨[.ref l, .ref b], []⟩) R s := by
  obtain rfl := sorted_same (p1.trans p2.symm) q1 q2
  obtain ⟨hl, hq⟩ := eqs_ints h1 h2
  refine code_of_meets F.slot_list_ne (typeIs_obj ho) F.entry_list_ne (F.args_list_ne_2 _ _) ((PySem.SeqAt.list_neAt l b us.toArray us2.toArray e e2 none none #[] #[] (by simpa using hl) (fun _ => true)).inModel prog w) ⟨ho, hb, fun j a b => (hq j (by simpa using a) (by simpa using b)).at _ _, ?_⟩
  have ha : (List.range us.toArray.size).all (fun _ => true) = true := by rw [List.all_eq_true]; intro _ _; rfl
  rw [ha]; exact h
theorem spec_list_eq {l b : Addr} {us us2 : List Value} {e e2 : Nat} {ns : List Int} (ho : s.heap.get? l = some (listO us e)) (hb : s.heap.get? b = some (listO us2 e2)) (h1 : IntsAre us ns) (h2 : IntsAre us2 ns)
    (h : R (.ok (.ret (.bool true))) s) : codeAny (model prog w) A (.call (.builtin "list.__eq__") ⟨[.ref l, .ref b], []⟩) R s := by
  obtain ⟨hl, hq⟩ := eqs_ints h1 h2
  refine code_of_meets F.slot_list_eq (typeIs_obj ho) F.entry_list_eq (F.args_list_eq_2 _ _) ((SeqAt.list_eqAt l b us.toArray us2.toArray e e2 none none #[] #[] (by simpa using hl) (fun _ => true)).inModel prog w) ⟨ho, hb, fun j a b => (hq j (by simpa using a) (by simpa using b)).at _ _, ?_⟩
  have ha : (List.range us.toArray.size).all (fun _ => true) = true := by rw [List.all_eq_true]; intro _ _; rfl
  rw [ha]; exact h
end
def specsI : List (String × Lean.Name) := specsH ++ [("list.sort", ``spec_list_sort), ("sorted", ``spec_sorted), ("list.__ne__", ``spec_list_ne), ("list.__eq__", ``spec_list_eq)]
end Mine

end
-- Spec7
section
open PySem PySem.W PySem.W.X PyProof.Rows PySem.SeqAt
set_option maxRecDepth 100000
set_option Elab.async false
namespace Mine
section
variable {prog : Program} {w : World} {A : Around} {R : Result → Shared → Prop}
theorem eqAt_pair {s : Shared} {a b : Addr} {i j : Int} {ti tj ui uj : Nat} (ha : s.heap.get? a = some (pairO i j ti tj)) (hb : s.heap.get? b = some (pairO i j ui uj)) (hu : A.units < cLine) : EqAt A s (.ref a) (.ref b) true := by
  by_cases h : a = b
  · subst h; exact EqAt.same _
  · have := EqAt.of_refs h (RcAt.tuples (A := A) (s := s) (e := fun _ => true) ⟨_, ha, rfl, _, rfl⟩ ⟨_, hb, rfl, _, rfl⟩ hu fun k h1 h2 => ?_)
    · have e : ((List.range (min (#[Value.int i ti, Value.int j tj] : Array Value).size (#[Value.int i ui, Value.int j uj] : Array Value).size)).all (fun _ => true) && (#[Value.int i ti, Value.int j tj] : Array Value).size == (#[Value.int i ui, Value.int j uj] : Array Value).size) = true := rfl
      rw [e] at this
      exact this
    · match k, h1 with
      | 0, _ => exact (by simpa using MeetsSeq.EqGives.int i i ti ui : MeetsSeq.EqGives (.int i ti) (.int i ui) true).at _ _
      | 1, _ => exact (by simpa using MeetsSeq.EqGives.int j j tj uj : MeetsSeq.EqGives (.int j tj) (.int j uj) true).at _ _
theorem spec_list_ne_pairs {s : Shared} {l b : Addr} {us us2 : List Value} {e e2 : Nat} {ps : List (Nat × Nat)} (ho : s.heap.get? l = some (listO us e)) (hb : s.heap.get? b = some (listO us2 e2)) (h1 : PV s.heap us ps) (h2 : PV s.heap us2 ps)
    (hu : A.in1.units < cLine) (h : R (.ok (.ret (.bool false))) s) : codeAny (model prog w) A (.call (.builtin "list.__ne__") ⟨[.ref l, .ref b], []⟩) R s := by
  refine code_of_meets F.slot_list_ne (typeIs_obj ho) F.entry_list_ne (F.args_list_ne_2 _ _) ((PySem.SeqAt.list_neAt l b us.toArray us2.toArray e e2 none none #[] #[] (by simpa using h1.1.trans h2.1.symm) (fun _ => true)).inModel prog w) ⟨ho, hb, fun j a b => ?_, ?_⟩
  · have hj : j < ps.length := by rw [← h1.1]; simpa using a
    obtain ⟨a1, t1, t2, e1, _, g1⟩ := h1.2 j _ _ (List.getElem?_eq_getElem hj)
    obtain ⟨a2, u1, u2, e2', _, g2⟩ := h2.2 j _ _ (List.getElem?_eq_getElem hj)
    have q1 : us.toArray[j] = .ref a1 := by simpa using (List.getElem?_eq_some_iff.mp e1).2
    have q2 : us2.toArray[j] = .ref a2 := by simpa using (List.getElem?_eq_some_iff.mp e2').2
    rw [q1, q2]
    exact eqAt_pair g1 g2 hu
  · have ha : (List.range us.toArray.size).all (fun _ => true) = true := by rw [List.all_eq_true]; intro _ _; rfl
    rw [ha]; exact h
end
def specsJ : List (String × Lean.Name) := specsI ++ [("list.__ne__", ``spec_list_ne_pairs)]
end Mine

end
-- Spec8
section
open PySem PySem.W PySem.W.X PyProof.Rows
set_option maxRecDepth 100000
set_option Elab.async false
namespace Mine
section
variable {prog : Program} {w : World} {A : Around} {R : Result → Shared → Prop} {s : Shared}
theorem strMap {h : Heap} {d : Addr} {x : Str} {tk : Nat} {v : Value} {ep : Nat} (ho : h.get? d = some (dictO [⟨hs w.params x, .str x tk, v⟩] ep)) : h.MapOf (PySem.strKind prog w) d (fun y => if y = x then some v else none) := by
  refine ⟨_, _, _, ho, ⟨rfl, rfl, rfl⟩, rfl, ?_, fun k => ?_⟩
  · intro e he
    have : e = ⟨hs w.params x, .str x tk, v⟩ := by simpa using he
    subst this
    exact ⟨x, isStrOf_self x tk, hs_at w x⟩
  · unfold findBy
    by_cases hk : k = x
    · subst hk
      have : (PySem.strKind prog w).is k (.str k tk) = true := isStrOf_self k tk
      simp [this]
    · have : (PySem.strKind prog w).is k (.str x tk) = false := by
        show Value.isStrOf k (.str x tk) = false
        cases q : Value.isStrOf k (.str x tk) with
        | false => rfl
        | true => exact absurd (Value.isStrOf_inj _ _ _ q (isStrOf_self x tk)) hk
      simp [hk, this]
theorem spec_dict_getitem_str {d : Addr} {x : Str} {tk : Nat} {v : Value} {ep : Nat} {t : Tok} (ho : s.heap.get? d = some (dictO [⟨hs w.params x, .str x tk, v⟩] ep))
    (h : R (.ok (.ret v)) { s with toks := s.toks + 1 }) : codeAny (model prog w) A (.call (.builtin "dict.__getitem__") ⟨[.ref d, .str x t], []⟩) R s :=
  code_of_meets slot_dict_getitem (typeIs_obj ho) entry_dict_getitem (args_dict_getitem _ _) (meets_dict_getitem (PySem.strKind prog w) d (isStrOf_self x t)) ⟨_, v, strMap ho, by simp, h⟩
end
def specsK : List (String × Lean.Name) := specsJ ++ [("dict.__getitem__", ``spec_dict_getitem_str)]
end Mine

end
-- SegT0
section
open PySem PySem.W PySem.W.X PyProof.Rows
set_option maxRecDepth 100000
set_option Elab.async false
set_option maxHeartbeats 0
namespace Mine
theorem seg0 {w : World} {H0 : Heap} {R : Result → Shared → Prop} {d : Drawn} {os : OsState} {vs : List Value} {ns : List Int} {h : Heap} {t : Nat} (S : S0 w H0 vs h) (hns : IntsAre vs ns) (hl : vs.length ≤ 63)
    (next : ∀ h' t', S1 w H0 vs (numAt ns) h' → Law w R d os 1 [] h' t') : Law w R d os 0 [] h t := by
  have hzz := S
  revert hzz
  rintro ⟨kt, sz, scr, ⟨tk, fr⟩, cells⟩
  refine law_step _ (by rfl) sz ?_
  run_tac Drv.go specs0
  have hlen : ns.length = vs.length := (IntsAre.len hns).symm
  refine go_loopN 18 (fun h₁ k h => Kp h₁ [655, 656, 657] h ∧ h.objs.size = 658 ∧ (∃ l : Int, h.get? 655 = some (rngI (k : Nat) l) ∧ l = 18 - (k : Nat))
    ∧ (∃ us e, h.get? 656 = some (listO us e) ∧ IntsAre us (tab k (numAt ns))) ∧ Loc1 w Nm.k k h 657) ?_ ?_
  · intro h₁ D hz
    unfold Loc1
    run_tac Drv.facts
    · rfl
    · exact IntsAre.nil
    · exact fun _ => ⟨rfl, rfl⟩
    · exact fun h => absurd h (by omega)
  · rintro h₁ D hz k h' t' n' hn hk ⟨K, hsz, ⟨l, hit, hle⟩, ⟨us, e, hacc, hus⟩, es, ep, hloc, hze, hpo⟩ IH
    have hzz : n' = 658 := hn.symm.trans hsz
    revert hzz
    rintro rfl
    have h2 : us.length = k := by rw [IntsAre.len hus, tab_len]
    by_cases hkN : k = 18
    · subst hkN
      have hzz := hpo (by omega)
      revert hzz
      rintro ⟨rfl, v, tk', rfl⟩
      run_tac Drv.goFrom specs0
      refine ⟨fun h D => stEnd_next (next _ _ ⟨?_, ?_, ?_, ?_, ?_, ?_, ?_⟩)⟩
      · run_tac Drv.facts
      · exact D.size
      · run_tac Drv.facts
      · run_tac Drv.facts
      · run_tac Drv.facts
      · intro a h1 h2
        run_tac Drv.facts
      · run_tac Drv.facts
    · have key : ∀ v0 : Value, (∃ tk, v0 = .int (numAt ns k) tk) → IntsAre (us ++ [v0]) (tab (k + 1) (numAt ns)) := by
        rintro _ ⟨tk, rfl⟩
        rw [tab_snoc]
        exact IntsAre.snoc hus _ _
      by_cases hp0 : 0 < vs.length
      · have hne : ns ≠ [] := fun e => by rw [e] at hlen; simp at hlen; omega
        have hm := modQ_nat k vs.toArray.size
        have hlt : k % vs.length < vs.length := Nat.mod_lt _ hp0
        have hzz : ∃ tk, vs[(Z.modQ (k : Int) (vs.toArray.size : Int)).toNat]? = some (.int (numAt ns k) tk) := by
          rw [hm, Int.toNat_natCast, List.size_toArray]
          refine IntsAre.at hns ?_
          unfold numAt
          rw [if_neg hne, ← hlen]
          have hlt' : k % ns.length < ns.length := Nat.mod_lt _ (by omega)
          simp [List.getD, hlt']
        revert hzz
        rintro ⟨tk, hx⟩
        have h0 : 0 ≤ Z.modQ (k : Int) (vs.toArray.size : Int) := by rw [hm]; omega
        have h1 : Z.modQ (k : Int) (vs.toArray.size : Int) < 2 ^ 63 := by
          have h63 : k % vs.length < 2 ^ 63 := Nat.lt_of_lt_of_le hlt (by omega)
          rw [hm, List.size_toArray]
          exact_mod_cast h63
        have step2 := key _ ⟨tk, rfl⟩
        clear hm
        rcases k with _ | k
        · have hzz := hze rfl
          revert hzz
          rintro ⟨rfl, rfl⟩
          run_tac Drv.goTurn specs0
          all_goals first | exact step2 | exact step2 _
        · have hzz := hpo (by omega)
          revert hzz
          rintro ⟨rfl, v, tk', rfl⟩
          run_tac Drv.goTurn specs0
          all_goals first | exact step2 | exact step2 _
      · have hne : ns = [] := by rw [← List.length_eq_zero_iff]; omega
        have step2 : ∀ tk, IntsAre (us ++ [.int 0 tk]) (tab (k + 1) (numAt ns)) := fun tk => key _ ⟨tk, by simp [numAt, hne]⟩
        rcases k with _ | k
        · have hzz := hze rfl
          revert hzz
          rintro ⟨rfl, rfl⟩
          run_tac Drv.goTurn specs0
          all_goals first | exact step2 | exact step2 _
        · have hzz := hpo (by omega)
          revert hzz
          rintro ⟨rfl, v, tk', rfl⟩
          run_tac Drv.goTurn specs0
          all_goals first | exact step2 | exact step2 _
end Mine

end
-- SegT1
section
open PySem PySem.W PySem.W.X PyProof.Rows
set_option maxRecDepth 100000
set_option Elab.async false
set_option maxHeartbeats 0
namespace Mine
theorem seg1 {w : World} {H0 : Heap} {R : Result → Shared → Prop} {d : Drawn} {os : OsState} {vs : List Value} {N : Nat → Int} {sz : Nat} (hs8 : Z.modQ (N 0) 8 = (sz : Int)) {h : Heap} {t : Nat} (S : S1 w H0 vs N h)
    (next : ∀ h' t', S2 w H0 vs N sz h' → Law w R d os 2 [] h' t') : Law w R d os 1 [] h t := by
  have hzz := S
  revert hzz
  rintro ⟨kt, hz, scr, ⟨tk, fr⟩, num, cells, ⟨us, e, lst, hus⟩⟩
  refine law_step _ (by rfl) hz ?_
  have hzz := IntsAre.at hus (tab_at N (n := 18) (k := 0) (by omega))
  revert hzz
  rintro ⟨tk0, hx⟩
  run_tac Drv.go specs0
  refine ⟨fun h D => stEnd_next (next _ _ ⟨?_, ?_, ?_, ?_, ?_, ?_, ?_⟩)⟩
  · run_tac Drv.facts
  · exact D.size
  · run_tac Drv.facts
  · rw [← hs8]
    run_tac Drv.facts
  · run_tac Drv.facts
  · intro a h1 h2
    run_tac Drv.facts
  · run_tac Drv.facts
end Mine

end
-- SegT2
section
open PySem PySem.W PySem.W.X PyProof.Rows
set_option maxRecDepth 100000
set_option Elab.async false
set_option maxHeartbeats 0
namespace Mine
theorem seg2 {w : World} {H0 : Heap} {R : Result → Shared → Prop} {d : Drawn} {os : OsState} {vs : List Value} {N : Nat → Int} {sz : Nat} (hs1 : 1 ≤ sz) (hs7 : sz ≤ 7) {h : Heap} {t : Nat} (S : S2 w H0 vs N sz h)
    (next : ∀ h' t', S3 w H0 N sz h' → Law w R d os 3 [] h' t') : Law w R d os 2 [] h t := by
  have hzz := S
  revert hzz
  rintro ⟨kt, hz, scr, ⟨tk, tk2, tk3, fr⟩, num, cells, ⟨us, e, lst, hus⟩⟩
  refine law_step _ (by rfl) hz ?_
  run_tac Drv.go specs0
  refine go_loopN sz (fun h₁ k h => Kp h₁ [661, 662, 663] h ∧ h.objs.size = 664 ∧ (∃ l : Int, h.get? 661 = some (rngI (k : Nat) l) ∧ l = (sz : Int) - (k : Nat))
    ∧ (∃ us e, h.get? 662 = some (listO us e) ∧ IntsAre us (tab k (fun k => 8 * N (3 + k) + k))) ∧ Loc1 w Nm.k k h 663) ?_ ?_
  · intro h₁ D hz
    unfold Loc1
    run_tac Drv.facts
    · run_tac Drv.numbers
    · exact IntsAre.nil
    · exact fun _ => ⟨rfl, rfl⟩
    · exact fun h => absurd h (by omega)
  · rintro h₁ D hz k h' t' n' hn hk ⟨K, hsz, ⟨l, hit, hle⟩, ⟨us', e', hacc, hus'⟩, es, ep, hloc, hze, hpo⟩ IH
    have hzz : n' = 664 := hn.symm.trans hsz
    revert hzz
    rintro rfl
    have h2 : us'.length = k := by rw [IntsAre.len hus', tab_len]
    by_cases hkN : k = sz
    · subst hkN
      have hzz := hpo (by omega)
      revert hzz
      rintro ⟨rfl, v, tk', rfl⟩
      run_tac Drv.goFrom specs0
      refine ⟨fun h D => stEnd_next (next _ _ ⟨?_, D.size, ?_, ?_, ?_, ?_, ?_, ?_⟩)⟩
      · run_tac Drv.facts
      · run_tac Drv.facts
      · run_tac Drv.facts
      · run_tac Drv.facts
      · intro a h1 h2
        run_tac Drv.facts
      · run_tac Drv.facts
      · run_tac Drv.facts
    · have hzz := IntsAre.at hus (tab_at N (n := 18) (k := 3 + k) (by omega))
      revert hzz
      rintro ⟨tkx, hx⟩
      have fin : ∀ tk, IntsAre (us' ++ [.int (8 * N (3 + k) + k) tk]) (tab (k + 1) (fun k => 8 * N (3 + k) + k)) := fun tk => by rw [tab_snoc]; exact IntsAre.snoc hus' _ _
      have hzz := Nat.eq_zero_or_pos k
      revert hzz
      rintro (hk0 | hk0)
      · have hzz := hze hk0
        revert hzz
        rintro ⟨rfl, rfl⟩
        run_tac Drv.goTurn specs0
        all_goals exact fin _
      · have hzz := hpo hk0
        revert hzz
        rintro ⟨rfl, v, tk', rfl⟩
        run_tac Drv.goTurn specs0
        all_goals exact fin _
end Mine

end
-- SegT3
section
open PySem PySem.W PySem.W.X PyProof.Rows
set_option maxRecDepth 100000
set_option Elab.async false
set_option maxHeartbeats 0
namespace Mine
theorem seg3 {w : World} {H0 : Heap} {R : Result → Shared → Prop} {d : Drawn} {os : OsState} {N : Nat → Int} {sz : Nat} (hs1 : 1 ≤ sz) (hs7 : sz ≤ 7) {h : Heap} {t : Nat} (S : S3 w H0 N sz h)
    (next : ∀ h' t', S4 w H0 N sz h' → Law w R d os 4 [] h' t') : Law w R d os 3 [] h t := by
  have hzz := S
  revert hzz
  rintro ⟨kt, hz, ⟨tk, tk2, tk3, fr⟩, c644, c645, cells, ⟨us, e, lst, hus⟩, ⟨un, en', nam, hun⟩⟩
  refine law_step _ (by rfl) hz ?_
  run_tac Drv.go specs0
  refine go_loopN sz (fun h₁ k h => Kp h₁ [667, 668, 669] h ∧ h.objs.size = 670 ∧ (∃ l : Int, h.get? 667 = some (rngI (k : Nat) l) ∧ l = (sz : Int) - (k : Nat))
    ∧ (∃ us e, h.get? 668 = some (listO us e) ∧ IntsAre us (tab k (fun k => Z.modQ (N (10 + k)) 10))) ∧ Loc1 w Nm.k k h 669) ?_ ?_
  · intro h₁ D hz
    unfold Loc1
    run_tac Drv.facts
    · run_tac Drv.numbers
    · exact IntsAre.nil
    · exact fun _ => ⟨rfl, rfl⟩
    · exact fun h => absurd h (by omega)
  · rintro h₁ D hz k h' t' n' hn hk ⟨K, hsz, ⟨l, hit, hle⟩, ⟨us', e', hacc, hus'⟩, es, ep, hloc, hze, hpo⟩ IH
    have hzz : n' = 670 := hn.symm.trans hsz
    revert hzz
    rintro rfl
    have h2 : us'.length = k := by rw [IntsAre.len hus', tab_len]
    by_cases hkN : k = sz
    · subst hkN
      have hzz := hpo (by omega)
      revert hzz
      rintro ⟨rfl, v, tk', rfl⟩
      run_tac Drv.goFrom specs0
      refine ⟨fun h D => stEnd_next (next _ _ ⟨?_, D.size, ?_, ?_, ?_, ?_, ?_, ?_, ?_, ?_⟩)⟩
      · run_tac Drv.facts
      · run_tac Drv.facts
      · run_tac Drv.facts
      · run_tac Drv.facts
      · run_tac Drv.facts
      · intro a h1 h2
        run_tac Drv.facts
      · run_tac Drv.facts
      · run_tac Drv.facts
      · run_tac Drv.facts
    · have hzz := IntsAre.at hus (tab_at N (n := 18) (k := 10 + k) (by omega))
      revert hzz
      rintro ⟨tkx, hx⟩
      have fin : ∀ tk, IntsAre (us' ++ [.int (Z.modQ (N (10 + k)) 10) tk]) (tab (k + 1) (fun k => Z.modQ (N (10 + k)) 10)) := fun tk => by rw [tab_snoc]; exact IntsAre.snoc hus' _ _
      have hzz := Nat.eq_zero_or_pos k
      revert hzz
      rintro (hk0 | hk0)
      · have hzz := hze hk0
        revert hzz
        rintro ⟨rfl, rfl⟩
        run_tac Drv.goTurn specs0
        all_goals exact fin _
      · have hzz := hpo hk0
        revert hzz
        rintro ⟨rfl, v, tk', rfl⟩
        run_tac Drv.goTurn specs0
        all_goals exact fin _
end Mine

end
-- SegT4
section
open PySem PySem.W PySem.W.X PyProof.Rows
set_option maxRecDepth 100000
set_option Elab.async false
set_option maxHeartbeats 0
namespace Mine
theorem seg4 {w : World} {H0 : Heap} {R : Result → Shared → Prop} {d : Drawn} {os : OsState} {N : Nat → Int} {sz : Nat} {h : Heap} {t : Nat} (S : S4 w H0 N sz h)
    (next : ∀ h' t' wd, S5 w H0 N sz wd h' → Law w R d os 5 [] h' t') : Law w R d os 4 [] h t := by
  have hzz := S
  revert hzz
  rintro ⟨kt, hz, ⟨tk, tk2, tk3, fr⟩, c644, c645, c646, cells, ⟨us, e, lst, hus⟩, ⟨un, en', nam, hun⟩, ⟨uw, ew, wei, huw⟩⟩
  refine law_step _ (by rfl) hz ?_
  have hzz := IntsAre.at hus (tab_at N (n := 18) (k := 2) (by omega))
  revert hzz
  rintro ⟨tk0, hx⟩
  run_tac Drv.go specs0
  refine ⟨fun h D => ?_⟩
  have fr' : ∃ wd tk tk2 tk3 tk4, h.get? 643 = some (frameO [en w Nm.script tk (.ref 642), en w Nm.size tk2 (.int (sz : Int) tk3), en w Nm.weighed tk4 (.bool wd)] 3) := by run_tac Drv.facts
  have hzz := fr'
  revert hzz
  rintro ⟨wd, fr'⟩
  refine stEnd_next (next _ _ wd ⟨?_, D.size, fr', ?_, ?_, ?_, ?_, ?_, ?_, ?_⟩)
  all_goals run_tac Drv.facts

theorem seg5 {w : World} {H0 : Heap} {R : Result → Shared → Prop} {d : Drawn} {os : OsState} {N : Nat → Int} {sz : Nat} {wd : Bool} {h : Heap} {t : Nat} (S : S5 w H0 N sz wd h)
    (next : ∀ h' t', S6 w H0 N sz wd h' → Law w R d os 6 [] h' t') : Law w R d os 5 [] h t := by
  have hzz := S
  revert hzz
  rintro ⟨kt, hz, ⟨tk, tk2, tk3, tk4, fr⟩, c644, c645, c646, cells, ⟨us, e, lst, hus⟩, ⟨un, en', nam, hun⟩, ⟨uw, ew, wei, huw⟩⟩
  refine law_step _ (by rfl) hz ?_
  run_tac Drv.go specs0
  refine ⟨fun h D => stEnd_next (next _ _ ⟨?_, D.size, ?_, ?_, ?_, ?_, ?_, ?_, ?_, ?_, ?_, ?_, ?_, ?_, ?_, ?_⟩)⟩
  all_goals run_tac Drv.facts
end Mine

end
-- SegT6
section
open PySem PySem.W PySem.W.X PyProof.Rows
set_option maxRecDepth 100000
set_option Elab.async false
set_option maxHeartbeats 0
namespace Mine
theorem seg6 {w : World} {H0 : Heap} {R : Result → Shared → Prop} {d : Drawn} {os : OsState} {N nm wt : Nat → Int} {sz : Nat} {wd : Bool} (hs1 : 1 ≤ sz) (hs7 : sz ≤ 7) (inj : ∀ i j, i < sz → j < sz → nm i = nm j → i = j) {h : Heap} {t : Nat}
    (S : Stay w H0 N nm wt sz h) (hz : h.objs.size = 682) (fr : Fr6 w sz wd 0 h) (c646 : h.get? 646 = some (cellO (some (.ref 668)))) (cells : ∀ a : Nat, 648 ≤ a → a ≤ 651 → h.get? a = some (cellO none))
    (g679 : h.get? 679 = some (dictO [] 0)) (g681 : h.get? 681 = some (dictO [] 0))
    (next : ∀ h' t', Stay w H0 N nm wt sz h' → Gr w nm wt sz h' → h'.objs.size = 10 * sz + 689 → Fr7 w sz wd h' → h'.get? 646 = some (cellO (some (.ref 668))) → (∀ a : Nat, 648 ≤ a → a ≤ 651 → h'.get? a = some (cellO none)) →
      (∀ i : Nat, i < sz → h'.get? (10 * i + 694 : Nat) = some (dictO [] 0)) → Law w R d os 7 [] h' t') : Law w R d os 6 [] h t := by
  have hzz := S
  revert hzz
  rintro ⟨kt, c644, c645, c647, ⟨us, e, lst, hus⟩, ⟨un, en', nam, hun⟩, ⟨uw, ew, wei, huw⟩, g673, ⟨t1, t2, t3, g672⟩, g677⟩
  have hzz := fr
  revert hzz
  rintro ⟨es0, ep0, fr, tk, tk2, tk3, tk4, frz, -⟩
  have hzz := frz rfl
  revert hzz
  rintro ⟨rfl, rfl⟩
  refine law_step _ (by rfl) hz ?_
  run_tac Drv.go specsD
  refine go_loopN sz (fun h₁ k h => Kp h₁ [643, 679, 681, 682, 683, 685, 686] h ∧ h.objs.size = 10 * k + 687 ∧ h.get? 682 = some (lit 662 (k : Nat)) ∧ h.get? 683 = some (lit 668 (k : Nat)) ∧
    h.get? 686 = some { cls := .type "zip", dict := none, data := .fields #[.none, .bool false, .bool false, .ref 684, .ref 685], slots := #[] } ∧
    (∃ v1 v2, h.get? 685 = some { cls := .type "tuple", dict := none, data := .seq #[v1, v2] 0, slots := #[] }) ∧
    (∃ es ep, h.get? 679 = some (dictO es ep) ∧ DE es (kv k nm (fun i => .ref (10 * i + 696 : Nat)))) ∧ (∃ es ep, h.get? 681 = some (dictO es ep) ∧ DE es (kv k nm (fun i => .ref (10 * i + 694 : Nat)))) ∧
    (∀ i : Nat, i < k → h.get? (10 * i + 694 : Nat) = some (dictO [] 0)) ∧ (∀ i : Nat, i < k → ∃ tk tk2, h.get? (10 * i + 696 : Nat) = some (dictO [en w Nm.heavy tk (.int (wt i) tk2)] 1)) ∧ Fr6 w sz wd k h) ?_ ?_
  · intro h₁ D hz
    refine ⟨Kp.refl _ _, hz, ?_, ?_, ?_, ?_, ?_, ?_, fun i hi => absurd hi (by omega), fun i hi => absurd hi (by omega), ?_⟩
    all_goals (try unfold Fr6)
    all_goals run_tac Drv.facts
    · exact DE.nil
    · exact DE.nil
    · exact fun _ => ⟨rfl, rfl⟩
    · exact fun h => absurd h (by omega)
  · rintro h₁ D hz k h' t' n' hn hk ⟨K, hsz, i682, i683, g686, ⟨v1, v2, g685⟩, ⟨esn, epn, hnode, hden⟩, ⟨esa, epa, hadj, hdea⟩, inn, att, ⟨es6, ep6, hfr, tk0, tk20, tk30, tk40, hze, hpo⟩⟩ IH
    have hzz : n' = 10 * k + 687 := hn.symm.trans hsz
    revert hzz
    rintro rfl
    have hzz := skol att
    revert hzz
    rintro ⟨f1, f2, att⟩
    have lenU : un.length = sz := by rw [IntsAre.len hun, tab_len]
    have lenW : uw.length = sz := by rw [IntsAre.len huw, tab_len]
    by_cases hkN : k = sz
    · subst hkN
      have hzz := hpo (by omega)
      revert hzz
      rintro ⟨rfl, tk5, tk6, w1, w2, rfl⟩
      run_tac Drv.goFrom specsD
      refine ⟨fun h D => stEnd_next (next _ _ ⟨?_, ?_, ?_, ?_, ⟨us, e, ?_, hus⟩, ⟨un, en', ?_, hun⟩, ⟨uw, ew, ?_, huw⟩, ?_, ?_, ?_⟩ ⟨⟨esn, epn, ?_, hden⟩, ⟨esa, epa, ?_, hdea⟩, ?_⟩ D.size ?_ ?_ ?_ ?_)⟩
      all_goals (try unfold Fr7)
      all_goals run_tac Drv.facts
    · have hzz := IntsAre.at hun (tab_at nm (n := sz) (k := k) (by omega))
      revert hzz
      rintro ⟨tkn, hxn⟩
      have hzz := IntsAre.at huw (tab_at wt (n := sz) (k := k) (by omega))
      revert hzz
      rintro ⟨tkw, hxw⟩
      have noN := kv_none (n := k) (fun i => .ref (10 * i + 696 : Nat)) inj (Nat.le_refl k) (by omega)
      have noA := kv_none (n := k) (fun i => .ref (10 * i + 694 : Nat)) inj (Nat.le_refl k) (by omega)
      have lenN : esn.length ≤ 1000000 := by rw [hden.len]; simp [kv]; omega
      have lenA : esa.length ≤ 1000000 := by rw [hdea.len]; simp [kv]; omega
      have hzz := Nat.eq_zero_or_pos k
      revert hzz
      rintro (hk0 | hk0)
      · have hzz := hze hk0
        revert hzz
        rintro ⟨rfl, rfl⟩
        run_tac Drv.goFrom specsD
        refine go_reach (fun h t hx => IH h t (by omega) hx) (fun h' D => ?_)
        try unfold Fr6
        run_tac Drv.facts
        · exact D.size
        · rw [kv_snoc]; exact hden.snoc _ _ _
        · rw [kv_snoc]; exact hdea.snoc _ _ _
        · exact fun h => absurd h (by omega)
        · exact fun _ => ⟨rfl, _, _, _, _, rfl⟩
      · have hzz := hpo hk0
        revert hzz
        rintro ⟨rfl, tk5, tk6, w1, w2, rfl⟩
        run_tac Drv.goFrom specsD
        refine go_reach (fun h t hx => IH h t (by omega) hx) (fun h' D => ?_)
        try unfold Fr6
        run_tac Drv.facts
        · exact D.size
        · rw [kv_snoc]; exact hden.snoc _ _ _
        · rw [kv_snoc]; exact hdea.snoc _ _ _
        · exact fun h => absurd h (by omega)
        · exact fun _ => ⟨rfl, _, _, _, _, rfl⟩
end Mine

end
-- SegT7
section
open PySem PySem.W PySem.W.X PyProof.Rows
set_option maxRecDepth 100000
set_option Elab.async false
set_option maxHeartbeats 0
namespace Mine
theorem seg7 {w : World} {H0 : Heap} {R : Result → Shared → Prop} {d : Drawn} {os : OsState} {N nm wt : Nat → Int} {sz n : Nat} {wd : Bool} (hs1 : 1 ≤ sz) (hs7 : sz ≤ 7) {h : Heap} {t : Nat}
    (E : Env w H0 N nm wt sz h) (own : Own w h) (emp : Empties sz h) (hz : h.objs.size = n) (hn : 10 * sz + 689 ≤ n) (fr : Fr7 w sz wd h) (c646 : h.get? 646 = some (cellO (some (.ref 668)))) (cells : ∀ a : Nat, 648 ≤ a → a ≤ 651 → h.get? a = some (cellO none))
    (next : ∀ h' t' (p : Nat) n', Env w H0 N nm wt sz h' → h'.objs.size = n' → 10 * sz + 689 ≤ p → p < n' → Own w h' → Empties sz h' → Fr8 w sz wd p h' → h'.get? 646 = some (cellO (some (.ref 668))) → (∀ a : Nat, 648 ≤ a → a ≤ 651 → h'.get? a = some (cellO none)) →
      (∃ us e, h'.get? p = some (listO us e) ∧ PV h' us (pairsOf sz)) → Law w R d os 8 [] h' t') : Law w R d os 7 [] h t := by
  have hzz := E
  revert hzz
  rintro ⟨kt, c644, c645, c647, ⟨us, e, lst, hus⟩, ⟨un, en', nam, hun⟩, ⟨uw, ew, wei, huw⟩, g673, ⟨esn, epn, node, hden⟩, ⟨esa, epa, adj, hdea⟩, ⟨ft, gt, att⟩⟩
  have hzz := own
  revert hzz
  rintro ⟨t1, t2, t3, g672⟩
  replace emp : ∀ i : Nat, i < sz → h.get? (10 * i + 694 : Nat) = some (dictO [] 0) := emp
  have hzz := fr
  revert hzz
  rintro ⟨tk, tk2, tk3, tk4, tk5, tk6, v1, v2, fr⟩
  refine law_step _ (by rfl) hz ?_
  run_tac Drv.go specsD
  refine go_loopN sz (fun h₁ k h => Kp h₁ [n + 1, n + 2, n + 3] h ∧ PK h₁ h ∧ (∃ l : Int, h.get? (n + 1 : Nat) = some (rngI (k : Nat) l) ∧ l = (sz : Int) - (k : Nat))
    ∧ (∃ us e, h.get? (n + 2 : Nat) = some (listO us e) ∧ PV h us (pairsOf k)) ∧ Loc2 w Nm.one Nm.other k h (n + 3 : Nat)) ?_ ?_
  · intro h₁ D hz
    unfold Loc2
    run_tac Drv.facts
    · run_tac Drv.numbers
    · exact PV.nil _
    · exact fun _ => ⟨rfl, rfl⟩
    · exact fun h => absurd h (by omega)
    · exact fun h => absurd h (by omega)
  · rintro h₁ D hz k h' t' n' hn hk ⟨K, P, ⟨l, hit, hle⟩, ⟨us', e', hacc, hus'⟩, es, ep, hloc, hl0, hl1, hl2⟩ IH
    replace hz : h₁.objs.size = n + 4 := hz
    have hn' : n + 4 ≤ n' := by have := K.size; omega
    by_cases hkN : k = sz
    · subst hkN
      have hzz := (by omega : k = 1 ∨ 2 ≤ k)
      revert hzz
      rintro (h1 | h1)
      · have hzz := hl1 h1
        revert hzz
        rintro ⟨rfl, v5, tk5, rfl⟩
        run_tac Drv.goFrom specsD
        refine ⟨fun h D => ?_⟩
        have P' : PK h' h := by run_tac Drv.facts
        refine stEnd_next (next _ _ (n + 2) _ ⟨?_, ?_, ?_, ?_, ⟨us, e, ?_, hus⟩, ⟨un, en', ?_, hun⟩, ⟨uw, ew, ?_, huw⟩, ?_, ⟨esn, epn, ?_, hden⟩, ⟨esa, epa, ?_, hdea⟩, ?_⟩ D.size ?_ ?_ ?_ ?_ ?_ ?_ ?_ ⟨us', e', ?_, hus'.mono P'⟩)
        all_goals (try unfold Fr8)
        all_goals run_tac Drv.facts
        · show 10 * k + 689 ≤ n + 2; omega
        · show n + 2 < n' + _; omega
      · have hzz := hl2 h1
        revert hzz
        rintro ⟨rfl, v5, tk5, v6, tk6, rfl⟩
        run_tac Drv.goFrom specsD
        refine ⟨fun h D => ?_⟩
        have P' : PK h' h := by run_tac Drv.facts
        refine stEnd_next (next _ _ (n + 2) _ ⟨?_, ?_, ?_, ?_, ⟨us, e, ?_, hus⟩, ⟨un, en', ?_, hun⟩, ⟨uw, ew, ?_, huw⟩, ?_, ⟨esn, epn, ?_, hden⟩, ⟨esa, epa, ?_, hdea⟩, ?_⟩ D.size ?_ ?_ ?_ ?_ ?_ ?_ ?_ ⟨us', e', ?_, hus'.mono P'⟩)
        all_goals (try unfold Fr8)
        all_goals run_tac Drv.facts
        · show 10 * k + 689 ≤ n + 2; omega
        · show n + 2 < n' + _; omega
    · have three : (es = [] ∧ ep = 0 ∧ k = 0) ∨ (∃ v tk, es = [en w Nm.one tk v] ∧ ep = 1 ∧ k = 1) ∨ (∃ v tk v2 tk2, es = [en w Nm.one tk v, en w Nm.other tk2 v2] ∧ ep = 2 ∧ 2 ≤ k) := by
        have hzz := Nat.lt_trichotomy k 1
        revert hzz
        rintro (h1 | h1 | h1)
        · have := hl0 (by omega); exact .inl ⟨this.1, this.2, by omega⟩
        · obtain ⟨q, v, tk, e⟩ := hl1 h1; exact .inr (.inl ⟨v, tk, e, q, h1⟩)
        · obtain ⟨q, v, tk, v2, tk2, e⟩ := hl2 (by omega); exact .inr (.inr ⟨v, tk, v2, tk2, e, q, by omega⟩)
      have hzz := three
      revert hzz
      rintro (⟨rfl, rfl, hk3⟩ | ⟨v, tkv, rfl, rfl, hk3⟩ | ⟨v, tkv, v', tkv', rfl, rfl, hk3⟩)
      all_goals
        run_tac Drv.goFrom specsD
        refine go_loopN k (fun h₂ j h => Kp h₁ [n + 1, n + 2, n + 3] h ∧ PK h₁ h ∧ n' + 2 ≤ h.objs.size ∧ (∃ l : Int, h.get? (n + 1 : Nat) = some (rngI ((k + 1 : Nat) : Int) l) ∧ l = (sz : Int) - ((k + 1 : Nat) : Int)) ∧ (∃ l : Int, h.get? (n' + 1 : Nat) = some (rngI (j : Nat) l) ∧ l = (k : Int) - (j : Nat))
          ∧ (∃ us e, h.get? (n + 2 : Nat) = some (listO us e) ∧ PV h us (pairsOf k ++ rowOf k j)) ∧ Loc2in w Nm.one Nm.other k j h (n + 3 : Nat)) ?_ ?_
        · intro h₂ D2 hz2
          unfold Loc2in
          run_tac Drv.facts
          · replace hz2 : h₂.objs.size = n' + 2 := hz2
            omega
          · omega
          · run_tac Drv.numbers
          · have q : PK h' h₂ := by run_tac Drv.facts
            simpa [rowOf] using hus'.mono q
          · first | exact fun _ => ⟨rfl, rfl⟩ | exact fun h => absurd h (by omega)
          · first | exact fun _ => ⟨rfl, _, _, rfl⟩ | exact fun h => absurd h (by omega)
        · rintro h₂ D2 hz2 j h3 t3 n3 hn3 hj ⟨K3, P3, hs3, ⟨l3, hit3, hle3⟩, ⟨l4, hit4, hle4⟩, ⟨us4, e4, hacc4, hus4⟩, es4, ep4, tk4, tkk4, hloc4, hla, hlb⟩ IH2
          have hb4 := hus4.bound (by omega) (by omega)
          have hn3' : n' + 2 ≤ n3 := by omega
          by_cases hjk : j = k
          · subst hjk
            have hzz := Nat.eq_zero_or_pos j
            revert hzz
            rintro (hj0 | hj0)
            · try (exfalso; omega)
              all_goals
                have hzz := hla ⟨by omega, hj0⟩
                revert hzz
                rintro ⟨rfl, rfl⟩
                run_tac Drv.goFrom specsD
                refine go_reach (fun h t hx => IH h t (by omega) hx) (fun h' D => ?_)
                unfold Loc2
                run_tac Drv.facts
                · rw [pairsOf_succ]
                  have q : PK h3 h' := by run_tac Drv.facts
                  exact hus4.mono q
                · exact fun h => absurd h (by omega)
                · exact fun _ => ⟨rfl, _, _, rfl⟩
                · exact fun h => absurd h (by omega)
            · try (exfalso; omega)
              all_goals
                have hzz := hlb (.inr hj0)
                revert hzz
                rintro ⟨rfl, v5, tk5, rfl⟩
                run_tac Drv.goFrom specsD
                refine go_reach (fun h t hx => IH h t (by omega) hx) (fun h' D => ?_)
                unfold Loc2
                run_tac Drv.facts
                · rw [pairsOf_succ]
                  have q : PK h3 h' := by run_tac Drv.facts
                  exact hus4.mono q
                · exact fun h => absurd h (by omega)
                · exact fun h => absurd h (by omega)
                · exact fun _ => ⟨rfl, _, _, _, _, rfl⟩
          · have hzz := (by omega : (k ≤ 1 ∧ j = 0) ∨ (2 ≤ k ∨ 0 < j))
            revert hzz
            rintro (hj0 | hj0)
            · try (exfalso; omega)
              all_goals
                have hzz := hla hj0
                revert hzz
                rintro ⟨rfl, rfl⟩
                run_tac Drv.goFrom specsD
                refine go_reach (fun h t hx => IH2 h t (by omega) hx) (fun h' D => ?_)
                unfold Loc2in
                run_tac Drv.facts
                · have := D.size; omega
                · omega
                · rw [rowOf_succ, ← List.append_assoc]
                  have q : PK h3 h' := by run_tac Drv.facts
                  apply (hus4.mono q).snoc
                  · show 687 ≤ (n3 : Nat); omega
                  · run_tac Drv.fact
                · exact fun h => absurd h (by omega)
                · exact fun _ => ⟨rfl, _, _, rfl⟩
            · have hzz := hlb hj0
              revert hzz
              rintro ⟨rfl, v5, tk5, rfl⟩
              try (exfalso; omega)
              all_goals
                run_tac Drv.goFrom specsD
                refine go_reach (fun h t hx => IH2 h t (by omega) hx) (fun h' D => ?_)
                unfold Loc2in
                run_tac Drv.facts
                · have := D.size; omega
                · omega
                · rw [rowOf_succ, ← List.append_assoc]
                  have q : PK h3 h' := by run_tac Drv.facts
                  apply (hus4.mono q).snoc
                  · show 687 ≤ (n3 : Nat); omega
                  · run_tac Drv.fact
                · exact fun h => absurd h (by omega)
                · exact fun _ => ⟨rfl, _, _, rfl⟩
end Mine

end
-- SegT8
section
open PySem PySem.W PySem.W.X PyProof.Rows
set_option maxRecDepth 100000
set_option Elab.async false
set_option maxHeartbeats 0
namespace Mine
theorem seg8 {w : World} {H0 : Heap} {R : Result → Shared → Prop} {d : Drawn} {os : OsState} {N nm wt : Nat → Int} {sz n : Nat} {wd : Bool} {p : Nat} (hs1 : 1 ≤ sz) (hs7 : sz ≤ 7) {h : Heap} {t : Nat}
    (E : Env w H0 N nm wt sz h) (hz : h.objs.size = n) (hp : 10 * sz + 689 ≤ p) (hpn : p < n) (own : Own w h) (emp : Empties sz h) (fr : Fr8 w sz wd p h) (c646 : h.get? 646 = some (cellO (some (.ref 668)))) (cells : ∀ a : Nat, 648 ≤ a → a ≤ 651 → h.get? a = some (cellO none))
    (prs : ∃ us e, h.get? p = some (listO us e) ∧ PV h us (pairsOf sz))
    (next : ∀ h' t' (q : Nat) n', Env w H0 N nm wt sz h' → h'.objs.size = n' → p < q → q < n' → Own w h' → Empties sz h' → Fr8 w sz wd p h' → h'.get? 646 = some (cellO (some (.ref 668))) → h'.get? 648 = some (cellO (some (.ref q))) → (∀ a : Nat, 649 ≤ a → a ≤ 651 → h'.get? a = some (cellO none)) →
      (∃ us e, h'.get? p = some (listO us e) ∧ PV h' us (pairsOf sz)) → (∃ us e, h'.get? q = some (listO us e) ∧ PV h' us (joinedOf (N 1) sz)) → Law w R d os 9 [] h' t') : Law w R d os 8 [] h t := by
  have hzz := E
  revert hzz
  rintro ⟨kt, c644, c645, c647, ⟨us, e, lst, hus⟩, ⟨un, en', nam, hun⟩, ⟨uw, ew, wei, huw⟩, g673, ⟨esn, epn, node, hden⟩, ⟨esa, epa, adj, hdea⟩, ⟨ft, gt, att⟩⟩
  have hzz := own
  revert hzz
  rintro ⟨t1, t2, t3, g672⟩
  replace emp : ∀ i : Nat, i < sz → h.get? (10 * i + 694 : Nat) = some (dictO [] 0) := emp
  have hzz := fr
  revert hzz
  rintro ⟨tk, tk2, tk3, tk4, tk5, tk6, tk7, v1, v2, fr⟩
  have hzz := prs
  revert hzz
  rintro ⟨up, ep0, prs, hup⟩
  refine law_step _ (by rfl) hz ?_
  run_tac Drv.go specsE
  refine go_loopN (pairsOf sz).length (fun h₁ k h => Kp h₁ [n, n + 1, n + 2, n + 3] h ∧ PK h₁ h ∧ n + 4 ≤ h.objs.size ∧ h.get? n = some (lit p (k : Nat)) ∧ (∃ old, h.get? (n + 1 : Nat) = some (enumO n (k : Nat) old))
    ∧ (∃ us e, h.get? (n + 2 : Nat) = some (listO us e) ∧ PV h us (chosen (fun k => Z.modQ (fdp (N 1) k) 2 == 1) (pairsOf sz) k)) ∧ Loc2t w Nm.k Nm.pair k h (n + 3 : Nat)) ?_ ?_
  · intro h₁ D hz
    unfold Loc2t
    run_tac Drv.facts
    · replace hz : h₁.objs.size = n + 4 := hz
      omega
    · exact PV.nil _
    · exact fun _ => ⟨rfl, rfl⟩
    · exact fun h => absurd h (by omega)
  · rintro h₁ D hz k h' t' n' hn hk ⟨K, P, hsz, hit, ⟨old, hen⟩, ⟨us', e', hacc, hus'⟩, es, ep, hloc, hl0, hl1⟩ IH
    have hlen : up.length = (pairsOf sz).length := hup.1
    by_cases hkN : k = (pairsOf sz).length
    · subst hkN
      have hzz := Nat.eq_zero_or_pos (pairsOf sz).length
      revert hzz
      rintro (hk0 | hk0)
      · have hzz := hl0 hk0
        revert hzz
        rintro ⟨rfl, rfl⟩
        run_tac Drv.goFrom specsE
        refine ⟨fun hF DF => ?_⟩
        have q : PK h' hF := by run_tac Drv.facts
        have q0 : PK h hF := by run_tac Drv.facts
        refine stEnd_next (next _ _ (n + 2) _ ⟨?_, ?_, ?_, ?_, ⟨us, e, ?_, hus⟩, ⟨un, en', ?_, hun⟩, ⟨uw, ew, ?_, huw⟩, ?_, ⟨esn, epn, ?_, hden⟩, ⟨esa, epa, ?_, hdea⟩, ?_⟩ DF.size ?_ ?_ ?_ ?_ ?_ ?_ ?_ ?_ ⟨up, ep0, ?_, hup.mono q0⟩ ⟨us', e', ?_, hus'.mono q⟩)
        all_goals (try unfold Fr8)
        all_goals run_tac Drv.facts
        · show p < n + 2; omega
        · show n + 2 < n' + _; omega
      · have hzz := hl1 hk0
        revert hzz
        rintro ⟨rfl, v5, tk5, v6, tk6, rfl⟩
        run_tac Drv.goFrom specsE
        refine ⟨fun hF DF => ?_⟩
        have q : PK h' hF := by run_tac Drv.facts
        have q0 : PK h hF := by run_tac Drv.facts
        refine stEnd_next (next _ _ (n + 2) _ ⟨?_, ?_, ?_, ?_, ⟨us, e, ?_, hus⟩, ⟨un, en', ?_, hun⟩, ⟨uw, ew, ?_, huw⟩, ?_, ⟨esn, epn, ?_, hden⟩, ⟨esa, epa, ?_, hdea⟩, ?_⟩ DF.size ?_ ?_ ?_ ?_ ?_ ?_ ?_ ?_ ⟨up, ep0, ?_, hup.mono q0⟩ ⟨us', e', ?_, hus'.mono q⟩)
        all_goals (try unfold Fr8)
        all_goals run_tac Drv.facts
        · show p < n + 2; omega
        · show n + 2 < n' + _; omega
    · have hkl : k < (pairsOf sz).length := by omega
      have hzz : ∃ x, (pairsOf sz)[k]? = some x := ⟨_, List.getElem?_eq_getElem hkl⟩
      revert hzz
      rintro ⟨⟨i, j⟩, hij⟩
      have hzz := hup.2 k i j hij
      revert hzz
      rintro ⟨a, ti, tj, hxa, ha1, ha2⟩
      have hzz := IntsAre.at hus (tab_at N (n := 18) (k := 1) (by omega))
      revert hzz
      rintro ⟨tk1, hx1⟩
      have hk21 : k ≤ 29 := by have := pairsOf_len hs7; omega
      have hbu : us'.length ≤ 1000000 := by rw [hus'.1]; have := chosen_len (fun k => Z.modQ (fdp (N 1) k) 2 == 1) (pairsOf sz) k; omega
      have P0 : PK h h' := by run_tac Drv.facts
      have ha3 := P0 _ _ _ _ _ ha1 ha2
      by_cases hb : Z.modQ (fdp (N 1) k) 2 = 1
      · have hzz := Nat.eq_zero_or_pos k
        revert hzz
        rintro (hk0 | hk0)
        · have hzz := hl0 hk0
          revert hzz
          rintro ⟨rfl, rfl⟩
          run_tac Drv.goFrom specsE
          refine go_reach (fun h t hx => IH h t (by omega) hx) (fun hF DF => ?_)
          unfold Loc2t
          run_tac Drv.facts
          · have := DF.size; omega
          · rw [chosen_yes hij (by simpa using hb)]
            have q : PK h' hF := by run_tac Drv.facts
            refine PV.snoc (ti := ti) (tj := tj) (hus'.mono q) ha1 (q _ _ _ _ _ ha1 ha3)
          · exact fun h => absurd h (by omega)
          · exact fun _ => ⟨rfl, _, _, _, _, rfl⟩
        · have hzz := hl1 hk0
          revert hzz
          rintro ⟨rfl, v5, tk5, v6, tk6, rfl⟩
          run_tac Drv.goFrom specsE
          refine go_reach (fun h t hx => IH h t (by omega) hx) (fun hF DF => ?_)
          unfold Loc2t
          run_tac Drv.facts
          · have := DF.size; omega
          · rw [chosen_yes hij (by simpa using hb)]
            have q : PK h' hF := by run_tac Drv.facts
            refine PV.snoc (ti := ti) (tj := tj) (hus'.mono q) ha1 (q _ _ _ _ _ ha1 ha3)
          · exact fun h => absurd h (by omega)
          · exact fun _ => ⟨rfl, _, _, _, _, rfl⟩
      · have hzz := Nat.eq_zero_or_pos k
        revert hzz
        rintro (hk0 | hk0)
        · have hzz := hl0 hk0
          revert hzz
          rintro ⟨rfl, rfl⟩
          run_tac Drv.goFrom specsE
          refine go_reach (fun h t hx => IH h t (by omega) hx) (fun hF DF => ?_)
          unfold Loc2t
          run_tac Drv.facts
          · have := DF.size; omega
          · rw [chosen_no (by simpa using hb)]
            exact hus'.mono (by run_tac Drv.facts)
          · exact fun h => absurd h (by omega)
          · exact fun _ => ⟨rfl, _, _, _, _, rfl⟩
        · have hzz := hl1 hk0
          revert hzz
          rintro ⟨rfl, v5, tk5, v6, tk6, rfl⟩
          run_tac Drv.goFrom specsE
          refine go_reach (fun h t hx => IH h t (by omega) hx) (fun hF DF => ?_)
          unfold Loc2t
          run_tac Drv.facts
          · have := DF.size; omega
          · rw [chosen_no (by simpa using hb)]
            exact hus'.mono (by run_tac Drv.facts)
          · exact fun h => absurd h (by omega)
          · exact fun _ => ⟨rfl, _, _, _, _, rfl⟩
end Mine

end
-- SegT9
section
open PySem PySem.W PySem.W.X PyProof.Rows
set_option maxRecDepth 100000
set_option Elab.async false
set_option maxHeartbeats 0
namespace Mine
theorem seg9 {w : World} {H0 : Heap} {R : Result → Shared → Prop} {d : Drawn} {os : OsState} {N nm wt : Nat → Int} {sz n : Nat} {wd : Bool} {p q : Nat} {jn : List (Nat × Nat)} (hs1 : 1 ≤ sz) (hs7 : sz ≤ 7) {h : Heap} {t : Nat}
    (inj : ∀ i j, i < sz → j < sz → nm i = nm j → i = j) (hj : ∀ (k i j : Nat), jn[k]? = some (i, j) → j < i ∧ i < sz)
    (hfr : ∀ (k x y : Nat), (jn.map (orient (N 17)))[k]? = some (x, y) → x < sz ∧ y < sz ∧ x ≠ y ∧ y ∉ nbOf ((jn.map (orient (N 17))).take k) x ∧ x ∉ nbOf ((jn.map (orient (N 17))).take k) y) (hjl : jn.length ≤ 21)
    (E : Env w H0 N nm wt sz h) (hz : h.objs.size = n) (hp : 10 * sz + 689 ≤ p) (hpq : p < q) (hqn : q < n) (own : Own w h) (emp : Empties sz h) (fr : Fr8 w sz wd p h) (c646 : h.get? 646 = some (cellO (some (.ref 668)))) (c648 : h.get? 648 = some (cellO (some (.ref q)))) (cells : ∀ a : Nat, 649 ≤ a → a ≤ 651 → h.get? a = some (cellO none))
    (prs : ∃ us e, h.get? p = some (listO us e) ∧ PV h us (pairsOf sz)) (jnd : ∃ us e, h.get? q = some (listO us e) ∧ PV h us jn)
    (next : ∀ h' t' n', Env w H0 N nm wt sz h' → h'.objs.size = n' → q < n' → Own w h' → Adj sz nm (nbOf (jn.map (orient (N 17)))) h' → Fr8 w sz wd p h' → h'.get? 646 = some (cellO (some (.ref 668))) → h'.get? 648 = some (cellO (some (.ref q))) → (∀ a : Nat, 649 ≤ a → a ≤ 651 → h'.get? a = some (cellO none)) →
      (∃ us e, h'.get? p = some (listO us e) ∧ PV h' us (pairsOf sz)) → (∃ us e, h'.get? q = some (listO us e) ∧ PV h' us jn) → Law w R d os 10 [] h' t') : Law w R d os 9 [] h t := by
  have hzz := E
  revert hzz
  rintro ⟨kt, c644, c645, c647, ⟨us, e, lst, hus⟩, ⟨un, en', nam, hun⟩, ⟨uw, ew, wei, huw⟩, g673, ⟨esn, epn, node, hden⟩, ⟨esa, epa, adj, hdea⟩, ⟨ft, gt, att⟩⟩
  have hzz := own
  revert hzz
  rintro ⟨t1, t2, t3, g672⟩
  replace emp : ∀ i : Nat, i < sz → h.get? (10 * i + 694 : Nat) = some (dictO [] 0) := emp
  have hzz := fr
  revert hzz
  rintro ⟨tk, tk2, tk3, tk4, tk5, tk6, tk7, v1, v2, fr⟩
  have hzz := prs
  revert hzz
  rintro ⟨up, ep0, prs, hup⟩
  have hzz := jnd
  revert hzz
  rintro ⟨uj, ej0, jnd, huj⟩
  refine law_step _ (by rfl) hz ?_
  run_tac Drv.go specsE
  refine go_loopN jn.length (fun h₁ k h => Kp h₁ [n, n + 1, n + 2] h ∧ PK h₁ h ∧ n + 3 ≤ h.objs.size ∧ h.get? n = some (lit q (k : Nat)) ∧ (∃ us e, h.get? (n + 1 : Nat) = some (listO us e) ∧ EV nm h us ((jn.take k).map (orient (N 17))))
    ∧ Loc2t w Nm.one Nm.other k h (n + 2 : Nat)) ?_ ?_
  · intro h₁ D hz
    unfold Loc2t
    run_tac Drv.facts
    · replace hz : h₁.objs.size = n + 3 := hz
      omega
    · exact EV.nil _ _
    · exact fun _ => ⟨rfl, rfl⟩
    · exact fun h => absurd h (by omega)
  · rintro h₁ D hz k h' t' n' hn hk ⟨K, P, hsz, hit, ⟨us', e', hacc, hus'⟩, es, ep, hloc, hl0, hl1⟩ IH
    have hlen : uj.length = jn.length := huj.1
    have hbu : us'.length ≤ 1000000 := by rw [hus'.1]; simp; omega
    by_cases hkN : k = jn.length
    · subst hkN
      have hzz := Nat.eq_zero_or_pos jn.length
      revert hzz
      rintro (hk0 | hk0)
      · have hzz := hl0 hk0
        revert hzz
        rintro ⟨rfl, rfl⟩
        run_tac Drv.goFrom specsE
        have hzz : jn = [] := List.length_eq_zero_iff.mp hk0
        revert hzz
        rintro rfl
        have hzz : us' = [] := List.length_eq_zero_iff.mp (by rw [hus'.1]; simp)
        revert hzz
        rintro rfl
        run_tac Drv.goFrom specsE
        refine ⟨fun hF DF => ?_⟩
        have q0 : PK h hF := by run_tac Drv.facts
        refine stEnd_next (next _ _ _ ⟨?_, ?_, ?_, ?_, ⟨us, e, ?_, hus⟩, ⟨un, en', ?_, hun⟩, ⟨uw, ew, ?_, huw⟩, ?_, ⟨esn, epn, ?_, hden⟩, ⟨esa, epa, ?_, hdea⟩, ?_⟩ DF.size ?_ ?_ ?_ ?_ ?_ ?_ ?_ ⟨up, ep0, ?_, hup.mono q0⟩ ⟨uj, ej0, ?_, huj.mono q0⟩)
        all_goals (try unfold Fr8)
        all_goals run_tac Drv.facts
        · show q < n' + _; omega
        · intro i hi
          have q1 : hF.get? (10 * i + 694 : Nat) = some (dictO [] 0) := by run_tac Drv.fact
          exact ⟨_, _, [], q1, DE.nil, by simp [nbOf], fun p hp => nomatch hp⟩
      · have hzz := hl1 hk0
        revert hzz
        rintro ⟨rfl, v5, tk5, v6, tk6, rfl⟩
        run_tac Drv.goFrom specsE
        clear IH
        refine go_loopN jn.length (fun h₁ k h => KI h₁ 687 (10 * sz + 689) [n' + 3, n' + 4] h ∧ PK h₁ h ∧ n' + 5 ≤ h.objs.size ∧ h.get? (n' + 4 : Nat) = some (lit (n + 1) (k : Nat)) ∧ h.get? (n' + 2 : Nat) = some (dictO [] 0)
          ∧ Adj sz nm (nbOf ((jn.map (orient (N 17))).take k)) h ∧ FrE w k (n + 1) (n' + 2) h (n' + 3)
          ∧ (∀ i : Nat, i < sz → h.get? (10 * i + 696 : Nat) = some (dictO [en w Nm.heavy (ft i) (.int (wt i) (gt i))] 1))) ?_ ?_
        · intro h₂ D2 hz2
          unfold FrE
          run_tac Drv.facts
          · replace hz2 : h₂.objs.size = n' + 5 := hz2
            omega
          · unfold Adj
            intro i hi
            have : h₂.get? (10 * i + 694 : Nat) = some (dictO [] 0) := by run_tac Drv.fact
            exact ⟨_, _, [], this, DE.nil, by simp [nbOf], fun p hp => nomatch hp⟩
          · exact fun _ => ⟨rfl, rfl⟩
          · exact fun h => absurd h (by omega)
        · rintro h₂ D2 hz2 k h3 t3 n3 hn3 hk3 ⟨K3, P3, hsz3, hit3, hat3, adj3, ⟨es3, ep3, tk31, tk32, tk33, hfr3, hl30, hl31⟩, att3⟩ IH2
          by_cases hkN : k = jn.length
          · have hzz := hl31 (by omega)
            revert hzz
            rintro ⟨rfl, tq4, vq4, tq5, vq5, tq6, vq6, tq7, vq7, tq8, vq8, tq9, vq9, rfl⟩
            have hlen2 : us'.length = k := by rw [hus'.1]; simp; omega
            run_tac Drv.goFrom specsE
            refine ⟨fun hF DF => ?_⟩
            have q0 : PK h hF := by run_tac Drv.facts
            refine stEnd_next (next _ _ _ ⟨?_, ?_, ?_, ?_, ⟨us, e, ?_, hus⟩, ⟨un, en', ?_, hun⟩, ⟨uw, ew, ?_, huw⟩, ?_, ⟨esn, epn, ?_, hden⟩, ⟨esa, epa, ?_, hdea⟩, ?_⟩ DF.size ?_ ?_ ?_ ?_ ?_ ?_ ?_ ⟨up, ep0, ?_, hup.mono q0⟩ ⟨uj, ej0, ?_, huj.mono q0⟩)
            all_goals (try unfold Fr8)
            all_goals run_tac Drv.facts
            · show q < n3 + _; omega
            · intro i hi
              have hzz := adj3 i hi
              revert hzz
              rintro ⟨es, ep, kvs, q1, q2, q3, q5⟩
              have q4 : hF.get? (10 * i + 694 : Nat) = some (dictO es ep) := by run_tac Drv.fact
              rw [hkN, show jn.length = (jn.map (orient (N 17))).length by simp, List.take_length] at q3
              exact ⟨es, ep, kvs, q4, q2, q3, q5⟩
          · have hkl : k < jn.length := by omega
            have hzz : ∃ e, (jn.map (orient (N 17)))[k]? = some e := ⟨_, List.getElem?_eq_getElem (by simpa using hkl)⟩
            revert hzz
            rintro ⟨⟨x, y⟩, hxy⟩
            have hzz := hfr k x y hxy
            revert hzz
            rintro ⟨hx, hy, hne, hfx, hfy⟩
            rw [List.take_length] at hus'
            have hzz := hus'.2 k x y hxy
            revert hzz
            rintro ⟨a, ti, tj, hxa, ha1, ha2⟩
            have han : a < n' := by have : a < h'.objs.size := lk_size ha2; omega
            have P0 : PK h' h3 := by run_tac Drv.facts
            have ha3 := P0 _ _ _ _ _ ha1 ha2
            have hzz := adj3 x hx
            revert hzz
            rintro ⟨esx, epx, kvx, hgx, hdx, hkx, hrx⟩
            have hzz := adj3 y hy
            revert hzz
            rintro ⟨esy, epy, kvy, hgy, hdy, hky, hry⟩
            have hmem : ∀ i, ∀ z ∈ nbOf ((jn.map (orient (N 17))).take k) i, z < sz := by
              intro i z hz
              have hzz := nbOf_mem hz
              revert hzz
              rintro ⟨e, he, h1⟩
              have hzz := List.getElem?_of_mem (List.mem_of_mem_take he)
              revert hzz
              rintro ⟨k', hk'⟩
              have hzz := hfr k' e.1 e.2 hk'
              revert hzz
              rintro ⟨q1, q2, _⟩
              have hzz := h1
              revert hzz
              rintro (rfl | rfl)
              · exact q1
              · exact q2
            have noX := keys_none inj hkx hy (hmem x) hfx
            have noY := keys_none inj hky hx (hmem y) hfy
            have lenX : esx.length ≤ 1000000 := by
              rw [hdx.len, ← List.length_map (f := fun p : Int × Value => p.1), hkx, List.length_map]
              have := nbOf_len ((jn.map (orient (N 17))).take k) x
              simp at this; omega
            have lenY : esy.length ≤ 1000000 := by
              rw [hdy.len, ← List.length_map (f := fun p : Int × Value => p.1), hky, List.length_map]
              have := nbOf_len ((jn.map (orient (N 17))).take k) y
              simp at this; omega
            have atX := kv_key (f := fun i => .ref (10 * i + 694 : Nat)) inj hx rfl
            have atY := kv_key (f := fun i => .ref (10 * i + 694 : Nat)) inj hy rfl
            have inX : (valueAt (kv sz nm (fun i => .ref (10 * i + 696 : Nat))) (nm x)).isSome = true := by rw [kv_key (f := fun i => .ref (10 * i + 696 : Nat)) inj hx rfl]; rfl
            have inY : (valueAt (kv sz nm (fun i => .ref (10 * i + 696 : Nat))) (nm y)).isSome = true := by rw [kv_key (f := fun i => .ref (10 * i + 696 : Nat)) inj hy rfl]; rfl
            have hzz := Nat.eq_zero_or_pos k
            revert hzz
            rintro (hk30 | hk30)
            · have hzz := hl30 hk30
              revert hzz
              rintro ⟨rfl, rfl⟩
              run_tac Drv.goFrom specsE
              refine go_reach (fun h t hx => IH2 h t (by omega) hx) (fun hF DF => ?_)
              unfold FrE
              run_tac Drv.facts
              · have := DF.size; omega
              · have e2 : nbOf ((jn.map (orient (N 17))).take (k + 1)) = addE (nbOf ((jn.map (orient (N 17))).take k)) (x, y) := by
                  rw [List.take_add_one, hxy, Option.toList_some, nbOf_snoc]
                rw [e2]
                intro z hz
                by_cases hzx : z = x
                · subst hzx
                  have q : ∃ es ep, hF.get? (10 * z + 694 : Nat) = some (dictO es ep) ∧ ∃ tk v, es = esx ++ [⟨hashInt (nm y), .int (nm y) tk, .ref v⟩] := by
                    run_tac Drv.facts
                    exact rfl
                  have hzz := q
                  revert hzz
                  rintro ⟨es, ep, q1, tk, v, rfl⟩
                  exact ⟨_, _, _, q1, hdx.snoc _ _ _, by simp [addE, hkx], refs_snoc hrx⟩
                · by_cases hzy : z = y
                  · subst hzy
                    have q : ∃ es ep, hF.get? (10 * z + 694 : Nat) = some (dictO es ep) ∧ ∃ tk v, es = esy ++ [⟨hashInt (nm x), .int (nm x) tk, .ref v⟩] := by
                      run_tac Drv.facts
                      exact rfl
                    have hzz := q
                    revert hzz
                    rintro ⟨es, ep, q1, tk, v, rfl⟩
                    exact ⟨_, _, _, q1, hdy.snoc _ _ _, by simp [addE, hky, hzx], refs_snoc hry⟩
                  · have hzz := adj3 z hz
                    revert hzz
                    rintro ⟨esz, epz, kvz, hgz, hdz, hkz, hrz⟩
                    have q1 : hF.get? (10 * z + 694 : Nat) = some (dictO esz epz) := by run_tac Drv.fact
                    exact ⟨_, _, _, q1, hdz, by simp [addE, hkz, hzx, hzy], hrz⟩
              · exact fun h => absurd h (by omega)
              · exact fun _ => ⟨rfl, _, _, _, _, _, _, _, _, _, _, _, _, rfl⟩
            · have hzz := hl31 hk30
              revert hzz
              rintro ⟨rfl, tq4, vq4, tq5, vq5, tq6, vq6, tq7, vq7, tq8, vq8, tq9, vq9, rfl⟩
              run_tac Drv.goFrom specsE
              refine go_reach (fun h t hx => IH2 h t (by omega) hx) (fun hF DF => ?_)
              unfold FrE
              run_tac Drv.facts
              · have := DF.size; omega
              · have e2 : nbOf ((jn.map (orient (N 17))).take (k + 1)) = addE (nbOf ((jn.map (orient (N 17))).take k)) (x, y) := by
                  rw [List.take_add_one, hxy, Option.toList_some, nbOf_snoc]
                rw [e2]
                intro z hz
                by_cases hzx : z = x
                · subst hzx
                  have q : ∃ es ep, hF.get? (10 * z + 694 : Nat) = some (dictO es ep) ∧ ∃ tk v, es = esx ++ [⟨hashInt (nm y), .int (nm y) tk, .ref v⟩] := by
                    run_tac Drv.facts
                    exact rfl
                  have hzz := q
                  revert hzz
                  rintro ⟨es, ep, q1, tk, v, rfl⟩
                  exact ⟨_, _, _, q1, hdx.snoc _ _ _, by simp [addE, hkx], refs_snoc hrx⟩
                · by_cases hzy : z = y
                  · subst hzy
                    have q : ∃ es ep, hF.get? (10 * z + 694 : Nat) = some (dictO es ep) ∧ ∃ tk v, es = esy ++ [⟨hashInt (nm x), .int (nm x) tk, .ref v⟩] := by
                      run_tac Drv.facts
                      exact rfl
                    have hzz := q
                    revert hzz
                    rintro ⟨es, ep, q1, tk, v, rfl⟩
                    exact ⟨_, _, _, q1, hdy.snoc _ _ _, by simp [addE, hky, hzx], refs_snoc hry⟩
                  · have hzz := adj3 z hz
                    revert hzz
                    rintro ⟨esz, epz, kvz, hgz, hdz, hkz, hrz⟩
                    have q1 : hF.get? (10 * z + 694 : Nat) = some (dictO esz epz) := by run_tac Drv.fact
                    exact ⟨_, _, _, q1, hdz, by simp [addE, hkz, hzx, hzy], hrz⟩
              · exact fun h => absurd h (by omega)
              · exact fun _ => ⟨rfl, _, _, _, _, _, _, _, _, _, _, _, _, rfl⟩
    · have hkl : k < jn.length := by omega
      have hzz : ∃ x, jn[k]? = some x := ⟨_, List.getElem?_eq_getElem hkl⟩
      revert hzz
      rintro ⟨⟨i, j⟩, hij⟩
      have hzz := hj k i j hij
      revert hzz
      rintro ⟨hji, his⟩
      have hzz := huj.2 k i j hij
      revert hzz
      rintro ⟨a, ti, tj, hxa, ha1, ha2⟩
      have han : a < h.objs.size := lk_size ha2
      have P0 : PK h h' := by run_tac Drv.facts
      have ha3 := P0 _ _ _ _ _ ha1 ha2
      have hzz := IntsAre.at hus (tab_at N (n := 18) (k := 17) (by omega))
      revert hzz
      rintro ⟨tk1, hx1⟩
      have hzz := IntsAre.at hun (tab_at nm (n := sz) (k := i) (by omega))
      revert hzz
      rintro ⟨tki, hxi⟩
      have hzz := IntsAre.at hun (tab_at nm (n := sz) (k := j) (by omega))
      revert hzz
      rintro ⟨tkj, hxj⟩
      have hzz := Nat.eq_zero_or_pos k
      revert hzz
      rintro (hk0 | hk0)
      · have hzz := hl0 hk0
        revert hzz
        rintro ⟨rfl, rfl⟩
        by_cases hb : Z.modQ (fdp (N 17) i) 2 = 0
        · run_tac Drv.goFrom specsE
          refine go_reach (fun h t hx => IH h t (by omega) hx) (fun hF DF => ?_)
          unfold Loc2t
          run_tac Drv.facts
          · have := DF.size; omega
          · rw [List.take_add_one, List.map_append, hij]
            have q : PK h' hF := by run_tac Drv.facts
            simp only [Option.toList_some, List.map_cons, List.map_nil, orient, hb, if_true, if_false]
            apply (hus'.mono q).snoc
            · show 687 ≤ n' + 3; omega
            · run_tac Drv.fact
          · exact fun h => absurd h (by omega)
          · exact fun _ => ⟨rfl, _, _, _, _, rfl⟩
        · run_tac Drv.goFrom specsE
          refine go_reach (fun h t hx => IH h t (by omega) hx) (fun hF DF => ?_)
          unfold Loc2t
          run_tac Drv.facts
          · have := DF.size; omega
          · rw [List.take_add_one, List.map_append, hij]
            have q : PK h' hF := by run_tac Drv.facts
            simp only [Option.toList_some, List.map_cons, List.map_nil, orient, hb, if_true, if_false]
            apply (hus'.mono q).snoc
            · show 687 ≤ n' + 3; omega
            · run_tac Drv.fact
          · exact fun h => absurd h (by omega)
          · exact fun _ => ⟨rfl, _, _, _, _, rfl⟩
      · have hzz := hl1 hk0
        revert hzz
        rintro ⟨rfl, v5, tk5, v6, tk6, rfl⟩
        by_cases hb : Z.modQ (fdp (N 17) i) 2 = 0
        · run_tac Drv.goFrom specsE
          refine go_reach (fun h t hx => IH h t (by omega) hx) (fun hF DF => ?_)
          unfold Loc2t
          run_tac Drv.facts
          · have := DF.size; omega
          · rw [List.take_add_one, List.map_append, hij]
            have q : PK h' hF := by run_tac Drv.facts
            simp only [Option.toList_some, List.map_cons, List.map_nil, orient, hb, if_true, if_false]
            apply (hus'.mono q).snoc
            · show 687 ≤ n' + 3; omega
            · run_tac Drv.fact
          · exact fun h => absurd h (by omega)
          · exact fun _ => ⟨rfl, _, _, _, _, rfl⟩
        · run_tac Drv.goFrom specsE
          refine go_reach (fun h t hx => IH h t (by omega) hx) (fun hF DF => ?_)
          unfold Loc2t
          run_tac Drv.facts
          · have := DF.size; omega
          · rw [List.take_add_one, List.map_append, hij]
            have q : PK h' hF := by run_tac Drv.facts
            simp only [Option.toList_some, List.map_cons, List.map_nil, orient, hb, if_true, if_false]
            apply (hus'.mono q).snoc
            · show 687 ≤ n' + 3; omega
            · run_tac Drv.fact
          · exact fun h => absurd h (by omega)
          · exact fun _ => ⟨rfl, _, _, _, _, rfl⟩
end Mine

end
-- Seg10
section
open PySem PySem.W PySem.W.X PyProof.Rows
set_option maxRecDepth 100000
set_option Elab.async false
set_option maxHeartbeats 0
namespace Mine
theorem seg10 {w : World} {H0 : Heap} {R : Result → Shared → Prop} {d : Drawn} {os : OsState} {N nm wt : Nat → Int} {sz n : Nat} {wd : Bool} {p q : Nat} {jn : List (Nat × Nat)} {nb : Nat → List Nat} (hs1 : 1 ≤ sz) (hs7 : sz ≤ 7) {h : Heap} {t : Nat}
    (hsym : ∀ i y, i < sz → y ∈ nb i → y < sz ∧ i ∈ nb y) (hlen : ∀ i, (nb i).length ≤ 21) (inj : ∀ i j, i < sz → j < sz → nm i = nm j → i = j)
    (E : Env w H0 N nm wt sz h) (hz : h.objs.size = n) (hp : 10 * sz + 689 ≤ p) (hpq : p < q) (hqn : q < n) (own : Own w h) (adjs : Adj sz nm nb h) (fr : Fr8 w sz wd p h) (c646 : h.get? 646 = some (cellO (some (.ref 668)))) (c648 : h.get? 648 = some (cellO (some (.ref q)))) (cells : ∀ a : Nat, 649 ≤ a → a ≤ 651 → h.get? a = some (cellO none))
    (prs : ∃ us e, h.get? p = some (listO us e) ∧ PV h us (pairsOf sz)) (jnd : ∃ us e, h.get? q = some (listO us e) ∧ PV h us jn)
    (next : ∀ h' t' (τ : Nat) n' gs, gs.bare = true → Env w H0 N nm wt sz h' → h'.objs.size = n' → q < τ → τ < n' → Own2 w h' → Adj sz nm nb h' → Fr8 w sz wd p h' → h'.get? 646 = some (cellO (some (.ref 668))) → h'.get? 648 = some (cellO (some (.ref q))) → h'.get? 649 = some (cellO (some (.ref τ))) → (∀ a : Nat, 650 ≤ a → a ≤ 651 → h'.get? a = some (cellO none)) →
      (∃ us e, h'.get? p = some (listO us e) ∧ PV h' us (pairsOf sz)) → (∃ us e, h'.get? q = some (listO us e) ∧ PV h' us jn) →
      (∃ es ep t, h'.get? τ = some (setO es ep t) ∧ SS es t (fun z => decide (z ∈ (lrAt (fun i => if wd then wt i else 1) (eoN nb sz)).2.map nm)) (lrAt (fun i => if wd then wt i else 1) (eoN nb sz)).2.length) → Law w R d os 11 [gs] h' t') : Law w R d os 10 [] h t := by
  have hzz := E
  revert hzz
  rintro ⟨kt, c644, c645, c647, ⟨us, e, lst, hus⟩, ⟨un, en', nam, hun⟩, ⟨uw, ew, wei, huw⟩, g673, ⟨esn, epn, node, hden⟩, ⟨esa, epa, adj, hdea⟩, ⟨ft, gt, att⟩⟩
  have hzz := own
  revert hzz
  rintro ⟨t1, t2, t3, g672⟩
  have hzz := fr
  revert hzz
  rintro ⟨tk, tk2, tk3, tk4, tk5, tk6, tk7, v1, v2, fr⟩
  have hzz := prs
  revert hzz
  rintro ⟨up, ep0, prs, hup⟩
  have hzz := jnd
  revert hzz
  rintro ⟨uj, ej0, jnd, huj⟩
  refine law_step _ (by rfl) hz ?_
  have hszn : esn.toArray.size = sz := by rw [List.size_toArray, hden.len, kv_len]
  have hn701 : 701 ≤ n := by omega
  run_tac Drv.share `key [`w, `R, `d, `os, `n] 0 (do `(J10 $(Lean.mkIdent `w) $(Lean.mkIdent `nm) (fun i => if $(Lean.mkIdent `wd) then $(Lean.mkIdent `wt) i else 1) $(Lean.mkIdent `sz) $(Lean.mkIdent `n) $(Lean.mkIdent `epn) $(Lean.mkIdent `h)))
  · cases wd
    · run_tac Drv.go specsF
      refine go_loopN sz (fun h₁ k h => Kp h₁ [n + 3, n + 4, n + 5] h ∧ PK h₁ h ∧ n + 6 ≤ h.objs.size ∧ (∃ ok ov, h.get? (n + 3 : Nat) = some (itemIt 679 (k : Nat) (sz : Nat) epn ok ov) ∧ (k = 0 → ok = .none ∧ ov = .none) ∧ (0 < k → ∃ x tx y, ok = .int x tx ∧ ov = .ref y))
          ∧ CostD nm (fun _ => 1) k h (n + 4 : Nat) ∧ Loc2t w Nm.n Nm.d k h (n + 5 : Nat)) ?_ ?_
      · intro h₁ D hz1
        unfold Loc2t
        rw [← hszn]
        run_tac Drv.facts
        · replace hz1 : h₁.objs.size = n + 6 := hz1
          omega
        · exact fun _ => ⟨rfl, rfl⟩
        · exact fun h => absurd h (by omega)
        · exact ⟨[], 0, fun _ => 0, by run_tac Drv.fact, DE.nil⟩
        · exact fun _ => ⟨rfl, rfl⟩
        · exact fun h => absurd h (by omega)
      · rintro h₁ D hz1 k h' t' n' hn hk ⟨K, P, hsz, ⟨ok, ov, hit, ho0, ho1⟩, cst, es, ep, hloc, hl0, hl1⟩ IH
        by_cases hkN : k = sz
        · have hzz := hl1 (by omega)
          revert hzz
          rintro ⟨rfl, v5, tk5, v6, tk6, rfl⟩
          have hzz := ho1 (by omega)
          revert hzz
          rintro ⟨x, tx, y, rfl, rfl⟩
          rw [hkN] at cst hit
          have K0 : Kp h [] h₁ := by run_tac Drv.facts
          have P0 : PK h h' := by run_tac Drv.facts
          refine key h' t' n' hn ⟨K0.new K ?_, P0, hsz, ?_, ⟨x, tx, y, hit⟩, ?_, cst, ⟨_, _, _, _, hloc⟩⟩
          · rw [hz]; intro x hx; simp only [List.mem_cons, List.not_mem_nil, or_false] at hx; rcases hx with rfl | rfl | rfl <;> exact Nat.le_add_right _ _
          · run_tac Drv.facts
          · run_tac Drv.facts
        · have hkl : k < sz := by omega
          have hzz := cst
          revert hzz
          rintro ⟨esc, epc, tg, hcost, hdec⟩
          have hzz := hden.at (kv_get hkl)
          revert hzz
          rintro ⟨tkk, hxk⟩
          have hxe : ∀ hh : ((k : Nat) : Int).toNat < esn.toArray.size, esn.toArray[((k : Nat) : Int).toNat]'hh = ⟨hashInt (nm k), .int (nm k) tkk, .ref (10 * k + 696 : Nat)⟩ := by
            intro hh
            have := (List.getElem?_eq_some_iff.mp hxk).2
            simpa using this
          have hvn : valueAt (kv k nm (fun i => .int ((fun _ => 1) i) (tg i))) (nm k) = none := kv_none _ inj (Nat.le_refl k) hkl
          have hlc : esc.length ≤ 1000000 := by rw [hdec.len, kv_len]; omega
          have hzz := Nat.eq_zero_or_pos k
          revert hzz
          rintro (hk0 | hk0)
          · have hzz := hl0 hk0
            revert hzz
            rintro ⟨rfl, rfl⟩
            have hzz := ho0 hk0
            revert hzz
            rintro ⟨rfl, rfl⟩
            run_tac Drv.unden
            refine go_dc (fun G => ?_)
            run_tac Drv.go specsF
            refine fini_F rfl rfl rfl ?_
            simp only [dcTail]
            refine go_cutV ?_
            by_cases hh : hs w.params Nm.heavy = 4238894112
            all_goals
              run_tac Drv.go specsF
              refine fini_V rfl rfl rfl ?_
              refine go_dcStore (es := esc) (ep := epc) (kvs := kv k nm (fun i => .int ((fun _ => 1) i) (tg i))) (by run_tac Drv.up) hdec hvn hlc ?_
              run_tac Drv.go specsF
              refine go_reach (fun h t hx => IH h t (by omega) hx) (fun hF DF => ?_)
              unfold Loc2t
              run_tac Drv.facts
              · have := DF.size; omega
              · exact fun h => absurd h (by omega)
              · exact fun _ => ⟨_, _, _, rfl, rfl⟩
              · exact CostD.snoc hdec (by run_tac Drv.fact)
              · exact fun h => absurd h (by omega)
              · exact fun _ => ⟨rfl, _, _, _, _, rfl⟩
          · have hzz := hl1 hk0
            revert hzz
            rintro ⟨rfl, v5, tk5, v6, tk6, rfl⟩
            have hzz := ho1 hk0
            revert hzz
            rintro ⟨x, tx, y, rfl, rfl⟩
            run_tac Drv.unden
            refine go_dc (fun G => ?_)
            run_tac Drv.go specsF
            refine fini_F rfl rfl rfl ?_
            simp only [dcTail]
            refine go_cutV ?_
            by_cases hh : hs w.params Nm.heavy = 4238894112
            all_goals
              run_tac Drv.go specsF
              refine fini_V rfl rfl rfl ?_
              refine go_dcStore (es := esc) (ep := epc) (kvs := kv k nm (fun i => .int ((fun _ => 1) i) (tg i))) (by run_tac Drv.up) hdec hvn hlc ?_
              run_tac Drv.go specsF
              refine go_reach (fun h t hx => IH h t (by omega) hx) (fun hF DF => ?_)
              unfold Loc2t
              run_tac Drv.facts
              · have := DF.size; omega
              · exact fun h => absurd h (by omega)
              · exact fun _ => ⟨_, _, _, rfl, rfl⟩
              · exact CostD.snoc hdec (by run_tac Drv.fact)
              · exact fun h => absurd h (by omega)
              · exact fun _ => ⟨rfl, _, _, _, _, rfl⟩
    · run_tac Drv.go specsF
      refine go_loopN sz (fun h₁ k h => Kp h₁ [n + 3, n + 4, n + 5] h ∧ PK h₁ h ∧ n + 6 ≤ h.objs.size ∧ (∃ ok ov, h.get? (n + 3 : Nat) = some (itemIt 679 (k : Nat) (sz : Nat) epn ok ov) ∧ (k = 0 → ok = .none ∧ ov = .none) ∧ (0 < k → ∃ x tx y, ok = .int x tx ∧ ov = .ref y))
          ∧ CostD nm wt k h (n + 4 : Nat) ∧ Loc2t w Nm.n Nm.d k h (n + 5 : Nat)) ?_ ?_
      · intro h₁ D hz1
        unfold Loc2t
        rw [← hszn]
        run_tac Drv.facts
        · replace hz1 : h₁.objs.size = n + 6 := hz1
          omega
        · exact fun _ => ⟨rfl, rfl⟩
        · exact fun h => absurd h (by omega)
        · exact ⟨[], 0, fun _ => 0, by run_tac Drv.fact, DE.nil⟩
        · exact fun _ => ⟨rfl, rfl⟩
        · exact fun h => absurd h (by omega)
      · rintro h₁ D hz1 k h' t' n' hn hk ⟨K, P, hsz, ⟨ok, ov, hit, ho0, ho1⟩, cst, es, ep, hloc, hl0, hl1⟩ IH
        by_cases hkN : k = sz
        · have hzz := hl1 (by omega)
          revert hzz
          rintro ⟨rfl, v5, tk5, v6, tk6, rfl⟩
          have hzz := ho1 (by omega)
          revert hzz
          rintro ⟨x, tx, y, rfl, rfl⟩
          rw [hkN] at cst hit
          have K0 : Kp h [] h₁ := by run_tac Drv.facts
          have P0 : PK h h' := by run_tac Drv.facts
          refine key h' t' n' hn ⟨K0.new K ?_, P0, hsz, ?_, ⟨x, tx, y, hit⟩, ?_, cst, ⟨_, _, _, _, hloc⟩⟩
          · rw [hz]; intro x hx; simp only [List.mem_cons, List.not_mem_nil, or_false] at hx; rcases hx with rfl | rfl | rfl <;> exact Nat.le_add_right _ _
          · run_tac Drv.facts
          · run_tac Drv.facts
        · have hkl : k < sz := by omega
          have hzz := cst
          revert hzz
          rintro ⟨esc, epc, tg, hcost, hdec⟩
          have hzz := hden.at (kv_get hkl)
          revert hzz
          rintro ⟨tkk, hxk⟩
          have hxe : ∀ hh : ((k : Nat) : Int).toNat < esn.toArray.size, esn.toArray[((k : Nat) : Int).toNat]'hh = ⟨hashInt (nm k), .int (nm k) tkk, .ref (10 * k + 696 : Nat)⟩ := by
            intro hh
            have := (List.getElem?_eq_some_iff.mp hxk).2
            simpa using this
          have hvn : valueAt (kv k nm (fun i => .int (wt i) (tg i))) (nm k) = none := kv_none _ inj (Nat.le_refl k) hkl
          have hlc : esc.length ≤ 1000000 := by rw [hdec.len, kv_len]; omega
          have hzz := Nat.eq_zero_or_pos k
          revert hzz
          rintro (hk0 | hk0)
          · have hzz := hl0 hk0
            revert hzz
            rintro ⟨rfl, rfl⟩
            have hzz := ho0 hk0
            revert hzz
            rintro ⟨rfl, rfl⟩
            run_tac Drv.unden
            refine go_dc (fun G => ?_)
            run_tac Drv.go specsF
            refine fini_F rfl rfl rfl ?_
            simp only [dcTail]
            refine go_cutV ?_
            run_tac Drv.go specsF
            refine fini_V rfl rfl rfl ?_
            refine go_dcStore (es := esc) (ep := epc) (kvs := kv k nm (fun i => .int (wt i) (tg i))) (by run_tac Drv.up) hdec hvn hlc ?_
            run_tac Drv.go specsF
            refine go_reach (fun h t hx => IH h t (by omega) hx) (fun hF DF => ?_)
            unfold Loc2t
            run_tac Drv.facts
            · have := DF.size; omega
            · exact fun h => absurd h (by omega)
            · exact fun _ => ⟨_, _, _, rfl, rfl⟩
            · exact CostD.snoc hdec (by run_tac Drv.fact)
            · exact fun h => absurd h (by omega)
            · exact fun _ => ⟨rfl, _, _, _, _, rfl⟩
          · have hzz := hl1 hk0
            revert hzz
            rintro ⟨rfl, v5, tk5, v6, tk6, rfl⟩
            have hzz := ho1 hk0
            revert hzz
            rintro ⟨x, tx, y, rfl, rfl⟩
            run_tac Drv.unden
            refine go_dc (fun G => ?_)
            run_tac Drv.go specsF
            refine fini_F rfl rfl rfl ?_
            simp only [dcTail]
            refine go_cutV ?_
            run_tac Drv.go specsF
            refine fini_V rfl rfl rfl ?_
            refine go_dcStore (es := esc) (ep := epc) (kvs := kv k nm (fun i => .int (wt i) (tg i))) (by run_tac Drv.up) hdec hvn hlc ?_
            run_tac Drv.go specsF
            refine go_reach (fun h t hx => IH h t (by omega) hx) (fun hF DF => ?_)
            unfold Loc2t
            run_tac Drv.facts
            · have := DF.size; omega
            · exact fun h => absurd h (by omega)
            · exact fun _ => ⟨_, _, _, rfl, rfl⟩
            · exact CostD.snoc hdec (by run_tac Drv.fact)
            · exact fun h => absurd h (by omega)
            · exact fun _ => ⟨rfl, _, _, _, _, rfl⟩
  · rintro h' t' n' hn ⟨K, P, hsz, ⟨tkG, hfrG⟩, ⟨x, tx, y, hit⟩, ⟨vw, hcw⟩, ⟨esc, epc, tg, hcost, hdec⟩, ⟨v3, tk9, v4, tk10, hloc⟩⟩
    have hnn' : n + 6 ≤ n' := by omega
    have hsza : esa.toArray.size = sz := by rw [List.size_toArray, hdea.len, kv_len]
    run_tac Drv.goFrom specsF
    run_tac Drv.goFrom specsF
    refine go_loopN sz (fun h₂ i h => Kp h₂ [n, n + 4, n' + 2, n' + 11, n' + 13, n' + 16] h ∧ PK h₂ h ∧ n' + 17 ≤ h.objs.size
      ∧ (∃ ok ov, h.get? (n' + 16 : Nat) = some (itemIt 681 (i : Nat) (sz : Nat) epa ok ov) ∧ (i = 0 → ok = .none ∧ ov = .none) ∧ (0 < i → ∃ x tx y, ok = .int x tx ∧ ov = .ref y))
      ∧ SeenD nm i h (n' + 13 : Nat) ∧ LRh nm sz (n + 4) (n' + 2) (lrAt (fun i => if wd then wt i else 1) (eoN nb i)) h
      ∧ ∃ b, LocC w n (n' + 2) b h ∧ LocG w (n' + 11) (n' + 6) (n' + 13) (if b then 2 else if i = 0 then 0 else 1) h ∧ (b = false → ∀ k, k < i → nb k = []) ∧ (b = true → 0 < i)) ?_ ?_
    · intro h₂ D hz2
      replace hz2 : h₂.objs.size = n' + 17 := hz2
      rw [← hsza]
      run_tac Drv.facts
      · omega
      · exact fun _ => ⟨rfl, rfl⟩
      · exact fun h => absurd h (by omega)
      · exact ⟨[], 0, fun _ => 0, by run_tac Drv.fact, DE.nil⟩
      · rw [hsza]; exact ⟨⟨esc, epc, tg, by run_tac Drv.fact, hdec⟩, #[], 0, _, by run_tac Drv.fact, SS.new _⟩
      · show LocC w n (n' + 2) false h₂
        exact ⟨_, _, _, _, _, by run_tac Drv.fact, fun _ => ⟨rfl, rfl⟩, fun h => Bool.noConfusion h⟩
      · exact ⟨_, _, _, _, by run_tac Drv.fact, fun _ => ⟨rfl, rfl⟩, fun h => by simp at h, fun h => by simp at h⟩
      · exact fun _ k hk => absurd hk (by omega)
      · exact fun h => Bool.noConfusion h
    · rintro h₂ D2 hz2 i h3 t3 n3 hn3 hi ⟨K3, P3, hsz3, ⟨ok3, ov3, hit3, ho30, ho31⟩, ⟨ess, eps, tgs, hseen, hdes⟩, ⟨⟨esk, epk, tgk, hcst, hdek⟩, eset, epst, tset, hset, hSS⟩, b, ⟨tG, tc, tv, esC, epC, hfC, hC0, hC1⟩, ⟨tg1, tg2, esG, epG, hfG, hG0, hG1, hG2⟩, hb0, hbi⟩ IH
      replace hz2 : h₂.objs.size = n' + 17 := hz2
      have hnn3 : n' + 17 ≤ n3 := by omega
      by_cases hiN : i = sz
      · have hzz := ho31 (by omega)
        revert hzz
        rintro ⟨x3, tx3, y3, rfl, rfl⟩
        rw [hiN] at hSS
        clear IH
        cases b with
        | false =>
          have hzz := hC0 rfl
          revert hzz
          rintro ⟨rfl, rfl⟩
          have hzz := hG1 (by simp; omega)
          revert hzz
          rintro ⟨rfl, t3', v3', t4', v4', rfl⟩
          run_tac Drv.goFrom specsF
          refine ⟨fun hF DF => ?_⟩
          have q0 : PK h hF := by run_tac Drv.facts
          refine stEnd_next (next _ _ (n' + 2) _ _ (by rfl) ⟨?_, ?_, ?_, ?_, ⟨us, e, ?_, hus⟩, ⟨un, en', ?_, hun⟩, ⟨uw, ew, ?_, huw⟩, ?_, ⟨esn, epn, ?_, hden⟩, ⟨esa, epa, ?_, hdea⟩, ?_⟩ DF.size ?_ ?_ ?_ ?_ ?_ ?_ ?_ ?_ ?_ ⟨up, ep0, ?_, hup.mono q0⟩ ⟨uj, ej0, ?_, huj.mono q0⟩ ⟨eset, epst, tset, ?_, hSS⟩)
          all_goals (try unfold Fr8)
          all_goals run_tac Drv.facts
          · omega
          · have hsF := DF.size; omega
          · intro i hi
            have hzz := adjs i hi
            revert hzz
            rintro ⟨es, ep, kvs, q1, q2⟩
            have hadr : 10 * i + 700 ≤ n := by omega
            have q4 : hF.get? (10 * i + 694 : Nat) = some (dictO es ep) := by run_tac Drv.fact
            exact ⟨es, ep, kvs, q4, q2⟩
        | true =>
          have hzz := hC1 rfl
          revert hzz
          rintro ⟨rfl, tu, vu, tv', vv', rfl⟩
          have hzz := hG2 rfl
          revert hzz
          rintro ⟨rfl, t3', v3', t4', v4', t5', v5', rfl⟩
          run_tac Drv.goFrom specsF
          refine ⟨fun hF DF => ?_⟩
          have q0 : PK h hF := by run_tac Drv.facts
          refine stEnd_next (next _ _ (n' + 2) _ _ (by rfl) ⟨?_, ?_, ?_, ?_, ⟨us, e, ?_, hus⟩, ⟨un, en', ?_, hun⟩, ⟨uw, ew, ?_, huw⟩, ?_, ⟨esn, epn, ?_, hden⟩, ⟨esa, epa, ?_, hdea⟩, ?_⟩ DF.size ?_ ?_ ?_ ?_ ?_ ?_ ?_ ?_ ?_ ⟨up, ep0, ?_, hup.mono q0⟩ ⟨uj, ej0, ?_, huj.mono q0⟩ ⟨eset, epst, tset, ?_, hSS⟩)
          all_goals (try unfold Fr8)
          all_goals run_tac Drv.facts
          · omega
          · have hsF := DF.size; omega
          · intro i hi
            have hzz := adjs i hi
            revert hzz
            rintro ⟨es, ep, kvs, q1, q2⟩
            have hadr : 10 * i + 700 ≤ n := by omega
            have q4 : hF.get? (10 * i + 694 : Nat) = some (dictO es ep) := by run_tac Drv.fact
            exact ⟨es, ep, kvs, q4, q2⟩
      · have hil : i < sz := by omega
        have hadr : 10 * i + 700 ≤ n := by omega
        have hzz := hdea.at (kv_get hil)
        revert hzz
        rintro ⟨tkk, hxk⟩
        have hxe := dentry hxk
        have hzz := adjs i hil
        revert hzz
        rintro ⟨esi, epi, kvi, hgi, hdi, hki, hri⟩
        have hlm : esi.toArray.size = (nb i).length := by rw [List.size_toArray, hdi.len, ← List.length_map (f := fun p : Int × Value => p.1), hki, List.length_map]
        run_tac Drv.share `key2 [`w, `R, `d, `os, `n, `n', `n3, `i, `p] 2 (do `(J11 $(Lean.mkIdent `w) $(Lean.mkIdent `nm) $(Lean.mkIdent `sz) $(Lean.mkIdent `i) $(Lean.mkIdent `n) $(Lean.mkIdent `n') $(Lean.mkIdent `n3) (List.length ($(Lean.mkIdent `nb) $(Lean.mkIdent `i))) $(Lean.mkIdent `epi) $(Lean.mkIdent `epa) $(Lean.mkIdent `b) (lrAt (fun i => if $(Lean.mkIdent `wd) then $(Lean.mkIdent `wt) i else 1) (eoN $(Lean.mkIdent `nb) $(Lean.mkIdent `i))) $(Lean.mkIdent `h₂)))
        · cases b with
          | false =>
            have hzz := hC0 rfl
            revert hzz
            rintro ⟨rfl, rfl⟩
            have hzz := Nat.eq_zero_or_pos i
            revert hzz
            rintro (hi0 | hi0)
            · have hzz := hG0 (by simp [hi0])
              revert hzz
              rintro ⟨rfl, rfl⟩
              have hzz := ho30 hi0
              revert hzz
              rintro ⟨rfl, rfl⟩
              run_tac Drv.goFrom specsF
              rename_i pa
              refine go_reach (fun h t hx => key2 pa p h t _ rfl hx) (fun hF DF => ?_)
              rw [← hlm]
              unfold J11 LocC LocGi
              run_tac Drv.facts
              · have hsF : hF.objs.size = n3 + 6 := DF.size; omega
              · exact ⟨ess, eps, tgs, by run_tac Drv.fact, hdes⟩
              · exact ⟨⟨esk, epk, tgk, by run_tac Drv.fact, hdek⟩, eset, epst, tset, by run_tac Drv.fact, hSS⟩
              · exact fun _ => ⟨rfl, rfl⟩
              · exact fun h => absurd h (by decide)
              · exact fun _ => ⟨rfl, rfl⟩
              · exact fun h => absurd h (by decide)

            · have hzz := hG1 (by simp; omega)
              revert hzz
              rintro ⟨rfl, t3', v3', t4', v4', rfl⟩
              have hzz := ho31 hi0
              revert hzz
              rintro ⟨x3, tx3, y3, rfl, rfl⟩
              run_tac Drv.goFrom specsF
              rename_i pa
              refine go_reach (fun h t hx => key2 pa p h t _ rfl hx) (fun hF DF => ?_)
              rw [← hlm]
              unfold J11 LocC LocGi
              run_tac Drv.facts
              · have hsF : hF.objs.size = n3 + 6 := DF.size; omega
              · exact ⟨ess, eps, tgs, by run_tac Drv.fact, hdes⟩
              · exact ⟨⟨esk, epk, tgk, by run_tac Drv.fact, hdek⟩, eset, epst, tset, by run_tac Drv.fact, hSS⟩
              · exact fun _ => ⟨rfl, rfl⟩
              · exact fun h => absurd h (by decide)
              · exact fun _ => ⟨rfl, rfl⟩
              · exact fun h => absurd h (by decide)

          | true =>
            have hzz := hC1 rfl
            revert hzz
            rintro ⟨rfl, tu, vu, tv', vv', rfl⟩
            have hzz := hG2 rfl
            revert hzz
            rintro ⟨rfl, t3', v3', t4', v4', t5', v5', rfl⟩
            have hzz := ho31 (hbi rfl)
            revert hzz
            rintro ⟨x3, tx3, y3, rfl, rfl⟩
            run_tac Drv.goFrom specsF
            rename_i pa
            refine go_reach (fun h t hx => key2 pa p h t _ rfl hx) (fun hF DF => ?_)
            rw [← hlm]
            unfold J11 LocC LocGi
            run_tac Drv.facts
            · have hsF : hF.objs.size = n3 + 6 := DF.size; omega
            · exact ⟨ess, eps, tgs, by run_tac Drv.fact, hdes⟩
            · exact ⟨⟨esk, epk, tgk, by run_tac Drv.fact, hdek⟩, eset, epst, tset, by run_tac Drv.fact, hSS⟩
            · exact fun h => absurd h (by decide)
            · exact fun _ => ⟨rfl, _, _, _, _, rfl⟩
            · exact fun h => absurd h (by decide)
            · exact fun _ => ⟨rfl, _, _, rfl⟩

        · rintro pa pb h4 t4 n4 hn4 ⟨K4, P4, hsz4, ⟨tk4, hit4⟩, ⟨ess4, eps4, tgs4, hseen4, hdes4⟩, ⟨⟨esk4, epk4, tgk4, hcst4, hdek4⟩, eset4, epst4, tset4, hset4, hSS4⟩, hlst, hkit, ⟨tG4, tc4, tv4, esC4, epC4, hfC4, hC40, hC41⟩, ⟨tg41, tg42, tg43, tg44, tg45, esG4, epG4, hfG4, hG40, hG41⟩⟩
          have hnn4 : n3 + 6 ≤ n4 := by omega
          refine go_loopN (nb i).length (fun h₅ j h => Kp h₅ [n3 + 4, n3 + 5] h ∧ PK h₅ h ∧ n3 + 6 ≤ h.objs.size ∧ h.get? (n3 + 5 : Nat) = some (keyIt (10 * i + 694 : Nat) (j : Nat) ((nb i).length : Nat) epi)
              ∧ (∃ us e, h.get? (n3 + 4 : Nat) = some (listO us e) ∧ IntsAre us (((nb i).take j).map nm))) ?_ ?_
          · intro h₅ D5 hz5
            replace hz5 : h₅.objs.size = n4 := hz5
            run_tac Drv.facts
            · omega
            · exact .nil
          · rintro h5 D5 hz5 j h6 t6 n6 hn6 hj ⟨K6, P6, hsz6, hkit6, us6, e6, hlst6, hus6⟩ IHl
            have hnn6 : n3 + 6 ≤ n6 := by omega
            by_cases hjN : j = (nb i).length
            · subst hjN
              run_tac Drv.goFrom specsF
              rw [List.take_length] at hus6
              refine go_loopN (nb i).length (fun h₇ j h => Kp h₇ [n, n + 4, n' + 2, n' + 11, n6 + 2] h ∧ PK h₇ h ∧ n6 + 3 ≤ h.objs.size ∧ h.get? (n6 + 2 : Nat) = some (lit (n3 + 4) (j : Nat))
                ∧ LRh nm sz (n + 4) (n' + 2) (lrAt (fun i => if wd then wt i else 1) (eoN nb i ++ outE i ((nb i).take j))) h ∧ ∃ b', LocC w n (n' + 2) b' h ∧ LocGi w (n' + 11) (n' + 6) (n' + 13) (nm i) (10 * i + 694 : Nat) b' h ∧ (b' = false → j = 0 ∧ b = false) ∧ (b' = true → 0 < i ∨ 0 < j)) ?_ ?_
              · intro h₇ D7 hz7
                replace hz7 : h₇.objs.size = n6 + 3 := hz7
                run_tac Drv.facts
                · omega
                · rw [List.take_zero, show outE i [] = [] from rfl, List.append_nil]
                  exact ⟨⟨esk4, epk4, tgk4, by run_tac Drv.fact, hdek4⟩, eset4, epst4, tset4, by run_tac Drv.fact, hSS4⟩
                · exact ⟨tG4, tc4, tv4, esC4, epC4, by run_tac Drv.fact, hC40, hC41⟩
                · exact ⟨tg41, tg42, tg43, tg44, tg45, esG4, epG4, by run_tac Drv.fact, hG40, hG41⟩
                · exact fun h => ⟨rfl, h⟩
                · exact fun h => .inl (hbi h)
              · rintro h7 D7 hz7 j h8 t8 n8 hn8 hj ⟨K8, P8, hsz8, hlit8, ⟨⟨esk8, epk8, tgk8, hcst8, hdek8⟩, eset8, epst8, tset8, hset8, hSS8⟩, b', ⟨tG8, tc8, tv8, esC8, epC8, hfC8, hC80, hC81⟩, ⟨tg81, tg82, tg83, tg84, tg85, esG8, epG8, hfG8, hG80, hG81⟩, hb8, hb81⟩ IH7
                have hnn8 : n6 + 3 ≤ n8 := by omega
                clear IHl
                have hul7 : us6.length = (nb i).length := by rw [IntsAre.len hus6]; simp
                by_cases hjN : j = (nb i).length
                · have hseenN : valueAt (kv i nm (fun i => .int 1 (tgs4 i))) (nm i) = none := kv_none _ inj (Nat.le_refl i) hil
                  have hsl : ess4.length ≤ 1000000 := by rw [hdes4.len, kv_len]; omega
                  have hE : eoN nb i ++ outE i ((nb i).take j) = eoN nb (i + 1) := by rw [hjN, List.take_length, eoN_succ]
                  rw [hE] at hdek8 hSS8
                  cases hbb : b' with
                  | false =>
                    have hzz := hbb
                    revert hzz
                    rintro rfl
                    have hzz := hC80 rfl
                    revert hzz
                    rintro ⟨rfl, rfl⟩
                    have hzz := hG80 rfl
                    revert hzz
                    rintro ⟨rfl, rfl⟩
                    run_tac Drv.goFrom specsF
                    refine go_reach (fun h t hx => IH h t (by omega) hx) (fun hF DF => ?_)
                    refine ⟨by run_tac Drv.facts, by run_tac Drv.facts, ?_, ⟨_, _, by run_tac Drv.fact, fun h => absurd h (by omega), fun _ => ⟨_, _, _, rfl, rfl⟩⟩, SeenD.snoc hdes4 (by run_tac Drv.fact),
                      ⟨⟨esk8, epk8, tgk8, by run_tac Drv.fact, hdek8⟩, eset8, epst8, tset8, by run_tac Drv.fact, hSS8⟩, false, ?_, ?_, ?_, fun h => Bool.noConfusion h⟩
                    · have hsF := DF.size; omega
                    · exact ⟨_, _, _, _, _, by run_tac Drv.fact, fun _ => ⟨rfl, rfl⟩, fun h => Bool.noConfusion h⟩
                    · exact ⟨_, _, _, _, by run_tac Drv.fact, fun h => by simp at h, fun _ => ⟨rfl, _, _, _, _, rfl⟩, fun h => by simp at h⟩
                    · intro _ k hk
                      have hzz := hb8 rfl
                      revert hzz
                      rintro ⟨hj0, hbf⟩
                      by_cases hki : k = i
                      · subst hki
                        exact List.length_eq_zero_iff.mp (by omega)
                      · exact hb0 hbf k (by omega)
                  | true =>
                    have hzz := hbb
                    revert hzz
                    rintro rfl
                    have hzz := hC81 rfl
                    revert hzz
                    rintro ⟨rfl, tu, vu, tv', vv', rfl⟩
                    have hzz := hG81 rfl
                    revert hzz
                    rintro ⟨rfl, t5', v5', rfl⟩
                    run_tac Drv.goFrom specsF
                    refine go_reach (fun h t hx => IH h t (by omega) hx) (fun hF DF => ?_)
                    refine ⟨by run_tac Drv.facts, by run_tac Drv.facts, ?_, ⟨_, _, by run_tac Drv.fact, fun h => absurd h (by omega), fun _ => ⟨_, _, _, rfl, rfl⟩⟩, SeenD.snoc hdes4 (by run_tac Drv.fact),
                      ⟨⟨esk8, epk8, tgk8, by run_tac Drv.fact, hdek8⟩, eset8, epst8, tset8, by run_tac Drv.fact, hSS8⟩, true, ?_, ?_, fun h => Bool.noConfusion h, fun _ => Nat.succ_pos _⟩
                    · have hsF := DF.size; omega
                    · exact ⟨_, _, _, _, _, by run_tac Drv.fact, fun h => Bool.noConfusion h, fun _ => ⟨rfl, _, _, _, _, rfl⟩⟩
                    · exact ⟨_, _, _, _, by run_tac Drv.fact, fun h => by simp at h, fun h => by simp at h, fun _ => ⟨rfl, _, _, _, _, _, _, rfl⟩⟩
                · have hjl : j < (nb i).length := by omega
                  clear IH
                  have hzz : ∃ y, (nb i)[j]? = some y := ⟨_, List.getElem?_eq_getElem hjl⟩
                  revert hzz
                  rintro ⟨y, hy⟩
                  have hzz := hsym i y hil (List.mem_of_getElem? hy)
                  revert hzz
                  rintro ⟨hysz, hyi⟩
                  have hzz := IntsAre.at hus6 (i := j) (n := nm y) (by rw [List.getElem?_map, hy]; rfl)
                  revert hzz
                  rintro ⟨tky, hxy⟩
                  have hedges : ∀ e ∈ eoN nb i ++ outE i ((nb i).take j), e.1 < sz ∧ e.2 < sz := by
                    intro e he
                    have hzz := List.mem_append.mp he
                    revert hzz
                    rintro (he | he)
                    · have := eoN_mem he
                      exact ⟨by omega, (hsym e.1 e.2 (by omega) this.2.1).1⟩
                    · have := outE_mem he
                      exact ⟨by omega, (hsym i e.2 hil (List.mem_of_mem_take this.2.1)).1⟩
                  have hcl : (lrAt (fun i => if wd then wt i else 1) (eoN nb i ++ outE i ((nb i).take j))).2.length ≤ 200 := by
                    have h1 := lrAt_len (fun i => if wd then wt i else 1) (eoN nb i ++ outE i ((nb i).take j))
                    have h2 := eoN_len hlen i
                    have h3 := outE_len (i := i) (l := (nb i).take j)
                    have h4 := hlen i
                    rw [List.length_append] at h1
                    rw [List.length_take] at h3
                    omega
                  have hcovlt := lrAt_lt (c := (fun i => if wd then wt i else 1)) hedges
                  have hs0 : b' = false → (lrAt (fun i => if wd then wt i else 1) (eoN nb i ++ outE i ((nb i).take j))).2 = [] := by
                    intro h
                    have hzz := hb8 h
                    revert hzz
                    rintro ⟨rfl, hbf⟩
                    rw [eoN_nil (hb0 hbf)]; rfl
                  have hfirst : b' = false → i ≤ y := by
                    intro h
                    apply Classical.byContradiction
                    intro hlt
                    have := hb0 (hb8 h).2 y (by omega)
                    rw [this] at hyi; simp at hyi
                  have hyes : i ≤ y → lrAt (fun i => if wd then wt i else 1) (eoN nb i ++ outE i ((nb i).take (j + 1))) = lrStep (lrAt (fun i => if wd then wt i else 1) (eoN nb i ++ outE i ((nb i).take j))) (i, y) := by
                    intro h
                    rw [outE_take_yes hy h, ← List.append_assoc, lrAt_snoc]
                  have hno : ¬ i ≤ y → lrAt (fun i => if wd then wt i else 1) (eoN nb i ++ outE i ((nb i).take (j + 1))) = lrAt (fun i => if wd then wt i else 1) (eoN nb i ++ outE i ((nb i).take j)) := by
                    intro h
                    rw [outE_take_no hy h]
                  generalize lrAt (fun i => if wd then wt i else 1) (eoN nb i ++ outE i ((nb i).take j)) = st at *
                  obtain ⟨cs, cov⟩ := st
                  have hci : valueAt (kv sz nm (fun i => .int (cs i) (tgk8 i))) (nm i) = some (.int (cs i) (tgk8 i)) := kv_at _ (Nat.le_refl sz) inj hil
                  have hcy : valueAt (kv sz nm (fun i => .int (cs i) (tgk8 i))) (nm y) = some (.int (cs y) (tgk8 y)) := kv_at _ (Nat.le_refl sz) inj hysz
                  have hcis : (valueAt (kv sz nm (fun i => .int (cs i) (tgk8 i))) (nm i)).isSome = true := by rw [hci]; rfl
                  have hcys : (valueAt (kv sz nm (fun i => .int (cs i) (tgk8 i))) (nm y)).isSome = true := by rw [hcy]; rfl
                  have hnd := kv_nodup (f := fun i => .int (cs i) (tgk8 i)) (Nat.le_refl sz) inj
                  have hclen : cov.length + 1 < scanBound := by
                    have : scanBound = 4096 := rfl
                    simp only at hcl
                    omega
                  have hSi0 := in_map inj hcovlt hil
                  have hSy0 := in_map inj hcovlt hysz
                  have hzz : ∃ S : Int → Bool, S = fun z => decide (z ∈ cov.map nm) := ⟨_, rfl⟩
                  revert hzz
                  rintro ⟨S, hSd⟩
                  replace hSS8 : SS eset8 tset8 S cov.length := by rw [hSd]; exact hSS8
                  by_cases hge : i ≤ y
                  · have hsv : valueAt (kv i nm (fun i => .int 1 (tgs4 i))) (nm y) = none := kv_none _ inj hge hysz
                    rw [hyes hge] at IH7
                    cases hbb : b' with
                    | false =>
                      have hzz := hbb
                      revert hzz
                      rintro rfl
                      have hzz : cov = [] := hs0 rfl
                      revert hzz
                      rintro rfl
                      have hSi : S (nm i) = false := by rw [hSd]; simp
                      have hSy : S (nm y) = false := by rw [hSd]; simp
                      have hzz := hC80 rfl
                      revert hzz
                      rintro ⟨rfl, rfl⟩
                      have hzz := hG80 rfl
                      revert hzz
                      rintro ⟨rfl, rfl⟩
                      by_cases hle : cs i ≤ cs y
                      · have hst : lrStep (cs, []) (i, y) = (fun k => if k = y then cs y - cs i else cs k, [] ++ [i]) := by simp [lrStep, hle]
                        rw [hst] at IH7
                        run_tac Drv.goFrom specsF
                        run_tac Drv.goFrom specsF
                        refine go_reach (fun h t hx => IH7 h t (by omega) hx) (fun hF DF => ?_)
                        refine ⟨by run_tac Drv.facts, by run_tac Drv.facts, ?_, by run_tac Drv.fact, ?_, true, ?_, ?_, fun h => Bool.noConfusion h, fun _ => .inr (Nat.succ_pos _)⟩
                        · have hsF := DF.size; omega
                        · exact ⟨CostD.put (by run_tac Drv.fact) (by assumption) inj hysz, _, _, _, by run_tac Drv.fact, SS.add hSd (by assumption)⟩
                        · exact ⟨_, _, _, _, _, by run_tac Drv.fact, fun h => Bool.noConfusion h, fun _ => ⟨rfl, _, _, _, _, rfl⟩⟩
                        · exact ⟨_, _, _, _, _, _, _, by run_tac Drv.fact, fun h => Bool.noConfusion h, fun _ => ⟨rfl, _, _, rfl⟩⟩
                      · have hst : lrStep (cs, []) (i, y) = (fun k => if k = i then cs i - cs y else cs k, [] ++ [y]) := by simp [lrStep, hle]
                        rw [hst] at IH7
                        run_tac Drv.goFrom specsF
                        run_tac Drv.goFrom specsF
                        refine go_reach (fun h t hx => IH7 h t (by omega) hx) (fun hF DF => ?_)
                        refine ⟨by run_tac Drv.facts, by run_tac Drv.facts, ?_, by run_tac Drv.fact, ?_, true, ?_, ?_, fun h => Bool.noConfusion h, fun _ => .inr (Nat.succ_pos _)⟩
                        · have hsF := DF.size; omega
                        · exact ⟨CostD.put (by run_tac Drv.fact) (by assumption) inj hil, _, _, _, by run_tac Drv.fact, SS.add hSd (by assumption)⟩
                        · exact ⟨_, _, _, _, _, by run_tac Drv.fact, fun h => Bool.noConfusion h, fun _ => ⟨rfl, _, _, _, _, rfl⟩⟩
                        · exact ⟨_, _, _, _, _, _, _, by run_tac Drv.fact, fun h => Bool.noConfusion h, fun _ => ⟨rfl, _, _, rfl⟩⟩
                    | true =>
                      have hzz := hbb
                      revert hzz
                      rintro rfl
                      have hzz := hC81 rfl
                      revert hzz
                      rintro ⟨rfl, tu, vu, tv', vv', rfl⟩
                      have hzz := hG81 rfl
                      revert hzz
                      rintro ⟨rfl, t5', v5', rfl⟩
                      by_cases hiC : i ∈ cov
                      · have hSi : S (nm i) = true := by rw [hSd]; exact decide_eq_true (hSi0.mpr hiC)
                        have hst : lrStep (cs, cov) (i, y) = (cs, cov) := by simp [lrStep, hiC]
                        rw [hst] at IH7
                        run_tac Drv.goFrom specsF
                        run_tac Drv.goFrom specsF
                        refine go_reach (fun h t hx => IH7 h t (by omega) hx) (fun hF DF => ?_)
                        refine ⟨by run_tac Drv.facts, by run_tac Drv.facts, ?_, by run_tac Drv.fact, ?_, true, ?_, ?_, fun h => Bool.noConfusion h, fun _ => .inr (Nat.succ_pos _)⟩
                        · have hsF := DF.size; omega
                        · exact ⟨⟨esk8, epk8, tgk8, by run_tac Drv.fact, hdek8⟩, eset8, epst8, tset8, by run_tac Drv.fact, hSS8.congr (fun k => by rw [hSd]) rfl⟩
                        · exact ⟨_, _, _, _, _, by run_tac Drv.fact, fun h => Bool.noConfusion h, fun _ => ⟨rfl, _, _, _, _, rfl⟩⟩
                        · exact ⟨_, _, _, _, _, _, _, by run_tac Drv.fact, fun h => Bool.noConfusion h, fun _ => ⟨rfl, _, _, rfl⟩⟩
                      · have hSi : S (nm i) = false := by rw [hSd]; exact decide_eq_false (fun h => hiC (hSi0.mp h))
                        by_cases hyC : y ∈ cov
                        · have hSy : S (nm y) = true := by rw [hSd]; exact decide_eq_true (hSy0.mpr hyC)
                          have hst : lrStep (cs, cov) (i, y) = (cs, cov) := by simp [lrStep, hyC]
                          rw [hst] at IH7
                          run_tac Drv.goFrom specsF
                          run_tac Drv.goFrom specsF
                          refine go_reach (fun h t hx => IH7 h t (by omega) hx) (fun hF DF => ?_)
                          refine ⟨by run_tac Drv.facts, by run_tac Drv.facts, ?_, by run_tac Drv.fact, ?_, true, ?_, ?_, fun h => Bool.noConfusion h, fun _ => .inr (Nat.succ_pos _)⟩
                          · have hsF := DF.size; omega
                          · exact ⟨⟨esk8, epk8, tgk8, by run_tac Drv.fact, hdek8⟩, eset8, epst8, tset8, by run_tac Drv.fact, hSS8.congr (fun k => by rw [hSd]) rfl⟩
                          · exact ⟨_, _, _, _, _, by run_tac Drv.fact, fun h => Bool.noConfusion h, fun _ => ⟨rfl, _, _, _, _, rfl⟩⟩
                          · exact ⟨_, _, _, _, _, _, _, by run_tac Drv.fact, fun h => Bool.noConfusion h, fun _ => ⟨rfl, _, _, rfl⟩⟩
                        · have hSy : S (nm y) = false := by rw [hSd]; exact decide_eq_false (fun h => hyC (hSy0.mp h))
                          by_cases hle : cs i ≤ cs y
                          · have hst : lrStep (cs, cov) (i, y) = (fun k => if k = y then cs y - cs i else cs k, cov ++ [i]) := by simp [lrStep, hle, hiC, hyC]
                            rw [hst] at IH7
                            run_tac Drv.goFrom specsF
                            run_tac Drv.goFrom specsF
                            refine go_reach (fun h t hx => IH7 h t (by omega) hx) (fun hF DF => ?_)
                            refine ⟨by run_tac Drv.facts, by run_tac Drv.facts, ?_, by run_tac Drv.fact, ?_, true, ?_, ?_, fun h => Bool.noConfusion h, fun _ => .inr (Nat.succ_pos _)⟩
                            · have hsF := DF.size; omega
                            · exact ⟨CostD.put (by run_tac Drv.fact) (by assumption) inj hysz, _, _, _, by run_tac Drv.fact, SS.add hSd (by assumption)⟩
                            · exact ⟨_, _, _, _, _, by run_tac Drv.fact, fun h => Bool.noConfusion h, fun _ => ⟨rfl, _, _, _, _, rfl⟩⟩
                            · exact ⟨_, _, _, _, _, _, _, by run_tac Drv.fact, fun h => Bool.noConfusion h, fun _ => ⟨rfl, _, _, rfl⟩⟩
                          · have hst : lrStep (cs, cov) (i, y) = (fun k => if k = i then cs i - cs y else cs k, cov ++ [y]) := by simp [lrStep, hle, hiC, hyC]
                            rw [hst] at IH7
                            run_tac Drv.goFrom specsF
                            run_tac Drv.goFrom specsF
                            refine go_reach (fun h t hx => IH7 h t (by omega) hx) (fun hF DF => ?_)
                            refine ⟨by run_tac Drv.facts, by run_tac Drv.facts, ?_, by run_tac Drv.fact, ?_, true, ?_, ?_, fun h => Bool.noConfusion h, fun _ => .inr (Nat.succ_pos _)⟩
                            · have hsF := DF.size; omega
                            · exact ⟨CostD.put (by run_tac Drv.fact) (by assumption) inj hil, _, _, _, by run_tac Drv.fact, SS.add hSd (by assumption)⟩
                            · exact ⟨_, _, _, _, _, by run_tac Drv.fact, fun h => Bool.noConfusion h, fun _ => ⟨rfl, _, _, _, _, rfl⟩⟩
                            · exact ⟨_, _, _, _, _, _, _, by run_tac Drv.fact, fun h => Bool.noConfusion h, fun _ => ⟨rfl, _, _, rfl⟩⟩
                  · have hsv : (valueAt (kv i nm (fun i => .int 1 (tgs4 i))) (nm y)).isSome = true := by rw [kv_at _ (Nat.le_refl i) (fun a b ha hb => inj a b (by omega) (by omega)) (by omega : y < i)]; rfl
                    rw [hno hge] at IH7
                    have hzz : b' = true := by
                      cases h : b' with
                      | true => rfl
                      | false => exact absurd (hfirst h) hge
                    revert hzz
                    rintro rfl
                    have hzz := hC81 rfl
                    revert hzz
                    rintro ⟨rfl, tu, vu, tv', vv', rfl⟩
                    have hzz := hG81 rfl
                    revert hzz
                    rintro ⟨rfl, t5', v5', rfl⟩
                    run_tac Drv.goFrom specsF
                    refine go_reach (fun h t hx => IH7 h t (by omega) hx) (fun hF DF => ?_)
                    refine ⟨by run_tac Drv.facts, by run_tac Drv.facts, ?_, by run_tac Drv.fact, ?_, true, ?_, ?_, fun h => Bool.noConfusion h, fun _ => .inr (Nat.succ_pos _)⟩
                    · have hsF := DF.size; omega
                    · exact ⟨⟨esk8, epk8, tgk8, by run_tac Drv.fact, hdek8⟩, eset8, epst8, tset8, by run_tac Drv.fact, hSS8.congr (fun k => by rw [hSd]) rfl⟩
                    · exact ⟨_, _, _, _, _, by run_tac Drv.fact, fun h => Bool.noConfusion h, fun _ => ⟨rfl, _, _, _, _, rfl⟩⟩
                    · exact ⟨_, _, _, _, _, _, _, by run_tac Drv.fact, fun h => Bool.noConfusion h, fun _ => ⟨rfl, _, _, rfl⟩⟩

            · have hjl : j < (nb i).length := by omega
              have hzz : ∃ y, (nb i)[j]? = some y := ⟨_, List.getElem?_eq_getElem hjl⟩
              revert hzz
              rintro ⟨y, hy⟩
              have hzz := key_at hki hy
              revert hzz
              rintro ⟨vy, hkv⟩
              have hzz := key_ref hri hkv
              revert hzz
              rintro ⟨avy, rfl⟩
              have hzz := hdi.at hkv
              revert hzz
              rintro ⟨tky, hey⟩
              have hxe2 := dentry hey
              have hul : us6.length ≤ 1000000 := by rw [IntsAre.len hus6]; have := hlen i; simp; omega
              have hnot : ¬ (sizeLine + 1 < (us6 ++ [Value.int (nm y) tky]).toArray.size) := by rw [List.size_toArray, sizeLine_eq]; simp; omega
              run_tac Drv.goFrom specsF
              refine go_reach (fun h t hx => IHl h t (by omega) hx) (fun hF DF => ?_)
              run_tac Drv.facts
              · have := DF.size; omega
              · rw [List.take_add_one, hy, Option.toList_some, List.map_append]
                exact IntsAre.snoc hus6 _ _

end Mine

end
-- Seg11
section
open PySem PySem.W PySem.W.X PyProof.Rows
set_option maxRecDepth 100000
set_option Elab.async false
set_option maxHeartbeats 0
namespace Mine
theorem seg11 {w : World} {H0 : Heap} {R : Result → Shared → Prop} {d : Drawn} {os : OsState} {N nm wt : Nat → Int} {sz n : Nat} {wd : Bool} {p q τ : Nat} {jn : List (Nat × Nat)} {nb : Nat → List Nat} {cov : List Nat} {gs : GenState} (hs1 : 1 ≤ sz) (hs7 : sz ≤ 7) {h : Heap} {t : Nat}
    (E : E11 w H0 N nm wt sz jn nb cov p q τ n h) (fr : Fr8 w sz wd p h) (hz : h.objs.size = n) (c646 : h.get? 646 = some (cellO (some (.ref 668)))) (cells : ∀ a : Nat, 650 ≤ a → a ≤ 651 → h.get? a = some (cellO none))
    (next : ∀ h' t' (wl : Nat) n', E11 w H0 N nm wt sz jn nb cov p q τ n' h' → Fr8 w sz wd p h' → h'.objs.size = n' → (wl = 668 ∨ (τ < wl ∧ wl < n')) → h'.get? 646 = some (cellO (some (.ref wl))) → NumL h' wl (tab sz (fun i => if wd then wt i else 1)) → (∀ a : Nat, 650 ≤ a → a ≤ 651 → h'.get? a = some (cellO none)) → Law w R d os 12 [gs] h' t') :
    Law w R d os 11 [gs] h t := by
  have hzz := E
  revert hzz
  rintro ⟨⟨kt, c644, c645, c647, ⟨us, e, lst, hus⟩, ⟨un, en', nam, hun⟩, ⟨uw, ew, wei, huw⟩, g673, ⟨esn, epn, node, hden⟩, ⟨esa, epa, adj, hdea⟩, ⟨ft, gt, att⟩⟩, hp, hpq, hqt, htn, ⟨t1, t2, t3, t4, ed, g672⟩, adjs, c648, c649, ⟨up, ep0, prs, hup⟩, ⟨uj, ej0, jnd, huj⟩, ⟨est, ept, tst, tset, hSS⟩⟩
  have hzz := fr
  revert hzz
  rintro ⟨tk, tk2, tk3, tk4, tk5, tk6, tk7, v1, v2, fr⟩
  refine law_step _ (by rfl) hz ?_
  have hn701 : 701 ≤ n := by omega
  cases wd
  · have h7 : sz = 1 ∨ sz = 2 ∨ sz = 3 ∨ sz = 4 ∨ sz = 5 ∨ sz = 6 ∨ sz = 7 := by omega
    have hzz := h7
    revert hzz
    rintro (rfl | rfl | rfl | rfl | rfl | rfl | rfl)
    all_goals
      run_tac Drv.go specsF
      refine ⟨fun hF DF => ?_⟩
      have q0 : PK h hF := by run_tac Drv.facts
      refine stEnd_next (next _ _ (n + 1) _ ⟨⟨?_, ?_, ?_, ?_, ⟨us, e, ?_, hus⟩, ⟨un, en', ?_, hun⟩, ⟨uw, ew, ?_, huw⟩, ?_, ⟨esn, epn, ?_, hden⟩, ⟨esa, epa, ?_, hdea⟩, ?_⟩, hp, hpq, hqt, ?_, ?_, ?_, ?_, ?_, ⟨up, ep0, ?_, hup.mono q0⟩, ⟨uj, ej0, ?_, huj.mono q0⟩, ⟨est, ept, tst, ?_, hSS⟩⟩ ?_ DF.size ?_ ?_ ?_ ?_)
      all_goals (try unfold Fr8)
      all_goals run_tac Drv.facts
      · show τ < n + _; omega
      · intro i hi
        have hzz := adjs i hi
        revert hzz
        rintro ⟨es, ep, kvs, q1, q2⟩
        have hadr : 10 * i + 700 ≤ n := by omega
        have q4 : hF.get? (10 * i + 694 : Nat) = some (dictO es ep) := by run_tac Drv.fact
        exact ⟨es, ep, kvs, q4, q2⟩
      · right
        have hsF := DF.size
        constructor
        · omega
        · exact Nat.add_lt_add_left (by decide) n
      · exact ⟨_, _, by run_tac Drv.fact, by repeat' (first | exact IntsAre.nil | refine IntsAre.cons _ _ ?_)⟩
  · run_tac Drv.go specsF
    refine ⟨fun hF DF => ?_⟩
    have q0 : PK h hF := by run_tac Drv.facts
    refine stEnd_next (next _ _ 668 _ ⟨⟨?_, ?_, ?_, ?_, ⟨us, e, ?_, hus⟩, ⟨un, en', ?_, hun⟩, ⟨uw, ew, ?_, huw⟩, ?_, ⟨esn, epn, ?_, hden⟩, ⟨esa, epa, ?_, hdea⟩, ?_⟩, hp, hpq, hqt, ?_, ?_, ?_, ?_, ?_, ⟨up, ep0, ?_, hup.mono q0⟩, ⟨uj, ej0, ?_, huj.mono q0⟩, ⟨est, ept, tst, ?_, hSS⟩⟩ ?_ DF.size (.inl rfl) ?_ ⟨uw, ew, ?_, huw⟩ ?_)
    all_goals (try unfold Fr8)
    all_goals run_tac Drv.facts
    · intro i hi
      have hzz := adjs i hi
      revert hzz
      rintro ⟨es, ep, kvs, q1, q2⟩
      have hadr : 10 * i + 700 ≤ n := by omega
      have q4 : hF.get? (10 * i + 694 : Nat) = some (dictO es ep) := by run_tac Drv.fact
      exact ⟨es, ep, kvs, q4, q2⟩
end Mine

end
-- Seg12
section
open PySem PySem.W PySem.W.X PyProof.Rows
set_option maxRecDepth 100000
set_option Elab.async false
set_option maxHeartbeats 0
namespace Mine
theorem seg12 {w : World} {H0 : Heap} {R : Result → Shared → Prop} {d : Drawn} {os : OsState} {N nm wt : Nat → Int} {sz n : Nat} {wd : Bool} {cw : Nat → Int} {p q τ wl : Nat} {jn : List (Nat × Nat)} {nb : Nat → List Nat} {cov : List Nat} {gs : GenState} (hs1 : 1 ≤ sz) (hs7 : sz ≤ 7) {h : Heap} {t : Nat}
    (inj : ∀ i j, i < sz → j < sz → nm i = nm j → i = j) (hcov : ∀ z ∈ cov, z < sz)
    (E : E11 w H0 N nm wt sz jn nb cov p q τ n h) (fr : Fr8 w sz wd p h) (hz : h.objs.size = n) (hwl : wl = 668 ∨ (τ < wl ∧ wl < n)) (c646 : h.get? 646 = some (cellO (some (.ref wl)))) (wts : NumL h wl (tab sz cw)) (cells : ∀ a : Nat, 650 ≤ a → a ≤ 651 → h.get? a = some (cellO none))
    (next : ∀ h' t' (cv : Nat) n', E12 w H0 N nm wt sz jn nb cov cw p q τ wl cv n' h' → Fr8 w sz wd p h' → h'.objs.size = n' → h'.get? 651 = some (cellO none) → Law w R d os 13 [gs] h' t') :
    Law w R d os 12 [gs] h t := by
  have E0 := E
  have wts0 := wts
  have hhp := E.hp
  have hhq := E.hpq
  have hht := E.hqt
  have hhn := E.htn
  have hzz := E
  revert hzz
  rintro ⟨⟨kt, c644, c645, c647, -, ⟨un, en', nam, hun⟩, -, -, -, -, -⟩, -, -, -, -, -, -, c648, c649, -, -, ⟨est, ept, tst, tset, hSS⟩⟩
  have hzz := fr
  revert hzz
  rintro ⟨tk, tk2, tk3, tk4, tk5, tk6, tk7, v1, v2, fr⟩
  have hn701 : 701 ≤ n := by omega
  refine law_step _ (by rfl) hz ?_
  have hzz : ∃ S : Int → Bool, S = fun z => decide (z ∈ cov.map nm) := ⟨_, rfl⟩
  revert hzz
  rintro ⟨S, hSd⟩
  replace hSS : SS est tst S cov.length := by rw [hSd]; exact hSS
  run_tac Drv.go specsF
  refine go_loopN sz (fun h₁ k h => Kp h₁ [n + 1, n + 2, n + 3] h ∧ PK h₁ h ∧ n + 4 ≤ h.objs.size ∧ (∃ l : Int, h.get? (n + 1 : Nat) = some (rngI (k : Nat) l) ∧ l = (sz : Int) - (k : Nat))
    ∧ NumL h (n + 2) (covL cov k) ∧ Loc1 w Nm.k k h (n + 3 : Nat)) ?_ ?_
  · intro h₁ D hz
    unfold Loc1
    run_tac Drv.facts
    · replace hz : h₁.objs.size = n + 4 := hz
      omega
    · run_tac Drv.numbers
    · exact ⟨_, _, by run_tac Drv.fact, .nil⟩
    · exact fun _ => ⟨rfl, rfl⟩
    · exact fun h => absurd h (by omega)
  · rintro h₁ D hz k h' t' n' hn hk ⟨K, P, hsz, ⟨l, hit, hle⟩, ⟨us', e', hacc, hus'⟩, es, ep, hloc, hze, hpo⟩ IH
    have hnn' : n + 4 ≤ n' := by omega
    have hul : us'.length ≤ 1000000 := by rw [IntsAre.len hus']; have := covL_len cov k; omega
    by_cases hkN : k = sz
    · have hzz := hpo (by omega)
      revert hzz
      rintro ⟨rfl, v, tk', rfl⟩
      run_tac Drv.goFrom specsF
      refine ⟨fun hF DF => ?_⟩
      have P0 : PK h hF := by run_tac Drv.facts
      have K0 : Kp h [643, 650, 651] hF := by run_tac Drv.facts
      have cvs : NumL hF (n + 2) (covL cov k) := ⟨us', e', by run_tac Drv.fact, hus'⟩
      have hsF := DF.size
      rw [hkN] at cvs
      have q1 : n' ≤ hF.objs.size := by omega
      refine stEnd_next (next _ _ (n + 2) _ ⟨E0.keep (by assumption) rfl K0 P0, ?_, ?_, wts0.keep K0 (by omega), ⟨by omega, by omega⟩, ?_, cvs⟩ ?_ rfl ?_)
      · have hzz := hwl
        revert hzz
        rintro (h | h)
        · exact .inl h
        · exact .inr ⟨h.1, by omega⟩
      · run_tac Drv.fact
      · run_tac Drv.fact
      · unfold Fr8
        run_tac Drv.facts
      · run_tac Drv.fact
    · have hkl : k < sz := by omega
      have hzz := IntsAre.at hun (tab_at nm (n := sz) (k := k) hkl)
      revert hzz
      rintro ⟨tkx, hx⟩
      have hin := in_map inj hcov hkl
      by_cases hkc : k ∈ cov
      · have hSk : S (nm k) = true := by rw [hSd]; exact decide_eq_true (hin.mpr hkc)
        have hzz := Nat.eq_zero_or_pos k
        revert hzz
        rintro (hk0 | hk0)
        · have hzz := hze hk0
          revert hzz
          rintro ⟨rfl, rfl⟩
          run_tac Drv.goFrom specsF
          refine go_reach (fun h t hx => IH h t (by omega) hx) (fun hF DF => ?_)
          unfold Loc1
          run_tac Drv.facts
          · have hsF := DF.size; omega
          · run_tac Drv.numbers
          · rw [covL_yes hkc]; exact ⟨_, _, by run_tac Drv.fact, IntsAre.snoc hus' _ _⟩
          · exact fun h => absurd h (by omega)
          · exact fun _ => ⟨rfl, _, _, rfl⟩
        · have hzz := hpo hk0
          revert hzz
          rintro ⟨rfl, v, tk', rfl⟩
          run_tac Drv.goFrom specsF
          refine go_reach (fun h t hx => IH h t (by omega) hx) (fun hF DF => ?_)
          unfold Loc1
          run_tac Drv.facts
          · have hsF := DF.size; omega
          · run_tac Drv.numbers
          · rw [covL_yes hkc]; exact ⟨_, _, by run_tac Drv.fact, IntsAre.snoc hus' _ _⟩
          · exact fun h => absurd h (by omega)
          · exact fun _ => ⟨rfl, _, _, rfl⟩
      · have hSk : S (nm k) = false := by rw [hSd]; exact decide_eq_false (fun h => hkc (hin.mp h))
        have hzz := Nat.eq_zero_or_pos k
        revert hzz
        rintro (hk0 | hk0)
        · have hzz := hze hk0
          revert hzz
          rintro ⟨rfl, rfl⟩
          run_tac Drv.goFrom specsF
          refine go_reach (fun h t hx => IH h t (by omega) hx) (fun hF DF => ?_)
          unfold Loc1
          run_tac Drv.facts
          · have hsF := DF.size; omega
          · run_tac Drv.numbers
          · rw [covL_no hkc]; exact ⟨_, _, by run_tac Drv.fact, hus'⟩
          · exact fun h => absurd h (by omega)
          · exact fun _ => ⟨rfl, _, _, rfl⟩
        · have hzz := hpo hk0
          revert hzz
          rintro ⟨rfl, v, tk', rfl⟩
          run_tac Drv.goFrom specsF
          refine go_reach (fun h t hx => IH h t (by omega) hx) (fun hF DF => ?_)
          unfold Loc1
          run_tac Drv.facts
          · have hsF := DF.size; omega
          · run_tac Drv.numbers
          · rw [covL_no hkc]; exact ⟨_, _, by run_tac Drv.fact, hus'⟩
          · exact fun h => absurd h (by omega)
          · exact fun _ => ⟨rfl, _, _, rfl⟩
end Mine

end
-- Seg13
section
open PySem PySem.W PySem.W.X PyProof.Rows
set_option maxRecDepth 100000
set_option Elab.async false
set_option maxHeartbeats 0
namespace Mine
theorem seg13 {w : World} {H0 : Heap} {R : Result → Shared → Prop} {d : Drawn} {os : OsState} {N nm wt : Nat → Int} {sz n : Nat} {wd : Bool} {cw : Nat → Int} {p q τ wl cv : Nat} {jn : List (Nat × Nat)} {nb : Nat → List Nat} {cov : List Nat} {gs : GenState} (hs1 : 1 ≤ sz) (hs7 : sz ≤ 7) {h : Heap} {t : Nat}
    (hj : ∀ (k i j : Nat), jn[k]? = some (i, j) → j < i ∧ i < sz) (hcl : (covL cov sz).length = cov.length) (hedge : ∀ (k i j : Nat), jn[k]? = some (i, j) → i ∈ cov ∨ j ∈ cov)
    (E : E12 w H0 N nm wt sz jn nb cov cw p q τ wl cv n h) (fr : Fr8 w sz wd p h) (hz : h.objs.size = n) (c651 : h.get? 651 = some (cellO none))
    (next : ∀ h' t' n', E12 w H0 N nm wt sz jn nb cov cw p q τ wl cv n' h' → Fr8 w sz wd p h' → h'.objs.size = n' → h'.get? 651 = some (cellO none) → Law w R d os 14 [gs] h' t') :
    Law w R d os 13 [gs] h t := by
  have E0 := E
  have hzz := E
  revert hzz
  rintro ⟨⟨⟨kt, c644, c645, c647, -, -, -, -, -, -, -⟩, hp, hpq, hqt, htn, -, -, c648, c649, -, ⟨uj, ej0, jnd, huj⟩, ⟨est, ept, tst, tset, hSS⟩⟩, -, -, -, hcv, c650, ⟨uc, ec, cvl, huc⟩⟩
  have hzz := fr
  revert hzz
  rintro ⟨tk, tk2, tk3, tk4, tk5, tk6, tk7, v1, v2, fr⟩
  have hn701 : 701 ≤ n := by omega
  have hc7 : cov.length ≤ 7 := by have := covL_len cov sz; omega
  have hucl : uc.length = cov.length := by rw [IntsAre.len huc]; exact hcl
  have hz0 := hz
  refine law_step _ (by rfl) hz ?_
  run_tac Drv.go specsG
  refine go_loopN jn.length (fun h₁ k h => Kp h₁ [n, n + 2] h ∧ PK h₁ h ∧ n + 3 ≤ h.objs.size ∧ h.get? n = some (lit q (k : Nat)) ∧ Loc1 w Nm.pair k h (n + 2 : Nat)) ?_ ?_
  · intro h₁ D hz
    unfold Loc1
    run_tac Drv.facts
    · replace hz : h₁.objs.size = n + 3 := hz
      omega
    · exact fun _ => ⟨rfl, rfl⟩
    · exact fun h => absurd h (by omega)
  · rintro h₁ D hz k h' t' n' hn hk ⟨K, P, hsz, hit, es, ep, hloc, hze, hpo⟩ IH
    have hnn' : n + 3 ≤ n' := by omega
    have hlj : uj.length = jn.length := huj.1
    by_cases hkN : k = jn.length
    · have hzz := Nat.eq_zero_or_pos k
      revert hzz
      rintro (hk0 | hk0)
      · have hzz := hze hk0
        revert hzz
        rintro ⟨rfl, rfl⟩
        run_tac Drv.goFrom specsG
        refine ⟨fun hF DF => ?_⟩
        have P0 : PK h hF := by run_tac Drv.facts
        have K0 : Kp h [643, 651] hF := by run_tac Drv.facts
        refine stEnd_next (next _ _ _ (E0.keep hz0 rfl K0 P0) ?_ rfl (by run_tac Drv.fact))
        unfold Fr8
        run_tac Drv.facts
      · have hzz := hpo hk0
        revert hzz
        rintro ⟨rfl, v, tk', rfl⟩
        run_tac Drv.goFrom specsG
        refine ⟨fun hF DF => ?_⟩
        have P0 : PK h hF := by run_tac Drv.facts
        have K0 : Kp h [643, 651] hF := by run_tac Drv.facts
        refine stEnd_next (next _ _ _ (E0.keep hz0 rfl K0 P0) ?_ rfl (by run_tac Drv.fact))
        unfold Fr8
        run_tac Drv.facts
    · have hkl : k < jn.length := by omega
      have hzz : ∃ x, jn[k]? = some x := ⟨_, List.getElem?_eq_getElem hkl⟩
      revert hzz
      rintro ⟨⟨i, j⟩, hij⟩
      have hzz := hj k i j hij
      revert hzz
      rintro ⟨hji, his⟩
      have hzz := huj.2 k i j hij
      revert hzz
      rintro ⟨a, ti, tj, hxa, ha1, ha2⟩
      have han : a < h.objs.size := lk_size ha2
      have P0 : PK h h' := by run_tac Drv.facts
      have ha3 := P0 _ _ _ _ _ ha1 ha2
      by_cases hiC : i ∈ cov
      · have hm1 : ((i : Nat) : Int) ∈ covL cov sz := covL_mem.mpr ⟨his, hiC⟩
        have hzz := Nat.eq_zero_or_pos k
        revert hzz
        rintro (hk0 | hk0)
        · have hzz := hze hk0
          revert hzz
          rintro ⟨rfl, rfl⟩
          run_tac Drv.goFrom specsG
          refine go_reach (fun h t hx => IH h t (by omega) hx) (fun hF DF => ?_)
          unfold Loc1
          run_tac Drv.facts
          · have hsF := DF.size; omega
          · exact fun h => absurd h (by omega)
          · exact fun _ => ⟨rfl, _, _, rfl⟩
        · have hzz := hpo hk0
          revert hzz
          rintro ⟨rfl, v, tk', rfl⟩
          run_tac Drv.goFrom specsG
          refine go_reach (fun h t hx => IH h t (by omega) hx) (fun hF DF => ?_)
          unfold Loc1
          run_tac Drv.facts
          · have hsF := DF.size; omega
          · exact fun h => absurd h (by omega)
          · exact fun _ => ⟨rfl, _, _, rfl⟩
      · have hm1 : ¬ ((i : Nat) : Int) ∈ covL cov sz := fun h => hiC (covL_mem.mp h).2
        have hjC : j ∈ cov := (hedge k i j hij).resolve_left hiC
        have hm2 : ((j : Nat) : Int) ∈ covL cov sz := covL_mem.mpr ⟨by omega, hjC⟩
        have hzz := Nat.eq_zero_or_pos k
        revert hzz
        rintro (hk0 | hk0)
        · have hzz := hze hk0
          revert hzz
          rintro ⟨rfl, rfl⟩
          run_tac Drv.goFrom specsG
          refine go_reach (fun h t hx => IH h t (by omega) hx) (fun hF DF => ?_)
          unfold Loc1
          run_tac Drv.facts
          · have hsF := DF.size; omega
          · exact fun h => absurd h (by omega)
          · exact fun _ => ⟨rfl, _, _, rfl⟩
        · have hzz := hpo hk0
          revert hzz
          rintro ⟨rfl, v, tk', rfl⟩
          run_tac Drv.goFrom specsG
          refine go_reach (fun h t hx => IH h t (by omega) hx) (fun hF DF => ?_)
          unfold Loc1
          run_tac Drv.facts
          · have hsF := DF.size; omega
          · exact fun h => absurd h (by omega)
          · exact fun _ => ⟨rfl, _, _, rfl⟩
end Mine

end
-- Seg14
section

open PySem PySem.W PySem.W.X PyProof.Rows
set_option maxRecDepth 100000
set_option Elab.async false
set_option maxHeartbeats 0
namespace Mine
theorem seg14 {w : World} {H0 : Heap} {R : Result → Shared → Prop} {d : Drawn} {os : OsState} {N nm wt : Nat → Int} {sz n : Nat} {wd : Bool} {cw : Nat → Int} {p q τ wl cv : Nat} {jn : List (Nat × Nat)} {nb : Nat → List Nat} {cov : List Nat} {gs : GenState} (hs1 : 1 ≤ sz) (hs7 : sz ≤ 7) {h : Heap} {t : Nat}
    (hj : ∀ (k i j : Nat), jn[k]? = some (i, j) → j < i ∧ i < sz) (hcl : (covL cov sz).length = cov.length) (hjl : jn.length ≤ 21) (htouch : ∀ c ∈ cov, ∃ k i j : Nat, jn[k]? = some (i, j) ∧ (c = i ∨ c = j))
    (E : E12 w H0 N nm wt sz jn nb cov cw p q τ wl cv n h) (fr : Fr8 w sz wd p h) (hz : h.objs.size = n) (c651 : h.get? 651 = some (cellO none))
    (next : ∀ h' t' n', E12 w H0 N nm wt sz jn nb cov cw p q τ wl cv n' h' → Fr8 w sz wd p h' → h'.objs.size = n' → h'.get? 651 = some (cellO none) → Law w R d os 15 [gs] h' t') :
    Law w R d os 14 [gs] h t := by
  have E0 := E
  have hzz := E
  revert hzz
  rintro ⟨⟨⟨kt, c644, c645, c647, -, -, -, -, -, -, -⟩, hp, hpq, hqt, htn, -, -, c648, c649, -, ⟨uj, ej0, jnd, huj⟩, ⟨est, ept, tst, tset, hSS⟩⟩, -, -, -, hcv, c650, ⟨uc, ec, cvl, huc⟩⟩
  have hzz := fr
  revert hzz
  rintro ⟨tk, tk2, tk3, tk4, tk5, tk6, tk7, v1, v2, fr⟩
  have hn701 : 701 ≤ n := by omega
  have hc7 : cov.length ≤ 7 := by have := covL_len cov sz; omega
  have hucl : uc.length = cov.length := by rw [IntsAre.len huc]; exact hcl
  have hz0 := hz
  refine law_step _ (by rfl) hz ?_
  run_tac Drv.go specsG
  refine go_loopN uc.length (fun h₁ m h => Kp h₁ [n, n + 3] h ∧ PK h₁ h ∧ n + 4 ≤ h.objs.size ∧ h.get? n = some (lit cv (m : Nat)) ∧ (∃ x, h.get? (n + 3 : Nat) = some (cellO x))) ?_ ?_
  · intro h₁ D hz
    run_tac Drv.facts
    replace hz : h₁.objs.size = n + 4 := hz
    omega
  · rintro h₁ D hz m h' t' n' hn hm ⟨K, P, hsz, hit, ⟨x, hcell⟩⟩ IH
    replace hz : h₁.objs.size = n + 4 := hz
    have hnn' : n + 4 ≤ n' := by omega
    have hlj : uj.length = jn.length := huj.1
    by_cases hmN : m = uc.length
    · run_tac Drv.goFrom specsG
      refine ⟨fun hF DF => ?_⟩
      have P0 : PK h hF := by run_tac Drv.facts
      have K0 : Kp h [643, 651] hF := by run_tac Drv.facts
      refine stEnd_next (next _ _ _ (E0.keep hz0 rfl K0 P0) ?_ rfl (by run_tac Drv.fact))
      unfold Fr8
      run_tac Drv.facts
    · have hml : m < uc.length := by omega
      have hzz : ∃ v, (covL cov sz)[m]? = some v := ⟨_, List.getElem?_eq_getElem (by rw [← IntsAre.len huc]; exact hml)⟩
      revert hzz
      rintro ⟨v, hv⟩
      have hzz := IntsAre.at huc hv
      revert hzz
      rintro ⟨tv, hxv⟩
      have hzz : ∃ c : Nat, c ∈ cov ∧ v = (c : Int) := by
        have := List.mem_of_getElem? hv
        unfold covL at this
        obtain ⟨c, h1, h2⟩ := List.mem_map.mp this
        exact ⟨c, by simpa using (List.mem_filter.mp h1).2, h2.symm⟩
      revert hzz
      rintro ⟨c, hc, rfl⟩
      run_tac Drv.goFrom specsG
      refine go_loopN jn.length (fun h₂ k h => Kp h₂ [n', n' + 1, n' + 2] h ∧ PK h₂ h ∧ n' + 3 ≤ h.objs.size ∧ h.get? n' = some (lit q (k : Nat))
        ∧ (∃ us e, h.get? (n' + 1 : Nat) = some (listO us e) ∧ us.length = ((jn.take k).filter (fun x => decide (x.1 = c ∨ x.2 = c))).length) ∧ Loc1 w Nm.pair k h (n' + 2 : Nat)) ?_ ?_
      · intro h₂ D2 hz2
        unfold Loc1
        run_tac Drv.facts
        · replace hz2 : h₂.objs.size = n' + 3 := hz2
          omega
        · simp
        · exact fun _ => ⟨rfl, rfl⟩
        · exact fun h => absurd h (by omega)
      · rintro h₂ D2 hz2 k h3 t3 n3 hn3 hk ⟨K3, P3, hsz3, hit3, ⟨us3, e3, hacc3, hus3⟩, es, ep, hloc, hze, hpo⟩ IH2
        have hnn3 : n' + 3 ≤ n3 := by omega
        have hul3 : us3.length ≤ 1000000 := by
          rw [hus3]
          have h1 := List.length_filter_le (fun x : Nat × Nat => decide (x.1 = c ∨ x.2 = c)) (jn.take k)
          rw [List.length_take] at h1
          omega
        by_cases hkN : k = jn.length
        · have hk1 : 0 < k := by
            have hzz := htouch c hc
            revert hzz
            rintro ⟨k', i, j, h1, _⟩
            have := (List.getElem?_eq_some_iff.mp h1).1
            omega
          have hne : 0 < us3.length := by
            rw [hus3, hkN, List.take_length, List.length_pos_iff_exists_mem]
            have hzz := htouch c hc
            revert hzz
            rintro ⟨k', i, j, h1, h2⟩
            exact ⟨(i, j), List.mem_filter.mpr ⟨List.mem_of_getElem? h1, by simp; rcases h2 with h2 | h2 <;> simp [h2]⟩⟩
          have hzz : ∃ x0 xs, us3 = x0 :: xs := by
            cases us3 with
            | nil => simp at hne
            | cons a b => exact ⟨a, b, rfl⟩
          revert hzz
          rintro ⟨x0, xs, rfl⟩
          have hzz := hpo hk1
          revert hzz
          rintro ⟨rfl, v, tk', rfl⟩
          run_tac Drv.goFrom specsG
          refine go_reach (fun h t hx => IH h t (by omega) hx) (fun hF DF => ?_)
          run_tac Drv.facts
          have hsF : n3 ≤ hF.objs.size := by rw [DF.size]; exact Nat.le_add_right _ _
          omega
        · have hkl : k < jn.length := by omega
          have hzz : ∃ x, jn[k]? = some x := ⟨_, List.getElem?_eq_getElem hkl⟩
          revert hzz
          rintro ⟨⟨i, j⟩, hij⟩
          have hzz := huj.2 k i j hij
          revert hzz
          rintro ⟨a, ti, tj, hxa, ha1, ha2⟩
          have han : a < h.objs.size := lk_size ha2
          have P0 : PK h h3 := by run_tac Drv.facts
          have ha3 := P0 _ _ _ _ _ ha1 ha2
          by_cases hic : i = c
          · have hcnt : ((jn.take (k + 1)).filter (fun x => decide (x.1 = c ∨ x.2 = c))).length = ((jn.take k).filter (fun x => decide (x.1 = c ∨ x.2 = c))).length + 1 := by
              rw [List.take_add_one, hij, Option.toList_some, List.filter_append]; simp [hic]
            have hzz := Nat.eq_zero_or_pos k
            revert hzz
            rintro (hk0 | hk0)
            · have hzz := hze hk0
              revert hzz
              rintro ⟨rfl, rfl⟩
              run_tac Drv.goFrom specsG
              refine go_reach (fun h t hx => IH2 h t (by omega) hx) (fun hF DF => ?_)
              unfold Loc1
              run_tac Drv.facts
              · have hsF := DF.size; omega
              · rw [hcnt]; simp [hus3]
              · exact fun h => absurd h (by omega)
              · exact fun _ => ⟨rfl, _, _, rfl⟩
            · have hzz := hpo hk0
              revert hzz
              rintro ⟨rfl, v, tk', rfl⟩
              run_tac Drv.goFrom specsG
              refine go_reach (fun h t hx => IH2 h t (by omega) hx) (fun hF DF => ?_)
              unfold Loc1
              run_tac Drv.facts
              · have hsF := DF.size; omega
              · rw [hcnt]; simp [hus3]
              · exact fun h => absurd h (by omega)
              · exact fun _ => ⟨rfl, _, _, rfl⟩
          · by_cases hjc : j = c
            · have hcnt : ((jn.take (k + 1)).filter (fun x => decide (x.1 = c ∨ x.2 = c))).length = ((jn.take k).filter (fun x => decide (x.1 = c ∨ x.2 = c))).length + 1 := by
                rw [List.take_add_one, hij, Option.toList_some, List.filter_append]; simp [hjc]
              have hzz := Nat.eq_zero_or_pos k
              revert hzz
              rintro (hk0 | hk0)
              · have hzz := hze hk0
                revert hzz
                rintro ⟨rfl, rfl⟩
                run_tac Drv.goFrom specsG
                refine go_reach (fun h t hx => IH2 h t (by omega) hx) (fun hF DF => ?_)
                unfold Loc1
                run_tac Drv.facts
                · have hsF := DF.size; omega
                · rw [hcnt]; simp [hus3]
                · exact fun h => absurd h (by omega)
                · exact fun _ => ⟨rfl, _, _, rfl⟩
              · have hzz := hpo hk0
                revert hzz
                rintro ⟨rfl, v, tk', rfl⟩
                run_tac Drv.goFrom specsG
                refine go_reach (fun h t hx => IH2 h t (by omega) hx) (fun hF DF => ?_)
                unfold Loc1
                run_tac Drv.facts
                · have hsF := DF.size; omega
                · rw [hcnt]; simp [hus3]
                · exact fun h => absurd h (by omega)
                · exact fun _ => ⟨rfl, _, _, rfl⟩
            · have hcnt : ((jn.take (k + 1)).filter (fun x => decide (x.1 = c ∨ x.2 = c))).length = ((jn.take k).filter (fun x => decide (x.1 = c ∨ x.2 = c))).length := by
                rw [List.take_add_one, hij, Option.toList_some, List.filter_append]; simp [hic, hjc]
              have hzz := Nat.eq_zero_or_pos k
              revert hzz
              rintro (hk0 | hk0)
              · have hzz := hze hk0
                revert hzz
                rintro ⟨rfl, rfl⟩
                run_tac Drv.goFrom specsG
                refine go_reach (fun h t hx => IH2 h t (by omega) hx) (fun hF DF => ?_)
                unfold Loc1
                run_tac Drv.facts
                · have hsF := DF.size; omega
                · rw [hcnt]; simp [hus3]
                · exact fun h => absurd h (by omega)
                · exact fun _ => ⟨rfl, _, _, rfl⟩
              · have hzz := hpo hk0
                revert hzz
                rintro ⟨rfl, v, tk', rfl⟩
                run_tac Drv.goFrom specsG
                refine go_reach (fun h t hx => IH2 h t (by omega) hx) (fun hF DF => ?_)
                unfold Loc1
                run_tac Drv.facts
                · have hsF := DF.size; omega
                · rw [hcnt]; simp [hus3]
                · exact fun h => absurd h (by omega)
                · exact fun _ => ⟨rfl, _, _, rfl⟩
end Mine

end
-- Seg15
section
open PySem PySem.W PySem.W.X PyProof.Rows
set_option maxRecDepth 100000
set_option Elab.async false
set_option maxHeartbeats 0
namespace Mine
/-- the law's frame with least -/
def Fr9 (w : World) (sz : Nat) (wd : Bool) (p : Addr) (lv : Int) (h : Heap) : Prop :=
  ∃ tk tk2 tk3 tk4 tk5 tk6 tk7 v1 v2 tk8 tk9, h.get? 643 = some (frameO [en w Nm.script tk (.ref 642), en w Nm.size tk2 (.int (sz : Int) tk3), en w Nm.weighed tk4 (.bool wd), en w Nm.name tk5 v1, en w Nm.weight tk6 v2, en w Nm.pairs tk7 (.ref p), en w Nm.least tk8 (.int lv tk9)] 7)
theorem seg15 {w : World} {H0 : Heap} {R : Result → Shared → Prop} {d : Drawn} {os : OsState} {N nm wt : Nat → Int} {sz n : Nat} {wd : Bool} {cw : Nat → Int} {p q τ wl cv : Nat} {jn : List (Nat × Nat)} {nb : Nat → List Nat} {cov : List Nat} {gs : GenState} (hs1 : 1 ≤ sz) (hs7 : sz ≤ 7) {h : Heap} {t : Nat}
    (E : E12 w H0 N nm wt sz jn nb cov cw p q τ wl cv n h) (fr : Fr8 w sz wd p h) (hz : h.objs.size = n) (c651 : h.get? 651 = some (cellO none))
    (next : ∀ h' t' n', E12 w H0 N nm wt sz jn nb cov cw p q τ wl cv n' h' → Fr9 w sz wd p (tab sz cw).sum h' → h'.objs.size = n' → h'.get? 651 = some (cellO none) → Law w R d os 16 [gs] h' t') :
    Law w R d os 15 [gs] h t := by
  have E0 := E
  have hz0 := hz
  have hzz := E
  revert hzz
  rintro ⟨⟨⟨kt, c644, c645, c647, -, -, -, -, -, -, -⟩, hp, hpq, hqt, htn, -, -, c648, c649, -, -, -⟩, hwl, c646, ⟨uw, ew, wtl, huw⟩, hcv, c650, -⟩
  have hzz := fr
  revert hzz
  rintro ⟨tk, tk2, tk3, tk4, tk5, tk6, tk7, v1, v2, fr⟩
  have hn701 : 701 ≤ n := by omega
  refine law_step _ (by rfl) hz ?_
  run_tac Drv.go specsH
  refine ⟨fun hF DF => ?_⟩
  have P0 : PK h hF := by run_tac Drv.facts
  have K0 : Kp h [643, 651] hF := by run_tac Drv.facts
  refine stEnd_next (next _ _ _ (E0.keep hz0 rfl K0 P0) ?_ rfl (by run_tac Drv.fact))
  unfold Fr9
  run_tac Drv.facts
end Mine

end
-- Seg16
section
open PySem PySem.W PySem.W.X PyProof.Rows
set_option maxRecDepth 100000
set_option Elab.async false
set_option maxHeartbeats 0
namespace Mine
/-- the k-th bit of b -/
noncomputable def bitv (b k : Nat) : Bool := Z.modQ (fdp (b : Nat) k) 2 == 1
/-- what the set of bits weighs -/
noncomputable def bitL (cw : Nat → Int) (b k : Nat) : List Int := ((List.range k).filter (bitv b)).map cw
theorem bitL_yes {cw : Nat → Int} {b k : Nat} (h : bitv b k = true) : bitL cw b (k + 1) = bitL cw b k ++ [cw k] := by
  unfold bitL; rw [List.range_succ, List.filter_append, List.map_append]; simp [h]
theorem bitL_no {cw : Nat → Int} {b k : Nat} (h : bitv b k = false) : bitL cw b (k + 1) = bitL cw b k := by
  unfold bitL; rw [List.range_succ, List.filter_append, List.map_append]; simp [h]
theorem bitL_len (cw : Nat → Int) (b k : Nat) : (bitL cw b k).length ≤ k := by
  unfold bitL
  rw [List.length_map]
  have := List.length_filter_le (bitv b) (List.range k)
  simpa using this
/-- the pairs that the bits leave open -/
noncomputable def openP (jn : List (Nat × Nat)) (b : Nat) : List (Nat × Nat) := jn.filter fun x => !bitv b x.1 && !bitv b x.2
/-- the least weight so far -/
noncomputable def best (jn : List (Nat × Nat)) (cw : Nat → Int) (sz : Nat) : Nat → Int
  | 0 => (tab sz cw).sum
  | b + 1 => if (bitL cw b sz).sum < best jn cw sz b ∧ openP jn b = [] then (bitL cw b sz).sum else best jn cw sz b
theorem bit01 (b k : Nat) : Z.modQ (fdp (b : Nat) k) 2 = 0 ∨ Z.modQ (fdp (b : Nat) k) 2 = 1 := by
  have h : Z.modQ (fdp (b : Nat) k) ((2 : Nat) : Int) = fdp (b : Nat) k % ((2 : Nat) : Int) := modQ_pos _ 2
  have h2 : Z.modQ (fdp (b : Nat) k) 2 = fdp (b : Nat) k % 2 := h
  rw [h2]
  omega
theorem seg16 {w : World} {H0 : Heap} {R : Result → Shared → Prop} {d : Drawn} {os : OsState} {N nm wt : Nat → Int} {sz n : Nat} {wd : Bool} {cw : Nat → Int} {p q τ wl cv : Nat} {jn : List (Nat × Nat)} {nb : Nat → List Nat} {cov : List Nat} {gs : GenState} (hs1 : 1 ≤ sz) (hs7 : sz ≤ 7) {h : Heap} {t : Nat}
    (hj : ∀ (k i j : Nat), jn[k]? = some (i, j) → j < i ∧ i < sz) (hjl : jn.length ≤ 21)
    (E : E12 w H0 N nm wt sz jn nb cov cw p q τ wl cv n h) (fr : Fr9 w sz wd p (tab sz cw).sum h) (hz : h.objs.size = n) (c651 : h.get? 651 = some (cellO none))
    (next : ∀ h' t' n', E12 w H0 N nm wt sz jn nb cov cw p q τ wl cv n' h' → Fr9 w sz wd p (best jn cw sz (2 ^ sz)) h' → h'.objs.size = n' → Law w R d os 17 [gs] h' t') :
    Law w R d os 16 [gs] h t := by
  have E0 := E
  have hz0 := hz
  have hzz := E
  revert hzz
  rintro ⟨⟨⟨kt, c644, c645, c647, -, -, -, -, -, -, -⟩, hp, hpq, hqt, htn, -, -, c648, c649, -, ⟨uj, ej0, jnd, huj⟩, -⟩, hwl, c646, ⟨uw, ew, wtl, huw⟩, hcv, c650, -⟩
  have hzz := fr
  revert hzz
  rintro ⟨tk, tk2, tk3, tk4, tk5, tk6, tk7, v1, v2, tk8, tk9, fr⟩
  have hn701 : 701 ≤ n := by omega
  have hwn : 668 ≤ wl ∧ wl < n := by omega
  have hzz : ∃ M : Nat, pw sz = (M : Int) ∧ M ≤ 128 ∧ M = 2 ^ sz := by
    have h7 : sz = 1 ∨ sz = 2 ∨ sz = 3 ∨ sz = 4 ∨ sz = 5 ∨ sz = 6 ∨ sz = 7 := by omega
    rcases h7 with rfl | rfl | rfl | rfl | rfl | rfl | rfl <;> exact ⟨_, rfl, by decide, rfl⟩
  revert hzz
  rintro ⟨M, hpw, hM2, hMe⟩
  have hM0 : 1 ≤ M := by rw [hMe]; exact Nat.one_le_two_pow
  refine law_step _ (by rfl) hz ?_
  run_tac Drv.go specsH
  refine go_loopN M (fun h₁ b h => Kp h₁ [643, 651, n + 1] h ∧ PK h₁ h ∧ n + 2 ≤ h.objs.size ∧ (∃ l : Int, h.get? (n + 1 : Nat) = some (rngI (b : Nat) l) ∧ l = (M : Int) - (b : Nat))
    ∧ (∃ x, h.get? 651 = some (cellO x)) ∧ Fr9 w sz wd p (best jn cw sz b) h) ?_ ?_
  · intro h₁ D hz
    unfold Fr9
    run_tac Drv.facts
    · replace hz : h₁.objs.size = n + 2 := hz
      omega
    · run_tac Drv.numbers
  · rintro h₁ D hz b h' t' n' hn hb ⟨K, P, hsz, ⟨l, hit, hle⟩, ⟨x, hcell⟩, ⟨tkA, tkB, tkC, tkD, tkE, tkF, tkG, vA, vB, tkH, tkI, hfr⟩⟩ IH
    replace hz : h₁.objs.size = n + 2 := hz
    have hnn' : n + 2 ≤ n' := by omega
    by_cases hbN : b = M
    · run_tac Drv.goFrom specsH
      refine ⟨fun hF DF => ?_⟩
      have P0 : PK h hF := by run_tac Drv.facts
      have K0 : Kp h [643, 651] hF := by run_tac Drv.facts
      refine stEnd_next (next _ _ _ (E0.keep hz0 rfl K0 P0) ?_ rfl)
      rw [← hMe, ← hbN]
      unfold Fr9
      run_tac Drv.facts
    · have hbl : b < M := by omega
      run_tac Drv.goFrom specsH
      refine go_loopN sz (fun h₂ k h => Kp h₂ [n' + 1, n' + 2, n' + 3] h ∧ PK h₂ h ∧ n' + 4 ≤ h.objs.size ∧ (∃ l : Int, h.get? (n' + 1 : Nat) = some (rngI (k : Nat) l) ∧ l = (sz : Int) - (k : Nat))
          ∧ NumL h (n' + 2) (bitL cw b k) ∧ Loc1 w Nm.k k h (n' + 3 : Nat)) ?_ ?_
      · intro h₂ D2 hz2
        unfold Loc1
        run_tac Drv.facts
        · replace hz2 : h₂.objs.size = n' + 4 := hz2
          omega
        · run_tac Drv.numbers
        · exact ⟨_, _, by run_tac Drv.fact, .nil⟩
        · exact fun _ => ⟨rfl, rfl⟩
        · exact fun h => absurd h (by omega)
      · rintro h4b D4 hz4 k h4 t4 n4 hn4 hk ⟨K4, P4, hsz4, ⟨l4, hit4, hle4⟩, ⟨us4, e4, hacc4, hus4⟩, es, ep, hloc, hze, hpo⟩ IH4
        replace hz4 : h4b.objs.size = n' + 4 := hz4
        have hnn4 : n' + 4 ≤ n4 := by omega
        have hul4 : us4.length ≤ 1000000 := by rw [IntsAre.len hus4]; have := bitL_len cw b k; omega
        by_cases hkN : k = sz
        · have hzz := hpo (by omega)
          revert hzz
          rintro ⟨rfl, v, tk', rfl⟩
          rw [hkN] at hus4
          clear IH4
          by_cases hlt : (bitL cw b sz).sum < best jn cw sz b
          · run_tac Drv.goFrom specsH
            rename_i hS tkS tS nS eS leS KS
            refine go_loopN jn.length (fun h₂ k h => Kp h₂ [nS, nS + 1, nS + 2] h ∧ PK h₂ h ∧ nS + 3 ≤ h.objs.size ∧ h.get? nS = some (lit q (k : Nat))
                ∧ (∃ us e, h.get? (nS + 1 : Nat) = some (listO us e) ∧ us.length = (openP (jn.take k) b).length) ∧ Loc1 w Nm.pair k h (nS + 2 : Nat)) ?_ ?_
            · intro h₂ D2 hz2
              unfold Loc1
              run_tac Drv.facts
              · replace hz2 : h₂.objs.size = nS + 3 := hz2
                omega
              · simp [openP]
              · exact fun _ => ⟨rfl, rfl⟩
              · exact fun h => absurd h (by omega)
            · rintro h5b D5 hz5 k h5 t5 n5 hn5 hk ⟨K5, P5, hsz5, hit5, ⟨us5, e5, hacc5, hus5⟩, es, ep, hloc, hze, hpo⟩ IH5
              replace hz5 : h5b.objs.size = nS + 3 := hz5
              have hnn5 : nS + 3 ≤ n5 := by omega
              have hlj : uj.length = jn.length := huj.1
              have hul5 : us5.length ≤ 1000000 := by
                rw [hus5]
                have h1 := List.length_filter_le (fun x : Nat × Nat => !bitv b x.1 && !bitv b x.2) (jn.take k)
                rw [List.length_take] at h1
                unfold openP
                omega
              by_cases hkN : k = jn.length
              · rw [hkN, List.take_length] at hus5
                clear IH5
                have hex : (es = [] ∧ ep = 0) ∨ (ep = 1 ∧ ∃ v tk, es = [en w Nm.pair tk v]) := by
                  have hzz := Nat.eq_zero_or_pos k
                  revert hzz
                  rintro (hk0 | hk0)
                  · exact .inl (hze hk0)
                  · exact .inr (hpo hk0)
                clear hze hpo
                cases us5 with
                | nil =>
                  have hop : openP jn b = [] := List.length_eq_zero_iff.mp hus5.symm
                  have hzz := hex
                  revert hzz
                  rintro (⟨rfl, rfl⟩ | ⟨rfl, v, tk', rfl⟩)
                  · have hzz : (sz : Int) < 2 ^ 63 := by omega
                    run_tac Drv.goFrom specsH
                    clear hzz
                    refine go_loopN sz (fun h₂ k h => Kp h₂ [n5 + 4, n5 + 5, n5 + 6] h ∧ PK h₂ h ∧ n5 + 7 ≤ h.objs.size ∧ (∃ l : Int, h.get? (n5 + 4 : Nat) = some (rngI (k : Nat) l) ∧ l = (sz : Int) - (k : Nat))
                        ∧ NumL h (n5 + 5) (bitL cw b k) ∧ Loc1 w Nm.k k h (n5 + 6 : Nat)) ?_ ?_
                    · intro h₂ D2 hz2
                      unfold Loc1
                      run_tac Drv.facts
                      · replace hz2 : h₂.objs.size = n5 + 7 := hz2
                        omega
                      · run_tac Drv.numbers
                      · exact ⟨_, _, by run_tac Drv.fact, .nil⟩
                      · exact fun _ => ⟨rfl, rfl⟩
                      · exact fun h => absurd h (by omega)
                    · rintro h7b D7 hz7 k h7 t7 n7 hn7 hk ⟨K7, P7, hsz7, ⟨l7, hit7, hle7⟩, ⟨us7, e7, hacc7, hus7⟩, es, ep, hloc, hze, hpo⟩ IH7
                      replace hz7 : h7b.objs.size = n5 + 7 := hz7
                      have hnn7 : n5 + 7 ≤ n7 := by omega
                      have hul7 : us7.length ≤ 1000000 := by rw [IntsAre.len hus7]; have := bitL_len cw b k; omega
                      by_cases hkN : k = sz
                      · have hzz := hpo (by omega)
                        revert hzz
                        rintro ⟨rfl, v, tk', rfl⟩
                        rw [hkN] at hus7
                        clear IH7
                        run_tac Drv.goFrom specsH
                        rename_i hT tkT tT nT eT leT KT
                        refine go_reach (fun h t hx => IH h t (by omega) hx) (fun hF DF => ?_)
                        have hsF : nT ≤ hF.objs.size := by rw [DF.size]; exact Nat.le_add_right _ _
                        have hbest : best jn cw sz (b + 1) = (bitL cw b sz).sum := by rw [best, if_pos ⟨hlt, hop⟩]
                        rw [hbest]
                        unfold Fr9
                        run_tac Drv.facts
                        · omega
                        · run_tac Drv.numbers

                      · have hkl : k < sz := by omega
                        have hzz := IntsAre.at huw (tab_at cw (n := sz) (k := k) hkl)
                        revert hzz
                        rintro ⟨tkx, hx⟩
                        by_cases hbit : Z.modQ (fdp (b : Nat) k) 2 = 1
                        · have hbv : bitv b k = true := by unfold bitv; rw [hbit]; rfl
                          have hzz := Nat.eq_zero_or_pos k
                          revert hzz
                          rintro (hk0 | hk0)
                          · have hzz := hze hk0
                            revert hzz
                            rintro ⟨rfl, rfl⟩
                            run_tac Drv.goFrom specsH
                            refine go_reach (fun h t hx => IH7 h t (by omega) hx) (fun hF DF => ?_)
                            unfold Loc1
                            run_tac Drv.facts
                            · have hsF := DF.size; omega
                            · run_tac Drv.numbers
                            · rw [bitL_yes hbv]; exact ⟨_, _, by run_tac Drv.fact, IntsAre.snoc hus7 _ _⟩
                            · exact fun h => absurd h (by omega)
                            · exact fun _ => ⟨rfl, _, _, rfl⟩

                          · have hzz := hpo hk0
                            revert hzz
                            rintro ⟨rfl, v, tk', rfl⟩
                            run_tac Drv.goFrom specsH
                            refine go_reach (fun h t hx => IH7 h t (by omega) hx) (fun hF DF => ?_)
                            unfold Loc1
                            run_tac Drv.facts
                            · have hsF := DF.size; omega
                            · run_tac Drv.numbers
                            · rw [bitL_yes hbv]; exact ⟨_, _, by run_tac Drv.fact, IntsAre.snoc hus7 _ _⟩
                            · exact fun h => absurd h (by omega)
                            · exact fun _ => ⟨rfl, _, _, rfl⟩

                        · have hbv : bitv b k = false := by unfold bitv; simp [hbit]
                          have hzz := Nat.eq_zero_or_pos k
                          revert hzz
                          rintro (hk0 | hk0)
                          · have hzz := hze hk0
                            revert hzz
                            rintro ⟨rfl, rfl⟩
                            run_tac Drv.goFrom specsH
                            refine go_reach (fun h t hx => IH7 h t (by omega) hx) (fun hF DF => ?_)
                            unfold Loc1
                            run_tac Drv.facts
                            · have hsF := DF.size; omega
                            · run_tac Drv.numbers
                            · rw [bitL_no hbv]; exact ⟨_, _, by run_tac Drv.fact, hus7⟩
                            · exact fun h => absurd h (by omega)
                            · exact fun _ => ⟨rfl, _, _, rfl⟩

                          · have hzz := hpo hk0
                            revert hzz
                            rintro ⟨rfl, v, tk', rfl⟩
                            run_tac Drv.goFrom specsH
                            refine go_reach (fun h t hx => IH7 h t (by omega) hx) (fun hF DF => ?_)
                            unfold Loc1
                            run_tac Drv.facts
                            · have hsF := DF.size; omega
                            · run_tac Drv.numbers
                            · rw [bitL_no hbv]; exact ⟨_, _, by run_tac Drv.fact, hus7⟩
                            · exact fun h => absurd h (by omega)
                            · exact fun _ => ⟨rfl, _, _, rfl⟩

                  · have hzz : (sz : Int) < 2 ^ 63 := by omega
                    run_tac Drv.goFrom specsH
                    clear hzz
                    refine go_loopN sz (fun h₂ k h => Kp h₂ [n5 + 4, n5 + 5, n5 + 6] h ∧ PK h₂ h ∧ n5 + 7 ≤ h.objs.size ∧ (∃ l : Int, h.get? (n5 + 4 : Nat) = some (rngI (k : Nat) l) ∧ l = (sz : Int) - (k : Nat))
                        ∧ NumL h (n5 + 5) (bitL cw b k) ∧ Loc1 w Nm.k k h (n5 + 6 : Nat)) ?_ ?_
                    · intro h₂ D2 hz2
                      unfold Loc1
                      run_tac Drv.facts
                      · replace hz2 : h₂.objs.size = n5 + 7 := hz2
                        omega
                      · run_tac Drv.numbers
                      · exact ⟨_, _, by run_tac Drv.fact, .nil⟩
                      · exact fun _ => ⟨rfl, rfl⟩
                      · exact fun h => absurd h (by omega)
                    · rintro h7b D7 hz7 k h7 t7 n7 hn7 hk ⟨K7, P7, hsz7, ⟨l7, hit7, hle7⟩, ⟨us7, e7, hacc7, hus7⟩, es, ep, hloc, hze, hpo⟩ IH7
                      replace hz7 : h7b.objs.size = n5 + 7 := hz7
                      have hnn7 : n5 + 7 ≤ n7 := by omega
                      have hul7 : us7.length ≤ 1000000 := by rw [IntsAre.len hus7]; have := bitL_len cw b k; omega
                      by_cases hkN : k = sz
                      · have hzz := hpo (by omega)
                        revert hzz
                        rintro ⟨rfl, v, tk', rfl⟩
                        rw [hkN] at hus7
                        clear IH7
                        run_tac Drv.goFrom specsH
                        rename_i hT tkT tT nT eT leT KT
                        refine go_reach (fun h t hx => IH h t (by omega) hx) (fun hF DF => ?_)
                        have hsF : nT ≤ hF.objs.size := by rw [DF.size]; exact Nat.le_add_right _ _
                        have hbest : best jn cw sz (b + 1) = (bitL cw b sz).sum := by rw [best, if_pos ⟨hlt, hop⟩]
                        rw [hbest]
                        unfold Fr9
                        run_tac Drv.facts
                        · omega
                        · run_tac Drv.numbers

                      · have hkl : k < sz := by omega
                        have hzz := IntsAre.at huw (tab_at cw (n := sz) (k := k) hkl)
                        revert hzz
                        rintro ⟨tkx, hx⟩
                        by_cases hbit : Z.modQ (fdp (b : Nat) k) 2 = 1
                        · have hbv : bitv b k = true := by unfold bitv; rw [hbit]; rfl
                          have hzz := Nat.eq_zero_or_pos k
                          revert hzz
                          rintro (hk0 | hk0)
                          · have hzz := hze hk0
                            revert hzz
                            rintro ⟨rfl, rfl⟩
                            run_tac Drv.goFrom specsH
                            refine go_reach (fun h t hx => IH7 h t (by omega) hx) (fun hF DF => ?_)
                            unfold Loc1
                            run_tac Drv.facts
                            · have hsF := DF.size; omega
                            · run_tac Drv.numbers
                            · rw [bitL_yes hbv]; exact ⟨_, _, by run_tac Drv.fact, IntsAre.snoc hus7 _ _⟩
                            · exact fun h => absurd h (by omega)
                            · exact fun _ => ⟨rfl, _, _, rfl⟩

                          · have hzz := hpo hk0
                            revert hzz
                            rintro ⟨rfl, v, tk', rfl⟩
                            run_tac Drv.goFrom specsH
                            refine go_reach (fun h t hx => IH7 h t (by omega) hx) (fun hF DF => ?_)
                            unfold Loc1
                            run_tac Drv.facts
                            · have hsF := DF.size; omega
                            · run_tac Drv.numbers
                            · rw [bitL_yes hbv]; exact ⟨_, _, by run_tac Drv.fact, IntsAre.snoc hus7 _ _⟩
                            · exact fun h => absurd h (by omega)
                            · exact fun _ => ⟨rfl, _, _, rfl⟩

                        · have hbv : bitv b k = false := by unfold bitv; simp [hbit]
                          have hzz := Nat.eq_zero_or_pos k
                          revert hzz
                          rintro (hk0 | hk0)
                          · have hzz := hze hk0
                            revert hzz
                            rintro ⟨rfl, rfl⟩
                            run_tac Drv.goFrom specsH
                            refine go_reach (fun h t hx => IH7 h t (by omega) hx) (fun hF DF => ?_)
                            unfold Loc1
                            run_tac Drv.facts
                            · have hsF := DF.size; omega
                            · run_tac Drv.numbers
                            · rw [bitL_no hbv]; exact ⟨_, _, by run_tac Drv.fact, hus7⟩
                            · exact fun h => absurd h (by omega)
                            · exact fun _ => ⟨rfl, _, _, rfl⟩

                          · have hzz := hpo hk0
                            revert hzz
                            rintro ⟨rfl, v, tk', rfl⟩
                            run_tac Drv.goFrom specsH
                            refine go_reach (fun h t hx => IH7 h t (by omega) hx) (fun hF DF => ?_)
                            unfold Loc1
                            run_tac Drv.facts
                            · have hsF := DF.size; omega
                            · run_tac Drv.numbers
                            · rw [bitL_no hbv]; exact ⟨_, _, by run_tac Drv.fact, hus7⟩
                            · exact fun h => absurd h (by omega)
                            · exact fun _ => ⟨rfl, _, _, rfl⟩

                | cons x0 xs =>
                  have hop : openP jn b ≠ [] := by intro e; rw [e] at hus5; simp at hus5
                  have hzz := hex
                  revert hzz
                  rintro (⟨rfl, rfl⟩ | ⟨rfl, v, tk', rfl⟩)
                  · run_tac Drv.goFrom specsH
                    refine go_reach (fun h t hx => IH h t (by omega) hx) (fun hF DF => ?_)
                    have hsF : n5 ≤ hF.objs.size := by rw [DF.size]; exact Nat.le_add_right _ _
                    have hbest : best jn cw sz (b + 1) = best jn cw sz b := by rw [best, if_neg]; exact fun h => hop h.2
                    rw [hbest]
                    unfold Fr9
                    run_tac Drv.facts
                    · omega
                    · run_tac Drv.numbers

                  · run_tac Drv.goFrom specsH
                    refine go_reach (fun h t hx => IH h t (by omega) hx) (fun hF DF => ?_)
                    have hsF : n5 ≤ hF.objs.size := by rw [DF.size]; exact Nat.le_add_right _ _
                    have hbest : best jn cw sz (b + 1) = best jn cw sz b := by rw [best, if_neg]; exact fun h => hop h.2
                    rw [hbest]
                    unfold Fr9
                    run_tac Drv.facts
                    · omega
                    · run_tac Drv.numbers

              · have hkl : k < jn.length := by omega
                have hzz : ∃ x, jn[k]? = some x := ⟨_, List.getElem?_eq_getElem hkl⟩
                revert hzz
                rintro ⟨⟨i, j⟩, hij⟩
                have hzz := hj k i j hij
                revert hzz
                rintro ⟨hji, his⟩
                have hzz := huj.2 k i j hij
                revert hzz
                rintro ⟨a, ti, tj, hxa, ha1, ha2⟩
                have han : a < h.objs.size := lk_size ha2
                have P0 : PK h h5 := by run_tac Drv.facts
                have ha3 := P0 _ _ _ _ _ ha1 ha2
                have hb01 := bit01 b i
                have hb02 := bit01 b j
                by_cases hbi : Z.modQ (fdp (b : Nat) i) 2 = 0
                · by_cases hbj : Z.modQ (fdp (b : Nat) j) 2 = 0
                  · have hcnt : (openP (jn.take (k + 1)) b).length = (openP (jn.take k) b).length + 1 := by
                      unfold openP; rw [List.take_add_one, hij, Option.toList_some, List.filter_append]; simp [bitv, hbi, hbj]
                    have hzz := Nat.eq_zero_or_pos k
                    revert hzz
                    rintro (hk0 | hk0)
                    · have hzz := hze hk0
                      revert hzz
                      rintro ⟨rfl, rfl⟩
                      run_tac Drv.goFrom specsH
                      refine go_reach (fun h t hx => IH5 h t (by omega) hx) (fun hF DF => ?_)
                      unfold Loc1
                      run_tac Drv.facts
                      · have hsF := DF.size; omega
                      · rw [hcnt]; simp [hus5]
                      · exact fun h => absurd h (by omega)
                      · exact fun _ => ⟨rfl, _, _, rfl⟩

                    · have hzz := hpo hk0
                      revert hzz
                      rintro ⟨rfl, v, tk', rfl⟩
                      run_tac Drv.goFrom specsH
                      refine go_reach (fun h t hx => IH5 h t (by omega) hx) (fun hF DF => ?_)
                      unfold Loc1
                      run_tac Drv.facts
                      · have hsF := DF.size; omega
                      · rw [hcnt]; simp [hus5]
                      · exact fun h => absurd h (by omega)
                      · exact fun _ => ⟨rfl, _, _, rfl⟩

                  · have hcnt : (openP (jn.take (k + 1)) b).length = (openP (jn.take k) b).length := by
                      have hbj1 := hb02.resolve_left hbj
                      unfold openP; rw [List.take_add_one, hij, Option.toList_some, List.filter_append]; simp [bitv, hbj1]
                    have hzz := Nat.eq_zero_or_pos k
                    revert hzz
                    rintro (hk0 | hk0)
                    · have hzz := hze hk0
                      revert hzz
                      rintro ⟨rfl, rfl⟩
                      run_tac Drv.goFrom specsH
                      refine go_reach (fun h t hx => IH5 h t (by omega) hx) (fun hF DF => ?_)
                      unfold Loc1
                      run_tac Drv.facts
                      · have hsF := DF.size; omega
                      · rw [hcnt]; exact hus5
                      · exact fun h => absurd h (by omega)
                      · exact fun _ => ⟨rfl, _, _, rfl⟩

                    · have hzz := hpo hk0
                      revert hzz
                      rintro ⟨rfl, v, tk', rfl⟩
                      run_tac Drv.goFrom specsH
                      refine go_reach (fun h t hx => IH5 h t (by omega) hx) (fun hF DF => ?_)
                      unfold Loc1
                      run_tac Drv.facts
                      · have hsF := DF.size; omega
                      · rw [hcnt]; exact hus5
                      · exact fun h => absurd h (by omega)
                      · exact fun _ => ⟨rfl, _, _, rfl⟩

                · have hcnt : (openP (jn.take (k + 1)) b).length = (openP (jn.take k) b).length := by
                    have hbi1 := hb01.resolve_left hbi
                    unfold openP; rw [List.take_add_one, hij, Option.toList_some, List.filter_append]; simp [bitv, hbi1]
                  have hzz := Nat.eq_zero_or_pos k
                  revert hzz
                  rintro (hk0 | hk0)
                  · have hzz := hze hk0
                    revert hzz
                    rintro ⟨rfl, rfl⟩
                    run_tac Drv.goFrom specsH
                    refine go_reach (fun h t hx => IH5 h t (by omega) hx) (fun hF DF => ?_)
                    unfold Loc1
                    run_tac Drv.facts
                    · have hsF := DF.size; omega
                    · rw [hcnt]; exact hus5
                    · exact fun h => absurd h (by omega)
                    · exact fun _ => ⟨rfl, _, _, rfl⟩

                  · have hzz := hpo hk0
                    revert hzz
                    rintro ⟨rfl, v, tk', rfl⟩
                    run_tac Drv.goFrom specsH
                    refine go_reach (fun h t hx => IH5 h t (by omega) hx) (fun hF DF => ?_)
                    unfold Loc1
                    run_tac Drv.facts
                    · have hsF := DF.size; omega
                    · rw [hcnt]; exact hus5
                    · exact fun h => absurd h (by omega)
                    · exact fun _ => ⟨rfl, _, _, rfl⟩

          · run_tac Drv.goFrom specsH
            rename_i hS tkS tS nS eS leS KS
            refine go_reach (fun h t hx => IH h t (by omega) hx) (fun hF DF => ?_)
            have hsF : nS ≤ hF.objs.size := by rw [DF.size]; exact Nat.le_add_right _ _
            have hbest : best jn cw sz (b + 1) = best jn cw sz b := by rw [best, if_neg]; exact fun h => hlt h.1
            rw [hbest]
            unfold Fr9
            run_tac Drv.facts
            · omega
            · run_tac Drv.numbers

        · have hkl : k < sz := by omega
          have hzz := IntsAre.at huw (tab_at cw (n := sz) (k := k) hkl)
          revert hzz
          rintro ⟨tkx, hx⟩
          by_cases hbit : Z.modQ (fdp (b : Nat) k) 2 = 1
          · have hbv : bitv b k = true := by unfold bitv; rw [hbit]; rfl
            have hzz := Nat.eq_zero_or_pos k
            revert hzz
            rintro (hk0 | hk0)
            · have hzz := hze hk0
              revert hzz
              rintro ⟨rfl, rfl⟩
              run_tac Drv.goFrom specsH
              refine go_reach (fun h t hx => IH4 h t (by omega) hx) (fun hF DF => ?_)
              unfold Loc1
              run_tac Drv.facts
              · have hsF := DF.size; omega
              · run_tac Drv.numbers
              · rw [bitL_yes hbv]; exact ⟨_, _, by run_tac Drv.fact, IntsAre.snoc hus4 _ _⟩
              · exact fun h => absurd h (by omega)
              · exact fun _ => ⟨rfl, _, _, rfl⟩

            · have hzz := hpo hk0
              revert hzz
              rintro ⟨rfl, v, tk', rfl⟩
              run_tac Drv.goFrom specsH
              refine go_reach (fun h t hx => IH4 h t (by omega) hx) (fun hF DF => ?_)
              unfold Loc1
              run_tac Drv.facts
              · have hsF := DF.size; omega
              · run_tac Drv.numbers
              · rw [bitL_yes hbv]; exact ⟨_, _, by run_tac Drv.fact, IntsAre.snoc hus4 _ _⟩
              · exact fun h => absurd h (by omega)
              · exact fun _ => ⟨rfl, _, _, rfl⟩

          · have hbv : bitv b k = false := by unfold bitv; simp [hbit]
            have hzz := Nat.eq_zero_or_pos k
            revert hzz
            rintro (hk0 | hk0)
            · have hzz := hze hk0
              revert hzz
              rintro ⟨rfl, rfl⟩
              run_tac Drv.goFrom specsH
              refine go_reach (fun h t hx => IH4 h t (by omega) hx) (fun hF DF => ?_)
              unfold Loc1
              run_tac Drv.facts
              · have hsF := DF.size; omega
              · run_tac Drv.numbers
              · rw [bitL_no hbv]; exact ⟨_, _, by run_tac Drv.fact, hus4⟩
              · exact fun h => absurd h (by omega)
              · exact fun _ => ⟨rfl, _, _, rfl⟩

            · have hzz := hpo hk0
              revert hzz
              rintro ⟨rfl, v, tk', rfl⟩
              run_tac Drv.goFrom specsH
              refine go_reach (fun h t hx => IH4 h t (by omega) hx) (fun hF DF => ?_)
              unfold Loc1
              run_tac Drv.facts
              · have hsF := DF.size; omega
              · run_tac Drv.numbers
              · rw [bitL_no hbv]; exact ⟨_, _, by run_tac Drv.fact, hus4⟩
              · exact fun h => absurd h (by omega)
              · exact fun _ => ⟨rfl, _, _, rfl⟩
end Mine

end
-- Seg17
section
open PySem PySem.W PySem.W.X PyProof.Rows
set_option maxRecDepth 100000
set_option Elab.async false
set_option maxHeartbeats 0
namespace Mine
def covN (cov : List Nat) (k : Nat) : List Nat := (List.range k).filter (fun i => decide (i ∈ cov))
theorem covN_cast (cov : List Nat) (k : Nat) : covL cov k = (covN cov k).map (fun i : Nat => (i : Int)) := rfl
theorem seg17 {w : World} {H0 : Heap} {R : Result → Shared → Prop} {d : Drawn} {os : OsState} {N nm wt : Nat → Int} {sz n : Nat} {wd : Bool} {cw : Nat → Int} {p q τ wl cv : Nat} {jn : List (Nat × Nat)} {nb : Nat → List Nat} {cov : List Nat} {lv : Int} {gs : GenState} (hs1 : 1 ≤ sz) (hs7 : sz ≤ 7) {h : Heap} {t : Nat}
    (hratio : ((covN cov sz).map cw).sum ≤ 2 * lv)
    (E : E12 w H0 N nm wt sz jn nb cov cw p q τ wl cv n h) (fr : Fr9 w sz wd p lv h) (hz : h.objs.size = n)
    (next : ∀ h' t' n', E12 w H0 N nm wt sz jn nb cov cw p q τ wl cv n' h' → Fr9 w sz wd p lv h' → h'.objs.size = n' → Law w R d os 18 [gs] h' t') :
    Law w R d os 17 [gs] h t := by
  have E0 := E
  have hz0 := hz
  have hzz := E
  revert hzz
  rintro ⟨⟨⟨kt, c644, c645, c647, -, -, -, -, -, -, -⟩, hp, hpq, hqt, htn, -, -, c648, c649, -, -, -⟩, hwl, c646, ⟨uw, ew, wtl, huw⟩, hcv, c650, ⟨uc, ec, cvl, huc⟩⟩
  have hzz := fr
  revert hzz
  rintro ⟨tk, tk2, tk3, tk4, tk5, tk6, tk7, v1, v2, tk8, tk9, fr⟩
  have hn701 : 701 ≤ n := by omega
  have hwn : 668 ≤ wl ∧ wl < n := by omega
  refine law_step _ (by rfl) hz ?_
  run_tac Drv.go specsH
  refine go_loopN uc.length (fun h₁ k h => Kp h₁ [n, n + 1, n + 2] h ∧ PK h₁ h ∧ n + 3 ≤ h.objs.size ∧ h.get? n = some (lit cv (k : Nat)) ∧ NumL h (n + 1) (((covN cov sz).take k).map cw) ∧ Loc1 w Nm.k k h (n + 2 : Nat)) ?_ ?_
  · intro h₁ D hz
    unfold Loc1
    run_tac Drv.facts
    · replace hz : h₁.objs.size = n + 3 := hz
      omega
    · exact ⟨_, _, by run_tac Drv.fact, .nil⟩
    · exact fun _ => ⟨rfl, rfl⟩
    · exact fun h => absurd h (by omega)
  · rintro h₁ D hz k h' t' n' hn hk ⟨K, P, hsz, hit, ⟨us', e', hacc, hus'⟩, es, ep, hloc, hze, hpo⟩ IH
    replace hz : h₁.objs.size = n + 3 := hz
    have hnn' : n + 3 ≤ n' := by omega
    have hucl : uc.length = (covN cov sz).length := by rw [IntsAre.len huc, covN_cast, List.length_map]
    have hcl7 : (covN cov sz).length ≤ 7 := by
      have := List.length_filter_le (fun i => decide (i ∈ cov)) (List.range sz)
      unfold covN
      simp at this
      omega
    have hul : us'.length ≤ 1000000 := by rw [IntsAre.len hus', List.length_map, List.length_take]; omega
    by_cases hkN : k = uc.length
    · rw [hkN, hucl, List.take_length] at hus'
      have hex : (es = [] ∧ ep = 0) ∨ (ep = 1 ∧ ∃ v tk, es = [en w Nm.k tk v]) := by
        have hzz := Nat.eq_zero_or_pos k
        revert hzz
        rintro (hk0 | hk0)
        · exact .inl (hze hk0)
        · exact .inr (hpo hk0)
      clear hze hpo IH
      have hzz := hex
      revert hzz
      rintro (⟨rfl, rfl⟩ | ⟨rfl, v, tk', rfl⟩)
      · run_tac Drv.goFrom specsH
        refine ⟨fun hF DF => ?_⟩
        have P0 : PK h hF := by run_tac Drv.facts
        have K0 : Kp h [643, 651] hF := by run_tac Drv.facts
        refine stEnd_next (next _ _ _ (E0.keep hz0 rfl K0 P0) ?_ rfl)
        unfold Fr9
        run_tac Drv.facts
      · run_tac Drv.goFrom specsH
        refine ⟨fun hF DF => ?_⟩
        have P0 : PK h hF := by run_tac Drv.facts
        have K0 : Kp h [643, 651] hF := by run_tac Drv.facts
        refine stEnd_next (next _ _ _ (E0.keep hz0 rfl K0 P0) ?_ rfl)
        unfold Fr9
        run_tac Drv.facts
    · have hkl : k < uc.length := by omega
      have hzz : ∃ c, (covN cov sz)[k]? = some c := ⟨_, List.getElem?_eq_getElem (by omega)⟩
      revert hzz
      rintro ⟨c, hc⟩
      have hcs : c < sz := by
        have := List.mem_of_getElem? hc
        unfold covN at this
        exact List.mem_range.mp (List.mem_filter.mp this).1
      have hzz := IntsAre.at huc (i := k) (n := (c : Int)) (by rw [covN_cast, List.getElem?_map, hc]; rfl)
      revert hzz
      rintro ⟨tc, hxc⟩
      have hzz := IntsAre.at huw (tab_at cw (n := sz) (k := c) hcs)
      revert hzz
      rintro ⟨tkx, hx⟩
      have h63 : ((c : Nat) : Int) < 2 ^ 63 := by omega
      have h63b : -(2 ^ 63 : Int) ≤ ((c : Nat) : Int) := by omega
      have hzz := Nat.eq_zero_or_pos k
      revert hzz
      rintro (hk0 | hk0)
      · have hzz := hze hk0
        revert hzz
        rintro ⟨rfl, rfl⟩
        run_tac Drv.goFrom specsH
        refine go_reach (fun h t hx => IH h t (by omega) hx) (fun hF DF => ?_)
        unfold Loc1
        run_tac Drv.facts
        · have hsF := DF.size; omega
        · rw [List.take_add_one, hc, Option.toList_some, List.map_append]
          exact ⟨_, _, by run_tac Drv.fact, IntsAre.snoc hus' _ _⟩
        · exact fun h => absurd h (by omega)
        · exact fun _ => ⟨rfl, _, _, rfl⟩
      · have hzz := hpo hk0
        revert hzz
        rintro ⟨rfl, v, tk', rfl⟩
        run_tac Drv.goFrom specsH
        refine go_reach (fun h t hx => IH h t (by omega) hx) (fun hF DF => ?_)
        unfold Loc1
        run_tac Drv.facts
        · have hsF := DF.size; omega
        · rw [List.take_add_one, hc, Option.toList_some, List.map_append]
          exact ⟨_, _, by run_tac Drv.fact, IntsAre.snoc hus' _ _⟩
        · exact fun h => absurd h (by omega)
        · exact fun _ => ⟨rfl, _, _, rfl⟩
end Mine

end
-- Seg18
section
open PySem PySem.W PySem.W.X PyProof.Rows
set_option maxRecDepth 100000
set_option Elab.async false
set_option maxHeartbeats 0
namespace Mine
theorem keys_some {kvs : List (Int × Value)} {l : List Nat} {nm : Nat → Int} {y : Nat} (hk : kvs.map (·.1) = l.map nm) (hy : y ∈ l) : (valueAt kvs (nm y)).isSome = true := by
  unfold valueAt
  rw [Option.isSome_map, List.find?_isSome]
  have h1 : nm y ∈ kvs.map (·.1) := by rw [hk]; exact List.mem_map_of_mem hy
  have hzz := List.mem_map.mp h1
  revert hzz
  rintro ⟨x, hx, e⟩
  exact ⟨x, hx, by simpa using e⟩
theorem seg18 {w : World} {H0 : Heap} {R : Result → Shared → Prop} {d : Drawn} {os : OsState} {N nm wt : Nat → Int} {sz n : Nat} {wd : Bool} {cw : Nat → Int} {p q τ wl cv : Nat} {jn : List (Nat × Nat)} {nb : Nat → List Nat} {cov : List Nat} {lv : Int} {gs : GenState} (hs1 : 1 ≤ sz) (hs7 : sz ≤ 7) {h : Heap} {t : Nat}
    (hsym : ∀ i y, i < sz → y ∈ nb i → y < sz ∧ i ∈ nb y) (hjn : (pairsOf sz).filter (fun x => decide (x.2 ∈ nb x.1)) = jn) (hps : ∀ (k i j : Nat), (pairsOf sz)[k]? = some (i, j) → j < i ∧ i < sz)
    (inj : ∀ i j, i < sz → j < sz → nm i = nm j → i = j)
    (E : E12 w H0 N nm wt sz jn nb cov cw p q τ wl cv n h) (fr : Fr9 w sz wd p lv h) (hz : h.objs.size = n)
    (next : ∀ h' t' n', Env w H0 N nm wt sz h' → (Own2 w h' ∨ Own3 w h') → Fr9 w sz wd p lv h' → h'.objs.size = n' → 10 * sz + 700 ≤ n' → Law w R d os 19 [gs] h' t') :
    Law w R d os 18 [gs] h t := by
  have E0 := E
  have hz0 := hz
  have hzz := E
  revert hzz
  rintro ⟨⟨⟨kt, c644, c645, c647, -, ⟨un, en', nam, hun⟩, -, g673, ⟨esn, epn, node, hden⟩, ⟨esa, epa, adj, hdea⟩, -⟩, hp, hpq, hqt, htn, ⟨t1, t2, t3, t4, ed, g672⟩, adjs, c648, c649, ⟨up, epp, prs, hup⟩, ⟨uj, ej0, jnd, huj⟩, -⟩, hwl, c646, -, hcv, c650, -⟩
  have hzz := fr
  revert hzz
  rintro ⟨tk, tk2, tk3, tk4, tk5, tk6, tk7, v1, v2, tk8, tk9, fr⟩
  have hn701 : 701 ≤ n := by omega
  have hszn : esn.toArray.size = sz := by rw [List.size_toArray, hden.len, kv_len]
  have hsL : 16777216 ≤ sizeLine := by rw [sizeLine_eq]; decide
  have hun7 : un.length < 64 := by rw [IntsAre.len hun, tab_len]; omega
  refine law_step _ (by rfl) hz ?_
  run_tac Drv.go specsJ
  refine go_loopN sz (fun h₁ k h => Kp h₁ [n, n + 2] h ∧ PK h₁ h ∧ n + 4 ≤ h.objs.size ∧ h.get? (n + 2 : Nat) = some (keyIt 679 (k : Nat) (sz : Nat) epn) ∧ NumL h n (tab k nm)) ?_ ?_
  · intro h₁ D hz
    rw [← hszn]
    run_tac Drv.facts
    · replace hz : h₁.objs.size = n + 4 := hz
      omega
    · exact ⟨_, _, by run_tac Drv.fact, .nil⟩
  · rintro h₁ D hz k h' t' n' hn hk ⟨K, P, hsz, hit, ⟨us', e', hacc, hus'⟩⟩ IH
    replace hz : h₁.objs.size = n + 4 := hz
    have hnn' : n + 4 ≤ n' := by omega
    have hul : us'.length < 64 := by rw [IntsAre.len hus', tab_len]; omega
    by_cases hkN : k = sz
    · subst hkN
      run_tac Drv.goFrom specsJ
      rename_i hS nS outS eS nsS zS lS KS gS iS pS wS
      have hnnS : n + 4 ≤ nS := by omega
      clear IH
      refine go_loopN (pairsOf k).length (fun h₂ m h => Kp h₂ [672, nS, nS + 1, nS + 2] h ∧ PK h₂ h ∧ nS + 3 ≤ h.objs.size ∧ h.get? nS = some (lit p (m : Nat))
        ∧ PairL h (nS + 1) (((pairsOf k).take m).filter (fun x => decide (x.2 ∈ nb x.1))) ∧ Loc2t w Nm.one Nm.other m h (nS + 2 : Nat) ∧ (m = 0 → Own2 w h) ∧ (0 < m → Own3 w h)) ?_ ?_
      · intro h₂ D2 hz2
        unfold Loc2t
        run_tac Drv.facts
        · replace hz2 : h₂.objs.size = nS + 3 := hz2
          omega
        · exact ⟨_, _, by run_tac Drv.fact, by simpa using PV.nil _⟩
        · exact fun _ => ⟨rfl, rfl⟩
        · exact fun h => absurd h (by omega)
        · exact fun _ => ⟨t1, t2, t3, t4, ed, by run_tac Drv.fact⟩
        · exact fun h => absurd h (by omega)
      · rintro h2b D2 hz2 m h3 t3' n3 hn3 hm ⟨K3, P3, hsz3, hit3, ⟨us3, e3, hacc3, hus3⟩, ⟨es, ep, hloc, hl0, hl1⟩, how2, how3⟩ IH2
        replace hz2 : h2b.objs.size = nS + 3 := hz2
        have hnn3 : nS + 3 ≤ n3 := by omega
        have hlp : up.length = (pairsOf k).length := hup.1
        have hpl := pairsOf_len hs7
        have hul3 : us3.length ≤ 1000000 := by
          rw [hus3.1]
          have h1 := List.length_filter_le (fun x : Nat × Nat => decide (x.2 ∈ nb x.1)) ((pairsOf k).take m)
          rw [List.length_take] at h1
          omega
        by_cases hmN : m = (pairsOf k).length
        · rw [hmN, List.take_length, hjn] at hus3
          have hex : (es = [] ∧ ep = 0) ∨ (ep = 2 ∧ ∃ v tk v2 tk2, es = [en w Nm.one tk v, en w Nm.other tk2 v2]) := by
            have hzz := Nat.eq_zero_or_pos m
            revert hzz
            rintro (hk0 | hk0)
            · exact .inl (hl0 hk0)
            · exact .inr (hl1 hk0)
          have hown : Own2 w h3 ∨ Own3 w h3 := by
            have hzz := Nat.eq_zero_or_pos m
            revert hzz
            rintro (hk0 | hk0)
            · exact .inl (how2 hk0)
            · exact .inr (how3 hk0)
          clear IH2 hl0 hl1
          have hzz := hex
          revert hzz
          rintro (⟨rfl, rfl⟩ | ⟨rfl, v, tk', v', tk2', rfl⟩)
          · run_tac Drv.goFrom specsJ
            refine ⟨fun hF DF => ?_⟩
            have K0 : Kp h [643, 651, 672] hF := by run_tac Drv.facts
            have hsF : n3 ≤ hF.objs.size := by rw [DF.size]; exact Nat.le_add_right _ _
            refine stEnd_next (next _ _ _ (E0.e.env.keep K0) ?_ ?_ rfl (by omega))
            · have hzz := hown
              revert hzz
              rintro (⟨o1, o2, o3, o4, od, how⟩ | ⟨o1, o2, o3, o4, od, o5, how⟩)
              · exact .inl ⟨o1, o2, o3, o4, od, by run_tac Drv.fact⟩
              · exact .inr ⟨o1, o2, o3, o4, od, o5, by run_tac Drv.fact⟩
            · unfold Fr9
              run_tac Drv.facts
          · run_tac Drv.goFrom specsJ
            refine ⟨fun hF DF => ?_⟩
            have K0 : Kp h [643, 651, 672] hF := by run_tac Drv.facts
            have hsF : n3 ≤ hF.objs.size := by rw [DF.size]; exact Nat.le_add_right _ _
            refine stEnd_next (next _ _ _ (E0.e.env.keep K0) ?_ ?_ rfl (by omega))
            · have hzz := hown
              revert hzz
              rintro (⟨o1, o2, o3, o4, od, how⟩ | ⟨o1, o2, o3, o4, od, o5, how⟩)
              · exact .inl ⟨o1, o2, o3, o4, od, by run_tac Drv.fact⟩
              · exact .inr ⟨o1, o2, o3, o4, od, o5, by run_tac Drv.fact⟩
            · unfold Fr9
              run_tac Drv.facts
        · have hml : m < (pairsOf k).length := by omega
          have hzz : ∃ x, (pairsOf k)[m]? = some x := ⟨_, List.getElem?_eq_getElem hml⟩
          revert hzz
          rintro ⟨⟨i, j⟩, hij⟩
          have hzz := hps m i j hij
          revert hzz
          rintro ⟨hji, his⟩
          have hzz := hup.2 m i j hij
          revert hzz
          rintro ⟨a, ti, tj, hxa, ha1, ha2⟩
          have han : a < h.objs.size := lk_size ha2
          have P0 : PK h h3 := by run_tac Drv.facts
          have ha3 := P0 _ _ _ _ _ ha1 ha2
          have hadr : 10 * i + 700 ≤ n := by omega
          have hzz := adjs i his
          revert hzz
          rintro ⟨esi, epi, kvi, hgi, hdi, hki, hri⟩
          have hzz := IntsAre.at hun (tab_at nm (n := k) (k := i) (by omega))
          revert hzz
          rintro ⟨tki, hxi⟩
          have hzz := IntsAre.at hun (tab_at nm (n := k) (k := j) (by omega))
          revert hzz
          rintro ⟨tkj, hxj⟩
          have atI := kv_key (f := fun i => .ref (10 * i + 694 : Nat)) inj his rfl
          by_cases hin : j ∈ nb i
          · have hv := keys_some hki hin
            have hsel : ((pairsOf k).take (m + 1)).filter (fun x => decide (x.2 ∈ nb x.1)) = ((pairsOf k).take m).filter (fun x => decide (x.2 ∈ nb x.1)) ++ [(i, j)] := by
              rw [List.take_add_one, hij, Option.toList_some, List.filter_append]; simp [hin]
            have hzz := Nat.eq_zero_or_pos m
            revert hzz
            rintro (hk0 | hk0)
            · have hzz := hl0 hk0
              revert hzz
              rintro ⟨rfl, rfl⟩
              have hzz := how2 hk0
              revert hzz
              rintro ⟨o1, o2, o3, o4, od, how⟩
              run_tac Drv.goFrom specsJ
              refine go_reach (fun h t hx => IH2 h t (by omega) hx) (fun hF DF => ?_)
              have qF : PK h3 hF := by run_tac Drv.facts
              have hsF : n3 ≤ hF.objs.size := by rw [DF.size]; exact Nat.le_add_right _ _
              unfold Loc2t
              run_tac Drv.facts
              · omega
              · rw [hsel]; exact ⟨_, _, by run_tac Drv.fact, (hus3.mono qF).snoc (by show 687 ≤ n3 + _; omega) (by run_tac Drv.fact)⟩
              · exact fun h => absurd h (by omega)
              · exact fun _ => ⟨rfl, _, _, _, _, rfl⟩
              · exact fun h => absurd h (by omega)
              · exact fun _ => ⟨_, _, _, _, _, _, by run_tac Drv.fact⟩
            · have hzz := hl1 hk0
              revert hzz
              rintro ⟨rfl, v5, tk5', v6, tk6', rfl⟩
              have hzz := how3 hk0
              revert hzz
              rintro ⟨o1, o2, o3, o4, od, o5, how⟩
              run_tac Drv.goFrom specsJ
              refine go_reach (fun h t hx => IH2 h t (by omega) hx) (fun hF DF => ?_)
              have qF : PK h3 hF := by run_tac Drv.facts
              have hsF : n3 ≤ hF.objs.size := by rw [DF.size]; exact Nat.le_add_right _ _
              unfold Loc2t
              run_tac Drv.facts
              · omega
              · rw [hsel]; exact ⟨_, _, by run_tac Drv.fact, (hus3.mono qF).snoc (by show 687 ≤ n3 + _; omega) (by run_tac Drv.fact)⟩
              · exact fun h => absurd h (by omega)
              · exact fun _ => ⟨rfl, _, _, _, _, rfl⟩
              · exact fun h => absurd h (by omega)
              · exact fun _ => ⟨_, _, _, _, _, _, by run_tac Drv.fact⟩
          · have hv := keys_none inj hki (show j < k by omega) (fun z hz => (hsym i z his hz).1) hin
            have hsel : ((pairsOf k).take (m + 1)).filter (fun x => decide (x.2 ∈ nb x.1)) = ((pairsOf k).take m).filter (fun x => decide (x.2 ∈ nb x.1)) := by
              rw [List.take_add_one, hij, Option.toList_some, List.filter_append]; simp [hin]
            have hzz := Nat.eq_zero_or_pos m
            revert hzz
            rintro (hk0 | hk0)
            · have hzz := hl0 hk0
              revert hzz
              rintro ⟨rfl, rfl⟩
              have hzz := how2 hk0
              revert hzz
              rintro ⟨o1, o2, o3, o4, od, how⟩
              run_tac Drv.goFrom specsJ
              refine go_reach (fun h t hx => IH2 h t (by omega) hx) (fun hF DF => ?_)
              have qF : PK h3 hF := by run_tac Drv.facts
              have hsF : n3 ≤ hF.objs.size := by rw [DF.size]; exact Nat.le_add_right _ _
              unfold Loc2t
              run_tac Drv.facts
              · omega
              · rw [hsel]; exact ⟨_, _, by run_tac Drv.fact, hus3.mono qF⟩
              · exact fun h => absurd h (by omega)
              · exact fun _ => ⟨rfl, _, _, _, _, rfl⟩
              · exact fun h => absurd h (by omega)
              · exact fun _ => ⟨_, _, _, _, _, _, by run_tac Drv.fact⟩
            · have hzz := hl1 hk0
              revert hzz
              rintro ⟨rfl, v5, tk5', v6, tk6', rfl⟩
              have hzz := how3 hk0
              revert hzz
              rintro ⟨o1, o2, o3, o4, od, o5, how⟩
              run_tac Drv.goFrom specsJ
              refine go_reach (fun h t hx => IH2 h t (by omega) hx) (fun hF DF => ?_)
              have qF : PK h3 hF := by run_tac Drv.facts
              have hsF : n3 ≤ hF.objs.size := by rw [DF.size]; exact Nat.le_add_right _ _
              unfold Loc2t
              run_tac Drv.facts
              · omega
              · rw [hsel]; exact ⟨_, _, by run_tac Drv.fact, hus3.mono qF⟩
              · exact fun h => absurd h (by omega)
              · exact fun _ => ⟨rfl, _, _, _, _, rfl⟩
              · exact fun h => absurd h (by omega)
              · exact fun _ => ⟨_, _, _, _, _, _, by run_tac Drv.fact⟩
    · have hkl : k < sz := by omega
      have hzz := hden.at (kv_get hkl)
      revert hzz
      rintro ⟨tkk, hxk⟩
      have hxe := dentry hxk
      have hnot : ¬ (sizeLine + 1 < (us' ++ [Value.int (nm k) tkk]).toArray.size) := by rw [List.size_toArray, sizeLine_eq]; simp; omega
      run_tac Drv.goFrom specsJ
      refine go_reach (fun h t hx => IH h t (by omega) hx) (fun hF DF => ?_)
      run_tac Drv.facts
      · have hsF := DF.size; omega
      · rw [tab_snoc]; exact ⟨_, _, by run_tac Drv.fact, IntsAre.snoc hus' _ _⟩
end Mine

end
-- Seg19
section
open PySem PySem.W PySem.W.X PyProof.Rows
set_option maxRecDepth 100000
set_option Elab.async false
set_option maxHeartbeats 0
namespace Mine
theorem seg19 {w : World} {H0 : Heap} {R : Result → Shared → Prop} {d : Drawn} {os : OsState} {N nm wt : Nat → Int} {sz n : Nat} {wd : Bool} {p : Nat} {lv : Int} {gs : GenState} (hs1 : 1 ≤ sz) (hs7 : sz ≤ 7) {h : Heap} {t : Nat}
    (inj : ∀ i j, i < sz → j < sz → nm i = nm j → i = j) (hwt : wt = fun k => Z.modQ (N (10 + k)) 10)
    (E : Env w H0 N nm wt sz h) (own : Own2 w h ∨ Own3 w h) (fr : Fr9 w sz wd p lv h) (hz : h.objs.size = n) (hn701 : 10 * sz + 700 ≤ n)
    (fin : ∀ h' t', TopK ⟨ktop w.params, H0⟩ h' → R (.ok (.ret (.bool true))) ⟨h', ⟨[gs]⟩, d, t', os⟩) : Law w R d os 19 [gs] h t := by
  subst hwt
  have hzz := E
  revert hzz
  rintro ⟨kt, c644, c645, c647, ⟨us, e, lst, hus⟩, ⟨un, en', nam, hun⟩, -, g673, ⟨esn, epn, node, hden⟩, -, ⟨ft, gt, att⟩⟩
  have hzz := fr
  revert hzz
  rintro ⟨tk, tk2, tk3, tk4, tk5, tk6, tk7, v1, v2, tk8, tk9, fr⟩
  have hlun : un.length = sz := by rw [IntsAre.len hun, tab_len]
  refine law_step _ (by rfl) hz ?_
  have hzz := own
  revert hzz
  rintro (⟨t1, t2, t3, t4, ed, g672⟩ | ⟨t1, t2, t3, t4, ed, t5, g672⟩)
  · run_tac Drv.go specsK
    refine go_loopN sz (fun h₁ k h => Kp h₁ [672, n, n + 1, n + 2] h ∧ n + 3 ≤ h.objs.size ∧ h.get? n = some (lit 662 (k : Nat)) ∧ NumL h (n + 1) (tab k (fun k => Z.modQ (N (10 + k)) 10)) ∧ Loc1 w Nm.name k h (n + 2 : Nat)
      ∧ (k = 0 → h.get? 672 = some { cls := .type "dict", dict := none, data := .dict [en w Nm.graph t1 (.ref 677), en w Nm.x_node t2 (.ref 679), en w Nm.x_adj t3 (.ref 681), en w Nm.edges t4 (.ref ed)].toArray 4, slots := #[none] })
      ∧ (0 < k → ∃ (t6 : Nat) (nv nd : Nat), h.get? 672 = some { cls := .type "dict", dict := none, data := .dict [en w Nm.graph t1 (.ref 677), en w Nm.x_node t2 (.ref 679), en w Nm.x_adj t3 (.ref 681), en w Nm.edges t4 (.ref ed), en w Nm.nodes t6 (.ref nv)].toArray 5, slots := #[none] } ∧ h.get? nv = some { cls := .ref 82, dict := some nd, data := .plain, slots := #[some (.ref 679)] } ∧ h.get? nd = some (dictO [] 0) ∧ n + 3 ≤ nv ∧ n + 3 ≤ nd)) ?_ ?_
    · intro h₁ D hz
      replace hz : h₁.objs.size = n + 3 := hz
      unfold Loc1
      refine ⟨by run_tac Drv.facts, by omega, by run_tac Drv.fact, ⟨_, _, by run_tac Drv.fact, .nil⟩, ⟨_, _, by run_tac Drv.fact, fun _ => ⟨rfl, rfl⟩, fun h => absurd h (by omega)⟩, fun _ => by run_tac Drv.fact, fun h => absurd h (by omega)⟩
    · rintro h₁ D hz k h' t' n' hn hk ⟨K, hsz, hit, ⟨us', e', hacc, hus'⟩, ⟨es, ep, hloc, hze, hpo⟩, how0, how1⟩ IH
      replace hz : h₁.objs.size = n + 3 := hz
      have hnn' : n + 3 ≤ n' := by omega
      have hul : us'.length ≤ 1000000 := by rw [IntsAre.len hus', tab_len]; omega
      by_cases hkN : k = sz
      · have hzz := hpo (by omega)
        revert hzz
        rintro ⟨rfl, v, tk', rfl⟩
        rw [hkN] at hus'
        clear IH
        run_tac Drv.goFrom specsK
        refine go_loopN sz (fun h₂ k h => Kp h₂ [n' + 3, n' + 4, n' + 5] h ∧ n' + 6 ≤ h.objs.size ∧ (∃ l : Int, h.get? (n' + 3 : Nat) = some (rngI (k : Nat) l) ∧ l = (sz : Int) - (k : Nat)) ∧ NumL h (n' + 4) (tab k (fun k => Z.modQ (N (10 + k)) 10)) ∧ Loc1 w Nm.k k h (n' + 5 : Nat)) ?_ ?_
        · intro h₂ D2 hz2
          unfold Loc1
          run_tac Drv.facts
          · replace hz2 : h₂.objs.size = n' + 6 := hz2
            omega
          · run_tac Drv.numbers
          · exact ⟨_, _, by run_tac Drv.fact, .nil⟩
          · exact fun _ => ⟨rfl, rfl⟩
          · exact fun h => absurd h (by omega)
        · rintro h2b D2 hz2 k2 h3 t3' n3 hn3 hk2 ⟨K3, hsz3, ⟨l3, hit3, hle3⟩, ⟨us3, e3, hacc3, hus3⟩, es, ep, hloc, hze, hpo⟩ IH2
          replace hz2 : h2b.objs.size = n' + 6 := hz2
          have hnn3 : n' + 6 ≤ n3 := by omega
          have hul3 : us3.length ≤ 1000000 := by rw [IntsAre.len hus3, tab_len]; omega
          by_cases hk2N : k2 = sz
          · have hzz := hpo (by omega)
            revert hzz
            rintro ⟨rfl, v, tk', rfl⟩
            rw [hk2N] at hus3
            clear IH2
            run_tac Drv.goFrom specsK
            refine ⟨fun hF DF => ?_⟩
            exact stEnd_ret (w := w) (R := R) (k := 19) (fin _ _ (by run_tac Drv.facts))

          · have hkl2 : k2 < sz := by omega
            have hzz := IntsAre.at hus (tab_at N (n := 18) (k := 10 + k2) (by omega))
            revert hzz
            rintro ⟨tkx, hx⟩
            have hzz := Nat.eq_zero_or_pos k2
            revert hzz
            rintro (hk0 | hk0)
            · have hzz := hze hk0
              revert hzz
              rintro ⟨rfl, rfl⟩
              run_tac Drv.goFrom specsK
              refine go_reach (fun h t hx => IH2 h t (by omega) hx) (fun hF DF => ?_)
              have hsF : n3 ≤ hF.objs.size := by rw [DF.size]; exact Nat.le_add_right _ _
              unfold Loc1
              run_tac Drv.facts
              · omega
              · run_tac Drv.numbers
              · rw [tab_snoc]; exact ⟨_, _, by run_tac Drv.fact, IntsAre.snoc hus3 _ _⟩
              · exact fun h => absurd h (by omega)
              · exact fun _ => ⟨rfl, _, _, rfl⟩

            · have hzz := hpo hk0
              revert hzz
              rintro ⟨rfl, v, tk', rfl⟩
              run_tac Drv.goFrom specsK
              refine go_reach (fun h t hx => IH2 h t (by omega) hx) (fun hF DF => ?_)
              have hsF : n3 ≤ hF.objs.size := by rw [DF.size]; exact Nat.le_add_right _ _
              unfold Loc1
              run_tac Drv.facts
              · omega
              · run_tac Drv.numbers
              · rw [tab_snoc]; exact ⟨_, _, by run_tac Drv.fact, IntsAre.snoc hus3 _ _⟩
              · exact fun h => absurd h (by omega)
              · exact fun _ => ⟨rfl, _, _, rfl⟩

      · have hkl : k < sz := by omega
        have hadr : 10 * k + 700 ≤ n := by omega
        have hzz := IntsAre.at hun (tab_at nm (n := sz) (k := k) hkl)
        revert hzz
        rintro ⟨tkx, hx⟩
        have atN := kv_key (f := fun i => .ref (10 * i + 696 : Nat)) inj hkl rfl
        have hzz := Nat.eq_zero_or_pos k
        revert hzz
        rintro (hk0 | hk0)
        · have hzz := hze hk0
          revert hzz
          rintro ⟨rfl, rfl⟩
          have how := how0 hk0
          run_tac Drv.goFrom specsK
          refine go_reach (fun h t hx => IH h t (by omega) hx) (fun hF DF => ?_)
          have hsF : n' ≤ hF.objs.size := by rw [DF.size]; exact Nat.le_add_right _ _
          unfold Loc1
          refine ⟨by run_tac Drv.facts, by omega, by run_tac Drv.fact, ?_, ⟨_, _, by run_tac Drv.fact, fun h => absurd h (by omega), fun _ => ⟨rfl, _, _, rfl⟩⟩, fun h => absurd h (by omega), fun _ => ⟨_, n' + 3, n' + 2, by run_tac Drv.fact, by run_tac Drv.fact, by run_tac Drv.fact, by omega, by omega⟩⟩
          rw [tab_snoc]; exact ⟨_, _, by run_tac Drv.fact, IntsAre.snoc hus' _ _⟩

        · have hzz := hpo hk0
          revert hzz
          rintro ⟨rfl, v, tk', rfl⟩
          have hzz := how1 hk0
          revert hzz
          rintro ⟨t6, nv, nd, how, hnv, hnd, hnv1, hnd1⟩
          have hnv2 : nv < h'.objs.size := lk_size hnv
          have hnd2 : nd < h'.objs.size := lk_size hnd
          run_tac Drv.goFrom specsK
          refine go_reach (fun h t hx => IH h t (by omega) hx) (fun hF DF => ?_)
          have hsF : n' ≤ hF.objs.size := by rw [DF.size]; exact Nat.le_add_right _ _
          unfold Loc1
          refine ⟨by run_tac Drv.facts, by omega, by run_tac Drv.fact, ?_, ⟨_, _, by run_tac Drv.fact, fun h => absurd h (by omega), fun _ => ⟨rfl, _, _, rfl⟩⟩, fun h => absurd h (by omega), fun _ => ⟨_, nv, nd, by run_tac Drv.fact, by run_tac Drv.fact, by run_tac Drv.fact, by omega, by omega⟩⟩
          rw [tab_snoc]; exact ⟨_, _, by run_tac Drv.fact, IntsAre.snoc hus' _ _⟩
  · run_tac Drv.go specsK
    refine go_loopN sz (fun h₁ k h => Kp h₁ [672, n, n + 1, n + 2] h ∧ n + 3 ≤ h.objs.size ∧ h.get? n = some (lit 662 (k : Nat)) ∧ NumL h (n + 1) (tab k (fun k => Z.modQ (N (10 + k)) 10)) ∧ Loc1 w Nm.name k h (n + 2 : Nat)
      ∧ (k = 0 → h.get? 672 = some { cls := .type "dict", dict := none, data := .dict [en w Nm.graph t1 (.ref 677), en w Nm.x_node t2 (.ref 679), en w Nm.x_adj t3 (.ref 681), en w Nm.edges t4 (.ref ed), en w Nm.adj t5 (.ref 681)].toArray 5, slots := #[none] })
      ∧ (0 < k → ∃ (t6 : Nat) (nv nd : Nat), h.get? 672 = some { cls := .type "dict", dict := none, data := .dict [en w Nm.graph t1 (.ref 677), en w Nm.x_node t2 (.ref 679), en w Nm.x_adj t3 (.ref 681), en w Nm.edges t4 (.ref ed), en w Nm.adj t5 (.ref 681), en w Nm.nodes t6 (.ref nv)].toArray 6, slots := #[none] } ∧ h.get? nv = some { cls := .ref 82, dict := some nd, data := .plain, slots := #[some (.ref 679)] } ∧ h.get? nd = some (dictO [] 0) ∧ n + 3 ≤ nv ∧ n + 3 ≤ nd)) ?_ ?_
    · intro h₁ D hz
      replace hz : h₁.objs.size = n + 3 := hz
      unfold Loc1
      refine ⟨by run_tac Drv.facts, by omega, by run_tac Drv.fact, ⟨_, _, by run_tac Drv.fact, .nil⟩, ⟨_, _, by run_tac Drv.fact, fun _ => ⟨rfl, rfl⟩, fun h => absurd h (by omega)⟩, fun _ => by run_tac Drv.fact, fun h => absurd h (by omega)⟩
    · rintro h₁ D hz k h' t' n' hn hk ⟨K, hsz, hit, ⟨us', e', hacc, hus'⟩, ⟨es, ep, hloc, hze, hpo⟩, how0, how1⟩ IH
      replace hz : h₁.objs.size = n + 3 := hz
      have hnn' : n + 3 ≤ n' := by omega
      have hul : us'.length ≤ 1000000 := by rw [IntsAre.len hus', tab_len]; omega
      by_cases hkN : k = sz
      · have hzz := hpo (by omega)
        revert hzz
        rintro ⟨rfl, v, tk', rfl⟩
        rw [hkN] at hus'
        clear IH
        run_tac Drv.goFrom specsK
        refine go_loopN sz (fun h₂ k h => Kp h₂ [n' + 3, n' + 4, n' + 5] h ∧ n' + 6 ≤ h.objs.size ∧ (∃ l : Int, h.get? (n' + 3 : Nat) = some (rngI (k : Nat) l) ∧ l = (sz : Int) - (k : Nat)) ∧ NumL h (n' + 4) (tab k (fun k => Z.modQ (N (10 + k)) 10)) ∧ Loc1 w Nm.k k h (n' + 5 : Nat)) ?_ ?_
        · intro h₂ D2 hz2
          unfold Loc1
          run_tac Drv.facts
          · replace hz2 : h₂.objs.size = n' + 6 := hz2
            omega
          · run_tac Drv.numbers
          · exact ⟨_, _, by run_tac Drv.fact, .nil⟩
          · exact fun _ => ⟨rfl, rfl⟩
          · exact fun h => absurd h (by omega)
        · rintro h2b D2 hz2 k2 h3 t3' n3 hn3 hk2 ⟨K3, hsz3, ⟨l3, hit3, hle3⟩, ⟨us3, e3, hacc3, hus3⟩, es, ep, hloc, hze, hpo⟩ IH2
          replace hz2 : h2b.objs.size = n' + 6 := hz2
          have hnn3 : n' + 6 ≤ n3 := by omega
          have hul3 : us3.length ≤ 1000000 := by rw [IntsAre.len hus3, tab_len]; omega
          by_cases hk2N : k2 = sz
          · have hzz := hpo (by omega)
            revert hzz
            rintro ⟨rfl, v, tk', rfl⟩
            rw [hk2N] at hus3
            clear IH2
            run_tac Drv.goFrom specsK
            refine ⟨fun hF DF => ?_⟩
            exact stEnd_ret (w := w) (R := R) (k := 19) (fin _ _ (by run_tac Drv.facts))

          · have hkl2 : k2 < sz := by omega
            have hzz := IntsAre.at hus (tab_at N (n := 18) (k := 10 + k2) (by omega))
            revert hzz
            rintro ⟨tkx, hx⟩
            have hzz := Nat.eq_zero_or_pos k2
            revert hzz
            rintro (hk0 | hk0)
            · have hzz := hze hk0
              revert hzz
              rintro ⟨rfl, rfl⟩
              run_tac Drv.goFrom specsK
              refine go_reach (fun h t hx => IH2 h t (by omega) hx) (fun hF DF => ?_)
              have hsF : n3 ≤ hF.objs.size := by rw [DF.size]; exact Nat.le_add_right _ _
              unfold Loc1
              run_tac Drv.facts
              · omega
              · run_tac Drv.numbers
              · rw [tab_snoc]; exact ⟨_, _, by run_tac Drv.fact, IntsAre.snoc hus3 _ _⟩
              · exact fun h => absurd h (by omega)
              · exact fun _ => ⟨rfl, _, _, rfl⟩

            · have hzz := hpo hk0
              revert hzz
              rintro ⟨rfl, v, tk', rfl⟩
              run_tac Drv.goFrom specsK
              refine go_reach (fun h t hx => IH2 h t (by omega) hx) (fun hF DF => ?_)
              have hsF : n3 ≤ hF.objs.size := by rw [DF.size]; exact Nat.le_add_right _ _
              unfold Loc1
              run_tac Drv.facts
              · omega
              · run_tac Drv.numbers
              · rw [tab_snoc]; exact ⟨_, _, by run_tac Drv.fact, IntsAre.snoc hus3 _ _⟩
              · exact fun h => absurd h (by omega)
              · exact fun _ => ⟨rfl, _, _, rfl⟩

      · have hkl : k < sz := by omega
        have hadr : 10 * k + 700 ≤ n := by omega
        have hzz := IntsAre.at hun (tab_at nm (n := sz) (k := k) hkl)
        revert hzz
        rintro ⟨tkx, hx⟩
        have atN := kv_key (f := fun i => .ref (10 * i + 696 : Nat)) inj hkl rfl
        have hzz := Nat.eq_zero_or_pos k
        revert hzz
        rintro (hk0 | hk0)
        · have hzz := hze hk0
          revert hzz
          rintro ⟨rfl, rfl⟩
          have how := how0 hk0
          run_tac Drv.goFrom specsK
          refine go_reach (fun h t hx => IH h t (by omega) hx) (fun hF DF => ?_)
          have hsF : n' ≤ hF.objs.size := by rw [DF.size]; exact Nat.le_add_right _ _
          unfold Loc1
          refine ⟨by run_tac Drv.facts, by omega, by run_tac Drv.fact, ?_, ⟨_, _, by run_tac Drv.fact, fun h => absurd h (by omega), fun _ => ⟨rfl, _, _, rfl⟩⟩, fun h => absurd h (by omega), fun _ => ⟨_, n' + 3, n' + 2, by run_tac Drv.fact, by run_tac Drv.fact, by run_tac Drv.fact, by omega, by omega⟩⟩
          rw [tab_snoc]; exact ⟨_, _, by run_tac Drv.fact, IntsAre.snoc hus' _ _⟩

        · have hzz := hpo hk0
          revert hzz
          rintro ⟨rfl, v, tk', rfl⟩
          have hzz := how1 hk0
          revert hzz
          rintro ⟨t6, nv, nd, how, hnv, hnd, hnv1, hnd1⟩
          have hnv2 : nv < h'.objs.size := lk_size hnv
          have hnd2 : nd < h'.objs.size := lk_size hnd
          run_tac Drv.goFrom specsK
          refine go_reach (fun h t hx => IH h t (by omega) hx) (fun hF DF => ?_)
          have hsF : n' ≤ hF.objs.size := by rw [DF.size]; exact Nat.le_add_right _ _
          unfold Loc1
          refine ⟨by run_tac Drv.facts, by omega, by run_tac Drv.fact, ?_, ⟨_, _, by run_tac Drv.fact, fun h => absurd h (by omega), fun _ => ⟨rfl, _, _, rfl⟩⟩, fun h => absurd h (by omega), fun _ => ⟨_, nv, nd, by run_tac Drv.fact, by run_tac Drv.fact, by run_tac Drv.fact, by omega, by omega⟩⟩
          rw [tab_snoc]; exact ⟨_, _, by run_tac Drv.fact, IntsAre.snoc hus' _ _⟩
end Mine

end
-- Plain1
section
open PySem PySem.W PySem.W.X PyProof.Rows
set_option maxRecDepth 100000
set_option Elab.async false
namespace Mine
/-- the sum over the chosen of the first n -/
def sumS (s : Nat → Bool) (f : Nat → Int) : Nat → Int
  | 0 => 0
  | n + 1 => sumS s f n + if s n then f n else 0
theorem sumS_add (s : Nat → Bool) (f : Nat → Int) (u : Nat) (y : Int) (n : Nat) : sumS s (fun k => f k + if k = u then y else 0) n = sumS s f n + if u < n ∧ s u = true then y else 0 := by
  induction n with
  | zero => simp [sumS]
  | succ n ih =>
    simp only [sumS, ih]
    by_cases hu : n = u
    · subst hu
      cases hs : s n <;> simp <;> omega
    · have e1 : (if u < n + 1 ∧ s u = true then y else 0) = if u < n ∧ s u = true then y else 0 := by
        by_cases h : u < n
        · simp [h, Nat.lt_succ_of_lt h]
        · have : ¬ u < n + 1 := by omega
          simp [h, this]
      rw [e1]
      cases hs : s n <;> simp [hu] <;> omega
theorem sumS_congr {s : Nat → Bool} {f g : Nat → Int} {n : Nat} (h : ∀ k, k < n → s k = true → f k = g k) : sumS s f n = sumS s g n := by
  induction n with
  | zero => rfl
  | succ n ih =>
    simp only [sumS]
    rw [ih (fun k hk => h k (by omega))]
    cases hs : s n
    · rfl
    · simp [h n (by omega) hs]
theorem sumS_mono {s : Nat → Bool} {f g : Nat → Int} {n : Nat} (h : ∀ k, k < n → f k ≤ g k) : sumS s f n ≤ sumS s g n := by
  induction n with
  | zero => exact Int.le_refl _
  | succ n ih =>
    simp only [sumS]
    have := ih (fun k hk => h k (by omega))
    have := h n (by omega)
    cases hs : s n <;> simp <;> omega
theorem sumS_sub {s t : Nat → Bool} {f : Nat → Int} {n : Nat} (hf : ∀ k, 0 ≤ f k) (h : ∀ k, s k = true → t k = true) : sumS s f n ≤ sumS t f n := by
  induction n with
  | zero => exact Int.le_refl _
  | succ n ih =>
    simp only [sumS]
    have := hf n
    cases hs : s n
    · cases ht : t n <;> simp <;> omega
    · rw [h n hs]; simp; omega
/-- what the local ratio keeps -/
structure LRI (sz : Nat) (c : Nat → Int) (es : List (Nat × Nat)) (st : LRs) (P : Nat → Int) (Y : Int) : Prop where
  out : ∀ u, u ∉ st.2 → P u + st.1 u = c u ∧ 0 ≤ st.1 u
  inn : ∀ u, u ∈ st.2 → P u = c u ∧ 0 ≤ st.1 u
  pos : ∀ u, 0 ≤ P u
  all : sumS (fun _ => true) P sz = 2 * Y
  cov : ∀ s : Nat → Bool, (∀ e ∈ es, s e.1 = true ∨ s e.2 = true) → Y ≤ sumS s P sz
  touch : ∀ e ∈ es, e.1 ∈ st.2 ∨ e.2 ∈ st.2
  nd : st.2.Nodup
  from_ : ∀ u ∈ st.2, ∃ e ∈ es, u = e.1 ∨ u = e.2
theorem lri_step {sz : Nat} {c : Nat → Int} {es : List (Nat × Nat)} {st : LRs} {P : Nat → Int} {Y : Int} (I : LRI sz c es st P Y) {u v : Nat} (hu : u < sz) (hv : v < sz) (hne : u ≠ v) :
    ∃ P' Y', LRI sz c (es ++ [(u, v)]) (lrStep st (u, v)) P' Y' := by
  obtain ⟨cs, cov⟩ := st
  by_cases hc : u ∈ cov ∨ v ∈ cov
  · refine ⟨P, Y, ?_⟩
    have e : lrStep (cs, cov) (u, v) = (cs, cov) := by simp [lrStep, hc]
    rw [e]
    refine ⟨I.out, I.inn, I.pos, I.all, fun s hs => I.cov s (fun e he => hs e (List.mem_append_left _ he)), fun e he => ?_, I.nd, fun x hx => ?_⟩
    · rcases List.mem_append.mp he with he | he
      · exact I.touch e he
      · rw [List.mem_singleton.mp he]; exact hc
    · obtain ⟨e, he, h⟩ := I.from_ x hx
      exact ⟨e, List.mem_append_left _ he, h⟩
  · have hcu : u ∉ cov := fun h => hc (.inl h)
    have hcv : v ∉ cov := fun h => hc (.inr h)
    obtain ⟨au, bu⟩ := I.out u hcu
    obtain ⟨av, bv⟩ := I.out v hcv
    simp only at au bu av bv
    have key : ∀ (y : Int) (a b : Nat), (a = u ∧ b = v ∨ a = v ∧ b = u) → 0 ≤ y → y = cs a → cs a ≤ cs b → lrStep (cs, cov) (u, v) = (fun k => if k = b then cs b - cs a else cs k, cov ++ [a]) →
        ∃ P' Y', LRI sz c (es ++ [(u, v)]) (lrStep (cs, cov) (u, v)) P' Y' := by
      intro y a b hab hy hya hle e
      have hab2 : a ≠ b := by rcases hab with ⟨rfl, rfl⟩ | ⟨rfl, rfl⟩ <;> omega
      have ha : a < sz := by rcases hab with ⟨rfl, rfl⟩ | ⟨rfl, rfl⟩ <;> assumption
      have hb : b < sz := by rcases hab with ⟨rfl, rfl⟩ | ⟨rfl, rfl⟩ <;> assumption
      have hca : a ∉ cov := by rcases hab with ⟨rfl, rfl⟩ | ⟨rfl, rfl⟩ <;> assumption
      have hcb : b ∉ cov := by rcases hab with ⟨rfl, rfl⟩ | ⟨rfl, rfl⟩ <;> assumption
      obtain ⟨aa, ba⟩ := I.out a hca
      obtain ⟨ab, bb⟩ := I.out b hcb
      simp only at aa ba ab bb
      refine ⟨fun k => (P k + if k = a then y else 0) + if k = b then y else 0, Y + y, ?_⟩
      rw [e]
      refine ⟨fun k hk => ?_, fun k hk => ?_, fun k => ?_, ?_, fun s hs => ?_, fun e he => ?_, ?_, fun x hx => ?_⟩
      · have hk1 : k ∉ cov := fun h => hk (List.mem_append_left _ h)
        have hk2 : k ≠ a := fun h => hk (List.mem_append_right _ (List.mem_singleton.mpr h))
        obtain ⟨q1, q2⟩ := I.out k hk1
        simp only at q1 q2
        by_cases hkb : k = b
        · subst hkb; simp [hk2]; omega
        · simp [hk2, hkb]; exact ⟨q1, q2⟩
      · rcases List.mem_append.mp hk with hk | hk
        · obtain ⟨q1, q2⟩ := I.inn k hk
          simp only at q1 q2
          have h1 : k ≠ a := fun h => hca (h ▸ hk)
          have h2 : k ≠ b := fun h => hcb (h ▸ hk)
          simp [h1, h2]; exact ⟨q1, q2⟩
        · rw [List.mem_singleton.mp hk]
          simp [hab2]; omega
      · have := I.pos k
        by_cases h1 : k = a <;> by_cases h2 : k = b <;> simp [h1, h2] <;> (try subst h1) <;> (try subst h2) <;> (try simp) <;> omega
      · rw [sumS_add, sumS_add, I.all]; simp [ha, hb]; omega
      · rw [sumS_add, sumS_add]
        have h0 := I.cov s (fun e he => hs e (List.mem_append_left _ he))
        have h1 := hs (u, v) (List.mem_append_right _ (List.mem_singleton.mpr rfl))
        have h2 : s a = true ∨ s b = true := by rcases hab with ⟨rfl, rfl⟩ | ⟨rfl, rfl⟩ <;> first | exact h1 | exact h1.symm
        rcases h2 with h2 | h2 <;> simp [h2, ha, hb] <;> split <;> omega
      · rcases List.mem_append.mp he with he | he
        · rcases I.touch e he with h | h
          · exact .inl (List.mem_append_left _ h)
          · exact .inr (List.mem_append_left _ h)
        · rw [List.mem_singleton.mp he]
          rcases hab with ⟨rfl, rfl⟩ | ⟨rfl, rfl⟩
          · exact .inl (List.mem_append_right _ (List.mem_singleton.mpr rfl))
          · exact .inr (List.mem_append_right _ (List.mem_singleton.mpr rfl))
      · refine List.nodup_append.mpr ⟨I.nd, by simp, fun x hx y hy => ?_⟩
        rw [List.mem_singleton.mp hy]
        exact fun h => hca (h ▸ hx)
      · rcases List.mem_append.mp hx with hx | hx
        · obtain ⟨e, he, h⟩ := I.from_ x hx
          exact ⟨e, List.mem_append_left _ he, h⟩
        · refine ⟨(u, v), List.mem_append_right _ (List.mem_singleton.mpr rfl), ?_⟩
          rw [List.mem_singleton.mp hx]
          rcases hab with ⟨rfl, rfl⟩ | ⟨rfl, rfl⟩
          · exact .inl rfl
          · exact .inr rfl
    by_cases hle : cs u ≤ cs v
    · exact key (cs u) u v (.inl ⟨rfl, rfl⟩) bu rfl hle (by simp [lrStep, hcu, hcv, hle])
    · exact key (cs v) v u (.inr ⟨rfl, rfl⟩) bv rfl (by omega) (by simp [lrStep, hcu, hcv, hle])
theorem lri_all {sz : Nat} {c : Nat → Int} (hc : ∀ k, 0 ≤ c k) : ∀ (es : List (Nat × Nat)), (∀ e ∈ es, e.1 < sz ∧ e.2 < sz ∧ e.1 ≠ e.2) → ∃ P Y, LRI sz c es (lrAt c es) P Y := by
  intro es
  induction es using nbOf_ind with
  | h0 =>
    intro _
    have z : ∀ n, sumS (fun _ => true) (fun _ => 0) n = 0 := fun n => by induction n with | zero => rfl | succ n ih => simp [sumS, ih]
    have z2 : ∀ (s : Nat → Bool) n, sumS s (fun _ => 0) n = 0 := fun s n => by induction n with | zero => rfl | succ n ih => simp [sumS, ih]
    exact ⟨fun _ => 0, 0, ⟨fun u _ => ⟨by simp [lrAt], hc u⟩, fun u hu => by simp [lrAt] at hu, fun _ => Int.le_refl _, by rw [z]; rfl, fun s _ => by rw [z2]; exact Int.le_refl _, fun e he => by simp at he, by simp [lrAt], fun u hu => by simp [lrAt] at hu⟩⟩
  | hs es e ih =>
    intro h
    obtain ⟨P, Y, I⟩ := ih (fun e' he => h e' (List.mem_append_left _ he))
    obtain ⟨h1, h2, h3⟩ := h e (List.mem_append_right _ (List.mem_singleton.mpr rfl))
    rw [lrAt_snoc]
    exact lri_step I h1 h2 h3
/-- twice the least is enough -/
theorem lr_ratio {sz : Nat} {c : Nat → Int} {es : List (Nat × Nat)} {st : LRs} {P : Nat → Int} {Y : Int} (I : LRI sz c es st P Y) (hc : ∀ k, 0 ≤ c k) {s : Nat → Bool} (hs : ∀ e ∈ es, s e.1 = true ∨ s e.2 = true) :
    sumS (fun k => decide (k ∈ st.2)) c sz ≤ 2 * sumS s c sz := by
  have h1 : sumS (fun k => decide (k ∈ st.2)) c sz = sumS (fun k => decide (k ∈ st.2)) P sz := sumS_congr (fun k _ hk => ((I.inn k (by simpa using hk)).1).symm)
  have h2 : sumS (fun k => decide (k ∈ st.2)) P sz ≤ sumS (fun _ => true) P sz := sumS_sub I.pos (fun _ _ => rfl)
  have h3 := I.all
  have h4 := I.cov s hs
  have h5 : sumS s P sz ≤ sumS s c sz := sumS_mono (fun k _ => by
    by_cases hk : k ∈ st.2
    · rw [(I.inn k hk).1]; exact Int.le_refl _
    · have := I.out k hk; omega)
  omega
end Mine

end
-- Plain2
section
open PySem PySem.W PySem.W.X PyProof.Rows
set_option maxRecDepth 100000
set_option Elab.async false
namespace Mine
theorem pairs_mem {sz i j : Nat} : (i, j) ∈ pairsOf sz ↔ j < i ∧ i < sz := by
  unfold pairsOf
  simp only [List.mem_flatMap, List.mem_map, List.mem_range, Prod.mk.injEq]
  constructor
  · rintro ⟨a, ha, b, hb, rfl, rfl⟩; exact ⟨hb, ha⟩
  · rintro ⟨h1, h2⟩; exact ⟨i, h2, j, h1, rfl, rfl⟩
theorem pairs_nodup {sz : Nat} (h : sz ≤ 7) : (pairsOf sz).Nodup := by
  have : ∀ k : Fin 8, (pairsOf k).Nodup := by decide +kernel
  exact this ⟨sz, by omega⟩
theorem chosen_sub (b : Nat → Bool) (ps : List (Nat × Nat)) : ∀ k, k ≤ ps.length → (chosen b ps k).Sublist (ps.take k) := by
  intro k
  induction k with
  | zero => intro _; simp [chosen]
  | succ k ih =>
    intro hk
    have hx : ps[k]? = some ps[k] := List.getElem?_eq_getElem (by omega)
    rw [List.take_add_one, hx]
    cases hb : b k with
    | true => rw [chosen_yes hx hb]; exact (ih (by omega)).append (List.Sublist.refl _)
    | false => rw [chosen_no hb]; exact (ih (by omega)).trans (List.sublist_append_left _ _)
theorem joined_sub (n1 : Int) (sz : Nat) : (joinedOf n1 sz).Sublist (pairsOf sz) := by
  have := chosen_sub (fun k => Z.modQ (fdp n1 k) 2 == 1) (pairsOf sz) (pairsOf sz).length (Nat.le_refl _)
  rw [List.take_length] at this
  exact this
theorem sub_filter {l1 l2 : List (Nat × Nat)} (h : l1.Sublist l2) (hn : l2.Nodup) : l2.filter (fun x => decide (x ∈ l1)) = l1 := by
  induction h with
  | slnil => rfl
  | @cons l1 l2 a h ih =>
    rw [List.nodup_cons] at hn
    have : a ∉ l1 := fun q => hn.1 (h.subset q)
    rw [List.filter_cons, if_neg (by simpa using this)]
    exact ih hn.2
  | @cons_cons l1 l2 a h ih =>
    rw [List.nodup_cons] at hn
    rw [List.filter_cons, if_pos (by simp)]
    congr 1
    have : ∀ x ∈ l2, decide (x ∈ a :: l1) = decide (x ∈ l1) := by
      intro x hx
      have hxa : x ≠ a := fun e => hn.1 (e ▸ hx)
      simp [hxa]
    rw [List.filter_congr this]
    exact ih hn.2
theorem nbOf_iff {es : List (Nat × Nat)} (hne : ∀ e ∈ es, e.1 ≠ e.2) : ∀ {i z : Nat}, z ∈ nbOf es i ↔ ((i, z) ∈ es ∨ (z, i) ∈ es) := by
  induction es using nbOf_ind with
  | h0 => intro i z; simp [nbOf]
  | hs es e ih =>
    intro i z
    have ih' := ih (fun e' h => hne e' (List.mem_append_left _ h)) (i := i) (z := z)
    have hee := hne e (List.mem_append_right _ (List.mem_singleton.mpr rfl))
    rw [nbOf_snoc]
    obtain ⟨a, b⟩ := e
    simp only at hee
    unfold addE
    simp only [List.mem_append, List.mem_singleton, Prod.mk.injEq]
    by_cases h1 : i = a
    · subst h1
      simp only [if_true, List.mem_append, List.mem_singleton, ih']
      constructor
      · rintro ((h | h) | rfl)
        · exact .inl (.inl h)
        · exact .inr (.inl h)
        · exact .inl (.inr ⟨trivial, rfl⟩)
      · rintro ((h | ⟨_, h⟩) | (h | ⟨h, h'⟩))
        · exact .inl (.inl h)
        · exact .inr h
        · exact .inl (.inr h)
        · exact absurd h' hee
    · simp only [h1, if_false]
      by_cases h2 : i = b
      · subst h2
        simp only [if_true, List.mem_append, List.mem_singleton, ih']
        constructor
        · rintro ((h | h) | rfl)
          · exact .inl (.inl h)
          · exact .inr (.inl h)
          · exact .inr (.inr ⟨rfl, trivial⟩)
        · rintro ((h | ⟨h, _⟩) | (h | ⟨h, _⟩))
          · exact .inl (.inl h)
          · exact absurd h id
          · exact .inl (.inr h)
          · exact .inr h
      · simp only [h2, if_false, ih']
        constructor
        · rintro (h | h)
          · exact .inl (.inl h)
          · exact .inr (.inl h)
        · rintro ((h | ⟨h, _⟩) | (h | ⟨_, h⟩))
          · exact .inl h
          · exact absurd h id
          · exact .inr h
          · exact absurd h id
theorem orient_cases (n : Int) (p : Nat × Nat) : orient n p = (p.1, p.2) ∨ orient n p = (p.2, p.1) := by
  unfold orient; split
  · exact .inl rfl
  · exact .inr rfl
end Mine

end
-- Plain3
section
open PySem PySem.W PySem.W.X PyProof.Rows
set_option maxRecDepth 100000
set_option Elab.async false
namespace Mine
section
variable {n1 n17 : Int} {sz : Nat}
theorem jn_mem {i j : Nat} (h : (i, j) ∈ joinedOf n1 sz) : j < i ∧ i < sz := pairs_mem.mp ((joined_sub n1 sz).subset h)
theorem jn_nodup (hs : sz ≤ 7) : (joinedOf n1 sz).Nodup := (joined_sub n1 sz).nodup (pairs_nodup hs)
theorem f_hj : ∀ (k i j : Nat), (joinedOf n1 sz)[k]? = some (i, j) → j < i ∧ i < sz := fun _ _ _ h => jn_mem (List.mem_of_getElem? h)
theorem f_hjl (hs : sz ≤ 7) : (joinedOf n1 sz).length ≤ 21 := Nat.le_trans (joined_sub n1 sz).length_le (pairsOf_len hs)
theorem f_hps : ∀ (k i j : Nat), (pairsOf sz)[k]? = some (i, j) → j < i ∧ i < sz := fun _ _ _ h => pairs_mem.mp (List.mem_of_getElem? h)
theorem orient_ne {l : List (Nat × Nat)} (h : ∀ p ∈ l, p.2 < p.1) : ∀ e ∈ l.map (orient n17), e.1 ≠ e.2 := by
  intro e he
  obtain ⟨p, hp, rfl⟩ := List.mem_map.mp he
  have := h p hp
  rcases orient_cases n17 p with q | q <;> rw [q] <;> simp only <;> omega
theorem orient_mem {l : List (Nat × Nat)} {i z : Nat} : ((i, z) ∈ l.map (orient n17) ∨ (z, i) ∈ l.map (orient n17)) ↔ ((i, z) ∈ l ∨ (z, i) ∈ l) := by
  have half : ∀ a b : Nat, (a, b) ∈ l.map (orient n17) → (a, b) ∈ l ∨ (b, a) ∈ l := by
    intro a b h
    obtain ⟨p, hp, e⟩ := List.mem_map.mp h
    rcases orient_cases n17 p with q | q
    · rw [q] at e; exact .inl (e ▸ hp)
    · rw [q] at e
      obtain ⟨x, y⟩ := p
      simp only [Prod.mk.injEq] at e
      obtain ⟨rfl, rfl⟩ := e
      exact .inr hp
  have back : ∀ a b : Nat, (a, b) ∈ l → (a, b) ∈ l.map (orient n17) ∨ (b, a) ∈ l.map (orient n17) := by
    intro a b h
    have := List.mem_map_of_mem (f := orient n17) h
    rcases orient_cases n17 (a, b) with q | q
    · rw [q] at this; exact .inl this
    · rw [q] at this; exact .inr this
  constructor
  · rintro (h | h)
    · exact half _ _ h
    · exact (half _ _ h).symm
  · rintro (h | h)
    · exact back _ _ h
    · exact (back _ _ h).symm
theorem nb_iff {i z : Nat} : z ∈ nbOf ((joinedOf n1 sz).map (orient n17)) i ↔ ((i, z) ∈ joinedOf n1 sz ∨ (z, i) ∈ joinedOf n1 sz) := by
  rw [nbOf_iff (orient_ne fun p hp => (jn_mem hp).1), orient_mem]
theorem f_hfr (hs : sz ≤ 7) : ∀ (k x y : Nat), ((joinedOf n1 sz).map (orient n17))[k]? = some (x, y) → x < sz ∧ y < sz ∧ x ≠ y ∧ y ∉ nbOf (((joinedOf n1 sz).map (orient n17)).take k) x ∧ x ∉ nbOf (((joinedOf n1 sz).map (orient n17)).take k) y := by
  intro k x y h
  rw [List.getElem?_map] at h
  obtain ⟨p, hp, e⟩ := Option.map_eq_some_iff.mp h
  obtain ⟨a, b⟩ := p
  obtain ⟨h1, h2⟩ := f_hj k a b hp
  have hnew : (a, b) ∉ (joinedOf n1 sz).take k := by
    intro hm
    obtain ⟨k', hk'⟩ := List.getElem?_of_mem hm
    have hlt : k' < k := by
      have := (List.getElem?_eq_some_iff.mp hk').1
      rw [List.length_take] at this; omega
    rw [List.getElem?_take_of_lt hlt] at hk'
    have hn := jn_nodup (n1 := n1) hs
    obtain ⟨q1, e1⟩ := List.getElem?_eq_some_iff.mp hk'
    obtain ⟨q2, e2⟩ := List.getElem?_eq_some_iff.mp hp
    exact List.pairwise_iff_getElem.mp hn k' k q1 q2 hlt (e1.trans e2.symm)
  have hsub : ∀ p ∈ (joinedOf n1 sz).take k, p.2 < p.1 := fun p hp => (jn_mem (List.mem_of_mem_take hp)).1
  have hfresh : ∀ u v : Nat, (u = a ∧ v = b ∨ u = b ∧ v = a) → v ∉ nbOf (((joinedOf n1 sz).map (orient n17)).take k) u := by
    intro u v huv hm
    rw [← List.map_take, nbOf_iff (orient_ne hsub), orient_mem] at hm
    rcases huv with ⟨rfl, rfl⟩ | ⟨rfl, rfl⟩
    · rcases hm with h | h
      · exact hnew h
      · have := hsub _ h; simp only at this; omega
    · rcases hm with h | h
      · have := hsub _ h; simp only at this; omega
      · exact hnew h
  rcases orient_cases n17 (a, b) with q | q <;> rw [q] at e <;> simp only [Prod.mk.injEq] at e <;> obtain ⟨rfl, rfl⟩ := e
  · exact ⟨h2, by omega, by omega, hfresh _ _ (.inl ⟨rfl, rfl⟩), hfresh _ _ (.inr ⟨rfl, rfl⟩)⟩
  · exact ⟨by omega, h2, by omega, hfresh _ _ (.inr ⟨rfl, rfl⟩), hfresh _ _ (.inl ⟨rfl, rfl⟩)⟩
theorem f_hsym : ∀ i y, i < sz → y ∈ nbOf ((joinedOf n1 sz).map (orient n17)) i → y < sz ∧ i ∈ nbOf ((joinedOf n1 sz).map (orient n17)) y := by
  intro i y _ h
  rw [nb_iff] at h
  refine ⟨?_, nb_iff.mpr h.symm⟩
  rcases h with h | h
  · have := jn_mem h; omega
  · exact (jn_mem h).2
theorem f_hlen (hs : sz ≤ 7) : ∀ i, (nbOf ((joinedOf n1 sz).map (orient n17)) i).length ≤ 21 := fun i =>
  Nat.le_trans (nbOf_len _ i) (by rw [List.length_map]; exact f_hjl hs)
theorem f_hjn (hs : sz ≤ 7) : (pairsOf sz).filter (fun x => decide (x.2 ∈ nbOf ((joinedOf n1 sz).map (orient n17)) x.1)) = joinedOf n1 sz := by
  rw [← sub_filter (joined_sub n1 sz) (pairs_nodup hs)]
  apply List.filter_congr
  rintro ⟨i, j⟩ hx
  have hp := pairs_mem.mp hx
  simp only [decide_eq_decide]
  rw [sub_filter (joined_sub n1 sz) (pairs_nodup hs), nb_iff]
  constructor
  · rintro (h | h)
    · exact h
    · have := jn_mem h; omega
  · exact .inl
/-- the view's edges -/
theorem es_ok : ∀ e ∈ eoN (nbOf ((joinedOf n1 sz).map (orient n17))) sz, e.1 < sz ∧ e.2 < sz ∧ e.1 ≠ e.2 ∧ ((e.2, e.1) ∈ joinedOf n1 sz) := by
  rintro ⟨x, y⟩ he
  obtain ⟨h1, h2, h3⟩ := eoN_mem he
  simp only at h1 h2 h3 ⊢
  have h4 := f_hsym x y h1 h2
  rw [nb_iff] at h2
  rcases h2 with h | h
  · have := jn_mem h; omega
  · have := jn_mem h
    exact ⟨h1, h4.1, by omega, h⟩
theorem es_has {i j : Nat} (h : (i, j) ∈ joinedOf n1 sz) : (j, i) ∈ eoN (nbOf ((joinedOf n1 sz).map (orient n17))) sz := by
  have hm := jn_mem h
  unfold eoN outE
  simp only [List.mem_flatMap, List.mem_range, List.mem_map, List.mem_filter, decide_eq_true_eq, Prod.mk.injEq]
  exact ⟨j, by omega, i, ⟨nb_iff.mpr (.inr h), by omega⟩, rfl, rfl⟩
end
end Mine

end
-- Plain4
section
open PySem PySem.W PySem.W.X PyProof.Rows
set_option maxRecDepth 100000
set_option Elab.async false
namespace Mine
theorem sumS_list (s : Nat → Bool) (f : Nat → Int) (n : Nat) : sumS s f n = (((List.range n).filter s).map f).sum := by
  induction n with
  | zero => rfl
  | succ n ih =>
    rw [List.range_succ, List.filter_append, List.map_append, List.sum_append]
    simp only [sumS, ih]
    cases hs : s n <;> simp [hs]
section
variable {n1 n17 : Int} {sz : Nat} {cw : Nat → Int}
/-- the cover that is told -/
noncomputable def covOf (n1 n17 : Int) (sz : Nat) (cw : Nat → Int) : List Nat := (lrAt cw (eoN (nbOf ((joinedOf n1 sz).map (orient n17))) sz)).2
theorem cov_lri (hc : ∀ k, 0 ≤ cw k) : ∃ P Y, LRI sz cw (eoN (nbOf ((joinedOf n1 sz).map (orient n17))) sz) (lrAt cw (eoN (nbOf ((joinedOf n1 sz).map (orient n17))) sz)) P Y :=
  lri_all hc _ fun e he => by obtain ⟨h1, h2, h3, _⟩ := es_ok e he; exact ⟨h1, h2, h3⟩
theorem f_hcov : ∀ z ∈ covOf n1 n17 sz cw, z < sz := lrAt_lt fun e he => by obtain ⟨h1, h2, _⟩ := es_ok e he; exact ⟨h1, h2⟩
theorem f_hedge (hc : ∀ k, 0 ≤ cw k) : ∀ (k i j : Nat), (joinedOf n1 sz)[k]? = some (i, j) → i ∈ covOf n1 n17 sz cw ∨ j ∈ covOf n1 n17 sz cw := by
  intro k i j h
  obtain ⟨P, Y, I⟩ := cov_lri (n1 := n1) (n17 := n17) (sz := sz) hc
  exact (I.touch (j, i) (es_has (List.mem_of_getElem? h))).symm
theorem f_htouch (hc : ∀ k, 0 ≤ cw k) : ∀ c ∈ covOf n1 n17 sz cw, ∃ k i j : Nat, (joinedOf n1 sz)[k]? = some (i, j) ∧ (c = i ∨ c = j) := by
  intro c h
  obtain ⟨P, Y, I⟩ := cov_lri (n1 := n1) (n17 := n17) (sz := sz) hc
  obtain ⟨e, he, h1⟩ := I.from_ c h
  obtain ⟨_, _, _, h2⟩ := es_ok e he
  obtain ⟨k, hk⟩ := List.getElem?_of_mem h2
  exact ⟨k, _, _, hk, h1.symm⟩
theorem f_hcl (hc : ∀ k, 0 ≤ cw k) : (covL (covOf n1 n17 sz cw) sz).length = (covOf n1 n17 sz cw).length := by
  obtain ⟨P, Y, I⟩ := cov_lri (n1 := n1) (n17 := n17) (sz := sz) hc
  rw [covN_cast, List.length_map]
  apply List.Perm.length_eq
  refine (List.perm_ext_iff_of_nodup ?_ I.nd).mpr fun a => ?_
  · exact (List.nodup_range).filter _
  · unfold covN
    rw [List.mem_filter, List.mem_range, decide_eq_true_eq]
    exact ⟨fun h => h.2, fun h => ⟨f_hcov a h, h⟩⟩
theorem best_is (jn : List (Nat × Nat)) (b : Nat) : ∃ s : Nat → Bool, (∀ p ∈ jn, s p.1 = true ∨ s p.2 = true) ∧ best jn cw sz b = sumS s cw sz := by
  induction b with
  | zero =>
    refine ⟨fun _ => true, fun _ _ => .inl rfl, ?_⟩
    rw [sumS_list]
    show (tab sz cw).sum = _
    unfold tab
    rw [List.filter_eq_self.mpr (fun _ _ => rfl)]
  | succ b ih =>
    rw [best]
    split
    · rename_i h
      refine ⟨bitv b, fun p hp => ?_, by rw [sumS_list]; rfl⟩
      have hp2 : p ∉ openP jn b := by rw [h.2]; simp
      unfold openP at hp2
      rw [List.mem_filter] at hp2
      have h3 := fun q => hp2 ⟨hp, q⟩
      cases h1 : bitv b p.1
      · cases h2 : bitv b p.2
        · exact absurd (by simp [h1, h2]) h3
        · exact .inr rfl
      · exact .inl rfl
    · exact ih
theorem f_hratio (hc : ∀ k, 0 ≤ cw k) (M : Nat) : ((covN (covOf n1 n17 sz cw) sz).map cw).sum ≤ 2 * best (joinedOf n1 sz) cw sz M := by
  obtain ⟨P, Y, I⟩ := cov_lri (n1 := n1) (n17 := n17) (sz := sz) hc
  obtain ⟨s, hs, he⟩ := best_is (cw := cw) (sz := sz) (joinedOf n1 sz) M
  have := lr_ratio I hc (s := s) (fun e hee => by
    obtain ⟨_, _, _, h⟩ := es_ok e hee
    exact (hs _ h).symm)
  rw [he]
  rw [sumS_list (fun k => decide (k ∈ (lrAt cw (eoN (nbOf ((joinedOf n1 sz).map (orient n17))) sz)).2))] at this
  exact this
end
end Mine

end
-- Zero
section
open PySem PySem.W PySem.W.X PyProof.Rows
set_option maxRecDepth 100000
set_option Elab.async false
set_option maxHeartbeats 0
namespace Mine.Drv
open Lean Meta Elab Tactic PySem PySem.W PySem.W.X PySem.W.XRun PySem.W.ZRun
/-- through all loops -/
def goAll (specs : List (String × Name)) (log : Bool := false) : TacticM Unit := do
  let cf ← mkCfg
  run { cf with specs, log, side := some sideOf, loops := false }
/-- what lies at the law's frame and cells, and at all that they name, said of the newest heap -/
def recall : TacticM Unit := withMainContext do
  let g ← getMainGoal
  let some s := staOf (← instantiateMVars (← g.getType)) | throwError "no Go"
  let mut todo : List Lean.Expr := (List.range 9).map fun i => mkRawNatLit (643 + i)
  let mut seen : Array Lean.Expr := #[]
  let mut got : Array (Lean.Expr × Lean.Expr × Lean.Expr) := #[]
  for _ in [0:200] do
    match todo with
    | [] => break
    | a :: rest =>
      todo := rest
      if seen.contains a then continue
      seen := seen.push a
      if let some (o, pf) ← resolve s.h0 a 60 then
        got := got.push (a, o, pf)
        let mut more := #[]
        let oo ← objNF o
        let dct := if oo.isAppOfArity ``Obj.mk 4 && oo.getAppArgs[1]!.isAppOfArity ``Option.some 2 then #[oo.getAppArgs[1]!.appArg!] else #[]
        for x in (collect oo #[] 4000).1 ++ dct do
          let x ← addrNF x
          if let .lit (.natVal k) := x then
            if k < 643 then continue
          more := more.push x
        todo := todo ++ more.toList
  let mut g := g
  for (a, o, pf) in got do
    let ty := mkApp3 (mkConst ``Eq [1]) (mkApp (mkConst ``Option [0]) (mkConst ``Obj)) (mkApp2 (mkConst ``Heap.get?) s.h0 a) (mkApp2 (mkConst ``Option.some [0]) (mkConst ``Obj) o)
    let g' ← g.withContext do g.assert `hrec ty (← mkExpectedTypeHint pf ty)
    let (_, g'') ← g'.intro1
    g := g''
  replaceMainGoal [g]
where
  collect (e : Lean.Expr) (acc : Array Lean.Expr) : Nat → Array Lean.Expr × Nat
    | 0 => (acc, 0)
    | f + 1 =>
      if e.isAppOfArity ``Value.ref 1 then (acc.push e.appArg!, f)
      else match e with
        | .app x y => let (acc, f1) := collect x acc f; collect y acc (min f f1)
        | .mdata _ x => collect x acc f
        | _ => (acc, f)
end Mine.Drv
namespace Mine
/-- what is wanted behind the law's last statement -/
def AllEnd (R : Result → Shared → Prop) : Result → Shared → Prop := fun r s' => match r with
  | .ok f => R (.ok (.ret (match f with | .ret v => v | _ => .none))) s'
  | .error _ => False
theorem allEnd_ret {R : Result → Shared → Prop} {v : Value} {s : Shared} (x : R (.ok (.ret v)) s) : AllEnd R (.ok (.ret v)) s := x
/-- all statements from the k-th on in one run -/
theorem law_all {w : World} {R : Result → Shared → Prop} {d : Drawn} {os : OsState} {k : Nat} {gl : List GenState} {h : Heap} {t : Nat} {n : Nat} (l : List Stmt) (hl : lawBody.drop k = l) (hn : h.objs.size = n)
    (x : Go (stV w (AllEnd R) d os) h n t lawCode none .base ((execs l lawEnv).bind fun f => .pure (.done f)) [] .nil 0 0 gl) : Law w R d os k gl h t := by
  subst hn hl
  have z := x.go h (HR.start h)
  intro Γ p hc hΓ hN
  have y := z Γ p hc hΓ hN
  rw [Sem.wp_bind] at y
  exact Sem.wp_mono _ _ _ (fun f p' s' q => q) (fun e p' s' q => q) p _ y

theorem zero2 {w : World} {H0 : Heap} {R : Result → Shared → Prop} {d : Drawn} {os : OsState} {vs : List Value} {N : Nat → Int} {h : Heap} {t : Nat} (S : S2 w H0 vs N 0 h)
    (fin : ∀ h' t' gs, gs.bare = true → TopK ⟨ktop w.params, H0⟩ h' → R (.ok (.ret (.bool true))) ⟨h', ⟨[gs]⟩, d, t', os⟩) : Law w R d os 2 [] h t := by
  obtain ⟨kt, hz, scr, ⟨tk, tk2, tk3, fr⟩, num, cells, ⟨us, e, lst, hus⟩⟩ := S
  have hnil : IntsAre [] [] := .nil
  obtain ⟨tk0, hx0⟩ := IntsAre.at hus (tab_at N (n := 18) (k := 2) (by omega))
  obtain ⟨tk1, hx1⟩ := IntsAre.at hus (tab_at N (n := 18) (k := 1) (by omega))
  refine law_step _ (by rfl) hz ?_
  run_tac Drv.goAll specsK
  refine ⟨fun h3 D3 => stEnd_next (w := w) (R := R) (d := d) (os := os) ?_⟩
  refine law_step _ (by rfl) D3.size ?_
  run_tac Drv.goAll specsK
  refine ⟨fun h4 D4 => stEnd_next (w := w) (R := R) (d := d) (os := os) ?_⟩
  refine law_step _ (by rfl) D4.size ?_
  run_tac Drv.goAll specsK
  refine ⟨fun h5 D5 => ?_⟩
  have fr' : ∃ wd tk tk2 tk3 tk4, h5.get? 643 = some (frameO [en w Nm.script tk (.ref 642), en w Nm.size tk2 (.int (0 : Nat) tk3), en w Nm.weighed tk4 (.bool wd)] 3) := by run_tac Drv.facts
  obtain ⟨wd, tkA, tkB, tkC, tkD, fr'⟩ := fr'
  refine stEnd_next (w := w) (R := R) (d := d) (os := os) ?_
  refine law_step _ (by rfl) D5.size ?_
  run_tac Drv.goAll specsK
  refine ⟨fun h6 D6 => stEnd_next (w := w) (R := R) (d := d) (os := os) ?_⟩
  refine law_step _ (by rfl) D6.size ?_
  run_tac Drv.goAll specsK
  refine ⟨fun h7 D7 => stEnd_next (w := w) (R := R) (d := d) (os := os) ?_⟩
  refine law_step _ (by rfl) D7.size ?_
  run_tac Drv.goAll specsK
  refine ⟨fun h8 D8 => stEnd_next (w := w) (R := R) (d := d) (os := os) ?_⟩
  refine law_step _ (by rfl) D8.size ?_
  run_tac Drv.goAll specsK
  refine ⟨fun h9 D9 => stEnd_next (w := w) (R := R) (d := d) (os := os) ?_⟩
  refine law_step _ (by rfl) D9.size ?_
  run_tac Drv.goAll specsK
  refine ⟨fun h10 D10 => stEnd_next (w := w) (R := R) (d := d) (os := os) ?_⟩
  have k10 : TopK ⟨ktop w.params, H0⟩ h10 := by run_tac Drv.facts
  cases wd
  all_goals
    refine law_step _ (by rfl) D10.size ?_
    run_tac Drv.recall
    run_tac Drv.goAll specsK
    refine ⟨fun h11 D11 => stEnd_next (w := w) (R := R) (d := d) (os := os) ?_⟩
    refine law_step _ (by rfl) D11.size ?_
    run_tac Drv.goAll specsK
    refine ⟨fun h12 D12 => stEnd_next (w := w) (R := R) (d := d) (os := os) ?_⟩
    refine law_step _ (by rfl) D12.size ?_
    run_tac Drv.goAll specsK
    refine ⟨fun h13 D13 => stEnd_next (w := w) (R := R) (d := d) (os := os) ?_⟩
    refine law_step _ (by rfl) D13.size ?_
    run_tac Drv.goAll specsK
    refine ⟨fun h14 D14 => stEnd_next (w := w) (R := R) (d := d) (os := os) ?_⟩
    have k14 : TopK ⟨ktop w.params, H0⟩ h14 := by run_tac Drv.facts
    refine law_step _ (by rfl) D14.size ?_
    run_tac Drv.recall
    run_tac Drv.goAll specsK
    refine ⟨fun h15 D15 => stEnd_next (w := w) (R := R) (d := d) (os := os) ?_⟩
    refine law_step _ (by rfl) D15.size ?_
    run_tac Drv.goAll specsK
    refine ⟨fun h16 D16 => stEnd_next (w := w) (R := R) (d := d) (os := os) ?_⟩
    refine law_step _ (by rfl) D16.size ?_
    run_tac Drv.goAll specsK
    refine ⟨fun h17 D17 => stEnd_next (w := w) (R := R) (d := d) (os := os) ?_⟩
    have k17 : TopK ⟨ktop w.params, H0⟩ h17 := by run_tac Drv.facts
    refine law_step _ (by rfl) D17.size ?_
    run_tac Drv.recall
    run_tac Drv.goAll specsK
    refine ⟨fun h18 D18 => stEnd_next (w := w) (R := R) (d := d) (os := os) ?_⟩
    refine law_step _ (by rfl) D18.size ?_
    run_tac Drv.goAll specsK
    refine ⟨fun h19 D19 => stEnd_next (w := w) (R := R) (d := d) (os := os) ?_⟩
    refine law_step _ (by rfl) D19.size ?_
    run_tac Drv.goAll specsK
    refine ⟨fun h' D => stEnd_ret (w := w) (R := R) (k := 19) (fin _ _ _ (by rfl) ?_)⟩
    run_tac Drv.facts
end Mine

end
-- Begin
section
open PySem PySem.W PySem.W.X PyProof.Rows
set_option maxRecDepth 100000
set_option Elab.async false
set_option maxHeartbeats 0
namespace Mine
theorem law_own {w : World} {R : Result → Shared → Prop} {d : Drawn} {os : OsState} {gl : List GenState} {h : Heap} {t : Nat} (x : Law w R d os 0 gl h t) :
    OwnN (model lawProg w) lawA lawCode (denote table lawCode) R ⟨h, ⟨gl⟩, d, t, os⟩ := by
  have z := law_start x
  intro Γ p hc hΓ hN
  have y := z Γ p hc hΓ hN
  rw [wpCode_iff_wp, hc] at y
  exact y
theorem law_again {w : World} {R : Result → Shared → Prop} {d : Drawn} {os : OsState} {h₀ : Heap} {n t₀ : Nat} {c : Code} {W : List (Addr × Obj)} {T : BT} {m i : Nat} {gl : List GenState} (h' : Heap)
    (x : ∀ h, HR h₀ n h W T m → Law w R d os 0 gl h (t₀ + i)) : Go ⟨lawProg, w, h', 0, .nil, [], lawA, R, d, 0, os⟩ h₀ n t₀ c none .base (.pure (.again lawCode)) W T m i gl :=
  ⟨fun h D => n_again (by rfl) (law_own (x h D))⟩
theorem law_begin {w : World} {R : Result → Shared → Prop} {d : Drawn} {os : OsState} {vs : List Value} {h : Heap} {t : Nat} (kt : TopK ⟨ktop w.params, h⟩ h) (hn : h.objs.size = 643)
    (hscr : h.get? 642 = some {cls := .type "list", data := .seq vs.toArray 0}) (next : ∀ h' t', S0 w h vs h' → Law w R d os 0 [] h' t') : codeN (model lawProg w) lawA (.call (.ref 641) ⟨[.ref 642], []⟩) R ⟨h, ⟨[]⟩, d, t, os⟩ := by
  refine go_start h ?_
  rw [hn]
  run_tac do
    let cf ← Drv.mkCfg
    Drv.run { cf with func := true }
  refine law_again h fun h' D => next _ _ ⟨?_, ?_, ?_, ?_, ?_⟩
  · run_tac Drv.facts
  · exact D.size
  · run_tac Drv.facts
  · run_tac Drv.facts
  · intro a h1 h2
    have ha : a = 644 ∨ a = 645 ∨ a = 646 ∨ a = 647 ∨ a = 648 ∨ a = 649 ∨ a = 650 ∨ a = 651 := by omega
    rcases ha with rfl | rfl | rfl | rfl | rfl | rfl | rfl | rfl
    all_goals run_tac Drv.facts
end Mine

end
-- Main
section
open PySem PySem.W PySem.W.X PyProof.Rows
set_option maxRecDepth 100000
set_option Elab.async false
namespace Mine
theorem modQ_range (a : Int) (b : Nat) (hb : 0 < b) : 0 ≤ Z.modQ a (b : Int) ∧ Z.modQ a (b : Int) < b := by
  rw [modQ_pos]
  exact ⟨Int.emod_nonneg _ (by omega), Int.emod_lt_of_pos _ (by omega)⟩
/-- the body from the graph's making on, for a graph with nodes -/
theorem law_from6 {w : World} {H0 : Heap} {R : Result → Shared → Prop} {d : Drawn} {os : OsState} {N : Nat → Int} {sz : Nat} {wd : Bool} (hs1 : 1 ≤ sz) (hs7 : sz ≤ 7) {h : Heap} {t : Nat} (S : S6 w H0 N sz wd h)
    (fin : ∀ h' t' gs, gs.bare = true → TopK ⟨ktop w.params, H0⟩ h' → R (.ok (.ret (.bool true))) ⟨h', ⟨[gs]⟩, d, t', os⟩) : Law w R d os 6 [] h t := by
  obtain ⟨kt, hz, ⟨tk, tk2, tk3, tk4, fr⟩, c644, c645, c646, c647, cells, lst, nam, wei, g673, g672, g677, g679, g681⟩ := S
  have inj : ∀ i j, i < sz → j < sz → (fun k : Nat => 8 * N (3 + k) + k) i = (fun k : Nat => 8 * N (3 + k) + k) j → i = j := by
    intro i j hi hj e
    simp only at e
    omega
  have hcw : ∀ k, 0 ≤ (fun i : Nat => if wd = true then (fun k : Nat => Z.modQ (N (10 + k)) 10) i else 1) k := by
    intro k
    cases wd
    · simp
    · simpa using (modQ_range (N (10 + k)) 10 (by omega)).1
  refine seg6 hs1 hs7 inj ⟨kt, c644, c645, c647, lst, nam, wei, g673, g672, g677⟩ hz ⟨_, _, fr, tk, tk2, tk3, tk4, fun _ => ⟨rfl, rfl⟩, fun h => absurd h (by omega)⟩ c646 cells g679 g681 ?_
  intro h7 t7 St Gr7 hz7 fr7 c646 cells emp
  obtain ⟨kt, c644, c645, c647, lst, nam, wei, g673, g672, g677⟩ := St
  obtain ⟨node, adj, att⟩ := Gr7
  refine seg7 hs1 hs7 ⟨kt, c644, c645, c647, lst, nam, wei, g673, node, adj, skol att⟩ g672 emp hz7 (Nat.le_refl _) fr7 c646 cells ?_
  intro h8 t8 p n8 E8 hz8 hp hpn own8 emp8 fr8 c646 cells prs
  refine seg8 hs1 hs7 E8 hz8 hp hpn own8 emp8 fr8 c646 cells prs ?_
  intro h9 t9 q n9 E9 hz9 hpq hqn own9 emp9 fr9 c646 c648 cells prs jnd
  refine seg9 hs1 hs7 inj f_hj (f_hfr hs7) (f_hjl hs7) E9 hz9 hp hpq hqn own9 emp9 fr9 c646 c648 cells prs jnd ?_
  intro h10 t10 n10 E10 hz10 hqn own10 adj10 fr10 c646 c648 cells prs jnd
  refine seg10 hs1 hs7 f_hsym (f_hlen hs7) inj E10 hz10 hp hpq hqn own10 adj10 fr10 c646 c648 cells prs jnd ?_
  intro h11 t11 τ n11 gs hgs E11' hz11 hqt htn own11 adj11 fr11 c646 c648 c649 cells prs jnd told
  refine seg11 hs1 hs7 ⟨E11', hp, hpq, hqt, htn, own11, adj11, c648, c649, prs, jnd, told⟩ fr11 hz11 c646 cells ?_
  intro h12 t12 wl n12 E12' fr12 hz12 hwl c646 wts cells
  refine seg12 hs1 hs7 inj f_hcov E12' fr12 hz12 hwl c646 wts cells ?_
  intro h13 t13 cv n13 E13 fr13 hz13 c651
  refine seg13 hs1 hs7 f_hj (f_hcl hcw) (f_hedge hcw) E13 fr13 hz13 c651 ?_
  intro h14 t14 n14 E14 fr14 hz14 c651
  refine seg14 hs1 hs7 f_hj (f_hcl hcw) (f_hjl hs7) (f_htouch hcw) E14 fr14 hz14 c651 ?_
  intro h15 t15 n15 E15 fr15 hz15 c651
  refine seg15 hs1 hs7 E15 fr15 hz15 c651 ?_
  intro h16 t16 n16 E16 fr16 hz16 c651
  refine seg16 hs1 hs7 f_hj (f_hjl hs7) E16 fr16 hz16 c651 ?_
  intro h17 t17 n17 E17 fr17 hz17
  refine seg17 hs1 hs7 (f_hratio hcw _) E17 fr17 hz17 ?_
  intro h18 t18 n18 E18 fr18 hz18
  refine seg18 hs1 hs7 f_hsym (f_hjn hs7) f_hps inj E18 fr18 hz18 ?_
  intro h19 t19 n19 E19 own19 fr19 hz19 hn19
  exact seg19 hs1 hs7 inj rfl E19 own19 fr19 hz19 (by omega) (fun h' t' k => fin h' t' gs hgs k)
/-- the whole body -/
theorem law_from0 {w : World} {H0 : Heap} {R : Result → Shared → Prop} {d : Drawn} {os : OsState} {vs : List Value} {ns : List Int} (hns : IntsAre vs ns) (hl : vs.length ≤ 63) {h : Heap} {t : Nat} (S : S0 w H0 vs h)
    (fin : ∀ h' t' gs, gs.bare = true → TopK ⟨ktop w.params, H0⟩ h' → R (.ok (.ret (.bool true))) ⟨h', ⟨[gs]⟩, d, t', os⟩) : Law w R d os 0 [] h t := by
  refine seg0 S hns hl ?_
  intro h1 t1 S1
  have hr : 0 ≤ Z.modQ (numAt ns 0) 8 ∧ Z.modQ (numAt ns 0) 8 < 8 := by simpa using modQ_range (numAt ns 0) 8 (by omega)
  obtain ⟨sz, hsz⟩ : ∃ sz : Nat, Z.modQ (numAt ns 0) 8 = (sz : Int) := ⟨(Z.modQ (numAt ns 0) 8).toNat, by omega⟩
  have hs7 : sz ≤ 7 := by omega
  refine seg1 hsz S1 ?_
  intro h2 t2 S2
  clear hsz hr
  rcases Nat.eq_zero_or_pos sz with rfl | hs1
  · exact zero2 S2 fin
  · refine seg2 hs1 hs7 S2 fun h3 t3 S3 => seg3 hs1 hs7 S3 fun h4 t4 S4 => seg4 S4 fun h5 t5 wd S5 => seg5 S5 fun h6 t6 S6 => law_from6 hs1 hs7 S6 fin
end Mine

end
-- Fin
section
open PySem PySem.W PySem.W.X PyProof.Rows PySem.Spec PySem.Calls
set_option maxRecDepth 100000
set_option Elab.async false
set_option maxHeartbeats 0
namespace Mine
theorem law_call : LawCall := by
  intro w c cl mean args vs ns s₁ kt hn hg hscr hns hl hr hp
  obtain ⟨h, g, d, t, os⟩ := s₁
  obtain rfl : g = #[] := hg
  refine law_begin ⟨fun a o _ e => kt_at kt e, fun a o _ e => e⟩ hn hscr fun h' t' S => law_from0 hns hl S fun h'' t'' gs hgs k => ⟨⟨_, rfl⟩, .inl ⟨_, .bool true, [], rfl, hr, ReadsW.bool true, hp, fun _ => ⟨List.nodup_nil, fun _ hm => (nomatch hm)⟩⟩, .of_keep fun b o e => k.2 b o ?_ e, rfl, ?_⟩
  · have := Heap.lt_size e
    rw [show h.objs.size = 643 from hn] at this
    exact this
  · intro y hy
    obtain rfl : y = gs := by simpa using hy
    exact hgs
end Mine
end
theorem PySem.Challenge.cw_ez0189_01_holds : PySem.Challenge.rw_ez0189_01.Holds :=
  Mine.headed Mine.law_call

