import PyProof.Rows.All
import PyProof.StrLawsFrom
import PyProof.StrLawsReplace
import PyProof.StrLawsWords2
import Wide.FinOn
import OpenK.AllK
import Wide.All
import Lean
import PySem.Challenge.RW_rt0016_02
set_option Elab.async false
set_option genInjectivity false
set_option genSizeOf false
set_option linter.unusedVariables false
set_option linter.unusedSimpArgs false
set_option linter.deprecated false
set_option maxRecDepth 100000
set_option maxHeartbeats 8000000
namespace Mine
theorem lq {a b : Nat} (h : Nat.ble a b = true) : a ≤ b := Nat.le_of_ble_eq_true h
theorem lz {a b c : Nat} (h : a ≤ b) (k : b ≤ c) : a ≤ c := Nat.le_trans h k
theorem lnA {α : Type _} {a b : List α} : (a ++ b).length = a.length + b.length := List.length_append
theorem sl2 {a b : Nat} (h : a ≤ b) : a.succ ≤ b.succ := Nat.succ_le_succ h
theorem bE {a b : Bool} (h : (a && b) = true) : a = true ∧ b = true := Bool.and_eq_true_iff.mp h
theorem bM {a b : Bool} (h : a = true ∧ b = true) : (a && b) = true := Bool.and_eq_true_iff.mpr h
theorem sIj {α : Type _} {a b : α} (h : some a = some b) : a = b := Option.some.inj h
theorem dT {p : Prop} [Decidable p] (h : p) : decide p = true := decide_eq_true h
theorem dF {p : Prop} [Decidable p] (h : ¬ p) : decide p = false := decide_eq_false h
theorem fnt : ¬ false = true := Bool.false_ne_true
theorem mSg {α : Type _} {a b : α} (h : a ∈ [b]) : a = b := List.mem_singleton.mp h
theorem mAp {α : Type _} {a : α} {s t : List α} (h : a ∈ s ++ t) : a ∈ s ∨ a ∈ t := List.mem_append.mp h
theorem mCo {α : Type _} {a b : α} {l : List α} (h : a ∈ b :: l) : a = b ∨ a ∈ l := List.mem_cons.mp h
theorem fMc {α : Type _} {p : α → Prop} {a : α} {l : List α} (h : p a ∧ ∀ x ∈ l, p x) : ∀ x ∈ a :: l, p x := List.forall_mem_cons.mpr h
end Mine
namespace Mine
open PySem
theorem runs_toks {M : Model} {Γ : Ctx} {p : Pos} {t : Sem Fin} {fs : List Frame} {s : Shared} {e : End} {s' : Shared} (h : Runs M Γ p t fs s e s') : s.toks ≤ s'.toks := by
  induction h with
  | done => exact Nat.le_refl _
  | raise => exact Nat.le_refl _
  | yield => exact Nat.le_refl _
  | fresh _ ih => exact Nat.le_of_succ_le ih
  | call _ _ i1 i2 => exact lz i1 i2
  | callSusp _ ih => exact ih
  | resumeFresh _ _ _ _ i1 i2 => exact lz (show _ ≤ _ from i1) i2
  | resumeSuspended _ _ _ _ i1 i2 => exact lz (show _ ≤ _ from i1) i2
  | segRet _ _ i1 i2 => exact lz i1 i2
  | segGen _ _ i1 i2 => exact lz i1 i2
  | segSuspOut _ _ ih => exact ih
  | segSuspGen _ _ _ _ i1 i2 => exact lz i1 i2
  | again _ _ ih => exact ih
  | rule _ ih => exact ih
  | «at» _ ih => exact ih
  | load _ _ ih => exact ih
  | update _ _ ih => exact ih
  | loadIfAlive _ ih => exact ih
  | point _ ih => exact ih
  | alloc _ ih => exact ih
  | ask _ ih => exact ih
  | choose _ _ ih => exact ih
  | os _ ih => exact ih
  | handled _ ih => exact ih
  | genState _ _ ih => exact ih
  | stack _ ih => exact ih
  | thread _ ih => exact ih
  | newGen _ ih => exact ih
  | resumeJustStarted _ _ _ ih => exact ih
  | resumeThrowFresh _ _ ih => exact ih
  | resumeRunning _ _ ih => exact ih
  | resumeFinished _ _ ih => exact ih
theorem wakes_toks {M : Model} {Γ : Ctx} {p : Pos} {g : Nat} {r : Resume} {s : Shared} {res : GenResult} {s' : Shared} (h : Wakes M Γ p g r s res s') : s.toks ≤ s'.toks := by
  unfold Wakes at h
  split at h
  · exact h.elim
  · split at h
    · obtain ⟨e1, s1, h1, _, _, rfl⟩ := h; exact (show s.toks ≤ s1.toks from runs_toks (s := s.setGen g .running) h1)
    · rw [h.2]; exact Nat.le_refl _
    · rw [h.2]; exact Nat.le_refl _
  · obtain ⟨e1, s1, h1, _, _, rfl⟩ := h; exact (show s.toks ≤ s1.toks from runs_toks (s := s.setGen g .running) h1)
  · rw [h.2]; exact Nat.le_refl _
  · rw [h.2]; exact Nat.le_refl _
theorem wp_toks {α : Type} (M : Model) (Γ : Ctx) (n : Nat) : ∀ (t : Sem α) (Q : α → Pos → Shared → Prop) (E : Value → Pos → Shared → Prop) (p : Pos) (s : Shared), n ≤ s.toks → Sem.wp M Γ t Q E p s → Sem.wp M Γ t (fun a p' s' => n ≤ s'.toks ∧ Q a p' s') (fun e p' s' => n ≤ s'.toks ∧ E e p' s') p s
  | .pure a, Q, E, p, s, hn, h => by rw [Sem.wp] at h ⊢; exact ⟨hn, h⟩
  | .raise e, Q, E, p, s, hn, h => by rw [Sem.wp] at h ⊢; exact ⟨hn, h⟩
  | .unsupported _, Q, E, p, s, hn, h => by rw [Sem.wp] at h; exact h.elim
  | .finish _, Q, E, p, s, hn, h => by rw [Sem.wp] at h; exact h.elim
  | .rule _ k, Q, E, p, s, hn, h => by rw [Sem.wp] at h ⊢; exact wp_toks M Γ n (k ()) Q E p s hn h
  | .at p' k, Q, E, p, s, hn, h => by rw [Sem.wp] at h ⊢; exact wp_toks M Γ n (k ()) Q E p' s hn h
  | .load a _ k, Q, E, p, s, hn, h => by
    rw [Sem.wp] at h ⊢
    obtain ⟨o, e, h⟩ := h
    exact ⟨o, e, wp_toks M Γ n (k o) Q E p s hn h⟩
  | .update a _ f k, Q, E, p, s, hn, h => by
    rw [Sem.wp] at h ⊢
    exact ⟨h.1, wp_toks M Γ n (k ()) Q E p _ hn h.2⟩
  | .loadIfAlive a k, Q, E, p, s, hn, h => by rw [Sem.wp] at h ⊢; exact wp_toks M Γ n _ Q E p s hn h
  | .point _ k, Q, E, p, s, hn, h => by rw [Sem.wp] at h ⊢; exact wp_toks M Γ n (k ()) Q E p s hn h
  | .register _ _, Q, E, p, s, hn, h => by rw [Sem.wp] at h; exact h.elim
  | .alloc o k, Q, E, p, s, hn, h => by rw [Sem.wp] at h ⊢; exact wp_toks M Γ n _ Q E p _ hn h
  | .fresh k, Q, E, p, s, hn, h => by rw [Sem.wp] at h ⊢; exact wp_toks M Γ n _ Q E p _ (Nat.le_succ_of_le hn) h
  | .ask k, Q, E, p, s, hn, h => by rw [Sem.wp] at h ⊢; exact wp_toks M Γ n _ Q E p _ hn h
  | .choose src m k, Q, E, p, s, hn, h => by rw [Sem.wp] at h ⊢; exact ⟨h.1, wp_toks M Γ n _ Q E p _ hn h.2⟩
  | .os q _ k, Q, E, p, s, hn, h => by rw [Sem.wp] at h ⊢; exact wp_toks M Γ n _ Q E p _ hn h
  | .call c hd _ _ k, Q, E, p, s, hn, h => by
    rw [Sem.wp] at h ⊢
    obtain ⟨r, s', hr, h⟩ := h
    exact ⟨r, s', hr, wp_toks M Γ n (k r) Q E p s' (lz hn (runs_toks hr)) h⟩
  | .handled own k, Q, E, p, s, hn, h => by rw [Sem.wp] at h ⊢; exact wp_toks M Γ n _ Q E p _ hn h
  | .genState g k, Q, E, p, s, hn, h => by
    rw [Sem.wp] at h ⊢
    obtain ⟨o, e, h⟩ := h
    exact ⟨o, e, wp_toks M Γ n _ Q E p s hn h⟩
  | .newGen c k, Q, E, p, s, hn, h => by rw [Sem.wp] at h ⊢; exact wp_toks M Γ n _ Q E p _ hn h
  | .resume g r _ k, Q, E, p, s, hn, h => by
    rw [Sem.wp] at h ⊢
    obtain ⟨res, s', hr, h⟩ := h
    exact ⟨res, s', hr, wp_toks M Γ n (k res) Q E p s' (lz hn (wakes_toks hr)) h⟩
  | .yield .., Q, E, p, s, hn, h => by rw [Sem.wp] at h; exact h.elim
  | .stack k, Q, E, p, s, hn, h => by rw [Sem.wp] at h ⊢; exact wp_toks M Γ n _ Q E p _ hn h
  | .fork .., Q, E, p, s, hn, h => by rw [Sem.wp] at h; exact h.elim
  | .thread k, Q, E, p, s, hn, h => by rw [Sem.wp] at h ⊢; exact wp_toks M Γ n _ Q E p _ hn h
  | .await .., Q, E, p, s, hn, h => by rw [Sem.wp] at h; exact h.elim
theorem wpAny_toks {α : Type} {M : Model} {A : Around} {t : Sem α} {Q : α → Shared → Prop} {E : Value → Shared → Prop} {s : Shared} (h : wpAny M A t (fun a s' => s.toks ≤ s'.toks → Q a s') E s) : wpAny M A t Q E s := by
  intro Γ p hΓ
  have := wp_toks M Γ s.toks t _ _ p s (Nat.le_refl _) (h Γ p hΓ)
  exact Sem.wp_mono M Γ t (fun a _ s' h => h.2 h.1) (fun e _ s' h => h.2) p s this
end Mine
namespace Mine
open PySem PyProof.Rows
set_option genSizeOfSpec false
inductive AV where
  | none
  | bool (b : Bool)
  | int (i : Int)
  | str (s : List Nat)
  | bytes (b : List Nat)
  | list (xs : List AV)
  | tuple (xs : List AV)
  | star
  /-- a list that the variable alone holds -/
  | own (xs : List AV)
  /-- a bytearray that the variable alone holds -/
  | ba (b : List Nat)
  /-- the bound append of the variable k's list -/
  | app (k : Nat)
abbrev Fz := Addr → Option Obj
noncomputable def Fz.put (Z : Fz) (a : Addr) (o : Obj) : Fz := fun b => if b = a then some o else Z b
noncomputable abbrev lstO (vs : List Value) (n : Nat) : Obj := { cls := .type "list", data := .seq vs.toArray n }
noncomputable abbrev tupO (vs : List Value) (n : Nat) : Obj := { cls := .type "tuple", data := .seq vs.toArray n }
noncomputable abbrev bytesA (b : List Nat) : Array UInt8 := (b.map UInt8.ofNat).toArray
mutual
def RepV (Z : Fz) (st : Option Addr) : AV → Value → Prop
  | .none, v => v = .none
  | .bool b, v => v = .bool b
  | .int i, v => ∃ t, v = .int i t
  | .str s, v => ∃ t, v = .str ⟨s.toArray⟩ t
  | .bytes b, v => (∀ x ∈ b, x < 256) ∧ ∃ t, v = .bytes (bytesA b) t
  | .list xs, v => ∃ a vs n, v = .ref a ∧ Z a = some (lstO vs n) ∧ RepL Z st xs vs
  | .tuple xs, v => ∃ a vs n, v = .ref a ∧ Z a = some (tupO vs n) ∧ RepL Z st xs vs
  | .star, v => ∃ a, st = some a ∧ v = .ref a
  | .own _, _ => False
  | .ba _, _ => False
  | .app _, _ => False
def RepL (Z : Fz) (st : Option Addr) : List AV → List Value → Prop
  | [], vs => vs = []
  | x :: xs, vs => ∃ v r, vs = v :: r ∧ RepV Z st x v ∧ RepL Z st xs r
end
section
variable {Z Z' : Fz} {st st' : Option Addr}
structure Up (Z Z' : Fz) (st st' : Option Addr) : Prop where
  z : ∀ b o, Z b = some o → Z' b = some o
  s : ∀ a, st = some a → st' = some a
mutual
theorem RepV.up (u : Up Z Z' st st') : ∀ (x : AV) (v : Value), RepV Z st x v → RepV Z' st' x v
  | .list xs, _, h => h.elim fun a h => h.elim fun vs h => h.elim fun n h => ⟨a, vs, n, h.1, u.z _ _ h.2.1, RepL.up u xs vs h.2.2⟩
  | .tuple xs, _, h => h.elim fun a h => h.elim fun vs h => h.elim fun n h => ⟨a, vs, n, h.1, u.z _ _ h.2.1, RepL.up u xs vs h.2.2⟩
  | .star, _, h => h.elim fun a h => ⟨a, u.s a h.1, h.2⟩
  | .none, _, h => h
  | .bool _, _, h => h
  | .int _, _, h => h
  | .str _, _, h => h
  | .bytes _, _, h => h
theorem RepL.up (u : Up Z Z' st st') : ∀ (xs : List AV) (vs : List Value), RepL Z st xs vs → RepL Z' st' xs vs
  | [], _, h => h
  | x :: xs, _, h => h.elim fun v h => h.elim fun r h => ⟨v, r, h.1, RepV.up u x v h.2.1, RepL.up u xs r h.2.2⟩
end
theorem RepV.mono (hz : ∀ b o, Z b = some o → Z' b = some o) {x : AV} {v : Value} (h : RepV Z st x v) : RepV Z' st x v := h.up ⟨hz, fun _ e => e⟩
theorem RepL.mono (hz : ∀ b o, Z b = some o → Z' b = some o) {xs : List AV} {vs : List Value} (h : RepL Z st xs vs) : RepL Z' st xs vs := h.up ⟨hz, fun _ e => e⟩
theorem RepL.length : ∀ {xs : List AV} {vs : List Value}, RepL Z st xs vs → vs.length = xs.length
  | [], _, h => congrArg List.length h
  | _ :: _, _, h => h.elim fun _ h => h.elim fun _ h => h.1 ▸ congrArg (· + 1) h.2.2.length
theorem RepL.nil : RepL Z st [] [] := rfl
theorem RepL.cons {x : AV} {v : Value} {xs : List AV} {vs : List Value} (h : RepV Z st x v) (h' : RepL Z st xs vs) : RepL Z st (x :: xs) (v :: vs) := ⟨v, vs, rfl, h, h'⟩
theorem RepL.append {ys : List AV} {us : List Value} : ∀ {xs : List AV} {vs : List Value}, RepL Z st xs vs → RepL Z st ys us → RepL Z st (xs ++ ys) (vs ++ us)
  | [], _, h, h' => (show _ = [] from h) ▸ h'
  | _ :: _, _, h, h' => h.elim fun _ h => h.elim fun _ h => h.1 ▸ .cons h.2.1 (h.2.2.append h')
theorem RepL.get : ∀ {xs : List AV} {vs : List Value} {i : Nat} {x : AV}, RepL Z st xs vs → xs[i]? = some x → ∃ v, vs[i]? = some v ∧ RepV Z st x v
  | _ :: _, _, 0, _, h, e => h.elim fun v h => h.elim fun _ h => h.1 ▸ ⟨v, rfl, sIj e ▸ h.2.1⟩
  | _ :: xs, _, i + 1, x, h, e => h.elim fun _ h => h.elim fun _ h => h.1 ▸ h.2.2.get (show xs[i]? = some x from e)
theorem RepL.get' : ∀ {xs : List AV} {vs : List Value} {i : Nat} {v : Value}, RepL Z st xs vs → vs[i]? = some v → ∃ x, xs[i]? = some x ∧ RepV Z st x v
  | [], _, _, _, h, e => by cases (show _ = [] from h); cases e
  | x :: _, [], _, _, h, e => nomatch e
  | x :: _, u :: _, 0, _, h, e => h.elim fun v h => h.elim fun _ h => ⟨x, rfl, sIj e ▸ (List.cons.inj h.1).1 ▸ h.2.1⟩
  | _ :: xs, _ :: r, i + 1, v, h, e => h.elim fun _ h => h.elim fun _ h => (show RepL _ _ xs r from (List.cons.inj h.1).2 ▸ h.2.2).get' (show r[i]? = some v from e)
theorem RepL.take : ∀ {xs : List AV} {vs : List Value} (k : Nat), RepL Z st xs vs → RepL Z st (xs.take k) (vs.take k)
  | _, _, 0, _ => rfl
  | [], _, _ + 1, h => (show _ = [] from h) ▸ rfl
  | _ :: _, _, k + 1, h => h.elim fun _ h => h.elim fun _ h => h.1 ▸ .cons h.2.1 (RepL.take k h.2.2)
theorem RepL.drop : ∀ {xs : List AV} {vs : List Value} (k : Nat), RepL Z st xs vs → RepL Z st (xs.drop k) (vs.drop k)
  | _, _, 0, h => h
  | [], _, _ + 1, h => (show _ = [] from h) ▸ rfl
  | _ :: _, _, k + 1, h => h.elim fun _ h => h.elim fun _ h => h.1 ▸ RepL.drop k h.2.2
theorem RepL.set {x : AV} {v : Value} (hx : RepV Z st x v) : ∀ {xs : List AV} {vs : List Value} (k : Nat), RepL Z st xs vs → RepL Z st (xs.set k x) (vs.set k v)
  | [], _, _, h => (show _ = [] from h) ▸ rfl
  | _ :: _, _, 0, h => h.elim fun _ h => h.elim fun _ h => h.1 ▸ .cons hx h.2.2
  | _ :: _, _, k + 1, h => h.elim fun _ h => h.elim fun _ h => h.1 ▸ .cons h.2.1 (RepL.set hx k h.2.2)
theorem RepL.erase : ∀ {xs : List AV} {vs : List Value} (k : Nat), RepL Z st xs vs → RepL Z st (xs.eraseIdx k) (vs.eraseIdx k)
  | [], _, _, h => (show _ = [] from h) ▸ rfl
  | _ :: _, _, 0, h => h.elim fun _ h => h.elim fun _ h => h.1 ▸ h.2.2
  | _ :: _, _, k + 1, h => h.elim fun _ h => h.elim fun _ h => h.1 ▸ .cons h.2.1 (RepL.erase k h.2.2)
end
noncomputable abbrev baO (b : List Nat) : Obj := { cls := .type "bytearray", data := .bytearray (bytesA b) 0 }
def RepR (h : Heap) (Z : Fz) (st : Option Addr) : AV → Value → Prop
  | .own xs, v => ∃ a vs n, v = .ref a ∧ h.get? a = some (lstO vs n) ∧ RepL Z st xs vs
  | .ba b, v => (∀ x ∈ b, x < 256) ∧ ∃ a, v = .ref a ∧ h.get? a = some (baO b)
  | x, v => RepV Z st x v
structure Cfg where
  prog : Program
  w : World
  /-- the text's names, the interpreter's names -/
  mg : Str → Option Value
  mb : Str → Option Value
  /-- the code table that may grow, and whose it is -/
  P : Addr
  cd : Value
  cq : Str
  /-- what lies frozen from the start -/
  B : Fz
  /-- what the table says -/
  tab : Obj → Fz → Prop
  tabMono : ∀ {o Z Z'}, tab o Z → (∀ b x, Z b = some x → Z' b = some x) → tab o Z'
  tabCls : ∀ {o Z}, tab o Z → o.cls = .none
structure WOk (C : Cfg) (s : Shared) (Z : Fz) : Prop where
  sub : ∀ b o, Z b = some o → s.heap.get? b = some o
  noP : Z C.P = none
  base : ∀ b o, C.B b = some o → Z b = some o
  tab : ∃ o, s.heap.get? C.P = some o ∧ C.tab o Z
  gens : AllBare s.gens
  tk : 0 < s.toks
structure Go (C : Cfg) (s : Shared) (Z : Fz) (s' : Shared) (Z' : Fz) : Prop where
  keep : ∀ b o, b ≠ C.P → s.heap.get? b = some o → s'.heap.get? b = some o
  os : s'.os = s.os
  mono : ∀ b o, Z b = some o → Z' b = some o
  fresh : ∀ b o, Z' b = some o → Z b = some o ∨ s.heap.get? b = none
  ok : WOk C s' Z'
theorem none_of {α : Type} {x : Option α} (h : ∀ a, x = some a → False) : x = none := by
  cases x with
  | none => rfl
  | some a => exact (h a rfl).elim
theorem noSome {α : Type} {x : Option α} {a : α} (h : x = none) (e : x = some a) : False := nomatch h.symm.trans e
theorem get_none {h : Heap} {b : Addr} (hb : h.objs.size ≤ b) : h.get? b = none := none_of fun _ e => Nat.not_lt.mpr hb (Heap.lt_size e)
section
variable {C : Cfg} {s s' s'' : Shared} {Z Z' Z'' : Fz}
theorem WOk.ne (h : WOk C s Z) {b : Addr} (e : s.heap.get? b = none) : b ≠ C.P := fun q => h.tab.elim fun o t => noSome e (q ▸ t.1)
theorem WOk.nz (h : WOk C s Z) {b : Addr} (e : s.heap.get? b = none) : Z b = none := none_of fun _ q => noSome e (h.sub _ _ q)
theorem WOk.neZ (h : WOk C s Z) {b : Addr} {o : Obj} (e : Z b = some o) : b ≠ C.P := fun q => noSome h.noP (q ▸ e)
theorem WOk.pNe (h : WOk C s Z) {a : Addr} {o : Obj} (e : s.heap.get? a = some o) (hc : o.cls ≠ .none) : a ≠ C.P := fun q => h.tab.elim fun o' t =>
  hc (sIj ((q ▸ e : s.heap.get? C.P = some o).symm.trans t.1) ▸ C.tabCls t.2)
theorem Go.refl (h : WOk C s Z) : Go C s Z s Z := ⟨fun _ _ _ e => e, rfl, fun _ _ e => e, fun _ _ e => .inl e, h⟩
theorem Go.none (g : Go C s Z s' Z') {b : Addr} (hb : b ≠ C.P) (e : s'.heap.get? b = .none) : s.heap.get? b = .none := none_of fun _ q => noSome e (g.keep _ _ hb q)
theorem Go.trans (x : Go C s Z s' Z') (y : Go C s' Z' s'' Z'') : Go C s Z s'' Z'' :=
  ⟨fun b o hb e => y.keep b o hb (x.keep b o hb e), y.os.trans x.os, fun b o e => y.mono b o (x.mono b o e),
   fun b o e => (y.fresh b o e).elim (x.fresh b o) fun h => .inr (x.none (y.ok.neZ e) h), y.ok⟩
theorem Go.any (h : WOk C s Z) {h' : Heap} {tk : Nat} (hk : ∀ b o, s.heap.get? b = some o → h'.get? b = some o) (mono : ∀ b o, Z b = some o → Z' b = some o) (hz : ∀ b o, Z' b = some o → Z b = some o ∨ s.heap.get? b = .none ∧ h'.get? b = some o) (htk : s.toks ≤ tk) : Go C s Z { s with heap := h', toks := tk } Z' :=
  ⟨fun b o _ e => hk b o e, rfl, mono, fun b o e => (hz b o e).imp id (·.1),
   ⟨fun b o e => (hz b o e).elim (fun e => hk _ _ (h.sub b o e)) (·.2), none_of fun o e => (hz _ o e).elim (fun e => noSome h.noP e) fun q => h.ne q.1 rfl, fun b o e => mono b o (h.base b o e), h.tab.elim fun o t => ⟨o, hk _ _ t.1, C.tabMono t.2 mono⟩, h.gens, Nat.lt_of_lt_of_le h.tk htk⟩⟩
theorem Go.keeps (h : WOk C s Z) {h' : Heap} {tk : Nat} (hk : ∀ b o, s.heap.get? b = some o → h'.get? b = some o) (htk : s.toks ≤ tk) : Go C s Z { s with heap := h', toks := tk } Z :=
  .any h hk (fun _ _ e => e) (fun _ _ e => .inl e) htk
theorem put_self {a : Addr} {o : Obj} : (Z.put a o) a = some o := if_pos rfl
theorem put_mono {a : Addr} {o : Obj} (ha : Z a = none) : ∀ b x, Z b = some x → (Z.put a o) b = some x := fun b x e => (if_neg fun q => noSome ha (q ▸ e)).trans e
theorem put_or {a b : Addr} {o x : Obj} (e : (Z.put a o) b = some x) : Z b = some x ∨ b = a ∧ o = x := by
  by_cases q : b = a
  · exact .inr ⟨q, sIj ((if_pos q).symm.trans e)⟩
  · exact .inl ((if_neg q).symm.trans e)
theorem Go.keepsPut (h : WOk C s Z) {h' : Heap} {tk : Nat} {a : Addr} {o : Obj} (hk : ∀ b o, s.heap.get? b = some o → h'.get? b = some o)
    (ha : s.heap.get? a = .none) (ho : h'.get? a = some o) (htk : s.toks ≤ tk) : Go C s Z { s with heap := h', toks := tk } (Z.put a o) :=
  .any h hk (put_mono (h.nz ha)) (fun b x e => (put_or e).elim .inl fun q => .inr (q.1 ▸ q.2 ▸ ⟨ha, ho⟩)) htk
theorem Go.push (h : WOk C s Z) (o : Obj) (hf : o.isFreed = false) (tk : Nat) (htk : s.toks ≤ tk) : Go C s Z { s with heap := s.heap.push o, toks := tk } (Z.put s.heap.objs.size o) :=
  .keepsPut h (fun _ _ e => Heap.get?_push_of_some _ e) (get_none (Nat.le_refl _)) (Heap.get?_push_size _ hf) htk
theorem RepR.go {st : Option Addr} (g : Go C s Z s' Z') (h : WOk C s Z) {x : AV} {v : Value} (r : RepR s.heap Z st x v) : RepR s'.heap Z' st x v := by
  cases x with
  | own _ => exact r.elim fun a r => r.elim fun vs r => r.elim fun n r => ⟨a, vs, n, r.1, g.keep _ _ (h.pNe r.2.1 nofun) r.2.1, r.2.2.mono g.mono⟩
  | ba _ => exact ⟨r.1, r.2.elim fun a r => ⟨a, r.1, g.keep _ _ (h.pNe r.2 nofun) r.2⟩⟩
  | _ => exact RepV.mono g.mono r
theorem RepV.toR {h : Heap} {st : Option Addr} {x : AV} {v : Value} (r : RepV Z st x v) : RepR h Z st x v := by
  cases x with
  | own _ => exact r.elim
  | ba _ => exact r.elim
  | _ => exact r
end
set_option genSizeOfSpec false
inductive Bop where | add | sub | mul | fdiv | mod | pow | band
inductive Cop where | eq | ne | lt | le | gt | ge | isin | notin | is | isnot
inductive Bi where | len | ord | chr | isStr | isBytes | bytesOf
inductive Mth where | replace | find3 | join | split | isalnum | tr | sub
inductive Tgt where
  | one (k : Nat)
  | two (k j : Nat)
mutual
inductive PE where
  | var (k : Nat)
  | cst (v : AV)
  | glob (k : Nat)
  | bin (o : Bop) (a b : PE)
  | neg (a : PE)
  | not (a : PE)
  | and (es : PEs)
  | or (es : PEs)
  | cmp (a : PE) (o : Cop) (b : PE)
  | chain (a : PE) (o : Cop) (b : PE) (o' : Cop) (c : PE)
  | ite (t a b : PE)
  | idx (a i : PE)
  | slc (a lo hi st : PE)
  | tup (es : PEs)
  | lst (es : PEs)
  | comp (caps : List Nat) (cls : PC)
  | call (f : Nat) (es : PEs)
  | bi (b : Bi) (a : PE)
  | meth (m : Mth) (o : PE) (es : PEs)
  | joinEsc (o : PE) (k : Nat)
  | fstr (es : PEs)
inductive PEs where
  | nil
  | cons (e : PE) (r : PEs)
inductive PC where
  | done (elt : PE)
  | clause (t : Tgt) (it : PI) (ifs : PEs) (rest : PC)
inductive PI where
  | ex (e : PE)
  | range (es : PEs)
  | enum (e : PE)
end
mutual
inductive PS where
  | asg (k : Nat) (e : PE)
  | asgT (k j : Nat) (e : PE)
  | asgL (k : Nat)
  | asgApp (k j : Nat)
  | callX (k f : Nat) (es : PEs)
  | newBA (k : Nat) (e : PE)
  | put (k : Nat) (i e : PE)
  | aug (k : Nat) (e : PE)
  | augPut (k : Nat) (i e : PE)
  | del (k : Nat) (i : PE)
  | append (k : Nat) (e : PE)
  | callApp (k : Nat) (e : PE)
  | pop (k : Nat)
  | iff (t : PE) (a b : PSs)
  | whl (t : PE) (b : PSs)
  | loop (t : Tgt) (it : PI) (b orelse : PSs)
  | ret (e : PE)
  | brk
  | asrt (e : PE)
  | dead
inductive PSs where
  | nil
  | cons (s : PS) (r : PSs)
end
noncomputable def asI : AV → Option Int
  | .int i => some i
  | _ => none
noncomputable def asS : AV → Option (List Nat)
  | .str s => some s
  | _ => none
noncomputable def asB : AV → Option (List Nat)
  | .bytes s => some s
  | _ => none
noncomputable def asL : AV → Option (List AV)
  | .list s => some s
  | _ => none
noncomputable def asO : AV → Option (List AV)
  | .own s => some s
  | _ => none
noncomputable def asT : AV → Option (List AV)
  | .tuple s => some s
  | _ => none
noncomputable def asA : AV → Option Nat
  | .app s => some s
  | _ => none
noncomputable def asLO : AV → Option (List AV)
  | .list s => some s
  | .own s => some s
  | _ => none
noncomputable def as1 : List AV → Option AV
  | [a] => some a
  | _ => none
noncomputable def as2 : List AV → Option (AV × AV)
  | [a, b] => some (a, b)
  | _ => none
noncomputable def as3 : List AV → Option (AV × AV × AV)
  | [a, b, c] => some (a, b, c)
  | _ => none
noncomputable def one1 : List Nat → Option Nat
  | [c] => some c
  | _ => none
noncomputable abbrev lim : Nat := 1000000
noncomputable def pyIdx (n : Nat) (i : Int) : Option Nat :=
  if n ≤ lim then (if i < 0 then (if 0 ≤ i + n then some (i + n).toNat else none) else if i < n then some i.toNat else none) else none
noncomputable def clip0 (n : Nat) (i : Int) : Nat := if i < 0 then n - (-i).toNat else min i.toNat n
noncomputable def cut {α : Type} (xs : List α) (lo hi : Option Int) : List α :=
  let a := match lo with | none => 0 | some i => clip0 xs.length i
  let b := match hi with | none => xs.length | some i => clip0 xs.length i
  (xs.drop a).take (b - a)
noncomputable def hasSub (y : List Nat) : List Nat → Bool
  | [] => y.isEmpty
  | x :: xs => y.isPrefixOf (x :: xs) || hasSub y xs
noncomputable def findC (c : Nat) : List Nat → Option Nat
  | [] => none
  | x :: xs => if x == c then some 0 else (findC c xs).map (· + 1)
noncomputable def repC (c : Nat) (new : List Nat) : List Nat → List Nat
  | [] => []
  | x :: xs => if x == c then new ++ repC c new xs else x :: repC c new xs
noncomputable def joinL (sep : List Nat) : List (List Nat) → List Nat
  | [] => []
  | [x] => x
  | x :: r => x ++ sep ++ joinL sep r
noncomputable def wordsAt (c : Nat) : List Nat → List Nat → List (List Nat)
  | cur, [] => if cur.isEmpty then [] else [cur]
  | cur, x :: xs => if x == c then (if cur.isEmpty then wordsAt c [] xs else cur :: wordsAt c [] xs) else wordsAt c (cur ++ [x]) xs
mutual
noncomputable def toP : AV → PyData
  | .none => .none
  | .bool b => .bool b
  | .int i => .int i
  | .str x => .str ⟨x.toArray⟩
  | .list xs => .list (toPs xs)
  | .own xs => .list (toPs xs)
  | .tuple xs => .tuple (toPs xs)
  | .bytes _ => .none
  | .ba _ => .none
  | .app _ => .none
  | .star => .none
noncomputable def toPs : List AV → List PyData
  | [] => []
  | x :: xs => toP x :: toPs xs
end
mutual
noncomputable def okE : AV → Nat → Bool
  | .none, _ => true
  | .bool _, _ => true
  | .int _, _ => true
  | .str x, _ => x.all (· < 1114112)
  | .list xs, n => n != 0 && okEs xs (n - 1)
  | .tuple xs, n => n != 0 && okEs xs (n - 1)
  | .own xs, n => n != 0 && okEs xs (n - 1)
  | .bytes _, _ => false
  | .star, _ => false
  | .ba _, _ => false
  | .app _, _ => false
noncomputable def okEs : List AV → Nat → Bool
  | [], _ => true
  | x :: xs, n => okE x n && okEs xs n
end
noncomputable def deepV (a b : AV) : Option Bool := if okE a 8 && okE b 8 then some (PyData.eqv (toP a) (toP b)) else none
noncomputable def eqV (a b : AV) : Option Bool := match a with
  | .str x => (match b with
    | .str y => some (x == y)
    | b => deepV (.str x) b)
  | a => deepV a b
noncomputable def inV (a : AV) (xs : List AV) : Option Bool := if okE a 8 && okEs xs 7 then some ((toPs xs).any fun y => PyData.eqv y (toP a)) else none
noncomputable def isStarV : AV → Option Bool
  | .star => some true
  | .str _ => some false
  | _ => Option.none
noncomputable def addV (x y : AV) : Option AV := match x with
  | .int a => (asI y).map fun b => .int (a + b)
  | .str a => (asS y).bind fun b => if a.length + b.length ≤ lim then some (.str (a ++ b)) else none
  | .list a => (asL y).bind fun b => if a.length + b.length ≤ lim then some (.list (a ++ b)) else none
  | .bytes a => (asB y).bind fun b => if a.length + b.length ≤ lim then some (.bytes (a ++ b)) else none
  | _ => none
noncomputable def mulV (x y : AV) : Option AV := match x with
  | .int a => (asI y).bind fun b => if a.natAbs < 2 ^ 60 ∧ b.natAbs < 2 ^ 60 then some (.int (a * b)) else none
  | .str a => (asI y).bind fun n => if a.length = 1 ∧ 0 ≤ n ∧ n ≤ lim then some (.str ((List.replicate n.toNat a).flatten)) else none
  | _ => none
noncomputable def binV (o : Bop) (x y : AV) : Option AV := match o with
  | .add => addV x y
  | .sub => (asI x).bind fun a => (asI y).map fun b => .int (a - b)
  | .mul => mulV x y
  | .fdiv => (asI x).bind fun a => (asI y).bind fun b => if 0 < b ∧ b < 2 ^ 60 then some (.int (a.fdiv b)) else none
  | .mod => (asI x).bind fun a => (asI y).bind fun b => if 0 < b ∧ b < 2 ^ 60 then some (.int (a.fmod b)) else none
  | .pow => (asI x).bind fun a => (asI y).bind fun b => if 0 ≤ b ∧ b ≤ 100 ∧ 2 ≤ a ∧ a < 2 ^ 60 then some (.int (a ^ b.toNat)) else none
  | .band => (asI x).bind fun a => (asI y).bind fun b => if 0 ≤ a ∧ 0 ≤ b then some (.int ((a.toNat &&& b.toNat : Nat) : Int)) else none
noncomputable def ordV (fi : Int → Int → Bool) (fs : List Nat → List Nat → Bool) (x y : AV) : Option Bool := match x with
  | .int a => (asI y).map (fi a)
  | .str a => (asS y).map (fs a)
  | _ => none
noncomputable def isinV (a b : AV) : Option Bool := match b with
  | .list b => inV a b
  | .tuple b => inV a b
  | .str b => (asS a).map fun a => hasSub a b
  | _ => none
noncomputable def isV (a b : AV) : Option Bool := match b with
  | .star => isStarV a
  | _ => none
noncomputable def cmpV (o : Cop) (a b : AV) : Option Bool := match o with
  | .eq => eqV a b
  | .ne => (eqV a b).map not
  | .lt => ordV (fun a b => decide (a < b)) (fun a b => decide (a < b)) a b
  | .le => ordV (fun a b => decide (a ≤ b)) (fun a b => !decide (b < a)) a b
  | .gt => ordV (fun a b => decide (b < a)) (fun a b => decide (b < a)) a b
  | .ge => ordV (fun a b => decide (b ≤ a)) (fun a b => !decide (a < b)) a b
  | .isin => isinV a b
  | .notin => (isinV a b).map not
  | .is => isV a b
  | .isnot => (isV a b).map not
noncomputable def truthV : AV → Option Bool
  | .bool b => some b
  | .str s => if s.length ≤ lim then some (!s.isEmpty) else none
  | .own xs => if xs.length ≤ lim then some (!xs.isEmpty) else none
  | .list xs => if xs.length ≤ lim then some (!xs.isEmpty) else none
  | _ => none
noncomputable def idxI (a : AV) (i : Int) : Option AV := match a with
  | .str s => ((pyIdx s.length i).bind (s[·]?)).map fun c => .str [c]
  | .list xs => (pyIdx xs.length i).bind (xs[·]?)
  | .own xs => (pyIdx xs.length i).bind (xs[·]?)
  | .bytes b => if 0 ≤ i then ((pyIdx b.length i).bind (b[·]?)).map fun (c : Nat) => AV.int (c : Int) else none
  | _ => none
noncomputable def idxV (a i : AV) : Option AV := (asI i).bind fun i => idxI a i
noncomputable def partV : AV → Option (Option Int)
  | .none => some none
  | .int i => if i.natAbs < 2 ^ 60 then some (some i) else none
  | _ => none
noncomputable def slcV (a : AV) (lo hi st : Option Int) : Option AV :=
  match st with
  | none => match a with
    | .str s => if s.length ≤ lim then some (.str (cut s lo hi)) else none
    | .list xs => if xs.length ≤ lim then some (.list (cut xs lo hi)) else none
    | .own xs => if xs.length ≤ lim then some (.list (cut xs lo hi)) else none
    | .bytes b => if b.length ≤ lim then some (.bytes (cut b lo hi)) else none
    | _ => none
  | some t => if t = -1 ∧ lo = none ∧ hi = none then (match a with
    | .list xs => if xs.length ≤ lim then some (.list xs.reverse) else none
    | .bytes b => if b.length ≤ lim then some (.bytes b.reverse) else none
    | _ => none) else none
noncomputable def strsOf : List AV → Option (List (List Nat))
  | [] => some []
  | .str s :: r => (strsOf r).map (s :: ·)
  | _ :: _ => none
noncomputable def intsOf : List AV → Option (List Int)
  | [] => some []
  | .int s :: r => (intsOf r).map (s :: ·)
  | _ :: _ => none
noncomputable def alnumC (c : Nat) : Bool := (48 ≤ c && c ≤ 57) || (65 ≤ c && c ≤ 90) || (97 ≤ c && c ≤ 122)
noncomputable def lenV : AV → Option AV
  | .str s => if s.length ≤ lim then some (.int s.length) else none
  | .list s => if s.length ≤ lim then some (.int s.length) else none
  | .own s => if s.length ≤ lim then some (.int s.length) else none
  | .bytes s => if s.length ≤ lim then some (.int s.length) else none
  | _ => none
noncomputable def bytesOfV : AV → Option AV
  | .ba b => if b.length ≤ lim then some (.bytes b) else none
  | .list xs => (intsOf xs).bind fun l => if l.all (fun i => 0 ≤ i && i < 256) && decide (l.length ≤ lim) then some (.bytes (l.map Int.toNat)) else none
  | _ => none
noncomputable def biV (b : Bi) (x : AV) : Option AV := match b with
  | .len => lenV x
  | .ord => (asS x).bind fun s => (one1 s).map fun (c : Nat) => .int (c : Int)
  | .chr => (asI x).bind fun i => if 0 ≤ i ∧ i < 256 then some (.str [i.toNat]) else none
  | .isStr => (asS x).map fun _ => .bool true
  | .isBytes => (asB x).map fun _ => .bool true
  | .bytesOf => bytesOfV x
noncomputable def escC (c : Nat) : List Nat := if [40, 41, 91, 93, 123, 125, 63, 42, 43, 45, 124, 94, 36, 92, 46, 38, 126, 35, 32, 9, 10, 13, 11, 12].contains c then [92, c] else [c]
noncomputable def subAmp : List Nat → List Nat
  | [] => []
  | c :: r => if c == 38 || c == 126 || c == 124 then 92 :: c :: subAmp r else c :: subAmp r
noncomputable def replaceV (s : List Nat) (ys : List AV) : Option AV := (as2 ys).bind fun p => (asS p.1).bind fun a => (one1 a).bind fun c => (asS p.2).bind fun new => if s.length ≤ 1000 ∧ new.length ≤ 10 then some (.str (repC c new s)) else none
noncomputable def findV (s : List Nat) (ys : List AV) : Option AV := (as3 ys).bind fun p => (asS p.1).bind fun a => (one1 a).bind fun c => (asI p.2.1).bind fun i => (asI p.2.2).bind fun j => if 0 ≤ i ∧ i ≤ lim ∧ 0 ≤ j ∧ j ≤ s.length ∧ s.length ≤ lim then
      some (.int (match findC c ((s.take j.toNat).drop i.toNat) with | some k => i + (k : Int) | none => -1)) else none
noncomputable def joinV (sep : List Nat) (ys : List AV) : Option AV := (as1 ys).bind fun x => (asLO x).bind fun xs => (strsOf xs).bind fun l => if (joinL sep l).length ≤ lim ∧ sep.length ≤ lim then some (.str (joinL sep l)) else none
noncomputable def methV (m : Mth) (x : AV) (ys : List AV) : Option AV := (asS x).bind fun s => match m with
    | .replace => replaceV s ys
    | .find3 => findV s ys
    | .join => joinV s ys
    | .split => if ys = [] ∧ s.all (fun c => 32 ≤ c && c < 127) ∧ s.length ≤ 1000 then some (.list ((wordsAt 32 [] s).map .str)) else none
    | .isalnum => (one1 s).bind fun c => if ys = [] ∧ c < 128 then some (.bool (alnumC c)) else none
    | .tr => (one1 s).bind fun c => if c < 128 then some (.str (escC c)) else none
    | .sub => if s.length ≤ 1000 then some (.str (subAmp s)) else none
noncomputable def escP (s : List Nat) : List Nat := repC 45 [92, 45] (repC 92 [92, 92] s)
noncomputable def joinEscV (sep : AV) (l : AV) : Option AV := (asS sep).bind fun sep => (asO l).bind fun xs =>
  (strsOf xs).bind fun l => if l.length ≤ 1000 ∧ (∀ x ∈ l, x.length ≤ 1000) ∧ (joinL sep (l.map escP)).length ≤ lim ∧ sep.length ≤ lim then some (.str (joinL sep (l.map escP))) else none
noncomputable def rangeL (a b c : Int) : List Int := (List.range (Builtin.Range.rangeSize a b c).toNat).map fun (i : Nat) => a + (i : Int) * c
abbrev rangeOk (a b c : Int) : Prop := Builtin.Range.small a b c = true ∧ 0 ≤ Builtin.Range.rangeSize a b c ∧ c ≠ 0 ∧ c.natAbs < 1073741824
noncomputable def range3V (p : AV × AV × AV) : Option (List AV) := (asI p.1).bind fun a => (asI p.2.1).bind fun b => (asI p.2.2).bind fun c => if rangeOk a b c then some ((rangeL a b c).map .int) else none
noncomputable def rangeV (l : List AV) : Option (List AV) := match as1 l with
  | some b => range3V (.int 0, b, .int 1)
  | none => (as3 l).bind range3V
noncomputable def iterV : AV → Option (List AV)
  | .list xs => some xs
  | .own xs => some xs
  | .tuple xs => some xs
  | .str s => if s.all (· < 128) then some (s.map fun c => .str [c]) else none
  | .bytes b => some (b.map fun (c : Nat) => .int (c : Int))
  | _ => none
noncomputable def enumV : Nat → List AV → List AV
  | _, [] => []
  | i, x :: xs => .tuple [.int i, x] :: enumV (i + 1) xs
noncomputable abbrev Nv := Nat → Option AV
noncomputable def Nv.set (ρ : Nv) (k : Nat) (v : AV) : Nv := fun j => if j = k then some v else ρ j
noncomputable def unApp (k : Nat) : AV → Option AV
  | .app i => if i = k then none else some (.app i)
  | x => some x
noncomputable def Nv.bind (ρ : Nv) (k : Nat) (v : AV) : Nv := fun j => if j = k then some v else (ρ j).bind (unApp k)
noncomputable def noAB : AV → Option AV
  | .app _ => none
  | .ba _ => none
  | x => some x
noncomputable def Nv.only (ρ : Nv) (ks : List Nat) : Nv := fun j => if ks.contains j then (ρ j).bind noAB else none
noncomputable def bindT (t : Tgt) (v : AV) (ρ : Nv) : Option Nv := match t with
  | .one k => some (ρ.bind k v)
  | .two k j => (asT v).bind fun vs => (as2 vs).map fun p => (ρ.bind k p.1).bind j p.2
noncomputable def newT (t : Tgt) (ρ : Nv) : Bool := match t with
  | .one k => (ρ k).isNone
  | .two k j => (ρ k).isNone && (ρ j).isNone && k != j
noncomputable def bindC (t : Tgt) (v : AV) (ρ : Nv) : Option Nv := if newT t ρ then bindT t v ρ else none
noncomputable def notApp : AV → Option AV
  | .app _ => none
  | x => some x
noncomputable def frzV : AV → AV
  | .own xs => .list xs
  | x => x
noncomputable def Nv.frz (ρ : Nv) : Nv := fun k => (ρ k).map frzV
noncomputable def plainV : AV → Bool
  | .own _ | .ba _ | .app _ => false
  | _ => true
noncomputable def plains (vs : List AV) : Option (List AV) := if vs.all plainV && decide (vs.length ≤ 1000) then some vs else none
noncomputable def flatM {α β : Type} (f : α → Option (List β)) : List α → Option (List β)
  | [] => some []
  | x :: xs => (f x).bind fun a => (flatM f xs).map (a ++ ·)
section
variable (Φ : Nat → List AV → Option AV) (Γ : Nat → Option AV)
mutual
noncomputable def ev : PE → Nv → Option AV
  | .var k, ρ => (ρ k).bind notApp
  | .cst v, _ => some v
  | .glob k, _ => Γ k
  | .bin o a b, ρ => (ev a ρ).bind fun x => (ev b ρ).bind fun y => binV o x y
  | .neg a, ρ => (ev a ρ).bind fun x => (asI x).map fun i => .int (-i)
  | .not _, _ => none
  | .and es, ρ => evAnd es ρ
  | .or _, _ => none
  | .cmp a o b, ρ => (ev a ρ).bind fun x => (ev b ρ).bind fun y => (cmpV o x y).map .bool
  | .chain .., _ => none
  | .ite t a b, ρ => (evB t ρ).bind fun c => if c then ev a ρ else ev b ρ
  | .idx a i, ρ => (ev a ρ).bind fun x => (ev i ρ).bind fun y => idxV x y
  | .slc a lo hi st, ρ => (ev a ρ).bind fun x => (ev lo ρ).bind fun l => (ev hi ρ).bind fun h => (ev st ρ).bind fun t =>
      (partV l).bind fun l => (partV h).bind fun h => (partV t).bind fun t => slcV x l h t
  | .tup es, ρ => ((evs es ρ).bind plains).map .tuple
  | .lst es, ρ => ((evs es ρ).bind plains).map .list
  | .comp caps cls, ρ => (evC true cls ρ (ρ.only caps)).bind fun l => if l.length ≤ lim then some (.list l) else none
  | .call f es, ρ => ((evs es ρ).bind plains).bind fun vs => Φ f vs
  | .bi b a, ρ => (ev a ρ).bind fun x => biV b x
  | .meth m o es, ρ => (ev o ρ).bind fun x => (evs es ρ).bind fun vs => methV m x vs
  | .joinEsc o k, ρ => (ev o ρ).bind fun x => (ρ k).bind fun l => joinEscV x l
  | .fstr es, ρ => (evs es ρ).bind fun vs => (strsOf vs).bind fun l => if l.flatten.length ≤ lim then some (.str l.flatten) else none
noncomputable def evs : PEs → Nv → Option (List AV)
  | .nil, _ => some []
  | .cons e r, ρ => (ev e ρ).bind fun v => (evs r ρ).map (v :: ·)
noncomputable def evAnd : PEs → Nv → Option AV
  | .nil, _ => none
  | .cons e .nil, ρ => ev e ρ
  | .cons e r, ρ => (ev e ρ).bind fun v => (truthV v).bind fun b => if b then evAnd r ρ else some v
noncomputable def evB : PE → Nv → Option Bool
  | .not a, ρ => (evB a ρ).map not
  | .and es, ρ => evAll es ρ
  | .or es, ρ => evAny es ρ
  | .chain a o b o' c, ρ => (ev a ρ).bind fun x => (ev b ρ).bind fun y => (cmpV o x y).bind fun p => if p then (ev c ρ).bind fun z => cmpV o' y z else some false
  | .ite t a b, ρ => (evB t ρ).bind fun c => if c then evB a ρ else evB b ρ
  | .cmp a o b, ρ => (ev a ρ).bind fun x => (ev b ρ).bind fun y => cmpV o x y
  | .bi b a, ρ => ((ev a ρ).bind fun x => biV b x).bind truthV
  | .meth m o es, ρ => ((ev o ρ).bind fun x => (evs es ρ).bind fun vs => methV m x vs).bind truthV
  | .call f es, ρ => (((evs es ρ).bind plains).bind fun vs => Φ f vs).bind truthV
  | .var k, ρ => ((ρ k).bind notApp).bind truthV
  | .cst v, _ => truthV v
  | .idx a i, ρ => ((ev a ρ).bind fun x => (ev i ρ).bind fun y => idxV x y).bind truthV
  | _, _ => none
noncomputable def evAll : PEs → Nv → Option Bool
  | .nil, _ => some true
  | .cons e r, ρ => (evB e ρ).bind fun b => if b then evAll r ρ else some false
noncomputable def evAny : PEs → Nv → Option Bool
  | .nil, _ => some false
  | .cons e r, ρ => (evB e ρ).bind fun b => if b then some true else evAny r ρ
noncomputable def evC : Bool → PC → Nv → Nv → Option (List AV)
  | _, .done e, _, ρ => (ev e ρ).bind fun v => plains [v]
  | first, .clause t it ifs rest, ρ₀, ρ => (if first then evI it ρ₀ else evP it ρ).bind fun items =>
      flatM (fun v => (bindC t v ρ).bind fun ρ' => (evAll ifs ρ').bind fun b => if b then evC false rest ρ₀ ρ' else some []) items
noncomputable def evI : PI → Nv → Option (List AV)
  | .ex e, ρ => (ev e ρ).bind iterV
  | .range es, ρ => (evs es ρ).bind rangeV
  | .enum _, _ => none
noncomputable def evP : PI → Nv → Option (List AV)
  | .ex e, ρ => (ev e ρ).bind fun v => if plainV v then iterV v else none
  | .range es, ρ => (evs es ρ).bind rangeV
  | .enum _, _ => none
noncomputable def evL : PI → Nv → Option (List AV)
  | .ex e, ρ => (ev e ρ).bind fun v => if plainV v then iterV v else none
  | .range es, ρ => (evs es ρ).bind rangeV
  | .enum e, ρ => (ev e ρ).bind fun v => (asT v).map (enumV 0)
end
noncomputable def ownAt (ρ : Nv) (k : Nat) : Option (List AV) := (ρ k).bind asO
noncomputable def putV (x : AV) (j : Int) (v : AV) : Option AV := match x with
  | .own xs => if plainV v then (pyIdx xs.length j).map fun n => .own (xs.set n v) else none
  | .ba b => (asI v).bind fun c => if 0 ≤ c ∧ c < 256 then (pyIdx b.length j).map fun n => .ba (b.set n c.toNat) else none
  | _ => none
noncomputable def isIS : AV → Option Unit
  | .int _ => some ()
  | .str _ => some ()
  | _ => none
inductive Fl where
  | next | brk
  | ret (v : AV)
noncomputable def forL (body : Nv → Option (Nv × Fl)) (orelse : Nv → Option (Nv × Fl)) (t : Tgt) : List AV → Nv → Option (Nv × Fl)
  | [], ρ => orelse ρ
  | v :: vs, ρ => (bindT t v ρ).bind fun ρ' => (body ρ').bind fun (ρ'', f) => match f with
    | .next => forL body orelse t vs ρ''
    | .brk => some (ρ'', .next)
    | .ret x => some (ρ'', .ret x)
noncomputable def whileL (test : Nv → Option Bool) (body : Nv → Option (Nv × Fl)) : Nat → Nv → Option (Nv × Fl)
  | 0, _ => none
  | n + 1, ρ => (test ρ).bind fun b => if b then (body ρ).bind fun (ρ', f) => match f with
      | .next => whileL test body n ρ'
      | .brk => some (ρ', .next)
      | .ret x => some (ρ', .ret x)
    else some (ρ, .next)
variable (Ξ : Option (Nat → List AV → Option AV)) (N : Nat)
mutual
noncomputable def ex : PS → Nv → Option (Nv × Fl)
  | .asg k e, ρ => (ev Φ Γ e ρ).bind fun v => if plainV v then some (ρ.bind k v, .next) else none
  | .asgT k j e, ρ => (ev Φ Γ e ρ).bind fun v => (bindT (.two k j) v ρ).map (·, .next)
  | .asgL k, ρ => some (ρ.bind k (.own []), .next)
  | .asgApp k j, ρ => (ownAt ρ j).bind fun _ => if k ≠ j then some (ρ.bind k (.app j), .next) else none
  | .callX k f es, ρ => Ξ.bind fun X => (((evs Φ Γ es ρ).bind plains).bind fun vs => X f vs).bind fun v => if plainV v then some (ρ.bind k v, .next) else none
  | .newBA k e, ρ => Ξ.bind fun _ => (ev Φ Γ e ρ).bind fun v => (asI v).bind fun c => if 0 ≤ c ∧ c ≤ lim then some (ρ.bind k (.ba (List.replicate c.toNat 0)), .next) else none
  | .put k i e, ρ => (ev Φ Γ e ρ).bind fun v => (ev Φ Γ i ρ).bind fun j => (asI j).bind fun j => (ρ k).bind fun x => (putV x j v).map fun y => (ρ.set k y, .next)
  | .aug k e, ρ => (ρ k).bind fun x => (ev Φ Γ e ρ).bind fun v => (isIS x).bind fun _ => (addV x v).map fun r => (ρ.bind k r, .next)
  | .augPut k i e, ρ => (ev Φ Γ i ρ).bind fun j => (asI j).bind fun j => (ownAt ρ k).bind fun xs => (pyIdx xs.length j).bind fun n => (xs[n]?).bind fun x => (ev Φ Γ e ρ).bind fun v => (asS x).bind fun _ =>
      (addV x v).map fun r => (ρ.set k (.own (xs.set n r)), .next)
  | .del k i, ρ => (ev Φ Γ i ρ).bind fun j => (asI j).bind fun j => (ownAt ρ k).bind fun xs => (pyIdx xs.length j).map fun n => (ρ.set k (.own (xs.eraseIdx n)), .next)
  | .append k e, ρ => (ev Φ Γ e ρ).bind fun v => (ownAt ρ k).bind fun xs => if plainV v ∧ xs.length < lim then some (ρ.set k (.own (xs ++ [v])), .next) else none
  | .callApp k e, ρ => (ev Φ Γ e ρ).bind fun v => ((ρ k).bind asA).bind fun j => (ownAt ρ j).bind fun xs => if plainV v ∧ xs.length < lim then some (ρ.set j (.own (xs ++ [v])), .next) else none
  | .pop k, ρ => (ownAt ρ k).bind fun xs => if xs.isEmpty = false ∧ xs.length ≤ lim then some (ρ.set k (.own xs.dropLast), .next) else none
  | .iff t a b, ρ => (evB Φ Γ t ρ).bind fun c => if c then exs a ρ else exs b ρ
  | .whl t b, ρ => whileL (evB Φ Γ t) (exs b) N ρ
  | .loop t it b o, ρ => (evL Φ Γ it ρ).bind fun items => forL (exs b) (exs o) t items ρ
  | .ret e, ρ => (ev Φ Γ e ρ.frz).bind fun v => if plainV v then some (ρ, .ret v) else none
  | .brk, ρ => some (ρ, .brk)
  | .asrt e, ρ => (evB Φ Γ e ρ).bind fun b => if b then some (ρ, .next) else none
  | .dead, _ => none
noncomputable def exs : PSs → Nv → Option (Nv × Fl)
  | .nil, ρ => some (ρ, .next)
  | .cons s r, ρ => (ex s ρ).bind fun (ρ', f) => match f with
    | .next => exs r ρ'
    | f => some (ρ', f)
end
end
noncomputable def starless : AV → Bool
  | .str _ => true
  | .bool _ => true
  | _ => false
noncomputable def isIntV : AV → Bool
  | .int _ => true
  | _ => false
noncomputable def starArg : AV → Bool
  | .str _ => true
  | .list xs => xs.all isIntV
  | _ => false
structure Fn where
  ar : Nat
  body : PSs
  star : Option (Nat × PSs)
noncomputable def argNv (vs : List AV) : Nv := fun k => vs[k]?
noncomputable def retV : Nv × Fl → Option AV
  | (_, .ret v) => some v
  | _ => none
noncomputable def starTail (Φ : Nat → List AV → Option AV) (Γ : Nat → Option AV) (Ξ : Option (Nat → List AV → Option AV)) (N : Nat) (ok : Bool) (s : Option (Nat × PSs)) (ρ : Nv) : Option AV :=
  if ok then s.bind fun s => (exs Φ Γ Ξ N s.2 (ρ.bind s.1 .star)).bind fun r => (retV r).bind fun v => if starless v then some v else none else none
noncomputable def runFn (Φ : Nat → List AV → Option AV) (Γ : Nat → Option AV) (Ξ : Option (Nat → List AV → Option AV)) (N : Nat) (F : Fn) (vs : List AV) : Option AV :=
  if vs.length = F.ar then
    (exs Φ Γ Ξ N F.body (argNv vs)).bind fun r => match r.2 with
    | .ret v => some v
    | .next => starTail Φ Γ Ξ N (vs.all starArg) F.star r.1
    | .brk => none
  else none
noncomputable def runP (fns : Nat → Option Fn) (Γ : Nat → Option AV) (N : Nat) : Nat → Nat → List AV → Option AV
  | 0, _, _ => none
  | d + 1, f, vs => (fns f).bind fun F => runFn (runP fns Γ N d) Γ none N F vs
noncomputable def runPX (fns xfns : Nat → Option Fn) (Γ : Nat → Option AV) (N : Nat) : Nat → Nat → List AV → Option AV
  | 0, _, _ => none
  | d + 1, f, vs => (xfns f).bind fun F => runFn (runP fns Γ N d) Γ (some (runPX fns xfns Γ N d)) N F vs
end Mine
namespace Mine
open PySem PySem.W PyProof.Rows PySem.Calls
structure AOk (d : Nat) (A : Around) : Prop where
  hand : A.handled = none
  depth : A.depth + 4 * d + 8 < recursionLimit
  units : A.units + 100 * d + 200 < cLine
structure Nm where
  vars : List Str
  fns : List Str
  globs : List Str
  lam : Bool
  lp : Nat × Nat
  gp : Nat × Nat
structure Vc where
  C : Cfg
  N : Nm
  A : Around
  Φ : Nat → List AV → Option AV
  Γ : Nat → Option AV
  st : Option Addr
structure Ws where
  s : Shared
  Z : Fz
abbrev Vc.M (V : Vc) : Model := model V.C.prog V.C.w
abbrev Wp (V : Vc) {α : Type} (t : Sem α) (Q : α → Shared → Prop) (E : Value → Shared → Prop) (S : Ws) : Prop := wpAny V.M V.A t Q E S.s
abbrev Sd (V : Vc) (S : Ws) : Prop := WOk V.C S.s S.Z
def Stp (V : Vc) (S S' : Ws) : Prop := Go V.C S.s S.Z S'.s S'.Z
def Rp (V : Vc) (S : Ws) (x : AV) (v : Value) : Prop := RepR S.s.heap S.Z V.st x v
def Gv (V : Vc) (t : Sem Value) (S : Ws) (x : AV) : Prop := ∀ ⦃Q : Value → Shared → Prop⦄ ⦃E : Value → Shared → Prop⦄, (∀ v S', Stp V S S' → Rp V S' x v → Q v S'.s) → Wp V t Q E S
def Gb (V : Vc) (t : Sem Bool) (S : Ws) (b : Bool) : Prop := ∀ ⦃Q : Bool → Shared → Prop⦄ ⦃E : Value → Shared → Prop⦄, (∀ S', Stp V S S' → Q b S'.s) → Wp V t Q E S
theorem bindE {α β : Type} {x : Option α} {f : α → Option β} {y : β} {P : Prop} (h : x.bind f = some y) (k : ∀ a, x = some a → f a = some y → P) : P := by
  cases x with
  | none => cases h
  | some a => exact k a rfl h
theorem mapE {α β : Type} {x : Option α} {f : α → β} {y : β} {P : Prop} (h : x.map f = some y) (k : ∀ a, x = some a → f a = y → P) : P := by
  cases x with
  | none => cases h
  | some a => exact k a rfl (sIj h)
theorem iteE {α : Type} {c : Prop} [Decidable c] {a : α} {y : α} {P : Prop} (h : (if c then some a else none) = some y) (k : c → a = y → P) : P := by
  by_cases q : c
  · rw [if_pos q] at h; exact k q (sIj h)
  · rw [if_neg q] at h; cases h
theorem iteB {α : Type} {c : Prop} [Decidable c] {a : Option α} {y : α} {P : Prop} (h : (if c then a else none) = some y) (k : c → a = some y → P) : P := by
  by_cases q : c
  · rw [if_pos q] at h; exact k q h
  · rw [if_neg q] at h; cases h
theorem someE {α : Type} {a y : α} (h : some a = some y) : a = y := sIj h
theorem noneE {α : Type} {x : α} {P : Prop} (h : none = some x) : P := by cases h
theorem asIE {x : AV} {i : Int} (h : asI x = some i) : x = .int i := by
  cases x with
  | int _ => exact congrArg AV.int (someE h)
  | _ => exact noneE h
theorem asSE {x : AV} {i : List Nat} (h : asS x = some i) : x = .str i := by
  cases x with
  | str _ => exact congrArg AV.str (someE h)
  | _ => exact noneE h
theorem asBE {x : AV} {i : List Nat} (h : asB x = some i) : x = .bytes i := by
  cases x with
  | bytes _ => exact congrArg AV.bytes (someE h)
  | _ => exact noneE h
theorem asLE {x : AV} {i : List AV} (h : asL x = some i) : x = .list i := by
  cases x with
  | list _ => exact congrArg AV.list (someE h)
  | _ => exact noneE h
theorem asOE {x : AV} {i : List AV} (h : asO x = some i) : x = .own i := by
  cases x with
  | own _ => exact congrArg AV.own (someE h)
  | _ => exact noneE h
theorem asTE {x : AV} {i : List AV} (h : asT x = some i) : x = .tuple i := by
  cases x with
  | tuple _ => exact congrArg AV.tuple (someE h)
  | _ => exact noneE h
theorem asAE {x : AV} {i : Nat} (h : asA x = some i) : x = .app i := by
  cases x with
  | app _ => exact congrArg AV.app (someE h)
  | _ => exact noneE h
theorem one1E {x : List Nat} {c : Nat} (h : one1 x = some c) : x = [c] := by
  cases x with
  | nil => cases h
  | cons a x => cases x with
    | nil => exact congrArg (fun z => [z]) (someE h)
    | cons _ _ => cases h
theorem as1E {x : List AV} {c : AV} (h : as1 x = some c) : x = [c] := by
  cases x with
  | nil => cases h
  | cons a x => cases x with
    | nil => exact congrArg (fun z => [z]) (someE h)
    | cons _ _ => cases h
theorem as2E {x : List AV} {c : AV × AV} (h : as2 x = some c) : x = [c.1, c.2] := by
  cases x with
  | nil => cases h
  | cons a x => cases x with
    | nil => cases h
    | cons b x => cases x with
      | nil => exact congrArg (fun z : AV × AV => [z.1, z.2]) (someE h)
      | cons _ _ => cases h
theorem as3E {x : List AV} {c : AV × AV × AV} (h : as3 x = some c) : x = [c.1, c.2.1, c.2.2] := by
  cases x with
  | nil => cases h
  | cons a x => cases x with
    | nil => cases h
    | cons b x => cases x with
      | nil => cases h
      | cons d x => cases x with
        | nil => exact congrArg (fun z : AV × AV × AV => [z.1, z.2.1, z.2.2]) (someE h)
        | cons _ _ => cases h
abbrev mkS (x : List Nat) : Str := ⟨x.toArray⟩
theorem mkS_app (x y : List Nat) : mkS x ++ mkS y = mkS (x ++ y) := by
  show Str.mk (x.toArray ++ y.toArray) = Str.mk (x ++ y).toArray
  simp
theorem mkS_len (x : List Nat) : (mkS x).length = x.length := by simp [Str.length]
theorem mkS_inj {x y : List Nat} (h : mkS x = mkS y) : x = y := by
  have := congrArg (fun z : Str => z.cps.toList) h; simpa using this
section
variable {V : Vc} {S S' S'' : Ws} {x y : AV} {v u : Value} {b : Bool} {d : Nat}
theorem Stp.refl (w : Sd V S) : Stp V S S := Go.refl w
theorem Stp.trans (g : Stp V S S') (g' : Stp V S' S'') : Stp V S S'' := Go.trans g g'
theorem Stp.w (g : Stp V S S') : Sd V S' := Go.ok g
theorem Rp.go (g : Stp V S S') (w : Sd V S) (r : Rp V S x v) : Rp V S' x v := RepR.go g w r
theorem Gv.next {t : Sem Value} {Q : Value → Shared → Prop} {E : Value → Shared → Prop} (h : Gv V t S' x) (g : Stp V S S') (k : ∀ v S', Stp V S S' → Rp V S' x v → Q v S'.s) : Wp V t Q E S' := h fun v S2 g2 r => k v S2 (g.trans g2) r
theorem Gb.next {t : Sem Bool} {Q : Bool → Shared → Prop} {E : Value → Shared → Prop} (h : Gb V t S' b) (g : Stp V S S') (k : ∀ S', Stp V S S' → Q b S'.s) : Wp V t Q E S' := h fun S2 g2 => k S2 (g.trans g2)
abbrev Ws.tk (S : Ws) (tk : Nat) : Ws := ⟨{ S.s with toks := tk }, S.Z⟩
theorem Sd.tk (w : Sd V S) (tk : Nat) (h : S.s.toks ≤ tk) : Stp V S (S.tk tk) := Go.keeps w (fun _ _ e => e) h
theorem gInt {t : Sem Value} {i : Int} (w : Sd V S) (hr : ∀ (Q E : Value → Shared → Prop), (∀ k tk, Q (.int i k) { S.s with toks := tk }) → Wp V t Q E S) : Gv V t S (.int i) :=
  fun Q E k => wpAny_toks (hr _ E fun u tk htk => k _ (S.tk tk) (w.tk tk htk) ⟨u, rfl⟩)
theorem gStr {t : Sem Value} {x : List Nat} (w : Sd V S) (hr : ∀ (Q E : Value → Shared → Prop), (∀ k tk, Q (.str (mkS x) k) { S.s with toks := tk }) → Wp V t Q E S) : Gv V t S (.str x) :=
  fun Q E k => wpAny_toks (hr _ E fun u tk htk => k _ (S.tk tk) (w.tk tk htk) ⟨u, rfl⟩)
theorem gBool {t : Sem Value} {b : Bool} (w : Sd V S) (hr : ∀ (Q E : Value → Shared → Prop), (∀ tk, Q (.bool b) { S.s with toks := tk }) → Wp V t Q E S) : Gv V t S (.bool b) :=
  fun Q E k => wpAny_toks (hr _ E fun tk htk => k _ (S.tk tk) (w.tk tk htk) rfl)
theorem gBytes {t : Sem Value} {b : List Nat} (hb : ∀ x ∈ b, x < 256) (w : Sd V S) (hr : ∀ (Q E : Value → Shared → Prop), (∀ k tk, Q (.bytes (bytesA b) k) { S.s with toks := tk }) → Wp V t Q E S) : Gv V t S (.bytes b) :=
  fun Q E k => wpAny_toks (hr _ E fun u tk htk => k _ (S.tk tk) (w.tk tk htk) ⟨hb, u, rfl⟩)
abbrev NewO (V : Vc) (t : Sem Value) (S : Ws) (o : Obj) : Prop := ∀ (Q E : Value → Shared → Prop), (∀ h' a tk, (∀ b o, S.s.heap.get? b = some o → h'.get? b = some o) → S.s.heap.get? a = none → h'.get? a = some o → Q (.ref a) { S.s with heap := h', toks := tk }) → Wp V t Q E S
theorem NewO.get {t : Sem Value} {o : Obj} (h : NewO V t S o) (w : Sd V S) {Q E : Value → Shared → Prop} (k : ∀ a S', Stp V S S' → S'.Z a = some o → Q (.ref a) S'.s) : Wp V t Q E S :=
  wpAny_toks (h _ E fun h' a tk hk ha ho htk => k a ⟨{ S.s with heap := h', toks := tk }, S.Z.put a o⟩ (Go.keepsPut (tk := tk) w hk ha ho htk) put_self)
theorem gList {t : Sem Value} {xs : List AV} {vs : List Value} {n : Nat} (w : Sd V S) (hl : RepL S.Z V.st xs vs) (hr : NewO V t S (lstO vs n)) : Gv V t S (.list xs) :=
  fun Q E k => hr.get w fun a S' g ho => k _ S' g ⟨a, vs, n, rfl, ho, hl.mono g.mono⟩
theorem Rp.int {i : Int} (h : Rp V S (.int i) v) : ∃ t, v = .int i t := h
theorem Rp.str {i : List Nat} (h : Rp V S (.str i) v) : ∃ t, v = .str (mkS i) t := h
theorem Rp.bytes {i : List Nat} (h : Rp V S (.bytes i) v) : (∀ x ∈ i, x < 256) ∧ ∃ t, v = .bytes (bytesA i) t := h
def LstAt (V : Vc) (S : Ws) (xs : List AV) (v : Value) : Prop := ∃ a vs n, v = .ref a ∧ S.s.heap.get? a = some (lstO vs n) ∧ RepL S.Z V.st xs vs
theorem Rp.list {xs : List AV} (w : Sd V S) (h : Rp V S (.list xs) v) : LstAt V S xs v := h.elim fun a h => h.elim fun vs h => h.elim fun n h => ⟨a, vs, n, h.1, w.sub _ _ h.2.1, h.2.2⟩
theorem Rp.own {xs : List AV} (h : Rp V S (.own xs) v) : LstAt V S xs v := h
theorem Rp.lo {xs : List AV} (w : Sd V S) (e : asLO x = some xs) (h : Rp V S x v) : LstAt V S xs v := by
  cases x with
  | list _ => exact someE e ▸ h.list w
  | own _ => exact someE e ▸ h.own
  | _ => exact noneE e
end
theorem limSz {n : Nat} (h : n ≤ lim) : n ≤ sizeLine := by unfold lim at h; rw [sizeLine_eq]; lia
theorem bits_le {a : Int} (h : a.natAbs < 2 ^ 60) : Builtin.Int.intBits a ≤ 64 := by
  unfold Builtin.Int.intBits
  split
  · lia
  · rename_i q
    have h0 : a.natAbs ≠ 0 := by simpa using q
    have := (Nat.log2_lt h0).mpr h
    lia
theorem noPylong {a b : Int} (h0 : 0 < b) (h : b < 2 ^ 60) : Builtin.divisionGoesByPylong a b = false := by
  unfold Builtin.divisionGoesByPylong
  have h1 : b.natAbs ≠ 0 := by lia
  have := (Nat.log2_lt h1).mpr (show b.natAbs < 2 ^ 60 by lia)
  have e : (b == 0) = false := by simp; lia
  simp only [e, Bool.false_eq_true, if_false]
  rw [Bool.and_eq_false_iff]
  left
  simp; lia
theorem mul_eq (c : Nat) (n : Int) (h0 : 0 ≤ n) : Txt.mul (mkS [c]) n = mkS ((List.replicate n.toNat [c]).flatten) := by
  unfold Txt.mul
  have key : ∀ (k : Nat) (acc : List Nat), (List.replicate k (mkS [c]).cps).foldl (· ++ ·) acc.toArray = (acc ++ (List.replicate k [c]).flatten).toArray := by
    intro k
    induction k with
    | zero => intro acc; simp
    | succ k ih =>
      intro acc
      rw [List.replicate_succ, List.foldl_cons, show acc.toArray ++ (mkS [c]).cps = (acc ++ [c]).toArray by simp, ih, List.replicate_succ]
      simp
  split
  · have : n = 0 := by lia
    subst this; rfl
  · split
    · rename_i h1 h2
      have : n = 1 := by simpa [Str.length] using h2
      subst this; rfl
    · have := key n.toNat []
      rw [List.nil_append] at this
      exact congrArg Str.mk this
theorem bytesA_app (x y : List Nat) : bytesA x ++ bytesA y = bytesA (x ++ y) := by simp [bytesA]
def opOf : Bop → Operator
  | .add => .Add | .sub => .Sub | .mul => .Mult | .fdiv => .FloorDiv | .mod => .Mod | .pow => .Pow | .band => .BitAnd
theorem lookList {s : Shared} {a : Addr} {vs : List Value} {n : Nat} (hg : s.heap.get? a = some (lstO vs n)) : s.heap.IsList a vs.toArray := ⟨_, hg, rfl, n, rfl⟩
theorem mul_str_ok (c : Nat) (n : Int) (hz : 0 ≤ n ∧ n ≤ lim) : MulOk (mkS [c]) n := by
  unfold lim at hz
  refine ⟨by simp; lia, fun h1 h2 => ?_, fun h1 h2 => ?_⟩
  · have : (9223372036854775807 : Int) / n ≥ 1 := Int.le_ediv_of_mul_le (by lia) (by lia)
    rw [mkS_len]; show ¬ ((1 : Int) > 9223372036854775807 / n); lia
  · unfold Builtin.Str.tooLong; rw [mkS_len]; simp; rw [sizeLine_eq]; lia
theorem pow_small {a b : Int} (hz : 0 ≤ b ∧ b ≤ 100 ∧ 2 ≤ a ∧ a < 2 ^ 60) : Builtin.Int.intTooBig (((Builtin.Int.intBits a : Nat) : Int) * b) = false := by
  unfold Builtin.Int.intTooBig bitsLine
  have := bits_le (a := a) (by lia)
  have h2 : ((Builtin.Int.intBits a : Nat) : Int) * b ≤ 64 * 100 := Int.mul_le_mul (by lia) (by lia) (by lia) (by lia)
  simp; lia
theorem pow_ok {V : Vc} {S : Ws} {a b : Int} {t t' : Tok} (w : Sd V S) (hz : 0 ≤ b ∧ b ≤ 100 ∧ 2 ≤ a ∧ a < 2 ^ 60) : Gv V (binaryOp .Pow (.int a t) (.int b t')) S (.int (a ^ b.toNat)) := gInt w fun Q E k => AutoIntOpsIf.pow <| by
  rw [if_pos hz.1]
  by_cases h0 : (b == 0) = true
  · rw [if_pos h0]
    have h0 : b = 0 := by simpa using h0
    subst h0
    exact Int.pow_zero a ▸ k S.s.toks (S.s.toks + 1)
  · rw [if_neg h0, if_neg (by simp; lia), if_neg (by simp; lia), if_neg (by rw [pow_small hz]; decide)]
    exact k _ _
theorem add_list {V : Vc} {S : Ws} {a b : List AV} {v u : Value} (w : Sd V S) (hz : a.length + b.length ≤ lim) (hx : Rp V S (.list a) v) (hy : Rp V S (.list b) u) : Gv V (binaryOp .Add v u) S (.list (a ++ b)) := by
  obtain ⟨a, vs, n, rfl, ga, la⟩ := hx.list w
  obtain ⟨b, us, m, rfl, gb, lb⟩ := hy.list w
  refine gList (n := 0) w (RepL.append la lb) fun Q E k => ?_
  refine concat_meets (T := "list") ⟨_, ga, rfl⟩ ⟨_, gb, rfl⟩ noFill_list_add seq_list_add F.slot_list_add F.entry_list_add (F.args_list_add_2 _ _)
    (AutoSeq1.list___add___list_list_0 a vs.toArray n b us.toArray m (limSz (by rw [List.size_toArray, List.size_toArray, la.length, lb.length]; exact hz))) ?_
  exact ⟨ga, gb, k _ _ _ (fun _ _ e => Heap.get?_push_of_some _ e) (get_none (Nat.le_refl _)) (by rw [Heap.get?_push_size _ rfl]; simp)⟩
section
variable {V : Vc} {S : Ws} {x y r : AV} {v u : Value} {d : Nat}
theorem ints_core {f : Int → Int → Option AV} {o : Operator} (e : ((asI x).bind fun a => (asI y).bind fun b => f a b) = some r) (hx : Rp V S x v) (hy : Rp V S y u)
    (k : ∀ a b t t', f a b = some r → Gv V (binaryOp o (.int a t) (.int b t')) S r) : Gv V (binaryOp o v u) S r :=
  bindE e fun a ha e => bindE e fun b hb e => (asIE ha ▸ hx : Rp V S (.int a) v).int.elim fun t h => (asIE hb ▸ hy : Rp V S (.int b) u).int.elim fun t' h' => h ▸ h' ▸ k a b t t' e
theorem add_ok (w : Sd V S) (e : addV x y = some r) (hx : Rp V S x v) (hy : Rp V S y u) : Gv V (binaryOp .Add v u) S r := by
  cases x with
  | int a => exact mapE e fun b hb e => e ▸ hx.elim fun t h => (asIE hb ▸ hy : Rp V S (.int b) u).int.elim fun t' h' => h ▸ h' ▸ gInt w fun Q E k => add_int (k _ _)
  | str a =>
    exact bindE e fun b hb e => iteE e fun hz e => e ▸ hx.elim fun t h => (asSE hb ▸ hy : Rp V S (.str b) u).str.elim fun t' h' => h ▸ h' ▸ gStr w fun Q E k =>
      SB.add (fun t' tk => (mkS_app a b).symm ▸ k t' tk) (limSz (by rw [mkS_len, mkS_len]; exact hz))
  | list a => exact bindE e fun b hb e => iteE e fun hz e => e ▸ add_list w hz hx (asLE hb ▸ hy)
  | bytes a =>
    exact bindE e fun b hb e => iteE e fun hz e => e ▸ hx.2.elim fun t h => (asBE hb ▸ hy : Rp V S (.bytes b) u).2.elim fun t' h' => h ▸ h' ▸ gBytes (fun z hz => (mAp hz).elim (hx.1 z) ((asBE hb ▸ hy : Rp V S (.bytes b) u).1 z)) w fun Q E k =>
      KBy.add_bytes (limSz (by simp only [bytesA, List.size_toArray, List.length_map]; exact hz)) (fun t' tk => (bytesA_app a b).symm ▸ k t' tk)
  | _ => exact noneE e
theorem mul_ok (w : Sd V S) (e : mulV x y = some r) (hx : Rp V S x v) (hy : Rp V S y u) : Gv V (binaryOp .Mult v u) S r := by
  cases x with
  | int a => exact bindE e fun b hb e => iteE e fun hz e => e ▸ hx.elim fun t h => (asIE hb ▸ hy : Rp V S (.int b) u).int.elim fun t' h' => h ▸ h' ▸ gInt w fun Q E k => mul_int (k _ _) (IntMulOk.of_left (bits_le hz.1))
  | str a =>
    exact bindE e fun n hb e => iteE e fun hz e => (List.length_eq_one_iff.mp hz.1).elim fun c hc => e ▸ hx.elim fun t h => (asIE hb ▸ hy : Rp V S (.int n) u).int.elim fun t' h' => h ▸ h' ▸ gStr w fun Q E k =>
      SB.mul (hc ▸ mul_str_ok c n hz.2) fun t' tk => by subst hc; exact mul_eq c n hz.2.1 ▸ k t' tk
  | _ => exact noneE e
theorem bin_ok {o : Bop} (w : Sd V S) (e : binV o x y = some r) (hx : Rp V S x v) (hy : Rp V S y u) : Gv V (binaryOp (opOf o) v u) S r := by
  cases o with
  | add => exact add_ok w e hx hy
  | mul => exact mul_ok w e hx hy
  | sub => exact ints_core (f := fun a b => some (.int (a - b))) ((congrArg (Option.bind _) (funext fun a => by cases asI y <;> rfl)).trans e) hx hy fun a b t t' e => someE e ▸ gInt w fun Q E k => sub_int (k _ _)
  | fdiv => exact ints_core e hx hy fun a b t t' e => iteE e fun hz e => e ▸ gInt w fun Q E k => floordiv_int (Int.ne_of_gt hz.1) (k _ _) (.inl (noPylong hz.1 hz.2))
  | mod => exact ints_core e hx hy fun a b t t' e => iteE e fun hz e => e ▸ gInt w fun Q E k => mod_int' (Int.ne_of_gt hz.1) (k _ _)
  | pow => exact ints_core e hx hy fun a b t t' e => iteE e fun hz e => e ▸ pow_ok w hz
  | band => exact ints_core e hx hy fun a b t t' e => iteE e fun hz e => e ▸ gInt w fun Q E k => and_int ((by unfold Builtin.bitAnd; rw [dT hz.1, dT hz.2] : Builtin.bitAnd a b = ((a.toNat &&& b.toNat : Nat) : Int)) ▸ k _ _)
end
end Mine
namespace Mine
open PySem PySem.W PyProof.Rows PySem.Calls Builtin Builtin.Str StrLaws
theorem isPrefix_iff (y x : List Nat) : y.isPrefixOf x = true ↔ y.length ≤ x.length ∧ x.take y.length = y := by
  rw [List.isPrefixOf_iff_prefix]
  constructor
  · rintro ⟨t, rfl⟩; simp
  · rintro ⟨_, h⟩
    refine ⟨x.drop y.length, ?_⟩
    have := List.take_append_drop y.length x
    rw [h] at this; exact this
theorem hasSub_iff (y : List Nat) : ∀ x : List Nat, hasSub y x = true ↔ ∃ i, i + y.length ≤ x.length ∧ (x.drop i).take y.length = y
  | [] => by
    unfold hasSub
    constructor
    · intro h
      have : y = [] := by simpa using h
      subst this; exact ⟨0, by simp, by simp⟩
    · rintro ⟨i, h1, h2⟩
      have : y.length = 0 := by simp only [List.length_nil] at h1; lia
      simpa using List.length_eq_zero_iff.mp this
  | x :: xs => by
    unfold hasSub
    rw [Bool.or_eq_true, hasSub_iff y xs, isPrefix_iff]
    constructor
    · rintro (⟨h1, h2⟩ | ⟨i, h1, h2⟩)
      · exact ⟨0, by simpa using h1, by simpa using h2⟩
      · exact ⟨i + 1, by simp; lia, by simpa using h2⟩
    · rintro ⟨i, h1, h2⟩
      cases i with
      | zero => exact .inl ⟨by simpa using h1, by simpa using h2⟩
      | succ i => exact .inr ⟨i, by simp at h1; lia, by simpa using h2⟩
theorem hasSub_eq (y x : List Nat) : Txt.contains (mkS x) (mkS y) = hasSub y x := by
  rw [Bool.eq_iff_iff, hasSub_iff]
  unfold Txt.contains
  rw [found_iff]
  constructor
  · rintro ⟨i, h1, h2⟩
    rw [mkS_len, mkS_len] at h1
    refine ⟨i, h1, ?_⟩
    rw [subAt_eq] at h2
    simpa [mkS_len] using h2
  · rintro ⟨i, h1, h2⟩
    refine ⟨i, by rw [mkS_len, mkS_len]; exact h1, ?_⟩
    rw [subAt_eq]
    simpa [mkS_len] using h2
theorem repC_append (c : Nat) (new : List Nat) : ∀ a b : List Nat, repC c new (a ++ b) = repC c new a ++ repC c new b
  | [], _ => rfl
  | k :: r, b => by
    have ih := repC_append c new r b
    simp only [List.cons_append, repC]
    split <;> simp [ih]
theorem repC_free (c : Nat) (new : List Nat) : ∀ l : List Nat, c ∉ l → repC c new l = l
  | [], _ => rfl
  | k :: r, h => by
    have h1 : (k == c) = false := by simp; exact fun e => h (e ▸ List.mem_cons_self ..)
    have h2 : c ∉ r := fun m => h (List.mem_cons_of_mem _ m)
    unfold repC
    rw [h1, repC_free c new r h2]; rfl
theorem repC_join (c : Nat) (new : Str) : ∀ parts : List Str, (∀ p ∈ parts, c ∉ p.cps.toList) → repC c new.cps.toList (Str.join ⟨#[c]⟩ parts).cps.toList = (Str.join new parts).cps.toList
  | [], _ => rfl
  | [p], h => repC_free c _ _ (h p (List.mem_singleton.mpr rfl))
  | p :: q :: r, h => by
    have ih := repC_join c new (q :: r) fun a ha => h a (List.mem_cons_of_mem _ ha)
    show repC c _ (p ++ ⟨#[c]⟩ ++ Str.join ⟨#[c]⟩ (q :: r)).cps.toList = (p ++ new ++ Str.join new (q :: r)).cps.toList
    simp only [Str.cps_append, Array.toList_append]
    rw [repC_append, repC_append, ih, repC_free c _ _ (h p (List.mem_cons_self ..))]
    simp [repC]
theorem replace_eq (x new : List Nat) (c : Nat) : Txt.replace (mkS x) (mkS [c]) (mkS new) = mkS (repC c new x) := by
  have h : (Txt.replace (mkS x) ⟨#[c]⟩ (mkS new)).cps.toList = repC c new x := by
    rw [replace_one, ← repC_join c _ _ (split_free (mkS x) c), join_split]
  exact Str.ext' (by rw [← Array.toList_inj, show (mkS [c] : Str) = ⟨#[c]⟩ from rfl, h])
theorem occ_head_hi (x y : Str) (lo hi limit : Nat) (hl : 1 ≤ limit) :
    (occurrences x y lo hi limit = [] ∧ ∀ i, lo ≤ i → ¬ At x y hi i) ∨
    ∃ i r, occurrences x y lo hi limit = i :: r ∧ lo ≤ i ∧ At x y hi i ∧ ∀ k, lo ≤ k → k < i → ¬ At x y hi k := by
  rw [occ_eq]
  rcases occ_first x y hi limit hl (List.range' lo (hi + 1 - lo)) lo (fun i hi => by have := List.mem_range'_1.mp hi; lia) with ⟨h0, hn⟩ | ⟨pre, a, post, e, h0, ha, hn⟩
  · refine .inl ⟨by rw [h0], fun i hlo hi => ?_⟩
    exact hn i (by have := hi.1; rw [List.mem_range'_1]; lia) hi
  · have hs := range'_split_from e
    refine .inr ⟨a, ((forIn (List.range' lo (hi + 1 - lo)) ((#[] : Array Nat), lo) (occBody x y hi limit)).run.fst.toList).tail, ?_, hs.1, ha, fun k hk0 hk => hn k (hs.2 k hk0 hk)⟩
    generalize (forIn (List.range' lo (hi + 1 - lo)) ((#[] : Array Nat), lo) (occBody x y hi limit)).run.fst = arr at h0
    have h1 : arr.toList[0]? = some a := by simpa using h0
    cases hL : arr.toList with
    | nil => rw [hL] at h1; cases h1
    | cons b t => rw [hL] at h1; simp at h1; rw [h1]; rfl
theorem at_one (x : List Nat) (c hi i : Nat) (hh : hi ≤ x.length) : At (mkS x) (mkS [c]) hi i ↔ i < hi ∧ x[i]? = some c := by
  unfold At
  have e : (mkS [c]).length = 1 := rfl
  rw [e]
  constructor
  · rintro ⟨h1, h2⟩
    exact ⟨by lia, by have := (subAt_one (mkS x) c i).mp ⟨by rw [mkS_len]; show i + 1 ≤ x.length; lia, h2⟩; simpa using this⟩
  · rintro ⟨h1, h2⟩
    exact ⟨by lia, ((subAt_one (mkS x) c i).mpr (by simpa using h2)).2⟩
theorem findC_spec (c : Nat) : ∀ l : List Nat, (findC c l = none ∧ ∀ i : Nat, l[i]? ≠ some c) ∨ ∃ k, findC c l = some k ∧ l[k]? = some c ∧ ∀ i, i < k → l[i]? ≠ some c
  | [] => .inl ⟨rfl, fun i => by simp⟩
  | x :: xs => by
    unfold findC
    by_cases h : x = c
    · subst h
      exact .inr ⟨0, by simp, by simp, fun i hi => by lia⟩
    · rw [if_neg (by simpa using h)]
      rcases findC_spec c xs with ⟨h1, h2⟩ | ⟨k, h1, h2, h3⟩
      · refine .inl ⟨by rw [h1]; rfl, fun i => ?_⟩
        cases i with
        | zero => simpa using h
        | succ i => simpa using h2 i
      · refine .inr ⟨k + 1, by rw [h1]; rfl, by simpa using h2, fun i hi => ?_⟩
        cases i with
        | zero => simpa using h
        | succ i => simpa using h3 i (by lia)
theorem find_eq (x : List Nat) (c lo hi : Nat) (hh : hi ≤ x.length) :
    (match occurrences (mkS x) (mkS [c]) lo hi 1 with | i :: _ => (i : Int) | [] => -1) = (match findC c ((x.take hi).drop lo) with | some k => (lo : Int) + (k : Int) | none => -1) := by
  have key : ∀ i, ((x.take hi).drop lo)[i]? = if lo + i < hi then x[lo + i]? else none := fun i => by
    rw [List.getElem?_drop, List.getElem?_take]
  rcases occ_head_hi (mkS x) (mkS [c]) lo hi 1 (Nat.le_refl 1) with ⟨h0, hn⟩ | ⟨k, r, h0, hlo, hk, hn⟩
  · rw [h0]
    rcases findC_spec c ((x.take hi).drop lo) with ⟨h1, h2⟩ | ⟨j, h1, h2, h3⟩
    · rw [h1]
    · exfalso
      rw [key] at h2
      split at h2
      · exact hn (lo + j) (by lia) ((at_one x c hi _ hh).mpr ⟨by assumption, h2⟩)
      · cases h2
  · rw [h0]
    have hk' := (at_one x c hi k hh).mp hk
    rcases findC_spec c ((x.take hi).drop lo) with ⟨h1, h2⟩ | ⟨j, h1, h2, h3⟩
    · exfalso
      refine h2 (k - lo) ?_
      rw [key, show lo + (k - lo) = k by lia, if_pos hk'.1]; exact hk'.2
    · rw [h1]
      rw [key] at h2
      split at h2
      · rename_i hlt
        have a1 : ¬ lo + j < k := fun q => hn (lo + j) (by lia) q ((at_one x c hi _ hh).mpr ⟨hlt, h2⟩)
        have a2 : ¬ k - lo < j := fun q => h3 (k - lo) q (by rw [key, show lo + (k - lo) = k by lia, if_pos hk'.1]; exact hk'.2)
        show (k : Int) = lo + j
        lia
      · cases h2
theorem space_eq (c : Nat) (h : (32 ≤ c && c < 127) = true) : Unicode.isSpace c = (c == 32) := by
  have key : ∀ i : Fin 95, Unicode.isSpace (i.val + 32) = (i.val + 32 == 32) := by decide +kernel
  simp only [Bool.and_eq_true, decide_eq_true_eq] at h
  have := key ⟨c - 32, by lia⟩
  simpa [show c - 32 + 32 = c by lia] using this
def curW (x : List Nat) (cur : Nat) : Option Nat → List Nat
  | some b => (x.drop b).take (cur - b)
  | none => []
theorem sub_toL (x : List Nat) (i j : Nat) : (strSub (mkS x) i j).cps.toList = (x.drop i).take (j - i) := by rw [strSub_toList]
theorem sw_words (x : List Nat) (hx : ∀ c ∈ x, (32 ≤ c && c < 127) = true) : ∀ (m cur : Nat) (found : Array (Nat × Nat)) (st : Option Nat), cur + m = x.length → found.size + m < x.length + 1 →
    (∀ b, st = some b → b < cur) →
    (swEnd (mkS x) (forIn (List.range' cur m) ((none, found, st) : SwSt) (swBody (mkS x) (x.length + 1))).run).map (fun p => (strSub (mkS x) p.1 p.2).cps.toList) =
      found.toList.map (fun p => (strSub (mkS x) p.1 p.2).cps.toList) ++ wordsAt 32 (curW x cur st) (x.drop cur)
  | 0, cur, found, st, hm, hf, hb => by
    have hd : x.drop cur = [] := by rw [List.drop_eq_nil_iff]; lia
    rw [hd]
    unfold wordsAt
    cases st with
    | none => simp [swEnd, curW]
    | some b =>
      have hlt := hb b rfl
      have : ((x.drop b).take (cur - b)).isEmpty = false := by
        have : ((x.drop b).take (cur - b)).length ≠ 0 := by simp; lia
        cases h : (x.drop b).take (cur - b) with
        | nil => rw [h] at this; simp at this
        | cons _ _ => rfl
      simp only [curW, this]
      simp only [swEnd, List.range'_zero, List.forIn_nil, Id.run_pure, Array.toList_push, List.map_append, List.map_cons, List.map_nil, sub_toL, mkS_len, Bool.false_eq_true, if_false]
      rw [show x.length = cur by lia]
  | m + 1, cur, found, st, hm, hf, hb => by
    rw [List.range'_succ, List.forIn_cons]
    have hlt : cur < x.length := by lia
    have hc : (32 ≤ x[cur] && x[cur] < 127) = true := hx _ (List.getElem_mem hlt)
    have hg : (mkS x).cps.getD cur 0 = x[cur] := by simp [Array.getD, hlt]
    have hd : x.drop cur = x[cur] :: x.drop (cur + 1) := List.drop_eq_getElem_cons hlt
    have hsz : ¬ ((found.size == x.length + 1) = true) := by rw [beq_iff_eq]; lia
    have hsp : Unicode.isSpace ((mkS x).cps.getD cur 0) = (x[cur] == 32) := by rw [hg]; exact space_eq _ hc
    have step : swBody (mkS x) (x.length + 1) cur (none, found, st) = pure (ForInStep.yield (match st, x[cur] == 32 with
        | some b, true => (none, found.push (b, cur), none)
        | none, false => (none, found, some cur)
        | st, _ => (none, found, st))) := by
      unfold swBody
      dsimp only
      rw [if_neg hsz, hsp]
      cases st <;> cases (x[cur] == 32) <;> rfl
    rw [step, hd]
    unfold wordsAt
    cases st with
    | none =>
      cases h32 : x[cur] == 32
      · refine (sw_words x hx m (cur + 1) found (some cur) (by lia) (by lia) (fun b h => by cases h; lia)).trans ?_
        have e1 : curW x (cur + 1) (some cur) = [x[cur]] := by
          show (x.drop cur).take (cur + 1 - cur) = _
          rw [hd, show cur + 1 - cur = 1 by lia]; rfl
        rw [e1]; rfl
      · refine (sw_words x hx m (cur + 1) found none (by lia) (by lia) (fun _ h => by cases h)).trans ?_
        simp [curW]
    | some b =>
      have hbl := hb b rfl
      have hne : ((x.drop b).take (cur - b)).isEmpty = false := by
        have : ((x.drop b).take (cur - b)).length ≠ 0 := by simp; lia
        cases h : (x.drop b).take (cur - b) with
        | nil => rw [h] at this; simp at this
        | cons _ _ => rfl
      cases h32 : x[cur] == 32
      · refine (sw_words x hx m (cur + 1) found (some b) (by lia) (by lia) (fun b' h => by cases h; lia)).trans ?_
        simp only [curW, Bool.false_eq_true, if_false]
        congr 2
        rw [show cur + 1 - b = (cur - b) + 1 by lia, List.take_add_one, List.getElem?_drop, show b + (cur - b) = cur by lia, List.getElem?_eq_getElem hlt]
        rfl
      · refine (sw_words x hx m (cur + 1) (found.push (b, cur)) none (by lia) (by rw [Array.size_push]; lia) (fun _ h => by cases h)).trans ?_
        simp only [curW, hne]
        simp [curW, sub_toL]
theorem words_eq (x : List Nat) (hx : ∀ c ∈ x, (32 ≤ c && c < 127) = true) : (Txt.words (mkS x)).map (fun s => s.cps.toList) = wordsAt 32 [] x := by
  have h := sw_words x hx x.length 0 #[] none (by lia) (by simp) (fun _ h => by cases h)
  have h' : (spaceWords (mkS x) ((mkS x).length + 1)).map (fun p => (strSub (mkS x) p.1 p.2).cps.toList) = wordsAt 32 [] x := by
    rw [sw_eq, mkS_len]; simpa [curW] using h
  unfold Txt.words
  split
  · rename_i e
    have e' := beq_iff_eq.mp e
    rw [e'] at h'
    rw [← h']
    simp [sub_toL, mkS_len]
  · rw [← h']
    unfold PySem.wordsOf
    simp
end Mine
namespace Mine
open PySem PySem.W PyProof.Rows PySem.Calls
def Dat (h : Heap) (v : Value) (d : PyData) (n : Nat) : Prop := (∃ as, Reads h v d as) ∧ d.canLay0 = true ∧ d.depth ≤ n
def Dats (h : Heap) (vs : List Value) (ds : List PyData) (n : Nat) : Prop := (∃ as, ReadsAll h vs ds as) ∧ PyData.canLayAll0 ds = true ∧ PyData.depthAll ds ≤ n
theorem Dats.list {h : Heap} {a : Addr} {vs : List Value} {k n : Nat} {ds : List PyData} (r : Dats h vs ds (n - 1)) (hn : (n != 0) = true) (hg : h.get? a = some (lstO vs k)) : Dat h (.ref a) (.list ds) n :=
  ⟨r.1.elim fun as ra => ⟨_, .list hg rfl rfl ra⟩, r.2.1, lz (sl2 r.2.2) (Nat.le_of_eq (Nat.succ_pred_eq_of_ne_zero (bne_iff_ne.mp hn)))⟩
theorem Dats.tuple {h : Heap} {a : Addr} {vs : List Value} {k n : Nat} {ds : List PyData} (r : Dats h vs ds (n - 1)) (hn : (n != 0) = true) (hg : h.get? a = some (tupO vs k)) : Dat h (.ref a) (.tuple ds) n :=
  ⟨r.1.elim fun as ra => ⟨_, .tuple hg rfl rfl ra⟩, r.2.1, lz (sl2 r.2.2) (Nat.le_of_eq (Nat.succ_pred_eq_of_ne_zero (bne_iff_ne.mp hn)))⟩
theorem strOk_of {x : List Nat} (h : x.all (· < 1114112) = true) : (PyData.str (mkS x)).canLay0 = true := by
  show (mkS x).cps.all (· < 1114112) = true
  rw [← Array.all_toList]; exact h
section
variable {h : Heap} {Z : Fz} {st : Option Addr}
mutual
theorem dat (hs : ∀ b o, Z b = some o → h.get? b = some o) : ∀ (x : AV) (n : Nat) (v : Value), okE x n = true → RepV Z st x v → Dat h v (toP x) n
  | .none, _, _, _, r => r ▸ ⟨⟨_, .none⟩, rfl, Nat.zero_le _⟩
  | .bool b, _, _, _, r => r ▸ ⟨⟨_, .bool b⟩, rfl, Nat.zero_le _⟩
  | .int b, _, _, _, r => r.elim fun t r => r ▸ ⟨⟨_, .int b t⟩, rfl, Nat.zero_le _⟩
  | .str b, _, _, e, r => r.elim fun t r => r ▸ ⟨⟨_, .str _ t⟩, strOk_of e, Nat.zero_le _⟩
  | .list xs, n, _, e, r => r.elim fun a r => r.elim fun vs r => r.elim fun k r => r.1 ▸ (dats hs xs (n - 1) vs (bE e).2 r.2.2).list (bE e).1 (hs _ _ r.2.1)
  | .tuple xs, n, _, e, r => r.elim fun a r => r.elim fun vs r => r.elim fun k r => r.1 ▸ (dats hs xs (n - 1) vs (bE e).2 r.2.2).tuple (bE e).1 (hs _ _ r.2.1)
  | .own _, _, _, _, r => r.elim
  | .ba _, _, _, _, r => r.elim
  | .app _, _, _, _, r => r.elim
  | .bytes _, _, _, e, _ => absurd e fnt
  | .star, _, _, e, _ => absurd e fnt
theorem dats (hs : ∀ b o, Z b = some o → h.get? b = some o) : ∀ (xs : List AV) (n : Nat) (vs : List Value), okEs xs n = true → RepL Z st xs vs → Dats h vs (toPs xs) n
  | [], n, _, _, r => r ▸ ⟨⟨_, .nil⟩, rfl, Nat.zero_le _⟩
  | x :: xs, n, _, e, r => r.elim fun v r => r.elim fun us r => r.1 ▸
    have h1 := dat hs x n v (bE e).1 r.2.1
    have h2 := dats hs xs n us (bE e).2 r.2.2
    ⟨h1.1.elim fun as ra => h2.1.elim fun bs rb => ⟨_, .cons ra rb⟩, bM ⟨h1.2.1, h2.2.1⟩, Nat.max_le.mpr ⟨h1.2.2, h2.2.2⟩⟩
end
end
section
variable {V : Vc} {S : Ws} {x y : AV} {v u : Value} {r : Bool} {d : Nat}
theorem datR (w : Sd V S) (e : okE x 8 = true) (r : Rp V S x v) : Dat S.s.heap v (toP x) 8 := by
  cases x with
  | own xs => exact r.elim fun a r => r.elim fun vs r => r.elim fun k r => r.1 ▸ (dats w.sub xs 7 vs e r.2.2).list rfl r.2.1
  | ba _ => cases e
  | _ => exact dat (st := V.st) w.sub _ _ _ e r
theorem Dat.shaped {h : Heap} {v : Value} {d : PyData} (x : Dat h v d 8) : SeqAt.shaped d = true := bM ⟨x.2.1, dT (lz x.2.2 (by decide))⟩
def copOf : Cop → CmpOp
  | .eq => .Eq | .ne => .NotEq | .lt => .Lt | .le => .LtE | .gt => .Gt | .ge => .GtE | .isin => .In | .notin => .NotIn | .is => .Is | .isnot => .IsNot
theorem hUnits (hA : AOk d V.A) : V.A.units + 64 < cLine := Nat.lt_of_le_of_lt (by rw [Nat.add_assoc]; exact Nat.add_le_add_left (lz (by decide) (Nat.le_add_left 200 _)) _) hA.units
def Cmp2 (V : Vc) (S : Ws) (o o' : CmpOp) (v u : Value) (r : Bool) : Prop :=
  (∀ (Q E : Value → Shared → Prop), Q (.bool r) S.s → Wp V (compareOp o v u) Q E S) ∧ ∀ (Q E : Value → Shared → Prop), Q (.bool (!r)) S.s → Wp V (compareOp o' v u) Q E S
theorem deep_ok (hA : AOk d V.A) (w : Sd V S) (e : deepV x y = some r) (hx : Rp V S x v) (hy : Rp V S y u) : Cmp2 V S .Eq .NotEq v u r :=
  iteE e fun q e =>
    have h1 := datR w (bE q).1 hx
    have h2 := datR w (bE q).2 hy
    h1.1.elim fun as ra => h2.1.elim fun bs rb => ⟨fun Q E k => eq_dataH ra rb h1.shaped h2.shaped (hUnits hA) (e ▸ k), fun Q E k => ne_dataH ra rb h1.shaped h2.shaped (hUnits hA) (e ▸ k)⟩
theorem eqV_or (e : eqV x y = some r) : deepV x y = some r ∨ ∃ a b, x = .str a ∧ y = .str b ∧ (a == b) = r := by
  cases x with
  | str a => cases y with
    | str b => exact .inr ⟨a, b, rfl, rfl, someE e⟩
    | _ => exact .inl e
  | _ => exact .inl e
theorem eq_ok (hA : AOk d V.A) (w : Sd V S) (e : eqV x y = some r) (hx : Rp V S x v) (hy : Rp V S y u) : Cmp2 V S .Eq .NotEq v u r :=
  (eqV_or e).elim (fun e => deep_ok hA w e hx hy) fun ⟨a, b, e1, e2, e3⟩ => by
    subst e1 e2 e3
    obtain ⟨t, rfl⟩ := hx.str; obtain ⟨t', rfl⟩ := hy.str
    exact ⟨fun Q E k => P.eq_str k, fun Q E k => P.ne_str k⟩
def Cmp1 (V : Vc) (S : Ws) (o : CmpOp) (v u : Value) (r : Bool) : Prop := ∀ (Q E : Value → Shared → Prop), Q (.bool r) S.s → Wp V (compareOp o v u) Q E S
theorem Cmp2.not {o o' : CmpOp} {z : Option Bool} (h : ∀ q, z = some q → Cmp2 V S o o' v u q) (e : z.map not = some r) : Cmp1 V S o' v u r :=
  mapE e fun q hq e => e ▸ (h q hq).2
theorem is_ok (e : isV x y = some r) (hx : Rp V S x v) (hy : Rp V S y u) : Cmp2 V S .Is .IsNot v u r := by
  cases y with
  | star =>
    obtain ⟨a, ha, rfl⟩ := hy
    cases x with
    | star =>
      obtain ⟨b, hb, rfl⟩ := hx
      cases ha.symm.trans hb
      exact (someE e : true = r) ▸ ⟨fun Q E k => wpAny_is_ref_self k, fun Q E k => wpAny_isNot_ref_self k⟩
    | str _ =>
      obtain ⟨t, rfl⟩ := hx
      exact (someE e : false = r) ▸ ⟨fun Q E k => wpAny_is_other rfl (fun e => nomatch e) k, fun Q E k => wpAny_isNot_other rfl (fun e => nomatch e) k⟩
    | _ => exact noneE e
  | _ => exact noneE e
theorem inLT {ds : List PyData} {d : Nat} (hA : AOk d V.A) (h1 : Dat S.s.heap v (toP x) 8) (h2 : Dat S.s.heap u (.list ds) 8) (e : (ds.any fun z => PyData.eqv z (toP x)) = r) : Cmp2 V S .In .NotIn v u r :=
  have hu : V.A.units + 1 + min (PyData.depthAll ds) (toP x).depth < cLine := Nat.lt_of_le_of_lt (by rw [Nat.add_assoc]; exact Nat.add_le_add_left (lz (Nat.add_le_add_left (lz (Nat.min_le_right _ _) h1.2.2) 1) (by decide)) _) (hUnits hA)
  h1.1.elim fun as ra => h2.1.elim fun bs rb => e ▸ ⟨fun Q E k => SeqAt.in_list_reads rb ra h2.2.1 h1.2.1 hu k, fun Q E k => SeqAt.notIn_list_reads rb ra h2.2.1 h1.2.1 hu k⟩
theorem inTT {ds : List PyData} {d : Nat} (hA : AOk d V.A) (h1 : Dat S.s.heap v (toP x) 8) (h2 : Dat S.s.heap u (.tuple ds) 8) (e : (ds.any fun z => PyData.eqv z (toP x)) = r) : Cmp2 V S .In .NotIn v u r :=
  have hu : V.A.units + 1 + min (PyData.depthAll ds) (toP x).depth < cLine := Nat.lt_of_le_of_lt (by rw [Nat.add_assoc]; exact Nat.add_le_add_left (lz (Nat.add_le_add_left (lz (Nat.min_le_right _ _) h1.2.2) 1) (by decide)) _) (hUnits hA)
  h1.1.elim fun as ra => h2.1.elim fun bs rb => e ▸ ⟨fun Q E k => SeqAt.in_tuple_reads rb ra h2.2.1 h1.2.1 hu k, fun Q E k => SeqAt.notIn_tuple_reads rb ra h2.2.1 h1.2.1 hu k⟩
theorem in_ok (hA : AOk d V.A) (w : Sd V S) (e : isinV x y = some r) (hx : Rp V S x v) (hy : Rp V S y u) : Cmp2 V S .In .NotIn v u r := by
  cases y with
  | list b => exact iteE e fun q e => inLT hA (datR w (bE q).1 hx) (datR (x := .list b) w (bE q).2 hy) e
  | tuple b => exact iteE e fun q e => inTT hA (datR w (bE q).1 hx) (datR (x := .tuple b) w (bE q).2 hy) e
  | str b =>
    refine mapE e fun a ha e' => by
      clear e
      cases asSE ha
      obtain ⟨t, rfl⟩ := hx; obtain ⟨t', rfl⟩ := hy
      subst e'
      exact ⟨fun Q E k => SB.contains ((hasSub_eq a b).symm ▸ k), fun Q E k => SB.notContains ((hasSub_eq a b).symm ▸ k)⟩
  | _ => exact noneE e
theorem ord_core {fi : Int → Int → Bool} {fs : List Nat → List Nat → Bool} {o : CmpOp} (e : ordV fi fs x y = some r) (hx : Rp V S x v) (hy : Rp V S y u)
    (hi : ∀ a b t t', Cmp1 V S o (.int a t) (.int b t') (fi a b)) (hs : ∀ a b t t', Cmp1 V S o (.str (mkS a) t) (.str (mkS b) t') (fs a b)) : Cmp1 V S o v u r := by
  cases x with
  | int a => exact mapE e fun b hb e => hx.elim fun t h => (asIE hb ▸ hy : Rp V S (.int b) u).elim fun t' h' => h ▸ h' ▸ e ▸ hi a b t t'
  | str a => exact mapE e fun b hb e => hx.elim fun t h => (asSE hb ▸ hy : Rp V S (.str b) u).elim fun t' h' => h ▸ h' ▸ e ▸ hs a b t t'
  | _ => exact noneE e
theorem cmp_ok {o : Cop} (hA : AOk d V.A) (w : Sd V S) (e : cmpV o x y = some r) (hx : Rp V S x v) (hy : Rp V S y u) : Cmp1 V S (copOf o) v u r := by
  cases o with
  | eq => exact (eq_ok hA w e hx hy).1
  | ne => exact Cmp2.not (fun q hq => eq_ok hA w hq hx hy) e
  | lt => exact ord_core e hx hy (fun a b t t' Q E k => lt_int k) fun a b t t' Q E k => P.lt_str k
  | le => exact ord_core e hx hy (fun a b t t' Q E k => le_int k) fun a b t t' Q E k => P.le_str k
  | gt => exact ord_core e hx hy (fun a b t t' Q E k => gt_int k) fun a b t t' Q E k => P.gt_str k
  | ge => exact ord_core e hx hy (fun a b t t' Q E k => ge_int k) fun a b t t' Q E k => P.ge_str k
  | isin => exact (in_ok hA w e hx hy).1
  | notin => exact Cmp2.not (fun q hq => in_ok hA w hq hx hy) e
  | is => exact (is_ok e hx hy).1
  | isnot => exact Cmp2.not (fun q hq => is_ok hq hx hy) e
theorem lim63 {n : Nat} (h : n ≤ lim) : (n : Int) < 2 ^ 63 := by unfold lim at h; omega
theorem empty_eq {xs : List AV} {vs : List Value} (h : vs.length = xs.length) : (!vs.toArray.isEmpty) = !xs.isEmpty := by
  cases xs <;> cases vs <;> first | rfl | cases h
theorem truth_list (w : Sd V S) {xs : List AV} (e : (if xs.length ≤ lim then some (!xs.isEmpty) else none) = some r) (hx : LstAt V S xs v) : Gb V (truthy v) S r := fun Q E k =>
  iteE e fun hz e => hx.elim fun a h => h.elim fun vs h => h.elim fun n h => h.1 ▸ wpAny_truthy_list (lookList h.2.1) (lim63 (lz (Nat.le_of_eq h.2.2.length) hz)) ((empty_eq h.2.2.length).trans e ▸ k (S.tk _) (w.tk _ (Nat.le_add_right _ 2)))
theorem truth_ok (w : Sd V S) (e : truthV x = some r) (hx : Rp V S x v) : Gb V (truthy v) S r := by
  cases x with
  | bool b => exact fun Q E k => hx ▸ wpAny_truthy_bool ((someE e : b = r) ▸ k S (.refl w))
  | str x =>
    exact fun Q E k => iteE e fun hz e => hx.elim fun t h => h ▸ P.truthy_str (Int.not_le.mpr (lim63 (lz (Nat.le_of_eq (mkS_len x)) hz))) (by
      have : (((mkS x).length : Int) != 0) = !x.isEmpty := by rw [mkS_len]; cases x <;> simp; omega
      rw [this, e]; exact k (S.tk _) (w.tk _ (Nat.le_add_right _ 2)))
  | own xs => exact truth_list w e hx.own
  | list xs => exact truth_list w e (hx.list w)
  | _ => exact noneE e
end
theorem clip0_le (n : Nat) (i : Int) : clip0 n i ≤ n := by
  unfold clip0
  by_cases h : i < 0
  · rw [if_pos h]; exact Nat.sub_le _ _
  · rw [if_neg h]; exact Nat.min_le_right _ _
theorem clipAt_eq (n : Nat) (i : Int) : clipAt n i = clip0 n i := by
  unfold clipAt clip0
  by_cases h : i < 0
  · have e : i + (n : Int) = (n : Int) - ((-i).toNat : Nat) := by rw [Int.toNat_of_nonneg (Int.neg_nonneg.mpr (Int.le_of_lt h)), Int.sub_neg]; exact Int.add_comm _ _
    rw [if_pos h, if_pos h, Int.min_eq_left (by rw [e]; exact Int.sub_le_self _ (Int.natCast_nonneg _)), e, ← Int.toNat_sub n (-i).toNat]
    rcases Int.le_total 0 ((n : Int) - ((-i).toNat : Nat)) with q | q
    · rw [Int.max_eq_right q]
    · rw [Int.max_eq_left q, Int.toNat_of_nonpos q]; rfl
  · rw [if_neg h, if_neg h]
    obtain ⟨m, rfl⟩ := Int.eq_ofNat_of_zero_le (Int.not_lt.mp h)
    rw [Int.max_eq_right (Int.le_min.mpr ⟨Int.natCast_nonneg _, Int.natCast_nonneg _⟩)]
    rcases Nat.le_total m n with q | q
    · rw [Int.min_eq_left (Int.ofNat_le.mpr q), Int.toNat_natCast, Nat.min_eq_left q]
    · rw [Int.min_eq_right (Int.ofNat_le.mpr q), Int.toNat_natCast, Int.toNat_natCast, Nat.min_eq_right q]
theorem lo_eq (v : Option Int) (n : Nat) : kms_lo v n = (match v with | none => 0 | some i => clip0 n i) := by
  cases v <;> rfl
theorem hi_eq (v : Option Int) (n : Nat) : kms_hi v n = (match v with | none => n | some i => clip0 n i) := by
  cases v <;> rfl
theorem cut_eq {α : Type} (xs : List α) (lo hi : Option Int) : cut xs lo hi = (xs.drop (kms_lo lo xs.length)).take (kms_hi hi xs.length - kms_lo lo xs.length) := by
  rw [lo_eq, hi_eq]; rfl
theorem cut_len {α : Type} (xs : List α) (lo hi : Option Int) : (cut xs lo hi).length ≤ xs.length := by
  rw [cut_eq]; exact lz (List.length_take_le' _ _) (List.length_drop .. ▸ Nat.sub_le _ _)
theorem cut_mem {α : Type} {xs : List α} {lo hi : Option Int} {x : α} (h : x ∈ cut xs lo hi) : x ∈ xs := by
  rw [cut_eq] at h; exact List.mem_of_mem_drop (List.mem_of_mem_take h)
theorem pyIdx_some {n j : Nat} {i : Int} (e : pyIdx n i = some j) : n ≤ lim ∧ j < n ∧ ((0 ≤ i ∧ i = j) ∨ (i < 0 ∧ i + n = j)) :=
  iteB e fun h1 e => by
    by_cases h : i < 0
    · rw [if_pos h] at e; exact iteE e fun h2 e => ⟨h1, by lia, .inr ⟨h, by lia⟩⟩
    · rw [if_neg h] at e; exact iteE e fun h2 e => ⟨h1, by lia, .inl (by lia)⟩
section
variable {V : Vc} {S : Ws} {x y r : AV} {v u : Value} {d : Nat}
theorem listItem {vs : List Value} {n : Nat} {a : Addr} {i : Int} {t : Tok} {j : Nat} {x : Value} {Q E : Value → Shared → Prop} (hg : S.s.heap.get? a = some (lstO vs n)) (e : pyIdx vs.length i = some j) (hx : vs[j]? = some x) (k : Q x S.s) :
    Wp V (getItem (.ref a) (.int i t)) Q E S := by
  obtain ⟨h1, h2, h3⟩ := pyIdx_some e
  have h1 := lim63 h1
  rcases h3 with ⟨h3, h4⟩ | ⟨h3, h4⟩
  · exact wpAny_getItem_list (lookList hg) h3 (h4 ▸ Int.lt_trans (Int.ofNat_lt.mpr h2) h1) (by rw [h4]; simpa using hx) k
  · exact wpAny_getItem_list_neg (lookList hg) h3 (by rw [List.size_toArray]; lia) (by lia) (by rw [List.size_toArray, h4]; simpa using hx) k
theorem idx_list {xs : List AV} {i : Int} {t : Tok} (w : Sd V S) (e : ((pyIdx xs.length i).bind (xs[·]?)) = some r) (hx : LstAt V S xs v) : Gv V (getItem v (.int i t)) S r := fun Q E k =>
  bindE e fun j hj hc => hx.elim fun a h => h.elim fun vs h => h.elim fun n h => (h.2.2.get hc).elim fun y hy => h.1 ▸ listItem h.2.1 (h.2.2.length ▸ hj) hy.1 (k _ S (.refl w) hy.2.toR)
theorem seqIndex_of {i : Int} {n j : Nat} (h2 : j < n) (h3 : (0 ≤ i ∧ i = j) ∨ (i < 0 ∧ i + n = j)) : seqIndex? i n = some j := by
  have e : (if i < 0 then i + n else i) = (j : Int) := by
    rcases h3 with h | h
    · rw [if_neg (Int.not_lt.mpr h.1)]; exact h.2
    · rw [if_pos h.1]; exact h.2
  unfold seqIndex?
  dsimp only
  rw [e, dT (Int.natCast_nonneg j), dT (Int.ofNat_lt.mpr h2)]; rfl
theorem idx_str' {xs : List Nat} {i : Int} {t u : Tok} {j c : Nat} (w : Sd V S) (hj : pyIdx xs.length i = some j) (hc : xs[j]? = some c) : Gv V (getItem (.str (mkS xs) u) (.int i t)) S (.str [c]) := by
  obtain ⟨h1, h2, h3⟩ := pyIdx_some hj
  have hch : Txt.charAt (mkS xs) i = some c := by
    unfold Txt.charAt
    rw [mkS_len, seqIndex_of h2 h3]; simpa using hc
  refine gStr w fun Q E k => SB.getItem (by unfold lim at h1; unfold fitsSsize; simp; lia) (by rw [hch]; rfl) ?_
  have : Txt.item (mkS xs) i = mkS [c] := by unfold Txt.item; rw [hch]; rfl
  exact this ▸ k _ _
theorem byte_at {b : List Nat} {i : Int} {j c : Nat} (hb : ∀ x ∈ b, x < 256) (hi : i.toNat = j) (hc : b[j]? = some c) : (((b.map UInt8.ofNat).getD i.toNat 0).toNat : Nat) = c := by
  have := hb c (List.mem_of_getElem? hc)
  rw [hi, List.getD_eq_getElem?_getD, List.getElem?_map, hc]
  simp [UInt8.toNat_ofNat]; lia
theorem idx_bytes {b : List Nat} {i : Int} {t : Tok} {j c : Nat} (w : Sd V S) (h0 : 0 ≤ i) (hx : Rp V S (.bytes b) v) (hj : pyIdx b.length i = some j) (hc : b[j]? = some c) : Gv V (getItem v (.int i t)) S (.int (c : Int)) := by
  obtain ⟨hb, u, rfl⟩ := hx.bytes
  obtain ⟨h1, h2, h3⟩ := pyIdx_some hj
  unfold lim at h1
  exact gInt w fun Q E k => getItem_bytes (by simp; lia) h0 (by simp; lia) (by rw [byte_at hb (by lia) hc]; exact k _ _)
theorem idx_ok {i : Int} {t : Tok} (w : Sd V S) (e : idxI x i = some r) (hx : Rp V S x v) : Gv V (getItem v (.int i t)) S r := by
  cases x with
  | str xs => exact mapE e fun c hc e => bindE hc fun j hj hc => e ▸ hx.elim fun u h => h ▸ idx_str' w hj hc
  | list xs => exact idx_list w e (hx.list w)
  | own xs => exact idx_list w e hx.own
  | bytes b => exact iteB e fun h0 e => mapE e fun c hc e => bindE hc fun j hj hc => e ▸ idx_bytes w h0 hx hj hc
  | _ => exact noneE e
theorem RepL.reverse {Z : Fz} {st : Option Addr} : ∀ {xs : List AV} {vs : List Value}, RepL Z st xs vs → RepL Z st xs.reverse vs.reverse
  | [], _, h => h ▸ .nil
  | x :: xs, _, h => h.elim fun v h => h.elim fun r h => by
    rw [h.1, List.reverse_cons, List.reverse_cons]; exact (RepL.reverse h.2.2).append (.cons h.2.1 .nil)
theorem slc_list {sl : Addr} {xs : List AV} {vl vu vt : Value} {lo hi : Option Int} (w : Sd V S) (hx : LstAt V S xs v) (hz : xs.length ≤ lim)
    (hs : S.s.heap.IsSliceOf sl vl vu vt) (pl : IsPart vl lo) (pu : IsPart vu hi) (pt : IsPart vt none) : Gv V (getItem v (.ref sl)) S (.list (cut xs lo hi)) := by
  obtain ⟨a, vs, n, rfl, hg, hl⟩ := hx
  have e1 := hl.length
  refine gList (n := 0) (vs := cut vs lo hi) w ?_ fun Q E k => wpAny_getItem_list_slice (lookList hg) hs pl pu pt (fun e => nomatch e) ?_ (limSz (by rw [List.size_toArray, e1]; exact hz))
  · rw [cut_eq, cut_eq, e1]; exact (hl.drop _).take _
  · refine k _ _ _ (fun _ _ e => Heap.get?_push_of_some _ e) (get_none (Nat.le_refl _)) ?_
    rw [Heap.get?_push_size _ rfl, kms_pick_eq, cut_eq]; rfl
theorem slc_rev {sl : Addr} {xs : List AV} {vl vu vt : Value} (w : Sd V S) (hx : LstAt V S xs v) (hz : xs.length ≤ lim)
    (hs : S.s.heap.IsSliceOf sl vl vu vt) (pl : IsPart vl none) (pu : IsPart vu none) (pt : IsPart vt (some (-1))) : Gv V (getItem v (.ref sl)) S (.list xs.reverse) := by
  obtain ⟨a, vs, n, rfl, hg, hl⟩ := hx
  refine gList (n := 0) (vs := vs.reverse) w hl.reverse fun Q E k => wpAny_getItem_list_slice (lookList hg) hs pl pu pt (by decide) ?_ (limSz (by rw [List.size_toArray, hl.length]; exact hz))
  refine k _ _ _ (fun _ _ e => Heap.get?_push_of_some _ e) (get_none (Nat.le_refl _)) ?_
  rw [Heap.get?_push_size _ rfl, krv_pick]
theorem slice_eq (x : List Nat) (lo hi : Option Int) : Txt.slice (mkS x) lo hi = mkS (cut x lo hi) := by
  have e : Builtin.Str.strSliceIndices lo hi 1 (mkS x).length = sliceRange (sliceBounds lo hi none x.length).1 (sliceBounds lo hi none x.length).2.1 1 := by rw [mkS_len]; rfl
  rw [kms_bounds] at e
  dsimp only at e
  rw [sliceRange_one] at e
  unfold Txt.slice
  rw [e]
  have hc : (List.map (fun x_1 => kms_lo lo x.length + x_1) (List.range (kms_hi hi x.length - kms_lo lo x.length))).filterMap ((mkS x).cps[·]?) = cut x lo hi := by
    rw [pick_run, cut_eq]
  split
  · rename_i h
    simp only [beq_self_eq_true, Bool.true_and, beq_iff_eq, mkS_len, List.length_map, List.length_range] at h
    have hlo : kms_lo lo x.length = 0 ∨ x.length = 0 := by
      have : kms_hi hi x.length ≤ x.length := by
        rw [hi_eq]
        cases hi with
        | none => exact Nat.le_refl _
        | some i => exact clip0_le x.length i
      lia
    rw [cut_eq, h]
    rcases hlo with h0 | h0
    · rw [h0, List.drop_zero, List.take_length]
    · have : x = [] := List.length_eq_zero_iff.mp h0
      subst this; simp
  · rw [hc]
def ptV : Option (Int × Tok) → Value
  | none => .none
  | some (i, t) => .int i t
theorem bytes_rev {b : Array UInt8} {u : Tok} {sl : Addr} {vt : Value} (hs : S.s.heap.IsSliceOf sl .none .none vt) (pt : IsPart vt (some (-1))) (hz : b.size ≤ 16777216) {Q E : Value → Shared → Prop}
    (k : ∀ t' tk, Q (.bytes b.reverse t') { S.s with toks := tk }) : Wp V (getItem (.bytes b u) (.ref sl)) Q E S := by
  refine getItem_meets (S := fun _ R s => s.heap.IsSliceOf sl .none .none vt ∧ b.size ≤ 16777216 ∧ ∀ t' k, R (.ok (.ret (.bytes b.reverse t'))) { s with toks := k }) (typeIs_bytes S.s _ u) (by decide) FB.slot_bytes_getitem FB.entry_bytes_getitem (FB.args_bytes_getitem_2 _ _) ?_ ⟨hs, hz, k⟩
  clear hs hz k
  refine .of_wp fun prog w A R s hS => ?_
  obtain ⟨⟨o, ho, hc, hd⟩, hsz, h⟩ := hS
  have hT : s.TypeIs (.ref sl) "slice" := ⟨o, ho, hc⟩
  show wpAny _ _ (Builtin.Bytes.payload (.bytes b u) >>= fun r => _) _ _ s
  refine wpAny_bind (wpAny_of_eq (a := b) rfl ?_)
  show wpAny _ _ (Builtin.Bytes.subscript? (.ref sl) >>= fun r => _) _ _ s
  refine wpAny_bind ?_
  unfold Builtin.Bytes.subscript?
  refine wpAny_bind (wpAny_specialOf hT slice_no_index (wpAny_pure ?_))
  refine wpAny_bind (wpAny_typeOf hT ?_)
  show wpAny _ _ (Builtin.Bytes.sliceParts (.ref sl) >>= fun r => _) _ _ s
  refine wpAny_bind ?_
  unfold Builtin.Bytes.sliceParts
  cases pt
  refine wpAny_bind (wpAny_field (x := .int _ _) ho hd rfl ?_)
  kby_int
  refine wpAny_ite (KBy.ite_no (show ¬ ((rawInt (-1) == rawInt 0) = true) from by decide) ?_)
  refine wpAny_bind (wpAny_field (x := .none) ho hd rfl ?_)
  kby_none
  refine wpAny_bind (wpAny_field (x := .none) ho hd rfl ?_)
  kby_none
  refine wpAny_pure ?_
  have go : wpAny (model prog w) A.in1 (sliceIndices (rawPart none) (rawPart none) (rawPart (some (-1))) b.size) (fun r s' => r = sliceBounds none none (some (-1)) b.size ∧ s' = s) (fun _ _ => False) s :=
    wpAny_of_eq (sliceIndices_raw none none (some (-1)) b.size (by decide)) ⟨rfl, rfl⟩
  refine wpAny_bind (wpAny_mono go (fun r s' hr => ?_) fun _ _ e => e.elim)
  obtain ⟨hr1, hr2⟩ := hr
  subst hr1 hr2
  rw [krv_bounds]
  refine wpAny_ite (KBy.ite_no (by simp) ?_)
  have e : Builtin.Bytes.sliced b ((b.size : Int) - 1) (-1) (-1) = b.reverse := by
    unfold Builtin.Bytes.sliced
    rw [krv_sliceRange, krv_range, List.filterMap_reverse, krv_all, ← Array.toList_reverse]
  dsimp only
  rw [e]
  exact wpAny_bind (wpAny_mkBytes (wpAny_pure ⟨_, rfl, h _ _⟩) (by rw [sizeLine_eq]; simpa using hsz))
theorem slc_str {xs : List Nat} {t : Tok} {sl : Addr} {lo hi : Option (Int × Tok)} (w : Sd V S) (hz : xs.length ≤ lim)
    (hs : S.s.heap.get? sl = some { cls := .type "slice", data := .fields #[ptV lo, ptV hi, ptV none] }) : Gv V (getItem (.str (mkS xs) t) (.ref sl)) S (.str (cut xs (lo.map Prod.fst) (hi.map Prod.fst))) := gStr w fun Q E k => by
  have hQ := fun (t' : Tok) (tk : Nat) => slice_eq xs (lo.map Prod.fst) (hi.map Prod.fst) ▸ k t' tk
  refine wpAny_getItem_str_slice (l := lo) (u := hi) (st := none) ?_ rfl ?_
  · cases lo <;> cases hi <;> exact ⟨_, hs, rfl, rfl⟩
  · exact post_val_or_str (s := S.s) (c := ((1 : Int) == 1 && (Builtin.Str.strSliceIndices (lo.map Prod.fst) (hi.map Prod.fst) 1 (mkS xs).length).length == (mkS xs).length) = true) (y := mkS xs) (t := t)
      (z := ⟨((Builtin.Str.strSliceIndices (lo.map Prod.fst) (hi.map Prod.fst) 1 (mkS xs).length).filterMap ((mkS xs).cps[·]?)).toArray⟩) (Q := Q)
      ⟨lz (Txt.slice_le (mkS xs) (lo.map Prod.fst) (hi.map Prod.fst)) (limSz (by rw [mkS_len]; exact hz)), hQ⟩
theorem picked_cut (b : List Nat) (lo hi : Option Int) : KBy.picked (bytesA b) lo hi = bytesA (cut b lo hi) := by
  rw [KBc.picked_eq]
  have e1 : (bytesA b).size = b.length := by simp [bytesA]
  have e2 : (bytesA b).toList = b.map UInt8.ofNat := by simp [bytesA]
  rw [e1, e2]
  unfold bytesA cut
  have l1 : lo.elim 0 (clipAt b.length) = (match lo with | none => 0 | some i => clip0 b.length i) := by
    cases lo with
    | none => rfl
    | some i => exact clipAt_eq _ _
  have l2 : hi.elim b.length (clipAt b.length) = (match hi with | none => b.length | some i => clip0 b.length i) := by
    cases hi with
    | none => rfl
    | some i => exact clipAt_eq _ _
  rw [l1, l2, List.map_take, List.map_drop] <;> (cases lo <;> cases hi <;> rfl)
theorem ptPart (o : Option (Int × Tok)) : IsPart (ptV o) (o.map Prod.fst) := by
  cases o with
  | none => exact .none
  | some p => exact .int _ _
theorem slc_bytes {b : List Nat} {sl : Addr} {lo hi : Option (Int × Tok)} (w : Sd V S) (hz : b.length ≤ lim) (hx : Rp V S (.bytes b) v)
    (hs : S.s.heap.IsSliceOf sl (ptV lo) (ptV hi) (ptV none)) : Gv V (getItem v (.ref sl)) S (.bytes (cut b (lo.map Prod.fst) (hi.map Prod.fst))) := by
  obtain ⟨hb, t, rfl⟩ := hx.bytes
  have hp := picked_cut b (lo.map Prod.fst) (hi.map Prod.fst)
  exact gBytes (fun x hx => hb x (cut_mem hx)) w fun Q E k => getItem_meets (typeIs_bytes S.s _ t) (by decide) FB.slot_bytes_getitem FB.entry_bytes_getitem (FB.args_bytes_getitem_2 _ _)
    (KBc.meets_slice2 (bytesA b) t sl (ptPart lo) (ptPart hi)) ⟨hs, limSz (by rw [hp]; unfold bytesA; rw [List.size_toArray, List.length_map]; exact lz (cut_len _ _ _) hz), fun t' tk => hp ▸ k t' tk⟩
theorem noTok {lo : Option (Int × Tok)} (h : lo.map Prod.fst = none) : lo = none := by cases lo with | none => rfl | some _ => cases h
theorem slc_ok {sl : Addr} {lo hi tt : Option (Int × Tok)} (w : Sd V S) (e : slcV x (lo.map Prod.fst) (hi.map Prod.fst) (tt.map Prod.fst) = some r) (hx : Rp V S x v)
    (hs : S.s.heap.get? sl = some { cls := .type "slice", data := .fields #[ptV lo, ptV hi, ptV tt] }) : Gv V (getItem v (.ref sl)) S r := by
  have hs' : S.s.heap.IsSliceOf sl (ptV lo) (ptV hi) (ptV tt) := ⟨_, hs, rfl, rfl⟩
  cases tt with
  | none =>
    cases x with
    | str xs => exact iteE e fun hz e => e ▸ hx.elim fun t h => h ▸ slc_str w hz hs
    | list xs => exact iteE e fun hz e => e ▸ slc_list w (hx.list w) hz hs' (ptPart _) (ptPart _) .none
    | own xs => exact iteE e fun hz e => e ▸ slc_list w hx.own hz hs' (ptPart _) (ptPart _) .none
    | bytes b => exact iteE e fun hz e => e ▸ slc_bytes w hz hx hs'
    | _ => exact noneE e
  | some p =>
    refine iteB e fun h e' => ?_
    clear e
    obtain ⟨h1, h2, h3⟩ := h
    cases noTok h2; cases noTok h3
    have pt : IsPart (ptV (some p)) (some (-1)) := h1 ▸ ptPart (some p)
    cases x with
    | list xs => exact iteE e' fun hz e => e ▸ slc_rev w (hx.list w) hz hs' .none .none pt
    | bytes b =>
      exact iteE e' fun hz e => e ▸ by
        obtain ⟨hb, t, rfl⟩ := hx.bytes
        exact gBytes (fun x hx => hb x (List.mem_reverse.mp hx)) w fun Q E k => bytes_rev hs' pt (by unfold lim at hz; simp [bytesA]; lia) fun t' tk => (show (bytesA b).reverse = bytesA b.reverse by simp [bytesA]) ▸ k _ _
    | _ => exact noneE e'
end
abbrev Sc := List (Str × NameKind)
noncomputable def rdOk (sc : Sc) (id : Str) : Bool := (sc.lookup id == some .local || sc.lookup id == some .cell || sc.lookup id == some .free) && id != "__debug__" && id != "__classdict__"
noncomputable def glOk (sc : Sc) (id : Str) : Bool := sc.lookup id == some .globalImplicit && id != "__debug__"
noncomputable def wrOk (sc : Sc) (id : Str) : Bool := (sc.lookup id == some .local || sc.lookup id == some .cell)
inductive IsC : AV → Const → Prop
  | none : IsC .none .none
  | bool (b) : IsC (.bool b) (.bool b)
  | int (i) : IsC (.int i) (.int i)
  | str (x) : IsC (.str x) (.str (mkS x))
noncomputable def biName : Bi → Str
  | .len => "len" | .ord => "ord" | .chr => "chr" | .isStr => "isinstance" | .isBytes => "isinstance" | .bytesOf => "bytes"
noncomputable def mthName : Mth → Str
  | .replace => "replace" | .find3 => "find" | .join => "join" | .split => "split" | .isalnum => "isalnum" | .tr => "translate" | .sub => "sub"
def RepE (es : PEs) (l : List Expr) : Prop := ∃ a b n p n' p', es = .cons (.cst (.str a)) (.cons (.cst (.str b)) .nil) ∧ l = [.Constant (.str (mkS a)) n p, .Constant (.str (mkS b)) n' p'] ∧ a ≠ b
def MoreE (sc : Sc) (b : Bi) (l : List Expr) : Prop := match b with
  | .isStr => ∃ p, l = [.Name "str" p] ∧ glOk sc "str" = true
  | .isBytes => ∃ p, l = [.Name "bytes" p] ∧ glOk sc "bytes" = true
  | _ => l = []
noncomputable def plainTest (e : Expr) : Bool := e.ctorIdx != 0 && e.ctorIdx != 3 && e.ctorIdx != 5 && e.ctorIdx != 15
noncomputable def relK (sc : Sc) (n : Str) (k : NameKind) : NameKind := if k == .free && sc.lookup n == some .cell then .cell else k
noncomputable def innerSc (sc : Sc) (names : Sc) : Sc := names.map fun x => (x.1, relK sc x.1 x.2)
noncomputable def capOk (N : Nm) (names : Sc) (k : Nat) : Bool := (N.vars[k]?).elim false fun n => names.lookup n == some .free
noncomputable def scopeOk (N : Nm) (sc : Sc) (caps : List Nat) (scope : Scope) : Bool :=
  scope.kind == .function && scope.names.all (fun x => scope.names.lookup x.1 == some x.2 && (innerSc sc scope.names).lookup x.1 == some (relK sc x.1 x.2) && (x.2 != .free || (sc.lookup x.1 == some .cell || sc.lookup x.1 == some .free))) && caps.all (capOk N scope.names)
def WrE (N : Nm) (sc : Sc) (k : Nat) (e : Expr) : Prop := ∃ id p, e = .Name id p ∧ N.vars[k]? = some id ∧ wrOk sc id = true
def IsT (N : Nm) (sc : Sc) (t : Tgt) (e : Expr) : Prop := match t with
  | .one k => WrE N sc k e
  | .two k j => ∃ e1 e2 n p, e = .Tuple [e1, e2] n p ∧ WrE N sc k e1 ∧ WrE N sc j e2
def LamE (N : Nm) (l : Expr) : Prop := ∃ p0 n1 p1 p2 ap n2 p5 cp n3 p6 p7 p3 sc p8, l = .Lambda ⟨[], [⟨"_m", none, p0⟩], none, [], [], none, []⟩ (.BinOp (.Constant (.str (mkS [92])) n1 p1) .Add (.BoolOp .Or [.Call (.Attribute (.Name "_m" p2) "group" ap) [.Constant (.int 1) n2 p5] [] cp, .Constant (.str (mkS [])) n3 p6] p7) p3) sc p8 ∧
  sc.names = [(("_m" : Str), NameKind.local)] ∧ sc.kind = .function ∧ sc.isCoroutine = false ∧ sc.isGenerator = false ∧ ap.endLine = cp.line ∧ (p8.line, p8.col) = N.lp
def EscE (N : Nm) (sc : Sc) (k : Nat) (g : Expr) : Prop := ∃ b p p1 n1 q1 n2 q2 c1 p2 n3 q3 n4 q4 c2 q5 id q6 scope p8, g = .GeneratorExp (.Call (.Attribute (.Call (.Attribute (.Name b p) "replace" p1) [.Constant (.str (mkS [92])) n1 q1, .Constant (.str (mkS [92, 92])) n2 q2] [] c1) "replace" p2) [.Constant (.str (mkS [45])) n3 q3, .Constant (.str (mkS [92, 45])) n4 q4] [] c2)
      [⟨.Name b q5, .Name id q6, [], 0⟩] scope p8 ∧ N.vars[k]? = some id ∧ rdOk sc id = true ∧
    scope.names = [((".0" : Str), NameKind.local), (b, NameKind.local)] ∧ b ≠ ".0" ∧ b ≠ "__debug__" ∧ scope.kind = .function ∧ scope.isCoroutine = false ∧ scope.isGenerator = true ∧ p1.endLine = c1.line ∧ p2.endLine = c2.line ∧ (p8.line, p8.col) = N.gp
noncomputable def asgB (e : Expr) : Bool := e.ctorIdx != 8 && e.ctorIdx != 9 && e.ctorIdx != 10
noncomputable def tupB (e : Expr) : Bool := e.ctorIdx != 25
noncomputable def formB (e : Expr) : Bool := e.ctorIdx != 22
noncomputable def baseB : Expr → Bool
  | .Name .. => true
  | .Constant .. => true
  | .Subscript .. => true
  | .Call (.Attribute ..) .. => true
  | _ => false
noncomputable def setB (e : Expr) : Bool := e.ctorIdx == 7
mutual
def IsE (N : Nm) : PE → Sc → Expr → Prop
  | .var k, sc, e => ∃ id p, e = .Name id p ∧ N.vars[k]? = some id ∧ rdOk sc id = true
  | .cst v, _, e => ∃ c n p, e = .Constant c n p ∧ IsC v c
  | .glob k, sc, e => ∃ id p, e = .Name id p ∧ N.globs[k]? = some id ∧ glOk sc id = true
  | .bin o a b, sc, e => ∃ l r p, e = .BinOp l (opOf o) r p ∧ IsE N a sc l ∧ IsE N b sc r
  | .neg a, sc, e => ∃ x p, e = .UnaryOp .USub x p ∧ IsE N a sc x
  | .not a, sc, e => ∃ x p, e = .UnaryOp .Not x p ∧ IsE N a sc x
  | .and es, sc, e => ∃ vs p, e = .BoolOp .And vs p ∧ IsEs N es sc vs
  | .or es, sc, e => ∃ vs p, e = .BoolOp .Or vs p ∧ IsEs N es sc vs
  | .cmp a o b, sc, e => ∃ l r p, e = .Compare l [copOf o] [r] p ∧ behindInMarks (copOf o) r = false ∧ IsE N a sc l ∧ IsE N b sc r
  | .chain a o b o' c, sc, e => ∃ l r r' p, e = .Compare l [copOf o, copOf o'] [r, r'] p ∧ behindInMarks (copOf o') r' = false ∧ IsE N a sc l ∧ IsE N b sc r ∧ IsE N c sc r'
  | .ite t a b, sc, e => ∃ t' a' b' p, e = .IfExp t' a' b' p ∧ IsE N t sc t' ∧ IsE N a sc a' ∧ IsE N b sc b'
  | .idx a i, sc, e => ∃ v i' p, e = .Subscript v i' p ∧ IsE N a sc v ∧ IsE N i sc i'
  | .slc a lo hi st, sc, e => ∃ v l u t q p, e = .Subscript v (.Slice l u t q) p ∧ IsE N a sc v ∧ ((l = none ∧ lo = .cst .none) ∨ ∃ e, l = some e ∧ IsE N lo sc e) ∧ ((u = none ∧ hi = .cst .none) ∨ ∃ e, u = some e ∧ IsE N hi sc e) ∧ ((t = none ∧ st = .cst .none) ∨ ∃ e, t = some e ∧ IsE N st sc e)
  | .tup es, sc, e => ∃ vs n p, e = .Tuple vs n p ∧ IsEs N es sc vs
  | .lst es, sc, e => ∃ vs p, e = .List vs p ∧ IsEs N es sc vs
  | .comp caps cls, sc, e => ∃ elt gens scope p, e = .ListComp elt gens scope p ∧ gens ≠ [] ∧ scopeOk N sc caps scope = true ∧ IsK N true cls sc scope.names (innerSc sc scope.names) gens elt
  | .call f es, sc, e => ∃ id q args p, e = .Call (.Name id q) args [] p ∧ N.fns[f]? = some id ∧ glOk sc id = true ∧ args ≠ [] ∧ args.length ≤ 10 ∧ IsEs N es sc args
  | .bi b a, sc, e => ∃ q x more p, e = .Call (.Name (biName b) q) (x :: more) [] p ∧ glOk sc (biName b) = true ∧ MoreE sc b more ∧ formB x = true ∧ IsE N a sc x
  | .meth m o es, sc, e => ∃ ob ap args p, e = .Call (.Attribute ob (mthName m) ap) args [] p ∧ ap.endLine = p.line ∧ args.length < 20 ∧ baseB ob = true ∧
      (match m with
       | .sub => ∃ q l x, ob = .Name "_twin_re_1" q ∧ args = [l, x] ∧ N.lam = true ∧ glOk sc "_twin_re_1" = true ∧ LamE N l ∧ formB x = true ∧ IsE N o sc x ∧ es = .nil
       | .tr => ∃ q, args = [.Name "_special_chars_map" q] ∧ glOk sc "_special_chars_map" = true ∧ IsE N o sc ob ∧ es = .nil
       | .replace => IsE N o sc ob ∧ RepE es args
       | _ => IsE N o sc ob ∧ IsEs N es sc args)
  | .joinEsc o k, sc, e => ∃ ob ap g p, e = .Call (.Attribute ob "join" ap) [g] [] p ∧ N.lam = true ∧ ap.endLine = p.line ∧ baseB ob = true ∧ IsE N o sc ob ∧ EscE N sc k g
  | .fstr es, sc, e => ∃ vs p, e = .JoinedStr vs p ∧ 2 ≤ vs.length ∧ IsF N es sc vs
def IsF (N : Nm) : PEs → Sc → List Expr → Prop
  | .nil, _, l => l = []
  | .cons p r, sc, l => ∃ t, ((∃ c n q, l = .Constant c n q :: t ∧ IsE N p sc (.Constant c n q)) ∨ ∃ v q, l = .FormattedValue v (-1) none q :: t ∧ IsE N p sc v) ∧ IsF N r sc t
def IsEs (N : Nm) : PEs → Sc → List Expr → Prop
  | .nil, _, l => l = []
  | .cons p r, sc, l => ∃ e t, l = e :: t ∧ IsE N p sc e ∧ formB e = true ∧ IsEs N r sc t
def IsK (N : Nm) : Bool → PC → Sc → Sc → Sc → List Comprehension → Expr → Prop
  | _, .done p, _, _, sc', gens, elt => gens = [] ∧ IsE N p sc' elt
  | first, .clause t it ifs rest, sc, names, sc', gens, elt => ∃ tg iter is r, gens = ⟨tg, iter, is, 0⟩ :: r ∧ IsT N names t tg ∧ IsI N it (if first then sc else sc') iter ∧ IsEs N ifs sc' is ∧ IsK N false rest sc names sc' r elt
def IsI (N : Nm) : PI → Sc → Expr → Prop
  | .ex p, sc, e => IsE N p sc e ∧ setB e = false
  | .range es, sc, e => ∃ q args p, e = .Call (.Name "range" q) args [] p ∧ glOk sc "range" = true ∧ args ≠ [] ∧ args.length ≤ 3 ∧ IsEs N es sc args
  | .enum p, sc, e => ∃ q x p', e = .Call (.Name "enumerate" q) [x] [] p' ∧ glOk sc "enumerate" = true ∧ formB x = true ∧ IsE N p sc x
end
mutual
def IsS (N : Nm) : PS → Sc → Stmt → Prop
  | .asg k e, sc, s => ∃ x : Str × Pos × Expr × Pos, s = .Assign [.Name x.1 x.2.1] x.2.2.1 x.2.2.2 ∧ N.vars[k]? = some x.1 ∧ wrOk sc x.1 = true ∧ (asgB x.2.2.1 = true ∨ ∃ y : List Nat × Tgt × PI × PEs × PC, e = .comp y.1 (.clause y.2.1 y.2.2.1 y.2.2.2.1 y.2.2.2.2)) ∧ IsE N e sc x.2.2.1
  | .asgT k j e, sc, s => ∃ x : Expr × Expr × Nat × Pos × Expr × Pos, s = .Assign [.Tuple [x.1, x.2.1] x.2.2.1 x.2.2.2.1] x.2.2.2.2.1 x.2.2.2.2.2 ∧ WrE N sc k x.1 ∧ WrE N sc j x.2.1 ∧ (tupB x.2.2.2.2.1 = true ∨ ∃ y : List Expr × Nat × Pos, x.2.2.2.2.1 = .Tuple y.1 y.2.1 y.2.2 ∧ k ≠ j ∧ (y.1.all (foldedForSure 8) = true ∨ y.1.all (constantsAlone 8) = false)) ∧ IsE N e sc x.2.2.2.2.1
  | .asgL k, sc, s => ∃ x : Str × Pos × Pos × Pos, s = .Assign [.Name x.1 x.2.1] (.List [] x.2.2.1) x.2.2.2 ∧ N.vars[k]? = some x.1 ∧ wrOk sc x.1 = true
  | .asgApp k j, sc, s => ∃ x : Str × Pos × Str × Pos × Pos × Pos, s = .Assign [.Name x.1 x.2.1] (.Attribute (.Name x.2.2.1 x.2.2.2.1) "append" x.2.2.2.2.1) x.2.2.2.2.2 ∧ N.vars[k]? = some x.1 ∧ wrOk sc x.1 = true ∧ N.vars[j]? = some x.2.2.1 ∧ rdOk sc x.2.2.1 = true
  | .callX k f es, sc, s => ∃ x : Str × Pos × Str × Pos × List Expr × Pos × Pos, s = .Assign [.Name x.1 x.2.1] (.Call (.Name x.2.2.1 x.2.2.2.1) x.2.2.2.2.1 [] x.2.2.2.2.2.1) x.2.2.2.2.2.2 ∧ N.vars[k]? = some x.1 ∧ wrOk sc x.1 = true ∧ N.fns[f]? = some x.2.2.1 ∧ glOk sc x.2.2.1 = true ∧ IsEs N es sc x.2.2.2.2.1
  | .newBA k e, sc, s => ∃ x : Str × Pos × Pos × Expr × Pos × Pos, s = .Assign [.Name x.1 x.2.1] (.Call (.Name "bytearray" x.2.2.1) [x.2.2.2.1] [] x.2.2.2.2.1) x.2.2.2.2.2 ∧ N.vars[k]? = some x.1 ∧ wrOk sc x.1 = true ∧ glOk sc "bytearray" = true ∧ formB x.2.2.2.1 = true ∧ IsE N e sc x.2.2.2.1
  | .put k i e, sc, s => ∃ x : Str × Pos × Expr × Pos × Expr × Pos, s = .Assign [.Subscript (.Name x.1 x.2.1) x.2.2.1 x.2.2.2.1] x.2.2.2.2.1 x.2.2.2.2.2 ∧ N.vars[k]? = some x.1 ∧ rdOk sc x.1 = true ∧ IsE N i sc x.2.2.1 ∧ IsE N e sc x.2.2.2.2.1
  | .aug k e, sc, s => ∃ x : Str × Pos × Expr × Pos, s = .AugAssign (.Name x.1 x.2.1) .Add x.2.2.1 x.2.2.2 ∧ N.vars[k]? = some x.1 ∧ wrOk sc x.1 = true ∧ rdOk sc x.1 = true ∧ IsE N e sc x.2.2.1
  | .augPut k i e, sc, s => ∃ x : Str × Pos × Expr × Pos × Expr × Pos, s = .AugAssign (.Subscript (.Name x.1 x.2.1) x.2.2.1 x.2.2.2.1) .Add x.2.2.2.2.1 x.2.2.2.2.2 ∧ N.vars[k]? = some x.1 ∧ rdOk sc x.1 = true ∧ (x.2.2.1.ctorIdx != 26) = true ∧ IsE N i sc x.2.2.1 ∧ IsE N e sc x.2.2.2.2.1
  | .del k i, sc, s => ∃ x : Str × Pos × Expr × Pos × Pos, s = .Delete [.Subscript (.Name x.1 x.2.1) x.2.2.1 x.2.2.2.1] x.2.2.2.2 ∧ N.vars[k]? = some x.1 ∧ rdOk sc x.1 = true ∧ IsE N i sc x.2.2.1
  | .append k e, sc, s => ∃ x : Str × Pos × Pos × Expr × Pos × Pos, s = .Expr (.Call (.Attribute (.Name x.1 x.2.1) "append" x.2.2.1) [x.2.2.2.1] [] x.2.2.2.2.1) x.2.2.2.2.2 ∧ N.vars[k]? = some x.1 ∧ rdOk sc x.1 = true ∧ x.2.2.1.endLine = x.2.2.2.2.1.line ∧ formB x.2.2.2.1 = true ∧ IsE N e sc x.2.2.2.1
  | .callApp k e, sc, s => ∃ x : Str × Pos × Expr × Pos × Pos, s = .Expr (.Call (.Name x.1 x.2.1) [x.2.2.1] [] x.2.2.2.1) x.2.2.2.2 ∧ N.vars[k]? = some x.1 ∧ rdOk sc x.1 = true ∧ formB x.2.2.1 = true ∧ IsE N e sc x.2.2.1
  | .pop k, sc, s => ∃ x : Str × Pos × Pos × Pos × Pos, s = .Expr (.Call (.Attribute (.Name x.1 x.2.1) "pop" x.2.2.1) [] [] x.2.2.2.1) x.2.2.2.2 ∧ N.vars[k]? = some x.1 ∧ rdOk sc x.1 = true ∧ x.2.2.1.endLine = x.2.2.2.1.line
  | .iff t a b, sc, s => ∃ x : Expr × List Stmt × List Stmt × Pos, s = .If x.1 x.2.1 x.2.2.1 x.2.2.2 ∧ IsE N t sc x.1 ∧ IsSs N a sc x.2.1 ∧ IsSs N b sc x.2.2.1
  | .whl t b, sc, s => ∃ x : Expr × List Stmt × Pos, s = .While x.1 x.2.1 [] x.2.2 ∧ IsE N t sc x.1 ∧ IsSs N b sc x.2.1
  | .loop t it b o, sc, s => ∃ x : Expr × Expr × List Stmt × List Stmt × Pos, s = .For x.1 x.2.1 x.2.2.1 x.2.2.2.1 x.2.2.2.2 ∧ IsT N sc t x.1 ∧ IsI N it sc x.2.1 ∧ (∀ x k, it = .enum x → t ≠ .one k) ∧ IsSs N b sc x.2.2.1 ∧ IsSs N o sc x.2.2.2.1
  | .ret e, sc, s => ∃ x : Expr × Pos, s = .Return (some x.1) x.2 ∧ IsE N e sc x.1
  | .brk, _, s => ∃ p, s = .Break p
  | .asrt e, sc, s => ∃ x : Expr × Pos, s = .Assert x.1 none x.2 ∧ IsE N e sc x.1
  | .dead, _, _ => True
def IsSs (N : Nm) : PSs → Sc → List Stmt → Prop
  | .nil, _, l => l = []
  | .cons p r, sc, l => ∃ x : Stmt × List Stmt, l = x.1 :: x.2 ∧ IsS N p sc x.1 ∧ IsSs N r sc x.2
end
def bltV : List (Str × Value) := [("len", .builtin "len"), ("ord", .builtin "ord"), ("chr", .builtin "chr"), ("isinstance", .builtin "isinstance"), ("bytes", .type "bytes"), ("bytearray", .type "bytearray"),
  ("range", .type "range"), ("enumerate", .type "enumerate"), ("str", .type "str"), ("object", .type "object")]
structure CfgOk (C : Cfg) : Prop where
  ns : ∀ h : Heap, (∀ b o, C.B b = some o → h.get? b = some o) → h.Ns mainGlobals C.mg ∧ h.Ns builtinsNs C.mb ∧ h.NoLimit
  blt : ∀ p ∈ bltV, C.mg p.1 = none ∧ C.mb p.1 = some p.2
abbrev appObj (a : Addr) : Obj := { cls := .type "builtin_function_or_method", data := .fields #[.builtin "list.append", .ref a] }
structure Fm where
  sc : Sc
  env : Env
  m : Str → Option Value
  ad : Nat → Addr
def isOwn : AV → Bool
  | .own _ => true
  | .ba _ => true
  | _ => false
def Rd (f : Fm) (h : Heap) (n : Str) (v : Value) : Prop := (f.sc.lookup n = some .local ∧ f.m n = some v) ∨ ((f.sc.lookup n = some .cell ∨ f.sc.lookup n = some .free) ∧ ∃ c, f.env.cells.lookup n = some c ∧ h.IsCell c (some v))
def VarR (V : Vc) (ad : Nat → Addr) (S : Ws) (k : Nat) : AV → Value → Prop
  | .app j, v => ∃ b, v = .ref b ∧ S.Z b = some (appObj (ad j))
  | x, v => Rp V S x v ∧ (isOwn x = true → v = .ref (ad k))
structure FrA (V : Vc) (f : Fm) (S : Ws) (ρ : Nv) : Prop where
  w : Sd V S
  kind : f.env.scope.kind = .function
  names : f.env.scope.names = f.sc
  glob : f.env.globals = mainGlobals
  blt : f.env.builtins = builtinsNs
  ns : S.s.heap.Ns f.env.locals f.m
  vars : ∀ k x, ρ k = some x → ∃ n v, V.N.vars[k]? = some n ∧ Rd f S.s.heap n v ∧ VarR V f.ad S k x v
  cl : ∀ n, f.sc.lookup n = some .cell ∨ f.sc.lookup n = some .free → ∃ c v, f.env.cells.lookup n = some c ∧ S.s.heap.IsCell c v
  loc : f.env.locals ≠ V.C.P
  cel : ∀ n c, f.env.cells.lookup n = some c → c ≠ V.C.P
  code : V.N.lam = true → f.env.code = V.C.cd ∧ f.env.qual = V.C.cq
section
variable {V : Vc} {f : Fm} {S S' : Ws} {ρ : Nv} {x : AV} {v u : Value} {n : Str}
theorem ne_loc {k : Option NameKind} (h : k = some .local) (h' : k = some .cell ∨ k = some .free) : False := by
  subst h; rcases h' with h | h <;> cases h
theorem Rd.go (F : FrA V f S ρ) (g : Stp V S S') (x : Rd f S.s.heap n v) : Rd f S'.s.heap n v :=
  x.imp id fun x => ⟨x.1, x.2.elim fun c x => x.2.elim fun o e => ⟨c, x.1, o, g.keep _ _ (F.cel _ _ x.1) e.1, e.2⟩⟩
theorem VarR.go {ad : Nat → Addr} {k : Nat} (w : Sd V S) (g : Stp V S S') (h : VarR V ad S k x v) : VarR V ad S' k x v := by
  cases x with
  | app j => exact h.elim fun b h => ⟨b, h.1, g.mono _ _ h.2⟩
  | _ => exact ⟨h.1.go g w, h.2⟩
theorem FrA.go (F : FrA V f S ρ) (g : Stp V S S') : FrA V f S' ρ where
  w := g.w
  kind := F.kind
  names := F.names
  glob := F.glob
  blt := F.blt
  ns := F.ns.at' fun o e => g.keep _ _ F.loc e
  vars := fun k x e => (F.vars k x e).elim fun n h => h.elim fun v h => ⟨n, v, h.1, h.2.1.go F g, h.2.2.go F.w g⟩
  cl := fun n hn => (F.cl n hn).elim fun c h => h.elim fun v h => h.2.elim fun o e => ⟨c, v, h.1, o, g.keep _ _ (F.cel _ _ h.1) e.1, e.2⟩
  loc := F.loc
  cel := F.cel
  code := F.code
theorem kindOf_eq (F : FrA V f S ρ) (n : Str) : f.env.kindOf n = f.sc.lookup n := by unfold Env.kindOf; rw [F.names]
theorem and3 {a b c : Bool} (h : (a && b && c) = true) : a = true ∧ b = true ∧ c = true :=
  have h1 := bE h
  have h2 := bE h1.1
  ⟨h2.1, h2.2, h1.2⟩
theorem bne_f {a b : Str} (h : (a != b) = true) : (a == b) = false := Bool.not_eq_true' _ ▸ h
theorem rdOk_ne {sc : Sc} (e : rdOk sc n = true) : (n == ("__debug__" : Str)) = false := bne_f (and3 e).2.1
theorem load_rd {M : Model} {A : Around} {E Q : Value → Shared → Prop} (F : FrA V f S ρ) (e : rdOk f.sc n = true) (r : Rd f S.s.heap n v) (k : Q v S.s) : wpAny M A (loadName f.env n) Q E S.s := by
  rcases r with a | a
  · exact wpAny_loadName_local F.kind ((kindOf_eq F n).trans a.1) F.ns a.2 k
  · obtain ⟨c, b, e'⟩ := a.2
    rcases a.1 with a | a
    · exact wpAny_loadName_cell F.kind ((kindOf_eq F n).trans a) b e' k
    · exact wpAny_loadName_free F.kind ((kindOf_eq F n).trans a) b e' k (bne_f (and3 e).2.2)
theorem name_rd {M : Model} {A : Around} {E Q : Value → Shared → Prop} {p : Pos} (F : FrA V f S ρ) (e : rdOk f.sc n = true) (r : Rd f S.s.heap n v) (k : Q v S.s) : wpAny M A (eval (.Name n p) f.env) Q E S.s :=
  wpAny_Name (load_rd F e r k) (rdOk_ne e)
theorem glOk_kind {sc : Sc} (e : glOk sc n = true) : sc.lookup n = some .globalImplicit := eq_of_beq (bE e).1
theorem glOk_ne {sc : Sc} (e : glOk sc n = true) : (n == ("__debug__" : Str)) = false := bne_f (bE e).2
theorem name_gl {M : Model} {A : Around} {E Q : Value → Shared → Prop} {p : Pos} (K : CfgOk V.C) (F : FrA V f S ρ) (e : glOk f.sc n = true) (hv : V.C.mg n = some v) (k : Q v S.s) : wpAny M A (eval (.Name n p) f.env) Q E S.s :=
  have n1 := (K.ns S.s.heap fun b o e => F.w.sub b o (F.w.base b o e)).1
  Name_function_global F.kind ((kindOf_eq F n).trans (glOk_kind e)) (loadGlobal_global (F.glob ▸ n1) hv k) (glOk_ne e)
theorem name_bl {M : Model} {A : Around} {E Q : Value → Shared → Prop} {p : Pos} (K : CfgOk V.C) (F : FrA V f S ρ) (e : glOk f.sc n = true) (hv : (n, v) ∈ bltV) (k : Q v S.s) : wpAny M A (eval (.Name n p) f.env) Q E S.s :=
  have n1 := K.ns S.s.heap fun b o e => F.w.sub b o (F.w.base b o e)
  have b1 := K.blt _ hv
  Name_function_global F.kind ((kindOf_eq F n).trans (glOk_kind e)) (loadGlobal_builtin (F.glob ▸ n1.1) b1.1 (F.blt ▸ n1.2.1) b1.2 k) (glOk_ne e)
theorem cst_ok {env : Env} {c : Const} (w : Sd V S) (e : IsC x c) : Gv V (constValue env c) S x := fun Q E k => by
  cases e with
  | none => exact wpAny_pure (k _ S (.refl w) rfl)
  | bool b => exact wpAny_pure (k _ S (.refl w) rfl)
  | int i => exact wpAny_mkInt (k _ (S.tk _) (w.tk _ (Nat.le_succ _)) ⟨_, rfl⟩)
  | str x => exact wpAny_mkText (k _ (S.tk _) (w.tk _ (Nat.le_succ _)) ⟨_, rfl⟩)
theorem sub_tail {M : Model} {A : Around} {s : Shared} {value slice : Expr} {o i : Value} {T id : String} {Q E : Value → Shared → Prop} {prog : Program} {w : World} (hT : s.TypeIs o T) (hl : typeLookup (.type T) "__getitem__" = pure (some (.builtin id)))
    (k : wpAny (model prog w) A (getItem o i) Q E s) :
    wpAny (model prog w) A (do let r ← subscripted slice (← getitemInPython o) o i; letTemporaryGo value o r; pure r) Q E s := by
  rw [getitemInPython_of_ne hT.not_modules]
  refine wpAny_bind (wpAny_bind (wpAny_specialOf hT hl (wpAny_pure ?_)))
  have : wpAny (model prog w) A (subscripted slice false o i) Q E s := by
    cases slice with
    | Slice l u st p => cases st with
      | none => exact wpAny_operating k
      | some _ => exact wpAny_operating k
    | _ => exact wpAny_operating k
  exact wpAny_bind (wpAny_mono this (fun r s' q => wpAny_bind (wpAny_letTemporaryGo (wpAny_pure q))) fun _ _ e => e)
def SubT (S : Ws) (v : Value) : Prop := ∃ T id, S.s.TypeIs v T ∧ typeLookup (.type T) "__getitem__" = pure (some (.builtin id))
theorem lst_type (h : ∃ a vs n, v = .ref a ∧ S.s.heap.get? a = some (lstO vs n)) : SubT S v :=
  h.elim fun a h => h.elim fun vs h => h.elim fun n h => h.1 ▸ ⟨_, _, ⟨_, h.2, rfl⟩, slot_list_getitem.lookup⟩
def cutV : AV → Bool
  | .str _ => true
  | .bytes _ => true
  | .list _ => true
  | .own _ => true
  | _ => false
theorem rep_type (w : Sd V S) (hx : Rp V S x v) (e : cutV x = true) : SubT S v := by
  cases x with
  | str x => exact hx.elim fun t h => h ▸ ⟨_, _, typeIs_str _ _ _, F.slot_str_getitem.lookup⟩
  | bytes b => exact hx.2.elim fun t h => h ▸ ⟨_, _, typeIs_bytes _ _ _, FB.slot_bytes_getitem.lookup⟩
  | list xs => exact (hx.list w).elim fun a h => h.elim fun vs h => h.elim fun n h => lst_type ⟨a, vs, n, h.1, h.2.1⟩
  | own xs => exact hx.own.elim fun a h => h.elim fun vs h => h.elim fun n h => lst_type ⟨a, vs, n, h.1, h.2.1⟩
  | _ => cases e
theorem idx_cut {i : Int} {r : AV} (e : idxI x i = some r) : cutV x = true := by
  cases x with
  | str _ => rfl
  | bytes _ => rfl
  | list _ => rfl
  | own _ => rfl
  | _ => exact noneE e
theorem slc_none {c : Option Int} {r : AV} {P : Prop} {p : Int → Prop} [∀ c, Decidable (p c)] (e : (match c with | none => none | some c => if p c then none else none) = some r) : P := by
  cases c with
  | none => exact noneE e
  | some c => exact iteB e fun _ e => noneE e
theorem slc_cut {a b c : Option Int} {r : AV} (e : slcV x a b c = some r) : cutV x = true := by
  cases x with
  | str _ => rfl
  | bytes _ => rfl
  | list _ => rfl
  | own _ => rfl
  | _ => exact slc_none (c := c) e
end
def TrOk (V : Vc) : Prop :=
  ∃ v, V.C.mg "_special_chars_map" = some v ∧ ∀ S c t, Sd V S → c < 128 → Gv V (call (.builtin "str.translate") [.str (mkS [c]) t, v]) S (.str (escC c))
def SubOk (V : Vc) : Prop :=
  V.N.lam = true → ∀ f S ρ l ex p apos pos y, LamE V.N l → glOk f.sc "_twin_re_1" = true → apos.endLine = pos.line → FrA V f S ρ → y.length ≤ 1000 →
    starEach [l, ex] f.env = [(false, eval l f.env), (false, eval ex f.env)] →
    (∀ S', Stp V S S' → Gv V (eval ex f.env) S' (.str y)) → Gv V (eval (.Call (.Attribute (.Name "_twin_re_1" p) "sub" apos) [l, ex] [] pos) f.env) S (.str (subAmp y))
def EscOk (V : Vc) : Prop :=
  V.N.lam = true → ∀ f S ρ k g ob sep xs l apos pos, EscE V.N f.sc k g → apos.endLine = pos.line → FrA V f S ρ → ρ k = some (.own xs) → strsOf xs = some l → l.length ≤ 1000 → (∀ x ∈ l, x.length ≤ 1000) →
    (joinL sep (l.map escP)).length ≤ lim → sep.length ≤ lim → attributeBase ob "join" f.env (eval ob f.env) = eval ob f.env → Gv V (eval ob f.env) S (.str sep) → Gv V (eval (.Call (.Attribute ob "join" apos) [g] [] pos) f.env) S (.str (joinL sep (l.map escP)))
structure Env0 (V : Vc) : Prop where
  cfg : CfgOk V.C
  room : AOk 0 V.A
  nv : V.N.vars.Nodup
  fn : ∀ f vs x, V.Φ f vs = some x → ∃ id a o fd, V.N.fns[f]? = some id ∧ V.C.mg id = some (.ref a) ∧ V.C.B a = some o ∧ o.data = .func fd ∧
    ∀ S vals, Sd V S → RepL S.Z V.st vs vals → Gv V (call (.ref a) vals) S x
  glob : ∀ k x, V.Γ k = some x → ∃ id v, V.N.globs[k]? = some id ∧ V.C.mg id = some v ∧ ∀ S, Sd V S → RepV S.Z V.st x v
  tr : TrOk V
  sub : SubOk V
  esc : EscOk V
def RpL (V : Vc) (S : Ws) : List AV → List Value → Prop
  | [], vs => vs = []
  | x :: xs, vs => ∃ v r, vs = v :: r ∧ Rp V S x v ∧ RpL V S xs r
section
variable {V : Vc}
def ValOk (V : Vc) (p : PE) : Prop := ∀ ⦃f e S ρ x⦄, IsE V.N p f.sc e → FrA V f S ρ → ev V.Φ V.Γ p ρ = some x → Gv V (eval e f.env) S x
def TstOk (V : Vc) (p : PE) : Prop := ∀ ⦃f e S ρ b⦄, IsE V.N p f.sc e → FrA V f S ρ → evB V.Φ V.Γ p ρ = some b → Gb V (isTrue e f.env (eval e f.env)) S b
def ValsOk (V : Vc) (ps : PEs) : Prop := ∀ ⦃f es S ρ xs⦄ pos, IsEs V.N ps f.sc es → FrA V f S ρ → evs V.Φ V.Γ ps ρ = some xs →
    ∀ ⦃Q : List Value → Shared → Prop⦄ ⦃E⦄, (∀ vs S', Stp V S S' → RpL V S' xs vs → Q vs S'.s) → Wp V (spliced (backTo pos (starEach es f.env))) Q E S
def AndOk (V : Vc) (ps : PEs) : Prop := ∀ ⦃f es S ρ x⦄ pos, IsEs V.N ps f.sc es → FrA V f S ρ → evAnd V.Φ V.Γ ps ρ = some x → Gv V (boolOp pos .And (evalEach es f.env)) S x
def AllOk (V : Vc) (ps : PEs) : Prop := ∀ ⦃f es S ρ b⦄, IsEs V.N ps f.sc es → FrA V f S ρ → evAll V.Φ V.Γ ps ρ = some b → Gb V (allTrue .And es f.env) S b
def AnyOk (V : Vc) (ps : PEs) : Prop := ∀ ⦃f es S ρ b⦄, IsEs V.N ps f.sc es → FrA V f S ρ → evAny V.Φ V.Γ ps ρ = some b → Gb V (allTrue .Or es f.env) S b
def FsOk (V : Vc) (ps : PEs) : Prop := ∀ ⦃f es S ρ xs l out⦄, IsF V.N ps f.sc es → FrA V f S ρ → evs V.Φ V.Γ ps ρ = some xs → strsOf xs = some l → out.length + l.flatten.length ≤ lim →
    Gv V (joinParts (mkS out) (evalEach es f.env)) S (.str (out ++ l.flatten))
theorem plainR {S : Ws} {x : AV} {v : Value} (e : plainV x = true) (r : Rp V S x v) : RepV S.Z V.st x v := by
  cases x with
  | own _ => cases e
  | ba _ => cases e
  | app _ => cases e
  | _ => exact r
theorem plainsR {S : Ws} : ∀ (xs : List AV) (vs : List Value), RpL V S xs vs → xs.all plainV = true → RepL S.Z V.st xs vs
  | [], _, h, _ => h
  | _ :: xs, _, h, e => h.elim fun v h => h.elim fun r h => ⟨v, r, h.1, plainR (bE e).1 h.2.1, plainsR xs r h.2.2 (bE e).2⟩
theorem plains_some {xs ys : List AV} (e : plains xs = some ys) : xs = ys ∧ xs.all plainV = true ∧ xs.length ≤ 1000 :=
  iteE e fun h e => ⟨e, (bE h).1, of_decide_eq_true (bE h).2⟩
theorem RpL.length {S : Ws} : ∀ (xs : List AV) (vs : List Value), RpL V S xs vs → vs.length = xs.length
  | [], _, h => h ▸ rfl
  | _ :: xs, _, h => h.elim fun v h => h.elim fun r h => h.1 ▸ congrArg (· + 1) (RpL.length xs r h.2.2)
theorem eqFn {α : Type} {x : Option α} {a b : α} (h : x = some a) (h' : x = some b) : a = b := sIj (h.symm.trans h')
theorem two_vals {a b : PE} {f : Fm} {l r : Expr} {S : Ws} {ρ : Nv} {y z : AV} {Q : Value → Value → Shared → Prop} {E : Value → Shared → Prop} (ha : ValOk V a) (hb : ValOk V b) (k1 : IsE V.N a f.sc l) (k2 : IsE V.N b f.sc r) (F : FrA V f S ρ)
    (hy : ev V.Φ V.Γ a ρ = some y) (hz : ev V.Φ V.Γ b ρ = some z) (kk : ∀ v u S', Stp V S S' → Rp V S' y v → Rp V S' z u → Q v u S'.s) :
    Wp V (eval l f.env) (fun v s₁ => wpAny V.M V.A (eval r f.env) (fun u s₂ => Q v u s₂) E s₁) E S :=
  ha k1 F hy fun v S' g hr => hb k2 (F.go g) hz fun u S'' g' hr' => kk v u S'' (g.trans g') (hr.go g' g.w) hr'
theorem varR_rp {ad : Nat → Addr} {k : Nat} {S : Ws} {y x : AV} {v : Value} (hn : notApp y = some x) (h : VarR V ad S k y v) : Rp V S x v := by
  cases y with
  | app _ => exact noneE hn
  | _ => exact someE hn ▸ h.1
theorem arm_var (k : Nat) : ValOk V (.var k) := fun f e S ρ x hk F hev Q E kk => by
  obtain ⟨id, p, rfl, k1, k2⟩ := hk
  exact bindE hev fun y hy hn => (F.vars k y hy).elim fun n h => h.elim fun v h => name_rd F k2 (eqFn h.1 k1 ▸ h.2.1) (kk v S (.refl F.w) (varR_rp hn h.2.2))
theorem arm_cst (v : AV) : ValOk V (.cst v) := fun f e S ρ x hk F hev => by
  obtain ⟨c, n, p, rfl, k1⟩ := hk
  exact (someE hev : v = x) ▸ eval_Constant .. ▸ cst_ok F.w k1
theorem arm_glob (K : Env0 V) (k : Nat) : ValOk V (.glob k) := fun f e S ρ x hk F hev Q E kk => by
  obtain ⟨id, p, rfl, k1, k2⟩ := hk
  exact (K.glob k x hev).elim fun id' h => h.elim fun v h => name_gl K.cfg F k2 (eqFn h.1 k1 ▸ h.2.1) (kk v S (.refl F.w) (h.2.2 S F.w).toR)
theorem arm_bin (K : Env0 V) {o : Bop} {a b : PE} (ha : ValOk V a) (hb : ValOk V b) : ValOk V (.bin o a b) := fun f e S ρ x hk F hev Q E kk => by
  obtain ⟨l, r, p, rfl, k1, k2⟩ := hk
  exact bindE hev fun y hy hev => bindE hev fun z hz hev => wpAny_BinOp (two_vals ha hb k1 k2 F hy hz fun v u S' g hv hu => (bin_ok g.w hev hv hu).next g kk)
theorem arm_neg {a : PE} (ha : ValOk V a) : ValOk V (.neg a) := fun f e S ρ x hk F hev Q E kk => by
  obtain ⟨l, p, rfl, k1⟩ := hk
  exact bindE hev fun y hy hev => mapE hev fun i hi e2 => wpAny_UnaryOp (ha k1 F (hy.trans (congrArg some (asIE hi))) fun r S' g hr => hr.elim fun t e => e ▸ neg_int (kk _ (S'.tk _) (g.trans (g.w.tk _ (Nat.le_succ _))) (e2 ▸ ⟨_, rfl⟩)))
theorem cmp_core (K : Env0 V) {o : Cop} {a b : PE} (ha : ValOk V a) (hb : ValOk V b) {f : Fm} {l r : Expr} {S : Ws} {ρ : Nv} {q : Bool} {Q E : Value → Shared → Prop} (k1 : IsE V.N a f.sc l) (k2 : IsE V.N b f.sc r) (F : FrA V f S ρ)
    (hev : ((ev V.Φ V.Γ a ρ).bind fun x => (ev V.Φ V.Γ b ρ).bind fun y => cmpV o x y) = some q) (kk : ∀ S', Stp V S S' → Q (.bool q) S'.s) :
    Wp V (eval l f.env) (fun v s₁ => wpAny V.M V.A (eval r f.env) (fun u s₂ => wpAny V.M V.A (compareOp (copOf o) v u) Q E s₂) E s₁) E S :=
  bindE hev fun y hy hev => bindE hev fun z hz hev => two_vals (Q := fun v u s₂ => wpAny V.M V.A (compareOp (copOf o) v u) Q E s₂) ha hb k1 k2 F hy hz fun v u S' g hv hu => cmp_ok K.room g.w hev hv hu Q E (kk S' g)
theorem bind_map {α β γ : Type} (x : Option α) (f : α → Option β) (g : β → γ) : (x.bind fun y => (f y).map g) = (x.bind f).map g := by cases x <;> rfl
theorem arm_cmp (K : Env0 V) {o : Cop} {a b : PE} (ha : ValOk V a) (hb : ValOk V b) : ValOk V (.cmp a o b) ∧ TstOk V (.cmp a o b) :=
  ⟨fun f e S ρ x hk F hev Q E kk => by
    obtain ⟨l, r, p, rfl, k0, k1, k2⟩ := hk
    have hev : (((ev V.Φ V.Γ a ρ).bind fun x => (ev V.Φ V.Γ b ρ).bind fun y => cmpV o x y).map AV.bool) = some x := by
      rw [← bind_map]; exact (congrArg (Option.bind _) (funext fun x => (bind_map _ _ _).symm)).trans hev
    exact mapE hev fun q hq e => wpAny_Compare1 (cmp_core K ha hb k1 k2 F hq fun S' g => kk _ S' g (e ▸ rfl)) k0,
  fun f e S ρ q hk F hev Q E kk => by
    obtain ⟨l, r, p, rfl, k0, k1, k2⟩ := hk
    exact wpAny_isTrue_Compare1 (cmp_core K ha hb k1 k2 F hev fun S' g => wpAny_truthy_bool (kk S' g)) k0⟩
theorem arm_ite {t a b : PE} (ht : TstOk V t) (ha : ValOk V a ∧ TstOk V a) (hb : ValOk V b ∧ TstOk V b) : ValOk V (.ite t a b) ∧ TstOk V (.ite t a b) :=
  ⟨fun f e S ρ x hk F hev Q E kk => by
    obtain ⟨t', a', b', p, rfl, k1, k2, k3⟩ := hk
    refine bindE hev fun c hc hev => wpAny_IfExp (ht k1 F hc fun S' g => ?_)
    cases c
    · exact hb.1 k3 (F.go g) hev fun r S2 g2 hr => kk r S2 (g.trans g2) hr
    · exact ha.1 k2 (F.go g) hev fun r S2 g2 hr => kk r S2 (g.trans g2) hr,
  fun f e S ρ x hk F hev Q E kk => by
    obtain ⟨t', a', b', p, rfl, k1, k2, k3⟩ := hk
    refine bindE hev fun c hc hev => isTrue_IfExp (ht k1 F hc fun S' g => ?_)
    cases c
    · exact hb.2 k3 (F.go g) hev fun S2 g2 => kk S2 (g.trans g2)
    · exact ha.2 k2 (F.go g) hev fun S2 g2 => kk S2 (g.trans g2)⟩
theorem arm_not {a : PE} (ha : TstOk V a) : ValOk V (.not a) ∧ TstOk V (.not a) :=
  ⟨fun f e S ρ x hk F hev => noneE hev,
  fun f e S ρ x hk F hev Q E kk => by
    obtain ⟨y, p, rfl, k1⟩ := hk
    exact mapE hev fun c hc e => wpAny_isTrue_Not (ha k1 F hc fun S' g => e ▸ kk S' g)⟩
theorem arm_and {es : PEs} (h1 : AndOk V es) (h2 : AllOk V es) : ValOk V (.and es) ∧ TstOk V (.and es) :=
  ⟨fun f e S ρ x hk F hev => hk.elim fun vs h => h.elim fun p h => h.1 ▸ h1 _ h.2 F hev,
  fun f e S ρ x hk F hev Q E kk => by
    obtain ⟨vs, p, rfl, k1⟩ := hk
    exact wpAny_isTrue_BoolOp (h2 k1 F hev kk)⟩
theorem arm_or {es : PEs} (h2 : AnyOk V es) : ValOk V (.or es) ∧ TstOk V (.or es) :=
  ⟨fun f e S ρ x hk F hev => noneE hev,
  fun f e S ρ x hk F hev Q E kk => by
    obtain ⟨vs, p, rfl, k1⟩ := hk
    exact wpAny_isTrue_BoolOp (h2 k1 F hev kk)⟩
theorem arm_chain (K : Env0 V) {o o' : Cop} {a b c : PE} (ha : ValOk V a) (hb : ValOk V b) (hc : ValOk V c) : ValOk V (.chain a o b o' c) ∧ TstOk V (.chain a o b o' c) :=
  ⟨fun f e S ρ x hk F hev => noneE hev,
  fun f e S ρ q hk F hev Q E kk => by
    obtain ⟨l, r1, r2, pos, rfl, k0, k1, k2, k3⟩ := hk
    have hm : markedEach [copOf o, copOf o'] [r1, r2] (evalEach [r1, r2] f.env) = [eval r1 f.env, eval r2 f.env] := by
      show [eval r1 f.env, markedBehindIn (copOf o') r2 (eval r2 f.env)] = _
      rw [markedBehindIn_of_false k0]
    show wpAny _ V.A (do testChain pos (← eval l f.env) [copOf o, copOf o'] (markedEach [copOf o, copOf o'] [r1, r2] (evalEach [r1, r2] f.env))) Q E S.s
    rw [hm]
    refine bindE hev fun y hy hev => bindE hev fun z hz hev => bindE hev fun p hp hev => wpAny_bind (ha k1 F hy fun r S' g hr => wpAny_bind (wpAny_holding (hb k2 (F.go g) hz fun r' S'' g' hr' => ?_)))
    refine wpAny_bind (wpAny_standAt (wpAny_bind (wpAny_holding (cmp_ok K.room g'.w hp (hr.go g' g.w) hr' _ E (wpAny_bind (wpAny_release (wpAny_bind (wpAny_holding (wpAny_truthy_bool ?_)))))))))
    cases p
    · exact wpAny_pure ((someE hev : false = q) ▸ kk _ (g.trans g'))
    · exact bindE hev fun y3 hy3 hev => wpAny_bind (wpAny_holding (hc k3 (F.go (g.trans g')) hy3 fun r3 S3 g3 hr3 =>
        wpAny_bind (wpAny_standAt (wpAny_bind (wpAny_operating (cmp_ok K.room g3.w hev (hr'.go g3 g'.w) hr3 _ E (wpAny_holding (wpAny_truthy_bool (kk _ (g.trans (g'.trans g3)))))))))))⟩
end
def RepI (h : Heap) (Z : Fz) (st : Option Addr) (x : AV) (v : Value) : Prop :=
  RepV Z st x v ∨ ∃ T vs xs, x = .tuple xs ∧ v = .ref T ∧ h.IsTuple T vs ∧ RepL Z st xs vs.toList
structure Fx where
  I : Addr
  fp : List Addr
  wr : List Addr
  P : Nat → Value → Heap → Prop
  Md : Nat → Value → Heap → Prop
  St : Nat → Heap → Prop
structure Feed (V : Vc) (tg : Expr) (Z : Fz) (items : List AV) (tup : Bool) (X : Fx) : Prop where
  W : KTurns V.C.prog V.C.w V.A tg X.I X.fp X.wr items.length X.P X.Md X.St
  self : ∀ i (s : Shared) (Q E : Value → Shared → Prop), X.St i s.heap → Q (.ref X.I) s → wpAny V.M V.A (pyIter (.ref X.I)) Q E s
  rep : ∀ i v h, X.P i v h → ∃ x, items[i]? = some x ∧ RepI h Z V.st x v ∧ (tup = false → RepV Z V.st x v)
  ex : ∀ i h, X.St i h → ∀ b ∈ X.fp, ∃ o, h.get? b = some o
structure Start (V : Vc) (pl : Bool) (S S2 : Ws) (X : Fx) : Prop where
  g : Stp V S S2
  wr : ∀ b ∈ X.wr, S.s.heap.get? b = none ∧ S2.Z b = none
  fp : ∀ b ∈ X.fp, b ≠ V.C.P ∧ (S.s.heap.get? b = none ∨ (pl = true → S2.Z b ≠ none))
  s0 : X.St 0 S2.s.heap
def Feeds (V : Vc) (tg : Expr) (items : List AV) (tup pl : Bool) (S : Ws) (v : Value) : Prop := ∀ ⦃Q E : Value → Shared → Prop⦄,
  (∀ X S2, Feed V tg S.Z items tup X → Start V pl S S2 X → Q (.ref X.I) S2.s) → Wp V (pyIter v) Q E S
def TgS (tg : Expr) : Prop := (∃ id p, tg = .Name id p) ∨ ∃ es n p, tg = .Tuple es n p
abbrev ownIts : List String := ["enumerate", "zip", "dict_itemiterator", "dict_reverseitemiterator", "odict_iterator", "itertools.zip_longest", "itertools.pairwise"]
def ItAt (ty : String) (I : Addr) (h : Heap) : Prop := ∃ o, h.get? I = some o ∧ o.cls = .type ty ∧ ∃ vs, o.data = .fields vs
section
variable {V : Vc} {S : Ws} {tg : Expr} {x : AV} {v : Value} {items : List AV}
theorem quiet_go {n : String} {I : Addr} {s : Shared} {Q : Unit → Shared → Prop} {E : Value → Shared → Prop} (ht : TgS tg) (hI : ItAt n I s.heap) (hn : ownIts.contains n = false) (k : Q () s) : wpAny V.M V.A (letOwnedTupleGo tg (.ref I) v) Q E s := by
  obtain ⟨⟨cls, dict, data, slots⟩, ho, rfl, vs, rfl⟩ := hI
  rcases ht with ⟨id, p, rfl⟩ | ⟨es, m, p, rfl⟩
  · exact wpAny_pure k
  · cases v with
    | ref a => exact wpAny_bind (wpAny_load ho (show wpAny _ _ (if (ownIts.contains n && vs[0]? == some (rawInt a)) = true then _ else _) _ _ _ from by rw [hn]; exact wpAny_pure k))
    | _ => exact wpAny_pure k
theorem feed_of {P : Nat → Value → Prop} {St : Nat → Heap → Prop} {o : Obj} {n : Nat} {fp : List Addr} {ty : String} {pl : Bool} (w : Sd V S) (ht : TgS tg) (W : Walks V.C.prog V.C.w V.A S.s.heap.objs.size fp [S.s.heap.objs.size] n P St) (hn : n = items.length)
    (hty : ∀ i h, St i h → ItAt ty S.s.heap.objs.size h) (hq : ownIts.contains ty = false) (hrep : ∀ i v, P i v → ∃ x, items[i]? = some x ∧ RepV S.Z V.st x v) (hex : ∀ i h, St i h → ∀ b ∈ fp, ∃ o, h.get? b = some o)
    (hfp : ∀ b ∈ fp, b = S.s.heap.objs.size ∨ b ≠ V.C.P ∧ (pl = true → S.Z b ≠ none)) (s0 : St 0 (S.s.heap.push o))
    {Q : Value → Shared → Prop} (k : ∀ X S2, Feed V tg S.Z items false X → Start V pl S S2 X → Q (.ref X.I) S2.s) : Q (.ref S.s.heap.objs.size) { S.s with heap := S.s.heap.push o } :=
  have hN := get_none (h := S.s.heap) (Nat.le_refl _)
  k ⟨_, fp, _, fun i v _ => P i v, fun i v h => P i v ∧ St (i + 1) h, St⟩ ⟨{ S.s with heap := S.s.heap.push o }, S.Z⟩
    ⟨hn ▸ KTurns.ofWalks W fun i v s Q E hst k => quiet_go ht (hty _ _ hst) hq k, W.self, fun i v _ hP => (hrep i v hP).elim fun x h => ⟨x, h.1, .inl h.2, fun _ => h.2⟩, hex⟩
    ⟨Go.keeps w (fun _ _ e => Heap.get?_push_of_some _ e) (Nat.le_refl _), fun b hb => mSg hb ▸ ⟨hN, w.nz hN⟩,
      fun b hb => (hfp b hb).elim (fun q => q ▸ ⟨w.ne hN, .inl hN⟩) fun q => ⟨q.1, .inr q.2⟩, s0⟩
theorem ne_new {a : Addr} {o : Obj} (hg : S.s.heap.get? a = some o) : a ≠ S.s.heap.objs.size := fun q => noSome (get_none (Nat.le_refl _)) (q ▸ hg)
theorem two_mem {P : Addr → Prop} {I a : Addr} (h1 : P I) (h2 : P a) : ∀ b ∈ [I, a], P b := fun b hb => (mCo hb).elim (fun q => q.symm ▸ h1) fun q => (mSg q).symm ▸ h2
theorem one_mem {P : Addr → Prop} {I : Addr} (h1 : P I) : ∀ b ∈ [I], P b := fun b hb => (mSg hb).symm ▸ h1
theorem ItAt.ex {ty : String} {I : Addr} {h : Heap} (x : ItAt ty I h) : ∃ o, h.get? I = some o := x.elim fun o q => ⟨o, q.1⟩
theorem list_feeds {xs : List AV} {pl : Bool} (hA : AOk 0 V.A) (w : Sd V S) (ht : TgS tg) (h : LstAt V S xs v) (hz : ∀ a, v = .ref a → pl = true → S.Z a ≠ none) : Feeds V tg xs false pl S v := fun Q E k => by
  obtain ⟨a, vs, n, rfl, hg, hl⟩ := h
  exact wpAny_pyIter_list (lookList hg) (feed_of (Q := Q) w ht (Walks.list hA.hand _ a (ne_new hg) vs.toArray) hl.length (fun i h st => st.1.elim fun o q => ⟨o, q.1, q.2.1, _, q.2.2⟩) (by decide) (fun i v hP => hl.get' (by simpa using hP)) (fun i h st => two_mem (st.1.elim fun o q => ⟨o, q.1⟩) (st.2.elim fun o q => ⟨o, q.1⟩))
    (two_mem (.inl rfl) (.inr ⟨w.pNe hg nofun, hz a rfl⟩)) ⟨⟨_, Heap.get?_push_size _ rfl, rfl, rfl⟩, _, Heap.get?_push_of_some _ hg, rfl, n, rfl⟩ k)
theorem iter_ok (hA : AOk 0 V.A) (w : Sd V S) (ht : TgS tg) (e : iterV x = some items) (hx : Rp V S x v) : Feeds V tg items false (plainV x) S v := by
  cases x with
  | list xs => exact someE e ▸ list_feeds hA w ht (hx.list w) fun a q _ => by obtain ⟨b, vs, n, rfl, h, _⟩ := hx; cases q; exact fun z => noSome z h
  | own xs => exact someE e ▸ list_feeds hA w ht hx.own fun _ _ q => nomatch q
  | tuple xs =>
    cases someE e
    obtain ⟨a, vs, n, rfl, hz, hl⟩ := hx
    have hg := w.sub _ _ hz
    exact fun Q E k => wpAny_pyIter_tuple ⟨_, hg, rfl, n, rfl⟩ (feed_of (Q := Q) w ht (Walks.tuple hA.hand _ a (ne_new hg) vs.toArray) hl.length (fun i h st => st.1.elim fun o q => ⟨o, q.1, q.2.1, _, q.2.2⟩) (by decide) (fun i v hP => hl.get' (by simpa using hP)) (fun i h st => two_mem (st.1.elim fun o q => ⟨o, q.1⟩) (st.2.elim fun o q => ⟨o, q.1⟩))
      (two_mem (.inl rfl) (.inr ⟨w.pNe hg nofun, fun _ z => noSome z hz⟩)) ⟨⟨_, Heap.get?_push_size _ rfl, rfl, rfl⟩, _, Heap.get?_push_of_some _ hg, rfl, n, rfl⟩ k)
  | str y =>
    refine fun Q E k => iteE e fun ha e => ?_
    subst e
    obtain ⟨t, rfl⟩ := hx
    exact wpAny_pyIter_ascii (by simpa using ha) (feed_of (Q := Q) w ht (Walks.strAscii hA.hand _ (mkS y) t) (by simp) (fun i h st => st.elim fun o q => ⟨o, q.1, q.2.1, _, q.2.2⟩) (by decide) (fun i v hP => hP.elim fun c h => h.elim fun u h => ⟨.str [c], by rw [List.getElem?_map]; exact congrArg _ ((List.getElem?_toArray (xs := y)).symm.trans h.1), u, h.2⟩) (fun i h st => one_mem (st.elim fun o q => ⟨o, q.1⟩))
      (one_mem (.inl rfl)) ⟨_, Heap.get?_push_size _ rfl, rfl, rfl⟩ k)
  | bytes y =>
    cases someE e
    obtain ⟨hb, t, rfl⟩ := hx
    exact fun Q E k => KBw.pyIter_bytes (feed_of (Q := Q) w ht (KBw.walks hA.hand _ (bytesA y) t) (by simp [bytesA]) (fun i h st => st.elim fun o q => ⟨o, q.1, q.2.1, _, q.2.2⟩) (by decide) (fun i v hP => by
      obtain ⟨c, u, h1, rfl⟩ := hP
      rw [List.getElem?_toArray, List.getElem?_map] at h1
      obtain ⟨z, hz, rfl⟩ := Option.map_eq_some_iff.mp h1
      exact ⟨.int z, by rw [List.getElem?_map, hz]; rfl, u, congrArg (Value.int · u) (congrArg Int.ofNat (Nat.mod_eq_of_lt (hb z (List.mem_of_getElem? hz))))⟩) (fun i h st => one_mem (st.elim fun o q => ⟨o, q.1⟩)) (one_mem (.inl rfl)) ⟨_, Heap.get?_push_size _ rfl, rfl, rfl⟩ k)
  | _ => exact noneE e
theorem range_feeds {a b c : Int} {t u q : Tok} {S' : Ws} (hA : AOk 0 V.A) (w : Sd V S') (ht : TgS tg) (hr : ∃ r, v = .ref r ∧ IsRange S'.s.heap r a b c t u q) (h : rangeOk a b c) : Feeds V tg ((rangeL a b c).map .int) false true S' v := fun Q E k => by
  obtain ⟨r, rfl, hr⟩ := hr
  refine wpAny_pyIter_range hr h.1 ?_
  have W : Walks V.C.prog V.C.w V.A S'.s.heap.objs.size [S'.s.heap.objs.size] [S'.s.heap.objs.size] (Builtin.Range.rangeSize a b c).toNat _ _ := Walks.bound (Walks.range hA.hand _ a c _)
  refine feed_of (Q := Q) w ht W (by simp [rangeL]) (fun i h st => ⟨_, st, rfl, _, rfl⟩) (by decide) (fun i v hP => ?_) (fun i h st => one_mem ⟨_, st⟩) (one_mem (.inl rfl)) ?_ k
  · obtain ⟨hi, t, rfl⟩ := hP
    exact ⟨.int (a + i * c), by rw [rangeL, List.map_map, List.getElem?_map, List.getElem?_range hi]; rfl, t, rfl⟩
  · rw [Int.toNat_of_nonneg h.2.1, show a + ((0 : Nat) : Int) * c = a by simp, show Builtin.Range.rangeSize a b c - ((0 : Nat) : Int) = Builtin.Range.rangeSize a b c by simp]
    exact Heap.get?_push_size _ rfl
theorem range_core {a b c : Int} {t u q : Tok} {tk : Nat} {Q : Value → Shared → Prop} (hA : AOk 0 V.A) (w : Sd V S) (ht : TgS tg) (h : rangeOk a b c) (e : (rangeL a b c).map AV.int = items) (htk : S.s.toks ≤ tk) (k : ∀ x S', Stp V S S' → Feeds V tg items false true S' x → Q x S'.s) :
    Q (.ref S.s.heap.objs.size) { S.s with heap := S.s.heap.push { cls := .type "range", data := .fields #[.int a t, .int b u, .int c q] }, toks := tk } :=
  have g : Stp V S ⟨{ S.s with heap := S.s.heap.push { cls := .type "range", data := .fields #[.int a t, .int b u, .int c q] }, toks := tk }, S.Z⟩ := Go.keeps w (fun _ _ e => Heap.get?_push_of_some _ e) htk
  k _ _ g (e ▸ range_feeds hA g.w ht ⟨_, rfl, IsRange.new S.s.heap a b c t u q⟩ h)
theorem rpl1' {us : List Value} {y : AV} {ys : List AV} (h : RpL V S ys us) (e : as1 ys = some y) : ∃ u, us = [u] ∧ Rp V S y u := by
  obtain ⟨u, _, e1, h, rfl⟩ := (as1E e ▸ h : RpL V S [y] us)
  exact ⟨u, e1, h⟩
theorem range_ok {ys : List AV} {vs : List Value} (hA : AOk 0 V.A) (w : Sd V S) (ht : TgS tg) (e : rangeV ys = some items) (hr : RpL V S ys vs) {Q E : Value → Shared → Prop} (k : ∀ x S', Stp V S S' → Feeds V tg items false true S' x → Q x S'.s) :
    Wp V (call (.type "range") vs) Q E S := by
  unfold rangeV at e
  cases h1 : as1 ys with
  | some b =>
    rw [h1] at e
    obtain ⟨u, rfl, hu⟩ := rpl1' hr h1
    exact bindE e fun a ha e => bindE e fun b' hb e => bindE e fun c hc e => iteE e fun h e => by
      obtain ⟨t, rfl⟩ := (asIE hb ▸ hu : Rp V S (.int b') u).int
      cases someE ha; cases someE hc
      exact call_range_1 (range_core hA w ht h e (Nat.le_add_right _ 2) k)
  | none =>
    rw [h1] at e
    refine bindE e fun p hp e => bindE e fun a ha e => bindE e fun b hb e => bindE e fun c hc e => iteE e fun h e => ?_
    obtain ⟨u1, _, rfl, r1, u2, _, rfl, r2, u3, _, rfl, r3, rfl⟩ := (as3E hp ▸ hr : RpL V S [p.1, p.2.1, p.2.2] vs)
    obtain ⟨t1, rfl⟩ := (asIE ha ▸ r1 : Rp V S (.int a) u1).int
    obtain ⟨t2, rfl⟩ := (asIE hb ▸ r2 : Rp V S (.int b) u2).int
    obtain ⟨t3, rfl⟩ := (asIE hc ▸ r3 : Rp V S (.int c) u3).int
    exact call_range_3 h.2.2.1 (range_core hA w ht h e (Nat.le_refl _) k) (.inl (PyProof.noPylong_small h.2.2.2))
end
section
variable {V : Vc}
theorem star_cons {e : Expr} {rest : List Expr} {env : Env} (h : formB e = true) : starEach (e :: rest) env = (false, eval e env) :: starEach rest env := by
  cases e with
  | Starred _ _ => cases h
  | _ => rfl
theorem base_of {e : Expr} {n : Str} {env : Env} {w : Sem Value} (h : baseB e = true) : attributeBase e n env w = w := by
  cases e with
  | Name _ _ => rfl
  | Constant _ _ _ => rfl
  | Subscript _ _ _ => rfl
  | Call fn args kw p => cases fn with
    | Attribute _ _ _ => rfl
    | _ => exact absurd h fnt
  | _ => exact absurd h fnt
theorem back_cons {pos : Pos} {t : Sem Value} {r : List (Bool × Sem Value)} : backTo pos ((false, t) :: r) = (false, t) :: backTo pos r := rfl
theorem vals_nil : ValsOk V .nil := fun f es S ρ xs pos hk F hev Q E k => hk ▸ spliced_nil (k [] S (.refl F.w) (someE hev ▸ rfl))
theorem vals_cons {p : PE} {r : PEs} (hp : ValOk V p) (hr : ValsOk V r) : ValsOk V (.cons p r) := fun f es S ρ xs pos hk F hev Q E k => by
  obtain ⟨e, t, rfl, k1, k0, k2⟩ := hk
  rw [star_cons k0, back_cons]
  exact bindE hev fun x hx hev => mapE hev fun ys hys e => spliced_cons (hp k1 F hx fun v S' g hv => hr pos k2 (F.go g) hys fun vs S2 g2 hvs => k (v :: vs) S2 (g.trans g2) (e ▸ ⟨v, vs, rfl, hv.go g2 g.w, hvs⟩))
theorem and_nil : AndOk V .nil := fun f es S ρ x pos hk F hev => noneE hev
theorem and_one {p : PE} (hp : ValOk V p) : AndOk V (.cons p .nil) := fun f es S ρ x pos hk F hev => by
  obtain ⟨e, t, rfl, k1, k0, rfl⟩ := hk
  exact hp k1 F hev
theorem and_cons {p q : PE} {r : PEs} (hp : ValOk V p) (hr : AndOk V (.cons q r)) : AndOk V (.cons p (.cons q r)) := fun f es S ρ x pos hk F hev Q E k => by
  obtain ⟨e, _, rfl, k1, k0, e2, tl, rfl, k2⟩ := hk
  show wpAny _ V.A (do
    let v ← eval e f.env
    standAt pos
    let t ← holding [v] (truthy v)
    match BoolOp.And, t with
    | .And, false | .Or, true => pure v
    | _, _ => boolOp pos .And (evalEach (e2 :: tl) f.env)) Q E S.s
  refine bindE hev fun y hy hev => bindE hev fun b hb hev => wpAny_bind (hp k1 F hy fun v S' g hv => wpAny_bind (wpAny_standAt (wpAny_bind (wpAny_holding (truth_ok g.w hb hv fun S2 g2 => ?_)))))
  cases b
  · exact wpAny_pure (k v S2 (g.trans g2) ((someE hev : y = x) ▸ hv.go g2 g.w))
  · exact (hr pos ⟨e2, tl, rfl, k2⟩ (F.go (g.trans g2)) hev).next (g.trans g2) k
theorem all_nil : AllOk V .nil := fun f es S ρ b hk F hev Q E k => hk ▸ wpAny_allTrue_And_nil ((someE hev : true = b) ▸ k S (.refl F.w))
theorem all_cons {p : PE} {r : PEs} (hp : TstOk V p) (hr : AllOk V r) : AllOk V (.cons p r) := fun f es S ρ b hk F hev Q E k => by
  obtain ⟨e, t, rfl, k1, k0, k2⟩ := hk
  refine bindE hev fun c hc hev => wpAny_allTrue_And_cons (hp k1 F hc fun S' g => ?_)
  cases c
  · exact (show Q false S'.s from (someE hev : false = b).symm ▸ k S' g)
  · exact (hr k2 (F.go g) hev).next g k
theorem any_nil : AnyOk V .nil := fun f es S ρ b hk F hev Q E k => hk ▸ wpAny_allTrue_Or_nil ((someE hev : false = b) ▸ k S (.refl F.w))
theorem any_cons {p : PE} {r : PEs} (hp : TstOk V p) (hr : AnyOk V r) : AnyOk V (.cons p r) := fun f es S ρ b hk F hev Q E k => by
  obtain ⟨e, t, rfl, k1, k0, k2⟩ := hk
  refine bindE hev fun c hc hev => wpAny_allTrue_Or_cons (hp k1 F hc fun S' g => ?_)
  cases c
  · exact (hr k2 (F.go g) hev).next g k
  · exact (show Q true S'.s from (someE hev : true = b).symm ▸ k S' g)
theorem fits_len {n : Nat} (h : n ≤ 1000) : n ≤ sizeLine := limSz (lz h (by decide))
theorem Sd.new {S : Ws} (w : Sd V S) (o : Obj) (hf : o.isFreed = false) : Stp V S ⟨{ S.s with heap := S.s.heap.push o }, S.Z.put S.s.heap.objs.size o⟩ := Go.push w o hf S.s.toks (Nat.le_refl _)
theorem Sd.newOnly {S : Ws} (w : Sd V S) (o : Obj) : Stp V S ⟨{ S.s with heap := S.s.heap.push o }, S.Z⟩ := Go.keeps w (fun _ _ e => Heap.get?_push_of_some _ e) (Nat.le_refl _)
theorem arm_tup {es : PEs} (h : ValsOk V es) : ValOk V (.tup es) := fun f e S ρ x hk F hev Q E kk => by
  obtain ⟨vs, n, p, rfl, k1⟩ := hk
  exact mapE hev fun xs hxs e => bindE hxs fun ys hys hp => wpAny_Tuple_spliced (h p k1 F hys fun vs S' g hr =>
    have hp := plains_some hp
    have hl := plainsR ys vs hr hp.2.1
    ⟨fits_len (lz (Nat.le_of_eq (RpL.length ys vs hr)) hp.2.2), kk _ _ (g.trans (g.w.new (tupO vs 0) rfl)) (e ▸ hp.1 ▸ ⟨_, vs, 0, rfl, put_self, hl.mono (g.w.new (tupO vs 0) rfl).mono⟩)⟩)
theorem arm_lst {es : PEs} (h : ValsOk V es) : ValOk V (.lst es) := fun f e S ρ x hk F hev Q E kk => by
  obtain ⟨vs, p, rfl, k1⟩ := hk
  exact mapE hev fun xs hxs e => bindE hxs fun ys hys hp => wpAny_List_spliced (h p k1 F hys fun vs S' g hr =>
    have hp := plains_some hp
    have hl := plainsR ys vs hr hp.2.1
    ⟨fits_len (lz (Nat.le_of_eq (RpL.length ys vs hr)) hp.2.2), kk _ _ (g.trans (g.w.new (lstO vs 0) rfl)) (e ▸ hp.1 ▸ ⟨_, vs, 0, rfl, put_self, hl.mono (g.w.new (lstO vs 0) rfl).mono⟩)⟩)
theorem arm_idx {a i : PE} (ha : ValOk V a) (hi : ValOk V i) : ValOk V (.idx a i) := fun f e S ρ x hk F hev Q E kk => by
  obtain ⟨va, ia, pos, rfl, k1, k2⟩ := hk
  show wpAny _ V.A (do
    let o ← eval va f.env
    let i ← holding [o] (eval ia f.env)
    standAt pos
    let r ← subscripted ia (← getitemInPython o) o i
    letTemporaryGo va o r
    pure r) Q E S.s
  exact bindE hev fun y hy hev => bindE hev fun z hz hev => bindE hev fun j hj hev => wpAny_bind (ha k1 F hy fun r S' g hr => wpAny_bind (wpAny_holding (hi k2 (F.go g) (hz.trans (congrArg some (asIE hj))) fun r' S2 g' hr' =>
    hr'.elim fun t e => e ▸ wpAny_bind (wpAny_standAt ((rep_type g'.w (hr.go g' g.w) (idx_cut hev)).elim fun T h => h.elim fun id h => sub_tail (M := V.M) h.1 h.2 ((idx_ok g'.w hev (hr.go g' g.w)).next (g.trans g') kk))))))
theorem part_ok {S : Ws} {x : AV} {o : Option Int} {v : Value} (e : partV x = some o) (hx : Rp V S x v) : ∃ p : Option (Int × Tok), v = ptV p ∧ p.map Prod.fst = o := by
  cases x with
  | none => exact ⟨none, hx, someE e⟩
  | int i => exact iteE e fun _ e => hx.elim fun t h => ⟨some (i, t), h, e⟩
  | _ => exact noneE e
theorem optPart {p : PE} (hp : ValOk V p) {f : Fm} {S : Ws} {ρ : Nv} {x : AV} {l : Option Expr} (hk : (l = none ∧ p = .cst .none) ∨ ∃ e, l = some e ∧ IsE V.N p f.sc e) (F : FrA V f S ρ) (hev : ev V.Φ V.Γ p ρ = some x) : Gv V (valueOrNone (evalOpt l f.env)) S x := by
  rcases hk with ⟨rfl, rfl⟩ | ⟨e, rfl, k⟩
  · exact fun Q E kk => wpAny_pure (kk _ S (.refl F.w) ((someE hev : AV.none = x) ▸ rfl))
  · exact hp k F hev
theorem slc_parts {lo hi st : PE} (h1 : ValOk V lo) (h2 : ValOk V hi) (h3 : ValOk V st) {f : Fm} {S : Ws} {ρ : Nv} {xl xh xt : AV} {l u t : Option Expr} {ps : Pos} (k1 : (l = none ∧ lo = .cst .none) ∨ ∃ e, l = some e ∧ IsE V.N lo f.sc e) (k2 : (u = none ∧ hi = .cst .none) ∨ ∃ e, u = some e ∧ IsE V.N hi f.sc e) (k3 : (t = none ∧ st = .cst .none) ∨ ∃ e, t = some e ∧ IsE V.N st f.sc e)
    (F : FrA V f S ρ) (e1 : ev V.Φ V.Γ lo ρ = some xl) (e2 : ev V.Φ V.Γ hi ρ = some xh) (e3 : ev V.Φ V.Γ st ρ = some xt) {ol oh ot : Option Int} (p1 : partV xl = some ol) (p2 : partV xh = some oh) (p3 : partV xt = some ot) {Q E : Value → Shared → Prop}
    (kk : ∀ sl S' q1 q2 q3, Stp V S S' → S'.s.heap.get? sl = some { cls := .type "slice", data := .fields #[ptV q1, ptV q2, ptV q3] } → q1.map Prod.fst = ol → q2.map Prod.fst = oh → q3.map Prod.fst = ot → Q (.ref sl) S'.s) : Wp V (eval (.Slice l u t ps) f.env) Q E S := by
  show wpAny _ V.A (do
    let l ← valueOrNone (evalOpt l f.env)
    let u ← holding [l] (valueOrNone (evalOpt u f.env))
    let s ← holding [l, u] (valueOrNone (evalOpt t f.env))
    newFields "slice" [l, u, s]) _ E S.s
  exact wpAny_bind (optPart h1 k1 F e1 fun v1 S1 g1 r1 => wpAny_bind (wpAny_holding (optPart h2 k2 (F.go g1) e2 fun v2 S2 g2 r2 => wpAny_bind (wpAny_holding (optPart h3 k3 (F.go (g1.trans g2)) e3 fun v3 S3 g3 r3 =>
    (part_ok p1 r1).elim fun q1 a1 => (part_ok p2 r2).elim fun q2 a2 => (part_ok p3 r3).elim fun q3 a3 => a1.1 ▸ a2.1 ▸ a3.1 ▸
      wpAny_newObj_type (kk _ _ q1 q2 q3 (((g1.trans g2).trans g3).trans (g3.w.newOnly _)) (Heap.get?_push_size _ rfl) a1.2 a2.2 a3.2) (by size_fits))))))
theorem arm_slc {a lo hi stp : PE} (ha : ValOk V a) (hl : ValOk V lo) (hh : ValOk V hi) (hs : ValOk V stp) : ValOk V (.slc a lo hi stp) := fun f e S ρ x hk F hev Q E kk => by
  obtain ⟨va, l, u, sp, ps, pos, rfl, k1, k2, k3, k4⟩ := hk
  show wpAny _ V.A (do
    let o ← eval va f.env
    let i ← holding [o] (eval (.Slice l u sp ps) f.env)
    standAt pos
    let r ← subscripted (.Slice l u sp ps) (← getitemInPython o) o i
    letTemporaryGo va o r
    pure r) Q E S.s
  exact bindE hev fun y hy hev => bindE hev fun xl hxl hev => bindE hev fun xh hxh hev => bindE hev fun xt hxt hev => bindE hev fun ol hol hev => bindE hev fun oh hoh hev => bindE hev fun ot hot hev =>
    wpAny_bind (ha k1 F hy fun r S1 g1 hr => wpAny_bind (wpAny_holding (slc_parts hl hh hs k2 k3 k4 (F.go g1) hxl hxh hxt hol hoh hot fun sl S2 q1 q2 q3 g2 hsl a1 a2 a3 =>
      wpAny_bind (wpAny_standAt ((rep_type g2.w (hr.go g2 g1.w) (slc_cut hev)).elim fun T h => h.elim fun id h => sub_tail (M := V.M) h.1 h.2 ((slc_ok g2.w (a1 ▸ a2 ▸ a3 ▸ hev) (hr.go g2 g1.w) hsl).next (g1.trans g2) kk))))))
end
section
variable {V : Vc} {S : Ws} {x r : AV} {v : Value}
def biF : Bi → Value
  | .len => .builtin "len" | .ord => .builtin "ord" | .chr => .builtin "chr" | .isStr => .builtin "isinstance" | .isBytes => .builtin "isinstance" | .bytesOf => .type "bytes"
def biRest : Bi → List Value
  | .isStr => [.type "str"] | .isBytes => [.type "bytes"] | _ => []
theorem ba_no_bytes : typeLookup (.type "bytearray") "__bytes__" = pure none := by rw [typeLookup_type, builtinLookup_eq_fast]; kernel_rfl
theorem ba_no_index : typeLookup (.type "bytearray") "__index__" = pure none := by rw [typeLookup_type, builtinLookup_eq_fast]; kernel_rfl
theorem ba_buffer : typeLookup (.type "bytearray") "__buffer__" = pure (some (.builtin "bytearray.__buffer__")) := by rw [typeLookup_type, builtinLookup_eq_fast]; kernel_rfl
theorem ba_release : typeLookup (.type "bytearray") "__release_buffer__" = pure (some (.builtin "bytearray.__release_buffer__")) := by rw [typeLookup_type, builtinLookup_eq_fast]; kernel_rfl
theorem ba_sub : isSubtype (.type "bytearray") (.type "bytearray") = pure true := by rw [isSubtype_type]; kernel_rfl
theorem bytes_of_ba {a : Addr} {b : Array UInt8} {Q : Value → Shared → Prop} {E : Value → Shared → Prop} {s : Shared} (ha : s.heap.get? a = some { cls := .type "bytearray", data := .bytearray b 0 }) (hz : b.size ≤ sizeLine)
    (hQ : ∀ t k, Q (.bytes b t) { s with toks := k }) : wpAny V.M V.A (call (.type "bytes") [.ref a]) Q E s := by
  have hT : s.TypeIs (.ref a) "bytearray" := ⟨_, ha, rfl⟩
  have hnew : codeAny V.M V.A.in1 (.call (.builtin "bytes.__new__") ⟨[.type "bytes", .ref a], []⟩) (wants (fun obj s₁ => s₁.TypeIs obj "bytes" ∧ Q obj s₁) E) s := by
    refine codeAny_of_tree ?_
    show wpAny _ V.A.in1.in1 (do checkBuiltinCall "bytes.__new__" ⟨[.type "bytes", .ref a], []⟩; again (.builtin "bytes.__new__" ⟨[.type "bytes", .ref a], []⟩)) _ _ s
    refine wpAny_bind (wpAny_of_eq (F.bm_newCall _) (wpAny_pure ⟨plainId_quiet F.bm_plain _, codeAny_builtin F.bm_entry ?_⟩))
    rw [Around.under_plainId F.bm_plain _]
    unfold Builtin.«bytes.__new__»
    refine wpAny_bind (wpAny_of_eq (a := true) rfl ?_)
    refine bm_if_false rfl ?_
    refine wpAny_bind (wpAny_of_eq F.bm_sub ?_)
    refine bm_if_false rfl ?_
    refine wpAny_bind (wpAny_of_eq (F.bm_bind _) ?_)
    refine wpAny_bind (wpAny_of_eq (a := ()) rfl ?_)
    refine wpAny_bind (wpAny_of_eq (a := ()) rfl ?_)
    refine bm_if_false rfl ?_
    refine wpAny_bind (wpAny_specialOf hT ba_no_bytes ?_)
    refine wpAny_bind (wpAny_bind ?_)
    show wpAny _ _ (load a >>= _) _ _ _
    refine wpAny_bind (wpAny_load ha ?_)
    refine wpAny_pure (wpAny_pure ?_)
    refine bm_if_false rfl ?_
    refine wpAny_bind (wpAny_specialOf hT ba_no_index ?_)
    refine bm_if_true rfl ?_
    first
      | show wpAny _ _ (Builtin.Bytes.buffer? "bytes.__new__" (.ref a) true >>= _) _ _ _
      | (refine wpAny_bind ?_; show wpAny _ _ (Builtin.Bytes.buffer? "bytes.__new__" (.ref a) true >>= _) _ _ _)
    refine wpAny_bind ?_
    unfold Builtin.Bytes.buffer?
    refine wpAny_bind (wpAny_specialOf hT ba_buffer ?_)
    have own : ∀ (nm : String) (id : String) (M : Model) (A : Around) (Q : Bool → Shared → Prop) (E : Value → Shared → Prop), typeLookup (.type "bytearray") (nm : Str) = pure (some (.builtin id)) → (!id.endsWith ("." ++ nm)) = false → id.dropRight (nm.length + 1) = "bytearray" → Q true s → wpAny M A (Builtin.Bytes.slotIsOwn (.ref a) nm) Q E s := by
      intro nm id M A Q E h1 h2 h3 h4
      unfold Builtin.Bytes.slotIsOwn
      refine wpAny_bind (wpAny_specialOf hT h1 ?_)
      refine bm_if_false h2 ?_
      rw [h3]
      exact wpAny_isInstance hT ba_sub h4
    refine wpAny_bind (own "__buffer__" "bytearray.__buffer__" _ _ _ _ ba_buffer (by decide +kernel) (by decide +kernel) ?_)
    refine bm_if_false rfl ?_
    refine wpAny_bind (wpAny_specialOf hT ba_buffer ?_)
    refine wpAny_bind (m := Builtin.Bytes.ownRelease (.ref a)) ?_
    unfold Builtin.Bytes.ownRelease
    refine wpAny_bind (own "__release_buffer__" "bytearray.__release_buffer__" _ _ _ _ ba_release (by decide +kernel) (by decide +kernel) (wpAny_pure ?_))
    refine bm_if_false rfl ?_
    refine wpAny_bind (m := Builtin.Bytes.payload (.ref a)) ?_
    unfold Builtin.Bytes.payload Builtin.Bytes.payload?
    refine wpAny_bind (wpAny_bind (wpAny_load ha (wpAny_pure (wpAny_pure (wpAny_pure ?_)))))
    refine wpAny_bind (wpAny_rule ?_)
    refine wpAny_bind (wpAny_mkBytes ?_ hz)
    show wpAny _ _ (if (Value.type "bytes" == Value.type "bytes") = true then _ else _) _ _ _
    refine bm_if_true (by decide) ?_
    first
      | exact wpAny_pure ⟨PySem.W.typeIs_bytes _ _ _, hQ _ _⟩
      | exact wpAny_bind (wpAny_pure (wpAny_pure ⟨PySem.W.typeIs_bytes _ _ _, hQ _ _⟩))
  refine callType_codes (Q₁ := fun obj s₁ => s₁.TypeIs obj "bytes" ∧ Q obj s₁) F.bm_called (F.bm_typeCall _) F.entry_object_init hnew fun obj s₁ h₁ => ?_
  exact ⟨h₁.1, F.args_object_init_2 obj _, object_init_meets F.bm_called.init.lookup F.bm_called.made (by decide) V.C.prog V.C.w V.A.in1 _ s₁ ⟨h₁.1, rfl, h₁.2⟩⟩
theorem intE {xs : List AV} {y : AV} {l : List Int} {P : Prop} (e : intsOf (y :: xs) = some l) (k : ∀ i l', y = .int i → intsOf xs = some l' → i :: l' = l → P) : P := by
  cases y with
  | int i => exact mapE e fun l' h e => k i l' rfl h e
  | _ => exact noneE e
theorem ints_are {Z : Fz} {st : Option Addr} : ∀ {xs : List AV} {l : List Int} {vs : List Value}, intsOf xs = some l → RepL Z st xs vs → IntsAre vs l
  | [], _, _, e, r => r ▸ someE e ▸ .nil
  | x :: xs, l, vs, e, r => r.elim fun v r => r.elim fun us r => intE e fun i l' h1 h2 h3 => (h1 ▸ r.2.1 : RepV Z st (.int i) v).elim fun t h => r.1 ▸ h ▸ h3 ▸ .cons _ _ (ints_are h2 r.2.2)
theorem len_cast {n m : Nat} {Q : Value → Shared → Prop} (h : n = m) (k : ∀ t tk, Q (.int (m : Int) t) { S.s with toks := tk }) : ∀ t tk, Q (.int (n : Int) t) { S.s with toks := tk } := h ▸ k
theorem len_lst {xs : List AV} (w : Sd V S) (e : (if xs.length ≤ lim then some (AV.int xs.length) else none) = some r) (hx : LstAt V S xs v) : Gv V (call (.builtin "len") [v]) S r :=
  iteE e fun hz e => e ▸ hx.elim fun a h => h.elim fun vs h => h.elim fun n h => h.1 ▸ gInt w fun Q E k => PyProof.Rows.len_list (lookList h.2.1) (lim63 (lz (Nat.le_of_eq h.2.2.length) hz)) (len_cast (S := S) (Q := Q) h.2.2.length k _ _)
theorem len_ok (w : Sd V S) (e : lenV x = some r) (hx : Rp V S x v) : Gv V (call (.builtin "len") [v]) S r := by
  cases x with
  | str x => exact iteE e fun hz e => e ▸ hx.elim fun t h => h ▸ gInt w fun Q E k => len_str (Int.not_le.mpr (lim63 (lz (Nat.le_of_eq (mkS_len x)) hz))) (len_cast (S := S) (Q := Q) (mkS_len x) k _ _)
  | list xs => exact len_lst w e (hx.list w)
  | own xs => exact len_lst w e hx.own
  | bytes x =>
    have hl : (bytesA x).size = x.length := by simp [bytesA]
    exact iteE e fun hz e => e ▸ hx.2.elim fun t h => h ▸ gInt w fun Q E k => W.len_bytes (lz (lz (Nat.le_of_eq hl) hz) (by decide)) (len_cast (S := S) (Q := Q) hl k _ _)
  | _ => exact noneE e
theorem bytes_ints {xs : List AV} (hA : AOk 0 V.A) (w : Sd V S) (hx : Rp V S (.list xs) v) (e : ((intsOf xs).bind fun l => if l.all (fun i => 0 ≤ i && i < 256) && decide (l.length ≤ lim) then some (AV.bytes (l.map Int.toNat)) else none) = some r) : Gv V (call (.type "bytes") [v]) S r := by
  refine bindE e fun l hl e => iteE e fun hz e => e ▸ ?_
  obtain ⟨a, vs, n, rfl, hg, hr⟩ := hx.list w
  have hi := ints_are hl hr
  have hz := bE hz
  have h1 : ∀ i ∈ l, 0 ≤ i ∧ i < 256 := fun i hi => by simpa using List.all_eq_true.mp hz.1 i hi
  refine fun Q E k => wpAny_toks (call_bytes_ints (lookList hg) hi h1 (limSz (hi.length ▸ of_decide_eq_true hz.2)) hA.hand fun h' t tk hk htk => ?_)
  refine k _ ⟨{ S.s with heap := h', toks := tk }, S.Z⟩ (Go.keeps w hk htk) ⟨fun x hx => ?_, t, ?_⟩
  · obtain ⟨i, hi', rfl⟩ := List.mem_map.mp hx
    have := h1 i hi'
    lia
  · congr 1
    simp [bytesA, byteArr]
theorem bytesOf_ok (hA : AOk 0 V.A) (w : Sd V S) (e : bytesOfV x = some r) (hx : Rp V S x v) : Gv V (call (.type "bytes") [v]) S r := by
  cases x with
  | ba b => exact iteE e fun hz e => e ▸ hx.2.elim fun a h => h.1 ▸ gBytes hx.1 w fun Q E k => bytes_of_ba h.2 (limSz (lz (Nat.le_of_eq (by simp [bytesA])) hz)) k
  | list xs => exact bytes_ints hA w hx e
  | _ => exact noneE e
theorem bi_leaf {b : Bi} (hA : AOk 0 V.A) (w : Sd V S) (e : biV b x = some r) (hx : Rp V S x v) : Gv V (call (biF b) (v :: biRest b)) S r := by
  cases b with
  | len => exact len_ok w e hx
  | ord => exact bindE e fun s hs e => mapE e fun c hc e => e ▸ (asSE hs ▸ hx : Rp V S (.str s) v).str.elim fun t h => h ▸ one1E hc ▸ gInt w fun Q E k => ord_of_one rfl (k _ _)
  | chr => exact bindE e fun i hi e => iteE e fun hz e => e ▸ (asIE hi ▸ hx : Rp V S (.int i) v).int.elim fun t h => h ▸ gStr w fun Q E k => chr_of_range hz.1 (Int.le_of_lt (Int.lt_trans hz.2 (show (256 : Int) < 1114111 from by decide))) (k _ _)
  | isStr => exact mapE e fun s hs e => e ▸ (asSE hs ▸ hx : Rp V S (.str s) v).str.elim fun t h => h ▸ gBool w fun Q E k => IsiPair.str_str (k S.s.toks)
  | isBytes => exact mapE e fun s hs e => e ▸ (asBE hs ▸ hx : Rp V S (.bytes s) v).bytes.2.elim fun t h => h ▸ gBool w fun Q E k => call_isinstance (isinstance_true (Tx := "bytes") F.isi_meta_bytes F.sub_bytes_bytes) ⟨rfl, k S.s.toks⟩
  | bytesOf => exact bytesOf_ok hA w e hx
def mthId : Mth → String
  | .replace => "str.replace" | .find3 => "str.find" | .join => "str.join" | .split => "str.split" | .isalnum => "str.isalnum" | .tr => "str.translate" | .sub => ""
theorem joinL_eq (sep : List Nat) : ∀ l : List (List Nat), Str.join (mkS sep) (l.map mkS) = mkS (joinL sep l)
  | [] => rfl
  | [x] => rfl
  | x :: y :: r => by
    have ih := joinL_eq sep (y :: r)
    show mkS x ++ mkS sep ++ Str.join (mkS sep) ((y :: r).map mkS) = _
    rw [ih, mkS_app, mkS_app]; rfl
theorem txtJoin_eq (sep : List Nat) (l : List (List Nat)) : Txt.join (mkS sep) (l.map mkS) = mkS (joinL sep l) := by
  unfold Txt.join
  rw [StrLaws.glued_eq_join, joinL_eq]
theorem strE {xs : List AV} {y : AV} {l : List (List Nat)} {P : Prop} (e : strsOf (y :: xs) = some l) (k : ∀ i l', y = .str i → strsOf xs = some l' → i :: l' = l → P) : P := by
  cases y with
  | str i => exact mapE e fun l' h e => k i l' rfl h e
  | _ => exact noneE e
theorem strs_are {Z : Fz} {st : Option Addr} : ∀ {xs : List AV} {l : List (List Nat)} {vs : List Value}, strsOf xs = some l → RepL Z st xs vs → ∃ ps : List (Str × Tok), vs = strValues ps ∧ ps.map (·.1) = l.map mkS
  | [], _, _, e, r => r ▸ someE e ▸ ⟨[], rfl, rfl⟩
  | x :: xs, l, vs, e, r => r.elim fun v r => r.elim fun us r => strE e fun i l' h1 h2 h3 => (h1 ▸ r.2.1 : RepV Z st (.str i) v).elim fun t h => (strs_are h2 r.2.2).elim fun ps hp =>
    ⟨(mkS i, t) :: ps, r.1.trans (h ▸ hp.1 ▸ rfl), h3 ▸ congrArg (mkS i :: ·) hp.2⟩
theorem joinL_sum (sep : List Nat) : ∀ l : List (List Nat), ((l.map mkS).map (·.length)).sum + l.length * sep.length ≤ (joinL sep l).length + sep.length
  | [] => by simp [joinL]
  | [x] => by simp [joinL, Str.length]
  | x :: y :: r => by
    have ih := joinL_sum sep (y :: r)
    simp only [List.map_cons, List.sum_cons, List.length_cons, joinL, lnA] at ih ⊢
    rw [mkS_len] at ih ⊢
    rw [mkS_len]
    have : (r.length + 1 + 1) * sep.length = (r.length + 1) * sep.length + sep.length := by rw [Nat.add_mul (r.length + 1) 1]; lia
    lia
theorem joinOk_of {sep : List Nat} {l : List (List Nat)} (h1 : (joinL sep l).length ≤ lim) (h2 : sep.length ≤ lim) : JoinOk (mkS sep) (l.map mkS) = true := by
  unfold JoinOk
  rw [StrLaws.joinTotal]
  have := joinL_sum sep l
  unfold lim at h1 h2
  unfold Builtin.Str.tooLong sizeLine
  rw [mkS_len, List.length_map, Bool.not_eq_true']
  exact dF (by lia)
theorem join_leaf {s : Shared} {Z : Fz} {st : Option Addr} {Q : Value → Shared → Prop} {E : Value → Shared → Prop} {D : Addr} {sep : List Nat} {t : Tok} {xs : List AV} {vs : List Value} {n : Nat} {l : List (List Nat)} (hg : s.heap.get? D = some (lstO vs n)) (hl : RepL Z st xs vs) (e : strsOf xs = some l)
    (h1 : (joinL sep l).length ≤ lim) (h2 : sep.length ≤ lim) (k : ∀ u tk, Q (.str (mkS (joinL sep l)) u) { s with toks := tk }) : wpAny V.M V.A (call (.builtin "str.join") [.str (mkS sep) t, .ref D]) Q E s := by
  obtain ⟨ps, rfl, h3⟩ := strs_are e hl
  exact SC.join (l := ps) (lookList hg) h3 (joinOk_of h1 h2) fun t' tk => txtJoin_eq sep l ▸ k t' tk
theorem fromIndex_of {n : Nat} {i : Int} (h : 0 ≤ i) : fromIndex n i = i.toNat := by unfold fromIndex; rw [if_neg (Int.not_lt.mpr h), Int.max_eq_right h]
theorem find_leaf {s : Shared} {Q : Value → Shared → Prop} {E : Value → Shared → Prop} {x : List Nat} {c : Nat} {i j : Int} {t u v w : Tok} (h0 : 0 ≤ i) (h1 : 0 ≤ j) (h2 : j ≤ x.length) (k : ∀ q tk, Q (.int (match findC c ((x.take j.toNat).drop i.toNat) with | some k => i + (k : Int) | none => -1) q) { s with toks := tk }) :
    wpAny V.M V.A (call (.builtin "str.find") [.str (mkS x) t, .str (mkS [c]) u, .int i v, .int j w]) Q E s := by
  have hg : Gives (Builtin.«str.find» ⟨[.str (mkS x) t, .str (mkS [c]) u, .int i v, .int j w], []⟩) (.int (match Builtin.Str.occurrences (mkS x) (mkS [c]) (fromIndex (mkS x).length i) (min (fromIndex (mkS x).length j) (mkS x).length) 1 with | k :: _ => (k : Int) | [] => -1)) := by
    show Gives (match Builtin.Str.occurrences (mkS x) (mkS [c]) (fromIndex (mkS x).length i) (min (fromIndex (mkS x).length j) (mkS x).length) 1 with | k :: _ => retInt k | [] => (do rule "str.find.not-found"; retInt (-1))) _
    cases Builtin.Str.occurrences (mkS x) (mkS [c]) (fromIndex (mkS x).length i) (min (fromIndex (mkS x).length j) (mkS x).length) 1 with
    | nil => exact .rule (.of_eq rfl)
    | cons k _ => exact .of_eq rfl
  refine call_gives F.slot_str_find (typeIs_str _ _ _) F.entry_str_find (F.args_str_find_4 _ _ _ _) hg ?_
  have e1 : fromIndex (mkS x).length i = i.toNat := fromIndex_of h0
  have e2 : min (fromIndex (mkS x).length j) (mkS x).length = j.toNat := by rw [fromIndex_of h1, mkS_len]; exact Nat.min_eq_left (Int.toNat_le.mpr h2)
  rw [e1, e2]
  have hf : (match Builtin.Str.occurrences (mkS x) (mkS [c]) i.toNat j.toNat 1 with | k :: _ => (k : Int) | [] => -1) = (match findC c ((x.take j.toNat).drop i.toNat) with | some k => i + (k : Int) | none => -1) := by
    have := find_eq x c i.toNat j.toNat (Int.toNat_le.mpr h2)
    rw [Int.toNat_of_nonneg h0] at this
    exact this
  rw [hf]
  exact k s.toks (s.toks + 1)
theorem alnum_eq (c : Nat) (h : c < 128) : Unicode.isAlnum c = alnumC c := by
  have key : ∀ i : Fin 128, Unicode.isAlnum i.val = alnumC i.val := by decide +kernel
  exact key ⟨c, h⟩
theorem spaceWords_len (x : Str) : (Builtin.Str.spaceWords x (x.length + 1)).length ≤ x.length + 1 := lz (StrLaws.len_le_wsum _) (StrLaws.sw_weight x).1
theorem split_leaf {s : Shared} {Q : Value → Shared → Prop} {E : Value → Shared → Prop} {x : List Nat} {t : Tok} (hx : ∀ c ∈ x, (32 ≤ c && c < 127) = true) (hz : x.length ≤ 1000)
    (k : ∀ vs n, (∀ Z st, RepL Z st ((wordsAt 32 [] x).map AV.str) vs) → ∀ h' a tk, (∀ b o, s.heap.get? b = some o → h'.get? b = some o) → s.heap.get? a = none → h'.get? a = some (lstO vs n) → Q (.ref a) { s with heap := h', toks := tk }) :
    wpAny V.M V.A (call (.builtin "str.split") [.str (mkS x) t]) Q E s := by
  have rep : ∀ (l : List (Str × Tok)), l.map (·.1) = Txt.words (mkS x) → ∀ Z st, RepL Z st ((wordsAt 32 [] x).map AV.str) (strValues l) := by
    intro l hl Z st
    rw [← words_eq x hx, ← hl]
    clear hl
    induction l with
    | nil => exact .nil
    | cons p r ih => exact .cons ⟨p.2, rfl⟩ ih
  have hl1 := spaceWords_len (mkS x)
  rw [mkS_len] at hl1
  refine call_meets F.slot_str_split (typeIs_str _ _ _) F.entry_str_split (F.args_str_split_1 _) (meets_str_split_space (mkS x) t (by rw [mkS_len, sizeLine_eq]; lia) (by rw [mkS_len, sizeLine_eq]; lia)) ?_
  cases hw : Builtin.Str.spaceWords (mkS x) ((mkS x).length + 1) == [(0, (mkS x).length)]
  · simp only [Bool.false_eq_true, if_false]
    rw [strsFrom_eq]
    exact k _ 0 (rep (numbered s.toks (PySem.wordsOf (mkS x))) ((numbered_texts _ _).trans (if_neg (ne_true_of_eq_false hw)).symm)) _ _ _ (fun _ _ e => Heap.get?_push_of_some _ e) (get_none (Nat.le_refl _)) (Heap.get?_push_size _ rfl)
  · simp only [if_true]
    exact k _ 0 (rep [(mkS x, t)] (if_pos hw).symm) _ _ s.toks (fun _ _ e => Heap.get?_push_of_some _ e) (get_none (Nat.le_refl _)) (Heap.get?_push_size _ rfl)
theorem isaln_eq {c : Nat} (h : c < 128) : Txt.isalnum (mkS [c]) = alnumC c := by
  rw [← alnum_eq c h]
  simp [Txt.isalnum, Str.length]
theorem rpl3 {us : List Value} {a b c : AV} (h : RpL V S [a, b, c] us) : ∃ u v w, us = [u, v, w] ∧ Rp V S a u ∧ Rp V S b v ∧ Rp V S c w := by
  obtain ⟨u, _, rfl, ha, v, _, rfl, hb, w, _, rfl, hc, rfl⟩ := h
  exact ⟨u, v, w, rfl, ha, hb, hc⟩
theorem find_ok {s : List Nat} {t : Tok} {ys : List AV} {us : List Value} (w : Sd V S) (e : findV s ys = some r) (hy : RpL V S ys us) : Gv V (call (.builtin "str.find") (.str (mkS s) t :: us)) S r :=
  bindE e fun p hp e => bindE e fun l hl e => bindE e fun c hc e => bindE e fun i hi e => bindE e fun j hj e => iteE e fun hz e => e ▸ (rpl3 (us := us) (as3E hp ▸ hy)).elim fun ua h => h.elim fun ui h => h.elim fun uj h =>
    (asSE hl ▸ h.2.1 : Rp V S (.str l) ua).str.elim fun t1 e1 => (asIE hi ▸ h.2.2.1 : Rp V S (.int i) ui).int.elim fun t2 e2 => (asIE hj ▸ h.2.2.2 : Rp V S (.int j) uj).int.elim fun t3 e3 =>
      h.1 ▸ e1 ▸ e2 ▸ e3 ▸ one1E hc ▸ gInt w fun Q E k => find_leaf hz.1 hz.2.2.1 hz.2.2.2.1 k
theorem join_ok {s : List Nat} {t : Tok} {ys : List AV} {us : List Value} (w : Sd V S) (e : joinV s ys = some r) (hy : RpL V S ys us) : Gv V (call (.builtin "str.join") (.str (mkS s) t :: us)) S r :=
  bindE e fun a ha e => bindE e fun xs hx e => bindE e fun l hl e => iteE e fun hz e => e ▸ (as1E ha ▸ hy : RpL V S [a] us).elim fun ua h => h.elim fun _ h => h.1 ▸ (show _ = [] from h.2.2) ▸
    (h.2.1.lo w hx).elim fun a h => h.elim fun vs h => h.elim fun n h => h.1 ▸ gStr w fun Q E k => join_leaf h.2.1 h.2.2 hl hz.1 hz.2 k
theorem split_ok {s : List Nat} {t : Tok} (w : Sd V S) (h1 : s.all (fun c => 32 ≤ c && c < 127) = true) (h2 : s.length ≤ 1000) : Gv V (call (.builtin "str.split") [.str (mkS s) t]) S (.list ((wordsAt 32 [] s).map .str)) := fun Q E k =>
  wpAny_toks (split_leaf (List.all_eq_true.mp h1) h2 fun vs n hr h' a tk hk ha ho htk =>
    k _ ⟨{ S.s with heap := h', toks := tk }, S.Z.put a (lstO vs n)⟩ (Go.keepsPut (tk := tk) w hk ha ho htk) ⟨a, vs, n, rfl, put_self, hr _ _⟩)
theorem meth_leaf {m : Mth} {ys : List AV} {us : List Value} (hm : m = .find3 ∨ m = .join ∨ m = .split ∨ m = .isalnum) (w : Sd V S) (e : methV m x ys = some r) (hx : Rp V S x v) (hy : RpL V S ys us) : Gv V (call (.builtin (mthId m)) (v :: us)) S r :=
  bindE e fun s hs e => (asSE hs ▸ hx : Rp V S (.str s) v).str.elim fun t h => h ▸ by
    rcases hm with rfl | rfl | rfl | rfl
    · exact find_ok w e hy
    · exact join_ok w e hy
    · exact iteE e fun hz e => e ▸ (show us = [] from (hz.1 ▸ hy : RpL V S [] us)) ▸ split_ok w hz.2.1 hz.2.2
    · exact bindE e fun c hc e => iteE e fun hz e => e ▸ (show us = [] from (hz.1 ▸ hy : RpL V S [] us)) ▸ one1E hc ▸ gBool w fun Q E k => SC.isalnum (isaln_eq hz.2 ▸ k S.s.toks)
theorem replace_leaf {s a b : List Nat} {t u w' : Tok} (w : Sd V S) (e : replaceV s [.str a, .str b] = some r) (h1 : u ≠ 0) (h2 : w' ≠ 0) (h3 : u ≠ w') (hab : a ≠ b) : Gv V (call (.builtin "str.replace") [.str (mkS s) t, .str (mkS a) u, .str (mkS b) w']) S r :=
  bindE (x := one1 a) e fun c hc e => iteE e fun hz e => e ▸ by
    cases one1E hc
    exact gStr w fun Q E k => SC.replaceW h1 h2 h3 (beq_eq_false_iff_ne.mpr fun q => hab (mkS_inj q)) (by rw [mkS_len]; lia) (by show (mkS b).length ≤ 14; rw [mkS_len]; lia) fun t' tk => (replace_eq s b c).symm ▸ k t' tk
end
section
variable {V : Vc}
structure PlA (M : Model) (A : Around) (args : List (Bool × Sem Value)) : Prop where
  any : args.any (·.1) = false
  all : args.all (fun x => !x.1) = true
  go : ∀ {fv : Value} {Q : Args → Shared → Prop} {E : Value → Shared → Prop} {s : Shared}, wpAny M A (spliced args) (fun vs s' => Q ⟨vs, []⟩ s') E s → wpAny M A (evalArgs fv true args []) Q E s
theorem PlA.nil {M : Model} {A : Around} : PlA M A [] := ⟨rfl, rfl, fun {fv Q E s} h => by
  unfold evalArgs
  show wpAny M A (spliced [] >>= _) Q E s
  exact wpAny_bind (wpAny_mono h (fun vs s' h' => wpAny_holding (wpAny_bind (wpAny_pure (wpAny_bind (wpAny_pure (wpAny_pure h')))))) fun _ _ x => x)⟩
theorem PlA.cons {M : Model} {A : Around} {t : Sem Value} {r : List (Bool × Sem Value)} (h : PlA M A r) : PlA M A ((false, t) :: r) := ⟨h.any, h.all, fun k => Calls.evalArgs_plain k⟩
theorem pla_of {M : Model} {A : Around} {sc : Sc} {env : Env} {pos : Pos} : ∀ (ps : PEs) (es : List Expr), IsEs V.N ps sc es → PlA M A (backTo pos (starEach es env))
  | .nil, _, h => h ▸ .nil
  | .cons p r, _, h => h.elim fun e h => h.elim fun t h => h.1 ▸ (star_cons h.2.2.1).symm ▸ (pla_of r t h.2.2.2).cons
theorem arm_call (K : Env0 V) {g : Nat} {es : PEs} (h : ValsOk V es) : ValOk V (.call g es) := fun f e S ρ x hk F hev Q E kk => by
  obtain ⟨id, q, args, pos, rfl, k1, k2, k3, k4, k5⟩ := hk
  refine bindE hev fun ys hys hev => bindE hys fun xs hxs hpl => ?_
  have hp := plains_some hpl
  obtain ⟨id', a, o, fd, h1, h2, h3, h4, h5⟩ := K.fn g ys x hev
  cases eqFn k1 h1
  show wpAny _ V.A (do callWith pos (← eval (.Name id q) f.env) [] (backTo pos (starEach args f.env)) []) Q E S.s
  exact wpAny_bind (name_gl K.cfg F k2 h2 (Calls.callWith_function (o := o) (fd := fd) ((pla_of es args k5).go (h pos k5 F (hp.1 ▸ hxs) fun vs S' g hr =>
    ⟨⟨g.w.sub _ _ (g.w.base _ _ h3), h4⟩, (h5 S' vs g.w (plainsR ys vs hr (hp.1 ▸ hp.2.1))).next g kk⟩))))
theorem bi_blt (b : Bi) : (biName b, biF b) ∈ bltV := by
  cases b with
  | len => exact .head _
  | ord => exact .tail _ (.head _)
  | chr => exact .tail _ (.tail _ (.head _))
  | isStr => exact .tail _ (.tail _ (.tail _ (.head _)))
  | isBytes => exact .tail _ (.tail _ (.tail _ (.head _)))
  | bytesOf => exact .tail _ (.tail _ (.tail _ (.tail _ (.head _))))
theorem str_blt : (("str" : Str), Value.type "str") ∈ bltV := .tail _ (.tail _ (.tail _ (.tail _ (.tail _ (.tail _ (.tail _ (.tail _ (.head _))))))))
theorem bytes_blt : (("bytes" : Str), Value.type "bytes") ∈ bltV := .tail _ (.tail _ (.tail _ (.tail _ (.head _))))
theorem bi_more (K : Env0 V) {f : Fm} {S : Ws} {ρ : Nv} {pos : Pos} {b : Bi} {more : List Expr} (hk : MoreE f.sc b more) (F : FrA V f S ρ) {Q : List Value → Shared → Prop} {E : Value → Shared → Prop}
    (k : Q (biRest b) S.s) : Wp V (spliced (backTo pos (starEach more f.env))) Q E S ∧ (backTo pos (starEach more f.env)).any (·.1) = false := by
  cases b with
  | isStr => exact hk.elim fun p h => h.1 ▸ ⟨spliced_cons (name_bl K.cfg F h.2 str_blt (spliced_nil k)), rfl⟩
  | isBytes => exact hk.elim fun p h => h.1 ▸ ⟨spliced_cons (name_bl K.cfg F h.2 bytes_blt (spliced_nil k)), rfl⟩
  | _ => exact (show more = [] from hk) ▸ ⟨spliced_nil k, rfl⟩
theorem bi_call {M : Model} {A : Around} {s : Shared} (b : Bi) {pos : Pos} {x : Sem Value} {rest : List (Bool × Sem Value)} {Q E : Value → Shared → Prop} (hp : rest.any (·.1) = false)
    (h : wpAny M A (spliced ((false, x) :: rest)) (fun vs s' => wpAny M A (call (biF b) vs) Q E s') E s) : wpAny M A (callWith pos (biF b) [] ((false, x) :: rest) []) Q E s := by
  cases b with
  | bytesOf => exact PySem.callWith_type hp (Calls.evalArgs_plain h)
  | _ => exact Calls.callWith_builtin hp (Calls.evalArgs_plain h)
theorem arm_bi (K : Env0 V) {b : Bi} {a : PE} (ha : ValOk V a) : ValOk V (.bi b a) := fun f e S ρ x hk F hev Q E kk => by
  obtain ⟨q, e1, more, pos, rfl, k2, k3, k0, k4⟩ := hk
  show wpAny _ V.A (do callWith pos (← eval (.Name (biName b) q) f.env) [] (backTo pos (starEach (e1 :: more) f.env)) []) Q E S.s
  rw [star_cons k0, back_cons]
  exact bindE hev fun y hy hev => wpAny_bind (name_bl K.cfg F k2 (bi_blt b) (bi_call b (bi_more K k3 F (Q := fun _ _ => True) (E := E) trivial).2 (spliced_cons (ha k4 F hy fun v S' g hv =>
    (bi_more K k3 (F.go g) ((bi_leaf K.room g.w hev hv).next g kk)).1))))
theorem mth_slot (m : Mth) (hm : m ≠ .sub) : Slot "str" (mthName m) (mthId m) ∧ typeOf (.builtin (mthId m)) = pure (.type "method_descriptor") := by
  cases m with
  | replace => exact ⟨F.slot_str_replace, F.type_str_replace⟩
  | find3 => exact ⟨F.slot_str_find, F.type_str_find⟩
  | join => exact ⟨F.slot_str_join, F.type_str_join⟩
  | split => exact ⟨F.slot_str_split, F.type_str_split⟩
  | isalnum => exact ⟨F.slot_str_isalnum, F.type_str_isalnum⟩
  | tr => exact ⟨F.slot_str_translate, F.type_str_translate⟩
  | sub => exact absurd rfl hm
theorem meth_walk {m : Mth} (hm : m ≠ .sub) {f : Fm} {o : PE} {ob : Expr} {ap pos : Pos} {args : List Expr} {S : Ws} {ρ : Nv} {s : List Nat} (ho : ValOk V o) (k1 : IsE V.N o f.sc ob) (kb : baseB ob = true) (kl : ap.endLine = pos.line) (ka : args.length < 20) (F : FrA V f S ρ)
    (pl : PlA V.M V.A (backTo pos (starEach args f.env))) (hs : ev V.Φ V.Γ o ρ = some (.str s)) {Q E : Value → Shared → Prop}
    (kk : ∀ t S', Stp V S S' → Wp V (spliced (backTo pos (starEach args f.env))) (fun vs s' => wpAny V.M V.A (call (.builtin (mthId m)) (.str (mkS s) t :: vs)) Q E s') E S') :
    Wp V (eval (.Call (.Attribute ob (mthName m) ap) args [] pos) f.env) Q E S := by
  refine wpAny_Call_method_lateS (base_of kb) ?_ (beq_iff_eq.mpr kl) (ho k1 F hs fun v S' g hv => hv.elim fun t h => h ▸
    ⟨"str", _, _root_.PySem.F.plainAttrs_str, (mth_slot m hm).1, (mth_slot m hm).2, typeIs_str _ _ _, (fun _ e => nomatch e), Calls.callWith_builtin pl.any (pl.go (kk t S' g))⟩)
  rw [pl.all]
  show decide (args.length + 0 + 0 < 30) = true
  exact dT (Nat.lt_trans ka (by decide))
theorem meth_ord {m : Mth} (hm : m = .find3 ∨ m = .join ∨ m = .split ∨ m = .isalnum) {o : PE} {es : PEs} (ho : ValOk V o) (he : ValsOk V es) {f : Fm} {ob : Expr} {ap pos : Pos} {args : List Expr} {S : Ws} {ρ : Nv} {x : AV} (k1 : IsE V.N o f.sc ob) (k2 : IsEs V.N es f.sc args)
    (kb : baseB ob = true) (kl : ap.endLine = pos.line) (ka : args.length < 20) (F : FrA V f S ρ) (hev : ev V.Φ V.Γ (.meth m o es) ρ = some x) : Gv V (eval (.Call (.Attribute ob (mthName m) ap) args [] pos) f.env) S x := fun Q E kk =>
  bindE hev fun y hy hev => bindE hev fun ys hys hev => bindE hev fun s hs _ => meth_walk (by rcases hm with rfl | rfl | rfl | rfl <;> exact nofun) ho k1 kb kl ka F (pla_of es args k2) (hy.trans (congrArg some (asSE hs))) fun t S' g =>
    he pos k2 (F.go g) hys fun vs S2 g2 hr => (meth_leaf hm g2.w hev (asSE hs ▸ ⟨t, rfl⟩) hr).next (g.trans g2) kk
theorem meth_rep {o : PE} {es : PEs} (ho : ValOk V o) {f : Fm} {ob : Expr} {ap pos : Pos} {args : List Expr} {S : Ws} {ρ : Nv} {x : AV} (k1 : IsE V.N o f.sc ob) (k2 : RepE es args)
    (kb : baseB ob = true) (kl : ap.endLine = pos.line) (ka : args.length < 20) (F : FrA V f S ρ) (hev : ev V.Φ V.Γ (.meth .replace o es) ρ = some x) : Gv V (eval (.Call (.Attribute ob (mthName .replace) ap) args [] pos) f.env) S x := fun Q E kk => by
  obtain ⟨a, b, n, p, n', p', rfl, rfl, hab⟩ := k2
  refine bindE hev fun y hy hev => bindE hev fun ys hys hev => bindE hev fun s hs hev => meth_walk (m := .replace) nofun ho k1 kb kl ka F (PlA.cons (PlA.cons .nil)) (hy.trans (congrArg some (asSE hs))) fun t S' g => ?_
  refine spliced_cons (show wpAny _ V.A (constValue f.env (.str (mkS a))) _ E S'.s from wpAny_mkText (spliced_cons (show wpAny _ V.A (constValue f.env (.str (mkS b))) _ E _ from wpAny_mkText (spliced_nil ?_))))
  have g2 : Stp V S' (S'.tk (S'.s.toks + 1 + 1)) := g.w.tk _ (Nat.le_add_right _ 2)
  have htk := WOk.tk g.w
  have hev : replaceV s [.str a, .str b] = some x := (someE hys : [AV.str a, AV.str b] = ys) ▸ hev
  exact (replace_leaf g2.w hev (Nat.ne_of_gt htk) (Nat.succ_ne_zero _) (Nat.ne_of_lt (Nat.lt_succ_self _)) hab).next (g.trans g2) kk
theorem meth_tr (K : Env0 V) {o : PE} {f : Fm} {ob : Expr} {ap pos : Pos} {q : Pos} {S : Ws} {ρ : Nv} {x : AV} (ho : ValOk V o) (k1 : IsE V.N o f.sc ob) (kg : glOk f.sc "_special_chars_map" = true)
    (kb : baseB ob = true) (kl : ap.endLine = pos.line) (F : FrA V f S ρ) (hev : ev V.Φ V.Γ (.meth .tr o .nil) ρ = some x) : Gv V (eval (.Call (.Attribute ob (mthName .tr) ap) [.Name "_special_chars_map" q] [] pos) f.env) S x := fun Q E kk =>
  K.tr.elim fun dv hd => bindE hev fun y hy hev => bindE hev fun ys hys hev => bindE hev fun s hs hev => bindE hev fun c hc hev => iteE hev fun h128 e => meth_walk (m := .tr) (args := [.Name "_special_chars_map" q]) nofun ho k1 kb kl (show 1 < 20 by decide) F (PlA.cons .nil) (hy.trans (congrArg some (asSE hs))) fun t S' g =>
    spliced_cons (name_gl K.cfg (F.go g) kg hd.1 (spliced_nil (one1E hc ▸ (hd.2 S' c t g.w h128).next g (e ▸ kk))))
theorem meth_sub (K : Env0 V) {o : PE} {f : Fm} {l ex : Expr} {q ap pos : Pos} {S : Ws} {ρ : Nv} {x : AV} (ho : ValOk V o) (kl' : V.N.lam = true) (kg : glOk f.sc "_twin_re_1" = true) (kL : LamE V.N l) (kx : formB ex = true) (k1 : IsE V.N o f.sc ex)
    (kl : ap.endLine = pos.line) (F : FrA V f S ρ) (hev : ev V.Φ V.Γ (.meth .sub o .nil) ρ = some x) : Gv V (eval (.Call (.Attribute (.Name "_twin_re_1" q) (mthName .sub) ap) [l, ex] [] pos) f.env) S x :=
  bindE hev fun y hy hev => bindE hev fun ys hys hev => bindE hev fun s hs hev => iteE hev fun hz e => e ▸ K.sub kl' f S ρ l ex q ap pos s kL kg kl F hz
    (by obtain ⟨_, _, _, _, _, _, _, _, _, _, _, _, _, _, rfl, _⟩ := kL; exact congrArg _ (star_cons kx)) fun S' g => ho k1 (F.go g) (hy.trans (congrArg some (asSE hs)))
theorem arm_meth (K : Env0 V) {m : Mth} {o : PE} {es : PEs} (ho : ValOk V o) (he : ValsOk V es) : ValOk V (.meth m o es) := fun f e S ρ x hk F hev => by
  obtain ⟨ob, ap, args, pos, rfl, kl, ka, kb, k⟩ := hk
  cases m with
  | sub =>
    obtain ⟨q, l, ex, rfl, rfl, h1, h2, h3, h4, h5, rfl⟩ := k
    exact meth_sub K ho h1 h2 h3 h4 h5 kl F hev
  | tr =>
    obtain ⟨q, rfl, h1, h2, rfl⟩ := k
    exact meth_tr K ho h2 h1 kb kl F hev
  | replace => exact meth_rep ho k.1 k.2 kb kl ka F hev
  | find3 => exact meth_ord (.inl rfl) ho he k.1 k.2 kb kl ka F hev
  | join => exact meth_ord (.inr (.inl rfl)) ho he k.1 k.2 kb kl ka F hev
  | split => exact meth_ord (.inr (.inr (.inl rfl))) ho he k.1 k.2 kb kl ka F hev
  | isalnum => exact meth_ord (.inr (.inr (.inr rfl))) ho he k.1 k.2 kb kl ka F hev
theorem arm_esc (K : Env0 V) {o : PE} {k : Nat} (ho : ValOk V o) : ValOk V (.joinEsc o k) := fun f e S ρ x hk F hev => by
  obtain ⟨ob, ap, g, pos, rfl, kl, k2, kb, k3, k4⟩ := hk
  exact bindE hev fun y hy hev => bindE hev fun z hz hev => bindE hev fun sep hs hev => bindE hev fun xs hx hev => bindE hev fun l hl hev => iteE hev fun hc e => e ▸
    K.esc kl f S ρ k g ob sep xs l ap pos k4 k2 F (hz.trans (congrArg some (asOE hx))) hl hc.1 hc.2.1 hc.2.2.1 hc.2.2.2 (base_of kb) (ho k3 F (hy.trans (congrArg some (asSE hs))))
theorem fs_nil : FsOk V .nil := fun f es S ρ xs l out hk F hev hl hz Q E k => by
  cases (show es = [] from hk); cases someE hev; cases someE hl
  exact wpAny_mkStr (k _ (S.tk _) (F.w.tk _ (Nat.le_succ _)) ⟨S.s.toks, by simp⟩) (limSz (by rw [mkS_len]; exact hz))
theorem fs_part {r : PEs} (hr : FsOk V r) {f : Fm} {S : Ws} {ρ : Nv} {ys : List AV} {y : List Nat} {l' : List (List Nat)} {out : List Nat} {t : Sem Value} {ts : List Expr} (ht : Gv V t S (.str y)) (hk : IsF V.N r f.sc ts) (F : FrA V f S ρ) (hys : evs V.Φ V.Γ r ρ = some ys) (hl : strsOf ys = some l')
    (hz : out.length + (y ++ l'.flatten).length ≤ lim) : Gv V (joinParts (mkS out) (t :: evalEach ts f.env)) S (.str (out ++ (y ++ l'.flatten))) := fun Q E k => by
  rw [joinParts]
  refine wpAny_bind (ht fun v S' g hv => hv.elim fun u h => h ▸ wpAny_bind (wpAny_pure ?_))
  show wpAny _ V.A (if (mkS out).length + (mkS y).length > sizeLine then _ else _) Q E S'.s
  rw [lnA] at hz
  rw [if_neg (Nat.not_lt.mpr (limSz (by rw [mkS_len, mkS_len]; exact lz (Nat.add_le_add_left (Nat.le_add_right _ _) _) hz)))]
  have key := (hr (out := out ++ y) hk (F.go g) hys hl (by rw [lnA, Nat.add_assoc]; exact hz)).next (E := E) g (List.append_assoc out y l'.flatten ▸ k)
  rw [← mkS_app] at key
  exact key
theorem fs_cons {p : PE} {r : PEs} (hp : ValOk V p) (hr : FsOk V r) : FsOk V (.cons p r) := fun f es S ρ xs l out hk F hev hl hz => by
  obtain ⟨ts, hk, k2⟩ := hk
  refine bindE hev fun x hx hev => mapE hev fun ys hys e => strE (e ▸ hl) fun y l' h1 h2 h3 => ?_
  subst h3 h1
  rcases hk with ⟨c, n, q, rfl, k1⟩ | ⟨v, q, rfl, k1⟩
  · exact fs_part hr (hp k1 F hx) k2 F hys h2 hz
  · refine fs_part hr (fun Q' E' k' => wpAny_FormattedValue_plain (hp k1 F hx fun v' S' g hv => hv.elim fun u h => h ▸ wpAny_toks (SB.field_str (fun t' tk htk => k' _ (S'.tk tk) (g.trans (g.w.tk tk htk)) ⟨t', rfl⟩) (limSz ?_)))) k2 F hys h2 hz
    rw [mkS_len]; exact lz (lnA ▸ Nat.le_add_right _ _) (lz (Nat.le_add_left _ _) hz)
theorem arm_fstr {es : PEs} (h : FsOk V es) : ValOk V (.fstr es) := fun f e S ρ x hk F hev => by
  obtain ⟨vs, pos, rfl, hlen, hk⟩ := hk
  refine bindE hev fun xs hxs hev => bindE hev fun l hl hev => iteE hev fun hz e => e ▸ ?_
  rw [arm_eval_JoinedStr]
  match vs, hlen, hk with
  | v1 :: v2 :: r, _, hk => exact h (out := []) hk F hxs hl (by simpa using hz)
end
structure Bs where
  sc : Sc
  env : Env
  W : Str → Prop
  o : Bool
  ac : Option Addr
structure Rs where
  S : Ws
  m : Str → Option Value
  ad : Nat → Addr
  T : Addr → Prop
  ρ : Nv
  acc : List AV
abbrev Rs.f (R : Rs) (b : Bs) : Fm := ⟨b.sc, b.env, R.m, R.ad⟩
abbrev CellN (sc : Sc) (n : Str) : Prop := sc.lookup n = some .cell ∨ sc.lookup n = some .free
def Off (b : Bs) (a : Addr) : Prop := a ≠ b.env.locals ∧ ∀ n c, CellN b.sc n → b.env.cells.lookup n = some c → a ≠ c
structure Wst (V : Vc) (b : Bs) (R : Rs) : Prop where
  F : FrA V (R.f b) R.S R.ρ
  tl : R.T b.env.locals
  tc : ∀ n c, b.W n → b.sc.lookup n = some .cell → b.env.cells.lookup n = some c → R.T c ∧ ∀ n', b.env.cells.lookup n' = some c → n' = n
  tz : ∀ a, R.T a → R.S.Z a = none ∧ a ≠ V.C.P ∧ ∃ o, R.S.s.heap.get? a = some o
  ow : ∀ k y, R.ρ k = some y → isOwn y = true → (R.T (R.ad k) ↔ b.o = true) ∧ Off b (R.ad k) ∧ (b.o = true → ∀ k' y', R.ρ k' = some y' → isOwn y' = true → R.ad k' = R.ad k → k' = k)
  ac : ∀ a, b.ac = some a → R.T a ∧ Off b a ∧ ∃ vs n, R.S.s.heap.get? a = some (lstO vs n) ∧ RepL R.S.Z V.st R.acc vs
structure GoS (V : Vc) (R R' : Rs) : Prop where
  keep : ∀ a o, ¬ R.T a → a ≠ V.C.P → R.S.s.heap.get? a = some o → R'.S.s.heap.get? a = some o
  os : R'.S.s.os = R.S.s.os
  mono : ∀ a o, R.S.Z a = some o → R'.S.Z a = some o
  fz : ∀ a o, R'.S.Z a = some o → R.S.Z a = some o ∨ R.T a ∨ R.S.s.heap.get? a = none
  tt : ∀ a, R'.T a → R.T a ∨ R.S.s.heap.get? a = none
  ok : Sd V R'.S
section
variable {V : Vc} {b : Bs} {R R' R'' : Rs}
theorem GoS.refl (w : Sd V R.S) : GoS V R R := ⟨fun _ _ _ _ e => e, rfl, fun _ _ e => e, fun _ _ e => .inl e, fun _ h => .inl h, w⟩
theorem GoS.trans (x : GoS V R R') (y : GoS V R' R'') : GoS V R R'' where
  keep := fun a o h1 h2 e => y.keep a o (fun h => (x.tt a h).elim h1 fun q => noSome q e) h2 (x.keep a o h1 h2 e)
  os := y.os.trans x.os
  mono := fun a o e => y.mono a o (x.mono a o e)
  fz := fun a o e => (y.fz a o e).elim (x.fz a o) fun h => .inr (h.elim (x.tt a) fun h => Classical.byCases .inl fun q => .inr (none_of fun o' e' => noSome h (x.keep a o' q (y.ok.neZ e) e')))
  tt := fun a h => (y.tt a h).elim (x.tt a) fun h => Classical.byCases .inl fun q => .inr (none_of fun o' e' => noSome h (x.keep a o' q (x.ok.ne h) e'))
  ok := y.ok
theorem GoS.of {S' : Ws} (g : Stp V R.S S') : GoS V R { R with S := S' } :=
  ⟨fun a o _ h e => g.keep a o h e, g.os, g.mono, fun a o e => (g.fresh a o e).imp id .inr, fun _ h => .inl h, g.w⟩
theorem Wst.w (x : Wst V b R) : Sd V R.S := x.F.w
theorem own_cases {x : AV} (h : isOwn x = true) : (∃ xs, x = .own xs) ∨ ∃ b, x = .ba b := by
  cases x with
  | own xs => exact .inl ⟨xs, rfl⟩
  | ba b => exact .inr ⟨b, rfl⟩
  | _ => exact absurd h fnt
theorem VarR.obj {ad : Nat → Addr} {S : Ws} {k : Nat} {y : AV} {v : Value} (r : VarR V ad S k y v) (h : isOwn y = true) : ∃ o, S.s.heap.get? (ad k) = some o ∧ ∀ c, o.data ≠ .cell c := by
  rcases own_cases h with ⟨xs, rfl⟩ | ⟨xs, rfl⟩
  · obtain ⟨⟨a, vs, n, rfl, e, _⟩, q⟩ := r; cases q rfl; exact ⟨_, e, nofun⟩
  · obtain ⟨⟨_, a, rfl, e⟩, q⟩ := r; cases q rfl; exact ⟨_, e, nofun⟩
theorem VarR.mv {ad ad' : Nat → Addr} {S S' : Ws} {k : Nat} {x : AV} {v : Value} (hz : ∀ a o, S.Z a = some o → S'.Z a = some o) (hk : isOwn x = true → ∀ o, S.s.heap.get? (ad k) = some o → S'.s.heap.get? (ad k) = some o) (ha : isOwn x = true → ad' k = ad k)
    (hj : ∀ j, x = .app j → ad' j = ad j) (h : VarR V ad S k x v) : VarR V ad' S' k x v := by
  cases x with
  | app j => exact h.elim fun a h => ⟨a, h.1, hz _ _ (hj j rfl ▸ h.2)⟩
  | own xs =>
    obtain ⟨⟨a, vs, n, rfl, e, hl⟩, h2⟩ := h
    cases h2 rfl
    exact ⟨⟨_, vs, n, rfl, hk rfl _ e, hl.mono hz⟩, fun _ => congrArg Value.ref (ha rfl).symm⟩
  | ba xs =>
    obtain ⟨⟨h0, a, rfl, e⟩, h2⟩ := h
    cases h2 rfl
    exact ⟨⟨h0, _, rfl, hk rfl _ e⟩, fun _ => congrArg Value.ref (ha rfl).symm⟩
  | _ => exact ⟨RepV.mono hz h.1, nofun⟩
theorem Wst.go {S' : Ws} (x : Wst V b R) (g : Stp V R.S S') : Wst V b { R with S := S' } where
  F := x.F.go g
  tl := x.tl
  tc := x.tc
  tz := fun a h => (x.tz a h).imp (fun z => none_of fun o e => (g.fresh a o e).elim (noSome z) fun q => (x.tz a h).2.2.elim fun o' e' => noSome q e') fun h => ⟨h.1, h.2.elim fun o e => ⟨o, g.keep a o h.1 e⟩⟩
  ow := x.ow
  ac := fun a h => (x.ac a h).imp id fun q => ⟨q.1, q.2.elim fun vs q => q.elim fun n q => ⟨vs, n, g.keep a _ (x.tz a (x.ac a h).1).2.1 q.1, q.2.mono g.mono⟩⟩
structure Chg (V : Vc) (b : Bs) (R : Rs) (h' : Heap) (X : Addr → Prop) : Prop where
  hk : ∀ a o, ¬ X a → R.S.s.heap.get? a = some o → h'.get? a = some o
  z : ∀ a, X a → R.S.Z a = none ∧ a ≠ V.C.P
  off : ∀ a, X a → Off b a
  ex : ∀ a, X a → R.T a → ∃ o, h'.get? a = some o
section
variable {h' : Heap} {X : Addr → Prop} {tk : Nat} {ρ' : Nv} {acc' : List AV}
abbrev Rs.ch (R : Rs) (h' : Heap) (tk : Nat) (ρ' : Nv) (acc' : List AV) : Rs := ⟨⟨{ R.S.s with heap := h', toks := tk }, R.S.Z⟩, R.m, R.ad, R.T, ρ', acc'⟩
theorem Sd.upd {S : Ws} {h' : Heap} {tk : Nat} (w : Sd V S) (hz : ∀ a o, S.Z a = some o → h'.get? a = some o) (hP : ∀ o, S.s.heap.get? V.C.P = some o → h'.get? V.C.P = some o) (htk : S.s.toks ≤ tk) : Sd V ⟨{ S.s with heap := h', toks := tk }, S.Z⟩ :=
  ⟨hz, w.noP, w.base, w.tab.elim fun o t => ⟨o, hP o t.1, t.2⟩, w.gens, Nat.lt_of_lt_of_le (WOk.tk w) htk⟩
theorem Chg.w (c : Chg V b R h' X) (w : Sd V R.S) (htk : R.S.s.toks ≤ tk) : Sd V (R.ch h' tk ρ' acc').S :=
  w.upd (fun a o e => c.hk a o (fun q => noSome (c.z a q).1 e) (w.sub a o e)) (fun o e => c.hk _ o (fun q => (c.z _ q).2 rfl) e) htk
theorem Chg.rd (c : Chg V b R h' X) {n : Str} {v : Value} (r : Rd (R.f b) R.S.s.heap n v) : Rd (R.f b) h' n v :=
  r.imp id fun q => ⟨q.1, q.2.elim fun a r => r.2.elim fun o e => ⟨a, r.1, o, c.hk a o (fun x => (c.off a x).2 n a q.1 r.1 rfl) e.1, e.2⟩⟩
theorem Wst.chg (x : Wst V b R) (c : Chg V b R h' X) (htk : R.S.s.toks ≤ tk) (hv : ∀ k y, ρ' k = some y → (R.ρ k = some y ∧ (isOwn y = true → ¬ X (R.ad k))) ∨ ∃ n v, V.N.vars[k]? = some n ∧ Rd (R.f b) R.S.s.heap n v ∧ VarR V R.ad (R.ch h' tk ρ' acc').S k y v)
    (hown : ∀ k y, ρ' k = some y → isOwn y = true → ∃ y', R.ρ k = some y' ∧ isOwn y' = true) (hac : ∀ a, b.ac = some a → ∃ vs n, h'.get? a = some (lstO vs n) ∧ RepL R.S.Z V.st acc' vs) : Wst V b (R.ch h' tk ρ' acc') where
  F := { x.F with
    w := c.w (acc' := acc') (ρ' := ρ') x.w htk
    ns := x.F.ns.at' fun o e => c.hk _ o (fun q => (c.off _ q).1 rfl) e
    vars := fun k y e => (hv k y e).elim (fun h => (x.F.vars k y h.1).elim fun n q => q.elim fun v q => ⟨n, v, q.1, c.rd q.2.1, VarR.mv (S := R.S) (fun _ _ e => e) (fun ho o e => c.hk _ o (h.2 ho) e) (fun _ => rfl) (fun _ _ => rfl) q.2.2⟩)
      fun h => h.elim fun n q => q.elim fun v q => ⟨n, v, q.1, c.rd q.2.1, q.2.2⟩
    cl := fun n hn => (x.F.cl n hn).elim fun a h => h.elim fun v h => h.2.elim fun o e => ⟨a, v, h.1, o, c.hk a o (fun q => (c.off a q).2 n a hn h.1 rfl) e.1, e.2⟩ }
  tl := x.tl
  tc := x.tc
  tz := fun a h => ⟨(x.tz a h).1, (x.tz a h).2.1, Classical.byCases (fun q : X a => c.ex a q h) fun q => (x.tz a h).2.2.elim fun o e => ⟨o, c.hk a o q e⟩⟩
  ow := fun k y e ho => (hown k y e ho).elim fun y' h => (x.ow k y' h.1 h.2).imp id fun q => ⟨q.1, fun hb k' z e' ho' => (hown k' z e' ho').elim fun z' h' => q.2 hb k' z' h'.1 h'.2⟩
  ac := fun a h => ⟨(x.ac a h).1, (x.ac a h).2.1, hac a h⟩
theorem GoS.chg {R0 : Rs} (g : GoS V R0 R) (c : Chg V b R h' X) (htk : R.S.s.toks ≤ tk) (hX : ∀ a, X a → R0.T a ∨ R0.S.s.heap.get? a = none) : GoS V R0 (R.ch h' tk ρ' acc') where
  keep := fun a o h1 h2 e => c.hk a o (fun q => (hX a q).elim h1 fun z => noSome z e) (g.keep a o h1 h2 e)
  os := g.os
  mono := g.mono
  fz := g.fz
  tt := g.tt
  ok := c.w (acc' := acc') (ρ' := ρ') g.ok htk
end
theorem mem_inj {l : List Str} (hn : l.Nodup) {i j : Nat} {x : Str} (hi : l[i]? = some x) (hj : l[j]? = some x) : i = j :=
  (List.getElem?_inj (List.getElem?_eq_some_iff.mp hi).1 hn).mp (hi.trans hj.symm)
theorem bind_eq {ρ : Nv} {k : Nat} {x y : AV} (e : (ρ.bind k x) k = some y) : x = y := sIj ((if_pos rfl).symm.trans e)
theorem unApp_some {k : Nat} {z y : AV} (e : unApp k z = some y) : z = y ∧ ∀ i, y = .app i → i ≠ k := by
  cases z with
  | app i =>
    have e : (if i = k then none else some (AV.app i)) = some y := e
    by_cases h : i = k
    · rw [if_pos h] at e; exact noneE e
    · rw [if_neg h] at e; exact someE e ▸ ⟨rfl, fun j q => by cases q; exact h⟩
  | _ => exact someE e ▸ ⟨rfl, nofun⟩
theorem bind_ne {ρ : Nv} {k j : Nat} {x y : AV} (hj : j ≠ k) (e : (ρ.bind k x) j = some y) : ρ j = some y ∧ ∀ i, y = .app i → i ≠ k :=
  bindE ((if_neg hj).symm.trans e) fun z hz e => (unApp_some e).imp (fun q => hz.trans (congrArg some q)) id
section
variable {k : Nat} {n : Str} {x : AV} {v : Value} {ad' : Nat → Addr} {m' : Str → Option Value} {h' : Heap} {tk : Nat} {a : Addr}
def OwnAt (b : Bs) (R : Rs) (k : Nat) (ad' : Nat → Addr) (x : AV) : Prop := isOwn x = true → b.o = true ∧ R.T (ad' k) ∧ Off b (ad' k) ∧ ∀ j y, R.ρ j = some y → isOwn y = true → R.ad j ≠ ad' k
noncomputable abbrev Rs.st (R : Rs) (h' : Heap) (tk : Nat) (m' : Str → Option Value) (ad' : Nat → Addr) (k : Nat) (x : AV) : Rs := ⟨⟨{ R.S.s with heap := h', toks := tk }, R.S.Z⟩, m', ad', R.T, R.ρ.bind k x, R.acc⟩
theorem put_core (w : Wst V b R) (nv : V.N.vars.Nodup) (hn : V.N.vars[k]? = some n) (hs : ∀ c o, c ≠ a → R.S.s.heap.get? c = some o → h'.get? c = some o) (hT : R.T a) (hof : ∀ c, Off b c → c ≠ a) (hex : ∃ o, h'.get? a = some o) (htk : R.S.s.toks ≤ tk)
    (hns : h'.Ns b.env.locals m') (hcl : ∀ n, CellN b.sc n → ∃ c v, b.env.cells.lookup n = some c ∧ h'.IsCell c v) (hrd : Rd ⟨b.sc, b.env, m', ad'⟩ h' n v) (hrd' : ∀ n' u, n' ≠ n → Rd (R.f b) R.S.s.heap n' u → Rd ⟨b.sc, b.env, m', ad'⟩ h' n' u)
    (hx : VarR V ad' R.S k x v) (had : ∀ j, j ≠ k → ad' j = R.ad j) (hown : OwnAt b R k ad' x) : GoS V R (R.st h' tk m' ad' k x) ∧ Wst V b (R.st h' tk m' ad' k x) :=
  have hw : Sd V (R.st h' tk m' ad' k x).S := w.w.upd (fun c o e => hs c o (fun q => noSome (w.tz a hT).1 (q ▸ e)) (w.w.sub c o e)) (fun o e => hs _ o (Ne.symm (w.tz a hT).2.1) e) htk
  ⟨⟨fun c o h1 _ e => hs c o (fun q => h1 (q ▸ hT)) e, rfl, fun _ _ e => e, fun _ _ e => .inl e, fun _ h => .inl h, hw⟩,
  { F := { w.F with
      w := hw
      ns := hns
      cl := hcl
      vars := fun j y e => Classical.byCases (fun q : j = k => by
          subst q
          cases bind_eq e
          exact ⟨n, v, hn, hrd, VarR.mv (S := R.S) (fun _ _ e => e) (fun ho o e => hs _ o (hof _ (hown ho).2.2.1) e) (fun _ => rfl) (fun _ _ => rfl) hx⟩) fun q =>
        (bind_ne q e).elim fun e1 e2 => (w.F.vars j y e1).elim fun n' h => h.elim fun v' h => ⟨n', v', h.1, hrd' n' v' (fun z => q (mem_inj nv h.1 (z ▸ hn))) h.2.1,
          VarR.mv (S := R.S) (fun _ _ e => e) (fun ho o e => hs _ o (hof _ (w.ow j y e1 ho).2.1) e) (fun _ => had j q) (fun i hi => had i (e2 i hi)) h.2.2⟩ }
    tl := w.tl
    tc := w.tc
    tz := fun c h => ⟨(w.tz c h).1, (w.tz c h).2.1, Classical.byCases (fun q : c = a => q ▸ hex) fun q => (w.tz c h).2.2.elim fun o e => ⟨o, hs c o q e⟩⟩
    ow := fun j y e ho => Classical.byCases (fun q : j = k => by
        subst q
        cases bind_eq e
        have h := hown ho
        exact ⟨⟨fun _ => h.1, fun _ => h.2.1⟩, h.2.2.1, fun _ k' y' e' ho' z => Classical.byContradiction fun q => h.2.2.2 k' y' (bind_ne q e').1 ho' ((had k' q).symm.trans z)⟩) fun q => by
        have e1 := (bind_ne q e).1
        have h := w.ow j y e1 ho
        show (R.T (ad' j) ↔ _) ∧ Off b (ad' j) ∧ (b.o = true → ∀ k' y', (R.ρ.bind k x) k' = some y' → isOwn y' = true → ad' k' = ad' j → k' = j)
        rw [had j q]
        refine ⟨h.1, h.2.1, fun hb k' y' e' ho' z => Classical.byCases (fun q' : k' = k => ?_) fun q' => h.2.2 hb k' y' (bind_ne q' e').1 ho' ((had k' q').symm.trans z)⟩
        subst q'
        cases bind_eq e'
        exact ((hown ho').2.2.2 j y e1 ho z.symm).elim
    ac := fun c h => (w.ac c h).imp id fun q => ⟨q.1, q.2.elim fun vs z => z.elim fun m z => ⟨vs, m, hs c _ (hof c q.1) z.1, z.2⟩⟩ }⟩
theorem Wst.store (w : Wst V b R) (nv : V.N.vars.Nodup) (hn : V.N.vars[k]? = some n) (hwr : wrOk b.sc n = true) (hW : b.W n) (hx : VarR V ad' R.S k x v) (had : ∀ j, j ≠ k → ad' j = R.ad j) (hown : OwnAt b R k ad' x)
    {Q : Unit → Shared → Prop} {E : Value → Shared → Prop} (kk : ∀ h' tk m', GoS V R (R.st h' tk m' ad' k x) ∧ Wst V b (R.st h' tk m' ad' k x) → Q () { R.S.s with heap := h', toks := tk }) : Wp V (storeName b.env n v) Q E R.S := by
  have hkf : ∀ n, b.env.kindOf n = b.sc.lookup n := fun n => kindOf_eq w.F n
  rcases (Bool.or_eq_true _ _ ▸ hwr : (b.sc.lookup n == some .local) = true ∨ (b.sc.lookup n == some .cell) = true) with hl | hl
  · have hl := eq_of_beq hl
    refine wpAny_storeName_local ((hkf n).trans hl) w.F.ns (fun h' hn' hs' => ?_) (by rw [show b.env.scope.kind = _ from w.F.kind]; rfl)
    obtain ⟨oL, es, ep, eL, dL, _⟩ := id w.F.ns
    have cells : ∀ c u, R.S.s.heap.IsCell c u → h'.IsCell c u := fun c u hc => hc.sameBut hs' fun q => hc.elim fun o e => by
      cases (q ▸ e.1 : R.S.s.heap.get? b.env.locals = some o).symm.trans eL
      cases dL.symm.trans e.2
    exact kk h' _ _ (put_core w nv hn (fun c o q e => hs'.extBut c o q e) w.tl (fun c h => h.1) (hn'.elim fun o h => h.elim fun _ h => h.elim fun _ h => ⟨o, h.1⟩) (Nat.le_succ _) hn' (fun n' h => (w.F.cl n' h).elim fun c h => h.elim fun u h => ⟨c, u, h.1, cells c u h.2⟩)
      (.inl ⟨hl, if_pos rfl⟩) (fun n' u q r => r.imp (fun r => ⟨r.1, (if_neg q).trans r.2⟩) fun r => ⟨r.1, r.2.elim fun c r => ⟨c, r.1, cells c _ r.2⟩⟩) hx had hown)
  · have hl := eq_of_beq hl
    obtain ⟨c, u, hc, hcell⟩ := w.F.cl n (.inl hl)
    have ht := w.tc n c hW hl hc
    refine wpAny_storeName_cell w.F.kind ((hkf n).trans hl) hc hcell fun h' hc' hs' => ?_
    have cells : ∀ c' u, c' ≠ c → R.S.s.heap.IsCell c' u → h'.IsCell c' u := fun c' u q hc => hc.sameBut hs' q
    have hne : b.env.locals ≠ c := fun q => by
      obtain ⟨oL, es, ep, eL, dL, _⟩ := w.F.ns
      obtain ⟨oc, ec, dc⟩ := hcell
      cases (q ▸ eL : R.S.s.heap.get? c = some oL).symm.trans ec
      cases dL.symm.trans dc
    exact kk h' R.S.s.toks R.m (put_core w nv hn (fun c o q e => hs'.extBut c o q e) ht.1 (fun c' h => h.2 n c (.inl hl) hc) (hc'.elim fun o h => ⟨o, h.1⟩) (Nat.le_refl _) (w.F.ns.sameBut hs' hne)
      (fun n' h => (w.F.cl n' h).elim fun c' h => h.elim fun u h => Classical.byCases (fun q : c' = c => ⟨c', _, h.1, q ▸ hc'⟩) fun q => ⟨c', u, h.1, cells c' u q h.2⟩)
      (.inr ⟨.inl hl, c, hc, hc'⟩) (fun n' u q r => r.imp id fun r => ⟨r.1, r.2.elim fun c' r => ⟨c', r.1, cells c' _ (fun z => q (ht.2 n' (z ▸ r.1))) r.2⟩⟩) hx had hown)
end
end
abbrev Rs.bd (R : Rs) (s' : Shared) (m' : Str → Option Value) (ρ' : Nv) : Rs := ⟨⟨s', R.S.Z⟩, m', R.ad, R.T, ρ', R.acc⟩
section
variable {V : Vc} {b : Bs} {R R0 R' : Rs} {Q : Unit → Shared → Prop} {E : Value → Shared → Prop}
theorem RepV.nown {Z : Fz} {st : Option Addr} {x : AV} {v : Value} (r : RepV Z st x v) : isOwn x = false := by
  cases x with
  | own _ => exact r.elim
  | ba _ => exact r.elim
  | _ => rfl
theorem RepV.var {S : Ws} {ad : Nat → Addr} {k : Nat} {x : AV} {v : Value} (r : RepV S.Z V.st x v) : VarR V ad S k x v := by
  cases x with
  | own _ => exact r.elim
  | ba _ => exact r.elim
  | app _ => exact r.elim
  | _ => exact ⟨r, nofun⟩
def Wr (b : Bs) (nm : Sc) : Prop := ∀ n, wrOk nm n = true → wrOk b.sc n = true ∧ b.W n
theorem own_no {k : Nat} {ad' : Nat → Addr} {x : AV} (h : isOwn x = false) : OwnAt b R k ad' x := fun q => absurd (h.symm.trans q) fnt
theorem store_plain {k : Nat} {e : Expr} {x : AV} {v : Value} {nm : Sc} (w : Wst V b R) (nv : V.N.vars.Nodup) (hk : WrE V.N nm k e) (hW : Wr b nm) (r : RepV R.S.Z V.st x v)
    (kk : ∀ s' m', GoS V R (R.bd s' m' (R.ρ.bind k x)) → Wst V b (R.bd s' m' (R.ρ.bind k x)) → Q () s') : Wp V (assign e b.env v) Q E R.S := by
  obtain ⟨id, p, rfl, h1, h2⟩ := hk
  exact wpAny_assign_Name (w.store nv h1 (hW id h2).1 (hW id h2).2 r.var (fun _ _ => rfl) (own_no r.nown) fun h' tk m' h => kk _ m' h.1 h.2)
theorem tuple_of {h : Heap} {Z : Fz} {st : Option Addr} {xs : List AV} {v : Value} (hz : ∀ b o, Z b = some o → h.get? b = some o) (r : RepI h Z st (.tuple xs) v) : ∃ T vs, v = .ref T ∧ h.IsTuple T vs ∧ RepL Z st xs vs.toList := by
  rcases r with r | ⟨T, vs, ys, e1, e2, e3, e4⟩
  · obtain ⟨a, vs, n, rfl, h1, h2⟩ := r
    exact ⟨a, vs.toArray, rfl, ⟨_, hz _ _ h1, rfl, n, rfl⟩, h2⟩
  · cases e1
    exact ⟨T, vs, e2, e3, e4⟩
theorem asTE' {x : AV} {xs : List AV} {p : AV × AV} (h : asT x = some xs) (h' : as2 xs = some p) : x = .tuple [p.1, p.2] := asTE h ▸ as2E h' ▸ rfl
theorem tgt_ok {t : Tgt} {tg : Expr} {x : AV} {v : Value} {ρ' : Nv} {nm : Sc} (hA : AOk 0 V.A) (nv : V.N.vars.Nodup) (w : Wst V b R) (hk : IsT V.N nm t tg) (hW : Wr b nm) (hone : ∀ k, t = .one k → RepV R.S.Z V.st x v) (hr : RepI R.S.s.heap R.S.Z V.st x v) (hb : bindT t x R.ρ = some ρ')
    (kk : ∀ s' m', GoS V R (R.bd s' m' ρ') → Wst V b (R.bd s' m' ρ') → Q () s') : Wp V (assign tg b.env v) Q E R.S := by
  cases t with
  | one k => exact store_plain w nv hk hW (hone k rfl) (someE hb ▸ kk)
  | two k j =>
    obtain ⟨e1, e2, n, p, rfl, k1, k2⟩ := hk
    refine bindE hb fun xs hxs hb => mapE hb fun q hq e => ?_
    cases asTE' hxs hq
    cases e
    obtain ⟨T, vs, rfl, hT, hl⟩ := tuple_of w.w.sub hr
    have hsz : vs.size = 2 := hl.length
    obtain ⟨u1, l1, h1, r1, u2, l2, h2, r2, h3⟩ := hl
    cases h3; cases h2
    have hu : (assignEach [e1, e2] b.env).findIdx? (·.1) = none ∧ (assignEach [e1, e2] b.env) = [(false, assign e1 b.env), (false, assign e2 b.env)] := by
      obtain ⟨_, _, rfl, _⟩ := k1
      obtain ⟨_, _, rfl, _⟩ := k2
      exact ⟨rfl, rfl⟩
    refine wpAny_bind (wpAny_standAt (wpAny_unpack_tuple hA.hand hT (hu.2 ▸ hsz.symm) hu.1 fun h' he => ?_))
    rw [hu.2, h1]
    have g : Stp V R.S ⟨{ R.S.s with heap := h' }, R.S.Z⟩ := Go.keeps w.w (fun b o e => he b o (Nat.ne_of_lt (Heap.lt_size e)) e) (Nat.le_refl _)
    exact wpAny_bind (wpAny_holding (store_plain (w.go g) nv k1 hW r1 fun s1 m1 g1 w1 => wpAny_bind (wpAny_holding (store_plain w1 nv k2 hW r2 fun s2 m2 g2 w2 => wpAny_pure (kk s2 m2 ((GoS.of g).trans (g1.trans g2)) w2)))))
structure Lp (V : Vc) (b : Bs) (X : Fx) (R0 R : Rs) (i : Nat) : Prop where
  g : GoS V R0 R
  w : Wst V b R
  st : X.St i R.S.s.heap
  ap : ∀ a ∈ X.fp, ¬ R.T a ∧ a ≠ V.C.P
  wz : ∀ a ∈ X.wr, R.S.Z a = none ∧ R0.S.s.heap.get? a = none ∧ Off b a
  ow : b.o = false → ∀ k y, R.ρ k = some y → isOwn y = true → R.ad k ∉ X.wr
section
variable {X : Fx} {tg : Expr} {items : List AV} {tup : Bool} {i : Nat} {Z0 : Fz}
theorem Lp.chg (L : Lp V b X R0 R i) (Fd : Feed V tg Z0 items tup X) {h' : Heap} {tk : Nat} (hk : ∀ a o, a ∉ X.wr → R.S.s.heap.get? a = some o → h'.get? a = some o) (htk : R.S.s.toks ≤ tk) : GoS V R0 (R.ch h' tk R.ρ R.acc) ∧ Wst V b (R.ch h' tk R.ρ R.acc) :=
  have c : Chg V b R h' (· ∈ X.wr) := ⟨hk, fun a h => ⟨(L.wz a h).1, (L.ap a (Fd.W.sub a h)).2⟩, fun a h => (L.wz a h).2.2, fun a h q => ((L.ap a (Fd.W.sub a h)).1 q).elim⟩
  ⟨L.g.chg c htk fun a h => .inr (L.wz a h).2.1,
   L.w.chg c htk (fun k y e => .inl ⟨e, fun ho q => match hb : b.o with
     | true => (L.ap _ (Fd.W.sub _ q)).1 ((L.w.ow k y e ho).1.mpr hb)
     | false => L.ow hb k y e ho q⟩) (fun k y e ho => ⟨y, e, ho⟩) fun a h => (L.w.ac a h).2.2.elim fun vs z => z.elim fun n z => ⟨vs, n, hk a _ (fun q => (L.ap a (Fd.W.sub a q)).1 (L.w.ac a h).1) z.1, z.2⟩⟩
theorem Lp.turn {t : Tgt} {x : AV} {ρ' : Nv} {nm : Sc} {K : Option Value → Shared → Prop} (L : Lp V b X R0 R i) (Fd : Feed V tg Z0 items tup X) (hz : ∀ a o, Z0 a = some o → R.S.Z a = some o) (hA : AOk 0 V.A) (nv : V.N.vars.Nodup) (hk : IsT V.N nm t tg) (hW : Wr b nm) (htup : tup = true → ∀ k, t ≠ .one k)
    (hx : items[i]? = some x) (hb : bindT t x R.ρ = some ρ') (hK : ∀ v s, wpAny V.M V.A (letOwnedTupleGo tg (.ref X.I) v) (fun _ s' => wpAny V.M V.A (assign tg b.env v) Q E s') E s → K (some v) s)
    (kk : ∀ s' m', (∃ h v, RepI h R.S.Z V.st x v) → GoS V R0 (R.bd s' m' ρ') → Wst V b (R.bd s' m' ρ') → X.St (i + 1) s'.heap → Q () s') : Wp V (pyNext (.ref X.I)) K E R.S :=
  wpAny_toks (Fd.W.item i _ _ _ (List.getElem?_eq_some_iff.mp hx).1 L.st fun v h1 tk hM hk1 htk => hK v _ (Fd.W.go i v _ _ _ hM fun h2 hP hst hk2 => by
    obtain ⟨g, w⟩ := L.chg Fd (fun a o q e => hk2 a o q (hk1 a o q e)) htk
    obtain ⟨y, hy, hI, hV⟩ := Fd.rep i v h2 hP
    cases (sIj (hx.symm.trans hy))
    have hI' : RepI h2 R.S.Z V.st x v := hI.imp (·.mono hz) fun ⟨T, vs, us, e1, e2, e3, e4⟩ => ⟨T, vs, us, e1, e2, e3, e4.mono hz⟩
    refine tgt_ok hA nv w hk hW (fun k q => (hV (match tup, htup with | true, h => (h rfl k q).elim | false, _ => rfl)).mono hz) hI' hb fun s' m' g' w' => kk s' m' ⟨_, _, hI'⟩ (g.trans g') w' ?_
    exact Fd.W.frame _ _ _ hst fun a ha o e => g'.keep a o (L.ap a ha).1 (L.ap a ha).2 e))
theorem Lp.done {K : Option Value → Shared → Prop} (L : Lp V b X R0 R items.length) (Fd : Feed V tg Z0 items tup X) (kk : ∀ h' tk, GoS V R0 (R.ch h' tk R.ρ R.acc) → Wst V b (R.ch h' tk R.ρ R.acc) → K none { R.S.s with heap := h', toks := tk }) : Wp V (pyNext (.ref X.I)) K E R.S :=
  wpAny_toks (Fd.W.done _ _ _ L.st fun h' tk hk htk => (L.chg Fd hk htk).elim (kk h' tk))
theorem Lp.next {s' : Shared} {m' : Str → Option Value} {ρ' : Nv} (L : Lp V b X R0 R i) (Fd : Feed V tg Z0 items tup X) (g0 : GoS V R0 (R.bd s' m' ρ')) (hst : X.St (i + 1) s'.heap) (g : GoS V (R.bd s' m' ρ') R') (w : Wst V b R') (ow : b.o = false → ∀ k y, R'.ρ k = some y → isOwn y = true → R'.ad k ∉ X.wr) : Lp V b X R0 R' (i + 1) where
  g := g0.trans g
  w := w
  st := Fd.W.frame _ _ _ hst fun a ha o e => g.keep a o (L.ap a ha).1 (L.ap a ha).2 e
  ap := fun a ha => ⟨fun q => (g.tt a q).elim (L.ap a ha).1 fun z => (Fd.ex _ _ hst a ha).elim fun o e => noSome z e, (L.ap a ha).2⟩
  wz := fun a ha => ⟨none_of fun o e => (g.fz a o e).elim (noSome (L.wz a ha).1) fun z => z.elim (L.ap a (Fd.W.sub a ha)).1 fun z => (Fd.ex _ _ hst a (Fd.W.sub a ha)).elim fun o e => noSome z e, (L.wz a ha).2⟩
  ow := ow
end
end
noncomputable def ifsT (es : List Expr) (b : Bool) (env : Env) : Sem Bool := forIn es b fun c r => if r = true then do let ok ← isTrue c env (eval c env); pure (ForInStep.yield ok) else pure (ForInStep.yield r)
section
variable {V : Vc}
def IfsOk (V : Vc) (ps : PEs) : Prop := ∀ ⦃f es S ρ q⦄, IsEs V.N ps f.sc es → FrA V f S ρ → evAll V.Φ V.Γ ps ρ = some q → Gb V (ifsT es true f.env) S q
theorem ifs_stop {env : Env} {E : Value → Shared → Prop} {Q : Bool → Shared → Prop} {s : Shared} : ∀ (es : List Expr), Q false s → wpAny V.M V.A (ifsT es false env) Q E s
  | [], k => wpAny_pure k
  | e :: es, k => by
    unfold ifsT
    rw [List.forIn_cons]
    exact wpAny_bind (wpAny_pure (ifs_stop es k))
theorem ifs_nil : IfsOk V .nil := fun f es S ρ q hk F hev Q E k => (show es = [] from hk) ▸ wpAny_pure ((someE hev : true = q) ▸ k S (.refl F.w))
theorem ifs_cons {p : PE} {r : PEs} (hp : TstOk V p) (hr : IfsOk V r) : IfsOk V (.cons p r) := fun f es S ρ q hk F hev Q E k => by
  obtain ⟨e, t, rfl, k1, k0, k2⟩ := hk
  unfold ifsT
  rw [List.forIn_cons]
  refine bindE hev fun c hc hev => wpAny_bind (wpAny_bind (hp k1 F hc fun S' g => wpAny_pure ?_))
  cases c
  · exact ifs_stop t ((someE hev : false = q) ▸ k S' g)
  · exact (hr k2 (F.go g) hev).next g k
end
def NA (ρ : Nv) : Prop := ∀ j i, ρ j ≠ some (.app i)
theorem bind_get {ρ : Nv} {k j : Nat} {v y : AV} (hj : j ≠ k) (hna : NA ρ) (e : ρ j = some y) : (ρ.bind k v) j = some y := by
  refine (if_neg hj).trans ((congrArg (·.bind (unApp k)) e).trans ?_)
  cases y with
  | app i => exact (hna j i e).elim
  | _ => rfl
theorem bind_na {ρ : Nv} {k : Nat} {v : AV} (hna : NA ρ) (h : ∀ i, v ≠ .app i) : NA (ρ.bind k v) := fun j i e => Classical.byCases (fun q : j = k => by subst q; exact h i (bind_eq e)) fun q => hna j i (bind_ne q e).1
theorem isNone_ne {ρ : Nv} {k j : Nat} {y : AV} (h : (ρ k).isNone = true) (e : ρ j = some y) : j ≠ k := fun q => by subst q; rw [e] at h; cases h
theorem RepV.napp {Z : Fz} {st : Option Addr} {x : AV} {v : Value} (r : RepV Z st x v) : ∀ i, x ≠ .app i := fun i q => by subst q; exact r.elim
structure BindUp (ρ ρ' : Nv) : Prop where
  na : NA ρ'
  up : ∀ j y, ρ j = some y → ρ' j = some y
theorem bindC_up {h : Heap} {Z : Fz} {st : Option Addr} {t : Tgt} {x : AV} {v : Value} {ρ ρ' : Nv} (r : RepI h Z st x v) (e : bindC t x ρ = some ρ') (hna : NA ρ) : bindT t x ρ = some ρ' ∧ BindUp ρ ρ' :=
  iteB e fun hn e => ⟨e, by
    cases t with
    | one k =>
      have hx : ∀ i, x ≠ .app i := r.elim RepV.napp fun ⟨_, _, _, q, _⟩ => q ▸ nofun
      exact someE e ▸ ⟨bind_na hna hx, fun j y ey => bind_get (isNone_ne hn ey) hna ey⟩
    | two k j =>
      refine bindE e fun xs hxs e => mapE e fun p hp e' => ?_
      cases asTE' hxs hp
      have hh := and3 hn
      have hr : ∃ vs, RepL Z st [p.1, p.2] vs := r.elim (fun r => r.elim fun _ r => r.elim fun vs r => r.elim fun _ r => ⟨vs, r.2.2⟩) fun ⟨_, vs, ys, q, _, _, r⟩ => by cases q; exact ⟨_, r⟩
      obtain ⟨vs, u1, l1, _, r1, u2, l2, _, r2, _⟩ := hr
      exact e' ▸ ⟨bind_na (bind_na hna r1.napp) r2.napp, fun i y ey => bind_get (isNone_ne hh.2.1 ey) (bind_na hna r1.napp) (bind_get (isNone_ne hh.1 ey) hna ey)⟩⟩
noncomputable def tailT (elt : Expr) (gens : List Comprehension) (scope : Scope) (pos : Pos) (depth : Nat) (it acc : Value) (env : Env) : Sem Fin :=
  match gens[depth + 1]? with
  | some g' => do
    let x ← eval g'.iter env
    standAt g'.iter.pos
    let x ← if g'.is_async != 0 then foldedIterable g'.iter x else foldedSetIterable g'.iter env x
    let _ ← runOwn (.compStart (.ListComp elt gens scope pos) (depth + 1) (← holding [x] (if g'.is_async != 0 then asyncIter x else pyIter x)) acc env) env
    again (.compLoop (.ListComp elt gens scope pos) depth it acc env)
  | none => do
    (do let _ ← call (.builtin "list.append") [acc, ← eval elt env])
    again (.compLoop (.ListComp elt gens scope pos) depth it acc env)
theorem compTurn_eq {elt tg iter : Expr} {is : List Expr} {gens : List Comprehension} {scope : Scope} {pos : Pos} {depth : Nat} {it acc : Value} {env : Env} (h : gens[depth]? = some ⟨tg, iter, is, 0⟩) :
    compTurn (.ListComp elt gens scope pos) depth it acc env = (do
      standAt iter.pos
      match ← pyNext it with
      | none => pure (.done .next)
      | some v =>
        letOwnedTupleGo tg it v
        assign tg env v
        let ok ← ifsT is true env
        if ok then tailT elt gens scope pos depth it acc env else again (.compLoop (.ListComp elt gens scope pos) depth it acc env)) := by
  unfold compTurn
  dsimp only
  rw [h]
  rfl
abbrev Rs.cp (R : Rs) (S' : Ws) (m' : Str → Option Value) (acc' : List AV) : Rs := ⟨S', m', R.ad, R.T, R.ρ, acc'⟩
section
variable {V : Vc} {b : Bs} {R R' : Rs}
theorem GoS.to {R'' : Rs} (g : GoS V R R') (h : R''.S = R'.S) (h' : R''.T = R'.T) : GoS V R R'' := by
  obtain ⟨S, m, ad, T, ρ, acc⟩ := R''
  cases h; cases h'
  exact ⟨g.keep, g.os, g.mono, g.fz, g.tt, g.ok⟩
theorem Wst.less {ρ : Nv} (w : Wst V b R) (h : ∀ j y, ρ j = some y → R.ρ j = some y) : Wst V b ⟨R.S, R.m, R.ad, R.T, ρ, R.acc⟩ where
  F := { w.F with vars := fun k x e => w.F.vars k x (h k x e) }
  tl := w.tl
  tc := w.tc
  tz := w.tz
  ow := fun k y e ho => (w.ow k y (h k y e) ho).imp id fun q => ⟨q.1, fun hb k' y' e' => q.2 hb k' y' (h k' y' e')⟩
  ac := w.ac
def TailOk (V : Vc) (cls : PC) : Prop := ∀ ⦃b R elt gens0 gens scope pos depth it nm sc0 ρ₀ ys a⦄, gens0.drop (depth + 1) = gens → IsK V.N false cls sc0 nm b.sc gens elt → Wr b nm → Wst V b R → b.o = false → b.ac = some a → NA R.ρ →
  evC V.Φ V.Γ false cls ρ₀ R.ρ = some ys → (R.acc ++ ys).length ≤ lim → ∀ ⦃Q : Fin → Shared → Prop⦄ ⦃E : Value → Shared → Prop⦄,
    (∀ S' m', GoS V R (R.cp S' m' (R.acc ++ ys)) → Wst V b (R.cp S' m' (R.acc ++ ys)) → Q (.again (.compLoop (.ListComp elt gens0 scope pos) depth it (.ref a) b.env)) S'.s) → Wp V (tailT elt gens0 scope pos depth it (.ref a) b.env) Q E R.S
theorem drop_get {α : Type} {l r : List α} {n : Nat} {x : α} (h : l.drop n = x :: r) : l[n]? = some x ∧ l.drop (n + 1) = r := by
  have h1 := List.getElem?_drop (xs := l) (i := n) (j := 0)
  rw [h] at h1
  refine ⟨h1.symm, ?_⟩
  rw [← List.drop_drop, h]; rfl
theorem IsT.s {N : Nm} {sc : Sc} {t : Tgt} {tg : Expr} (h : IsT N sc t tg) : TgS tg := by
  cases t with
  | one k => obtain ⟨id, p, e, _⟩ := h; exact .inl ⟨id, p, e⟩
  | two k j => obtain ⟨e1, e2, n, p, e, _⟩ := h; exact .inr ⟨_, n, p, e⟩
theorem tail_done {p : PE} (hA : AOk 0 V.A) (hp : ValOk V p) : TailOk V (.done p) := fun b R elt gens0 gens scope pos depth it nm sc0 ρ₀ ys a hg hk hW w ho hac na hev hlen Q E kk => by
  obtain ⟨rfl, k1⟩ := hk
  have hn : gens0[depth + 1]? = none := List.getElem?_eq_none (List.drop_eq_nil_iff.mp hg)
  unfold tailT
  rw [hn]
  refine bindE hev fun x hx hev => ?_
  have hp1 := plains_some hev
  refine wpAny_bind (wpAny_bind (hp k1 w.F hx fun v S1 g hv => ?_))
  have w1 := w.go g
  obtain ⟨hT, hO, vs, n, e, hl⟩ := w1.ac a hac
  have hlen : R.acc.length + ys.length ≤ lim := lnA ▸ hlen
  refine wpAny_bind (wpAny_list_append_plain (items := vs.toArray) ⟨n, e⟩ (fun h' hl' hs' => wpAny_pure (wpAny_pure ?_)) (limSz (by rw [List.size_toArray, hl.length]; exact lz (Nat.le_add_right _ _) hlen)))
  have c : Chg V b { R with S := S1 } h' (· = a) := ⟨fun c o q e => hs'.extBut c o q e, fun c q => q ▸ ⟨(w1.tz a hT).1, (w1.tz a hT).2.1⟩, fun c q => q ▸ hO, fun c q _ => hl'.elim fun n e => ⟨_, q ▸ e⟩⟩
  have hown : ∀ k y, R.ρ k = some y → isOwn y = true → ¬ R.ad k = a := fun k y e ho' q => absurd ((w1.ow k y e ho').1.mp (q.symm ▸ hT)) (ho ▸ fnt)
  have hr : RepL S1.Z V.st ys [v] := hp1.1 ▸ .cons (plainR (bE hp1.2.1).1 hv) .nil
  exact kk _ R.m (((GoS.of g).chg c (Nat.le_refl _) fun c q => .inl (q ▸ hT)).to rfl rfl) (w1.chg (acc' := R.acc ++ ys) c (Nat.le_refl _) (fun k y e => .inl ⟨e, hown k y e⟩) (fun k y e ho => ⟨y, e, ho⟩) fun c q => by
    cases (hac.symm.trans q)
    exact hl'.elim fun n e => ⟨vs ++ [v], n, by rw [e]; simp, hl.append hr⟩)
end
section
variable {V : Vc} {b : Bs} {R R0 : Rs}
noncomputable abbrev turnC (V : Vc) (t : Tgt) (ifs : PEs) (rest : PC) (ρ₀ ρ : Nv) (v : AV) : Option (List AV) := (bindC t v ρ).bind fun ρ' => (evAll V.Φ V.Γ ifs ρ').bind fun b => if b then evC V.Φ V.Γ false rest ρ₀ ρ' else some []
structure CI (V : Vc) (b : Bs) (X : Fx) (R0 R : Rs) (f : AV → Option (List AV)) (items tot : List AV) (i : Nat) (S' : Ws) (m' : Str → Option Value) (zs r : List AV) : Prop where
  hi : i ≤ items.length
  L : Lp V b X R0 (R.cp S' m' zs) i
  rr : flatM f (items.drop i) = some r
  e : zs ++ r = tot
def CIn (V : Vc) (b : Bs) (X : Fx) (R0 R : Rs) (f : AV → Option (List AV)) (items tot : List AV) (n : Nat) (s : Shared) : Prop := ∃ i S' m' zs r, n = items.length + 1 - i ∧ s = S'.s ∧ CI V b X R0 R f items tot i S' m' zs r
theorem CI.next {X : Fx} {f : AV → Option (List AV)} {items tot : List AV} {i : Nat} {S1 S4 : Ws} {m1 m2 m4 : Str → Option Value} {zs zs' r r2 : List AV} {s2 : Shared} {ρ' : Nv} {tg : Expr} {Z0 : Fz} (c : CI V b X R0 R f items tot i S1 m1 zs r) (hlt : i < items.length) (Fd : Feed V tg Z0 items false X)
    (g2 : GoS V R0 ((R.cp S1 m1 zs).bd s2 m2 ρ')) (st : X.St (i + 1) s2.heap) (g : GoS V ((R.cp S1 m1 zs).bd s2 m2 ρ') ⟨S4, m4, R.ad, R.T, ρ', zs'⟩) (w : Wst V b ⟨S4, m4, R.ad, R.T, ρ', zs'⟩) (hu : BindUp R.ρ ρ') (h2 : flatM f (items.drop (i + 1)) = some r2) (he : zs' ++ r2 = tot) :
    ∃ m, m < items.length + 1 - i ∧ CIn V b X R0 R f items tot m S4.s :=
  ⟨_, Nat.sub_lt_sub_left (Nat.lt_succ_of_lt hlt) (Nat.lt_succ_self i), i + 1, S4, m4, zs', r2, rfl, rfl, hlt, c.L.next Fd g2 st (g.to (R'' := R.cp S4 m4 zs') rfl rfl) (w.less hu.up) c.L.ow, h2, he⟩
section
variable {t : Tgt} {ifs : PEs} {rest : PC} {tg iter elt : Expr} {is : List Expr} {gens0 gens : List Comprehension} {scope : Scope} {pos : Pos} {depth : Nat} {nm sc0 : Sc} {items ys : List AV} {ρ₀ : Nv} {X : Fx} {a : Addr} {Z0 : Fz}
theorem len_two {α : Type} {a b c d : List α} (e : a ++ (b ++ c) = d) (h : d.length ≤ lim) : (a ++ b).length ≤ lim := by
  subst e
  rw [← List.append_assoc, lnA] at h
  exact lz (Nat.le_add_right _ _) h
theorem loop_turn (hA : AOk 0 V.A) (nv : V.N.vars.Nodup) (hif : IfsOk V ifs) (htl : TailOk V rest) (hg : gens0.drop depth = ⟨tg, iter, is, 0⟩ :: gens) (hkt : IsT V.N nm t tg) (hki : IsEs V.N ifs b.sc is) (hkc : IsK V.N false rest sc0 nm b.sc gens elt) (hW : Wr b nm) (ho : b.o = false) (hac : b.ac = some a) (na : NA R.ρ) (hlen : (R.acc ++ ys).length ≤ lim)
    (Fd : Feed V tg Z0 items false X) (hz : ∀ a o, Z0 a = some o → R0.S.Z a = some o) {i : Nat} {S1 : Ws} {m1 : Str → Option Value} {zs r : List AV} (c : CI V b X R0 R (turnC V t ifs rest ρ₀ R.ρ) items (R.acc ++ ys) i S1 m1 zs r) {Q : Fin → Shared → Prop} {E : Value → Shared → Prop}
    (h1 : ∀ S' : Ws, (∃ m, m < items.length + 1 - i ∧ CIn V b X R0 R (turnC V t ifs rest ρ₀ R.ρ) items (R.acc ++ ys) m S'.s) → Q (.again (.compLoop (.ListComp elt gens0 scope pos) depth (.ref X.I) (.ref a) b.env)) S'.s)
    (h2 : ∀ S' m', GoS V R0 (R.cp S' m' (R.acc ++ ys)) → Wst V b (R.cp S' m' (R.acc ++ ys)) → Q (.done .next) S'.s) : Wp V (compTurn (.ListComp elt gens0 scope pos) depth (.ref X.I) (.ref a) b.env) Q E S1 := by
  rw [compTurn_eq (drop_get hg).1]
  refine wpAny_bind (wpAny_standAt (wpAny_bind ?_))
  rcases Nat.lt_or_eq_of_le c.hi with hlt | he
  · refine bindE (List.drop_eq_getElem_cons hlt ▸ c.rr) fun r1 hf1 hfl => mapE hfl fun r2 hf2 er => bindE hf1 fun ρ' hb hf1 => bindE hf1 fun q hq hf1 => ?_
    have ce := er ▸ c.e
    refine c.L.turn (Q := fun _ s' => _) Fd (fun a o e => c.L.g.mono a o (hz a o e)) hA nv hkt hW nofun (List.getElem?_eq_getElem hlt) (iteB hb fun _ e => e) (fun v s h => wpAny_bind (wpAny_mono h (fun _ _ h => wpAny_bind h) fun _ _ e => e)) fun s2 m2 hI g2 w2 st2 => ?_
    have hu := hI.elim fun _ h => h.elim fun _ h => (bindC_up h hb na).2
    refine wpAny_bind (hif hki w2.F hq fun S3 g3 => ?_)
    cases q
    · exact wpAny_pure (h1 S3 (c.next hlt Fd g2 st2 ((GoS.of g3).to rfl rfl) (w2.go g3) hu hf2 (by cases (show [] = r1 from someE hf1); exact ce)))
    · exact htl (R := { (R.cp S1 m1 zs).bd s2 m2 ρ' with S := S3 }) (drop_get hg).2 hkc hW (w2.go g3) ho hac hu.na hf1 (len_two ce hlen) fun S4 m4 g4 w4 => h1 S4 (c.next hlt Fd g2 st2 ((GoS.of g3).trans g4) w4 hu hf2 ((List.append_assoc ..).trans ce))
  · subst he
    cases (show [] = r from someE ((congrArg (flatM _) List.drop_length).symm.trans c.rr))
    exact c.L.done Fd fun h' tk g w => wpAny_pure (h2 _ _ ((g.to (R'' := R.cp _ m1 (R.acc ++ ys)) rfl rfl)) (c.e ▸ (List.append_nil zs).symm ▸ w))
theorem loop_ok (hA : AOk 0 V.A) (nv : V.N.vars.Nodup) (hif : IfsOk V ifs) (htl : TailOk V rest) (hg : gens0.drop depth = ⟨tg, iter, is, 0⟩ :: gens) (hkt : IsT V.N nm t tg) (hki : IsEs V.N ifs b.sc is) (hkc : IsK V.N false rest sc0 nm b.sc gens elt) (hW : Wr b nm) (ho : b.o = false) (hac : b.ac = some a) (na : NA R.ρ) (hlen : (R.acc ++ ys).length ≤ lim)
    (Fd : Feed V tg Z0 items false X) (hz : ∀ a o, Z0 a = some o → R0.S.Z a = some o) (L : Lp V b X R0 R 0) (hev : flatM (turnC V t ifs rest ρ₀ R.ρ) items = some ys) {P : Result → Shared → Prop}
    (k : ∀ S' m', GoS V R0 (R.cp S' m' (R.acc ++ ys)) → Wst V b (R.cp S' m' (R.acc ++ ys)) → P (.ok .next) S'.s) : codeAny V.M V.A (.compLoop (.ListComp elt gens0 scope pos) depth (.ref X.I) (.ref a) b.env) P R.S.s :=
  codeAny_loop rfl (CIn V b X R0 R (turnC V t ifs rest ρ₀ R.ρ) items (R.acc ++ ys)) (fun n s h => h.elim fun i h => h.elim fun S1 h => h.elim fun m1 h => h.elim fun zs h => h.elim fun r h => h.1 ▸ h.2.1 ▸ wpAny_noted (loop_turn hA nv hif htl hg hkt hki hkc hW ho hac na hlen Fd hz h.2.2 (fun S' h => ⟨rfl, h⟩) k)) (items.length + 1) ⟨0, R.S, R.m, R.acc, ys, rfl, rfl, Nat.zero_le _, L, hev, rfl⟩
end
end
section
variable {V : Vc} {b : Bs} {R R0 : Rs}
def ItOk (V : Vc) (evf : Nv → Option (List AV)) (it : PI) (pl : Bool) : Prop := ∀ ⦃f iter S ρ items tg⦄, IsI V.N it f.sc iter → TgS tg → FrA V f S ρ → evf ρ = some items → ∀ ⦃Q E : Value → Shared → Prop⦄,
  (∀ x S', Stp V S S' → Feeds V tg items false pl S' x → Q x S'.s) → Wp V (eval iter f.env) Q E S
theorem Feeds.weak {tg : Expr} {items : List AV} {S : Ws} {v : Value} {pl : Bool} (h : Feeds V tg items false true S v) : Feeds V tg items false pl S v := fun Q E k => h fun X S2 Fd st => k X S2 Fd ⟨st.g, st.wr, fun b hb => (st.fp b hb).imp id (·.imp id fun q _ => q rfl), st.s0⟩
theorem Feeds.none {tg : Expr} {items : List AV} {S : Ws} {v : Value} {pl : Bool} (h : Feeds V tg items false pl S v) : Feeds V tg items false false S v := fun Q E k => h fun X S2 Fd st => k X S2 Fd ⟨st.g, st.wr, fun b hb => (st.fp b hb).imp id (·.imp id fun _ q => nomatch q), st.s0⟩
theorem it_ex_val (hA : AOk 0 V.A) {p : PE} (hp : ValOk V p) : ItOk V (evI V.Φ V.Γ (.ex p)) (.ex p) false := fun f iter S ρ items tg hk ht F hev Q E kk =>
  bindE hev fun v hv hi => hp hk.1 F hv fun r S' g hr => kk r S' g (iter_ok hA g.w ht hi hr).none
theorem it_ex_plain (hA : AOk 0 V.A) {p : PE} (hp : ValOk V p) : ItOk V (evP V.Φ V.Γ (.ex p)) (.ex p) true := fun f iter S ρ items tg hk ht F hev Q E kk =>
  bindE hev fun v hv hi => iteB hi fun hpl hi => hp hk.1 F hv fun r S' g hr => kk r S' g (hpl ▸ iter_ok hA g.w ht hi hr)
theorem range_blt : (("range" : Str), Value.type "range") ∈ bltV := .tail _ (.tail _ (.tail _ (.tail _ (.tail _ (.tail _ (.head _))))))
theorem it_range (K : Env0 V) {es : PEs} (h : ValsOk V es) : ItOk V (fun ρ => (evs V.Φ V.Γ es ρ).bind rangeV) (.range es) true := fun f iter S ρ items tg hk ht F hev Q E kk => by
  obtain ⟨q, args, p, rfl, k1, k2, k3, k4⟩ := hk
  show wpAny _ V.A (do callWith p (← eval (.Name "range" q) f.env) [] (backTo p (starEach args f.env)) []) Q E S.s
  have pl := pla_of (V := V) (M := V.M) (A := V.A) (env := f.env) (pos := p) es args k4
  exact bindE hev fun ys hys hr => wpAny_bind (name_bl K.cfg F k1 range_blt (PySem.callWith_type pl.any (pl.go (h p k4 F hys fun vs S' g hv => range_ok K.room g.w ht hr hv fun x S2 g2 hf => kk x S2 (g.trans g2) hf))))
theorem set_fold {it : PI} {sc : Sc} {iter : Expr} {env : Env} (hk : IsI V.N it sc iter) (x : Value) : foldedSetIterable iter env x = pure x := by
  cases it with
  | ex p => cases iter with
    | Set _ _ _ => exact absurd hk.2 (Bool.noConfusion)
    | _ => rfl
  | range _ => obtain ⟨q, args, p, rfl, _⟩ := hk; rfl
  | enum _ => obtain ⟨q, args, p, rfl, _⟩ := hk; rfl
theorem VarR.ex {S : Ws} {ad : Nat → Addr} {k : Nat} {y : AV} {v : Value} (r : VarR V ad S k y v) (h : isOwn y = true) : ∃ o, S.s.heap.get? (ad k) = some o := (r.obj h).imp fun _ q => q.1
theorem Wst.exOwn (w : Wst V b R) {k : Nat} {y : AV} (e : R.ρ k = some y) (h : isOwn y = true) : ∃ o, R.S.s.heap.get? (R.ad k) = some o := (w.F.vars k y e).elim fun n q => q.elim fun v q => q.2.2.ex h
theorem Wst.offNew (w : Wst V b R) {a : Addr} (h : R.S.s.heap.get? a = none) : Off b a :=
  ⟨fun q => w.F.ns.elim fun o z => z.elim fun _ z => z.elim fun _ z => noSome h (q ▸ z.1), fun n c hn hc q => (w.F.cl n hn).elim fun c' z => z.elim fun v z => z.2.elim fun o z' => noSome h (q ▸ (sIj (z.1.symm.trans hc)) ▸ z'.1)⟩
theorem Lp.start {tg : Expr} {items : List AV} {X : Fx} {tup : Bool} {S2 : Ws} (w : Wst V b R) (st : Start V true R.S S2 X) : Lp V b X R { R with S := S2 } 0 where
  g := GoS.of st.g
  w := w.go st.g
  st := st.s0
  ap := fun a ha => ⟨fun q => (st.fp a ha).2.elim (fun z => (w.tz a q).2.2.elim fun o e => noSome z e) fun z => z rfl ((w.go st.g).tz a q).1, (st.fp a ha).1⟩
  wz := fun a ha => ⟨(st.wr a ha).2, (st.wr a ha).1, w.offNew (st.wr a ha).1⟩
  ow := fun _ k y e h q => (w.exOwn e h).elim fun o z => noSome (st.wr _ q).1 z
theorem compStart_at {elt tg iter : Expr} {is : List Expr} {gens : List Comprehension} {scope : Scope} {pos : Pos} {depth : Nat} {it acc : Value} {env : Env} {P : Result → Shared → Prop} {s : Shared} (h : gens[depth]? = some ⟨tg, iter, is, 0⟩)
    (h0 : codeAny V.M V.A (.compLoop (.ListComp elt gens scope pos) depth it acc env) P s) (h1 : ∀ (Q E : Value → Shared → Prop), Q it s → wpAny V.M V.A (pyIter it) Q E s) : codeAny V.M V.A (.compStart (.ListComp elt gens scope pos) depth it acc env) P s := by
  refine codeAny_of_tree ?_
  show wpAny _ _ ((compStart (.ListComp elt gens scope pos) depth it acc env).onRaise (fun x => do noteFrame x env; standAt theWindowsPlace)) _ _ s
  refine wpAny_notedAt ?_
  unfold compStart
  rw [show (clausesOf (.ListComp elt gens scope pos))[depth]? = some ⟨tg, iter, is, 0⟩ from h]
  show wpAny _ _ (ask >>= _) _ _ s
  refine wpAny_bind (wpAny_askSetting (wpAny_ite ?_))
  split
  · exact wpAny_bind (wpAny_pure (wpAny_pure ⟨rfl, h0⟩))
  · exact wpAny_bind (wpAny_rule (wpAny_bind (wpAny_standAt (wpAny_bind (h1 _ _ (wpAny_pure ⟨rfl, h0⟩))))))
theorem tail_clause (hA : AOk 0 V.A) (nv : V.N.vars.Nodup) {t : Tgt} {it : PI} {ifs : PEs} {rest : PC} (hit : ItOk V (evP V.Φ V.Γ it) it true) (hif : IfsOk V ifs) (htl : TailOk V rest) : TailOk V (.clause t it ifs rest) :=
  fun b R elt gens0 gens scope pos depth i0 nm sc0 ρ₀ ys a hg hk hW w ho hac na hev hlen Q E kk => by
  obtain ⟨tg, iter, is, gr, rfl, k1, k2, k3, k4⟩ := hk
  unfold tailT
  rw [(drop_get hg).1]
  refine bindE hev fun items hi hev => wpAny_bind (hit k2 k1.s w.F hi fun x S1 g1 hf => wpAny_bind (wpAny_standAt (wpAny_bind (wpAny_of_eq (set_fold k2 x) (wpAny_bind (wpAny_holding (hf fun X S2 Fd st => ?_)))))))
  have L : Lp V b X { R with S := S1 } { R with S := S2 } 0 := Lp.start (tg := tg) (items := items) (tup := false) (w.go g1) st
  refine wpAny_bind (wpAny_runOwn (compStart_at (drop_get hg).1 (loop_ok (R0 := { R with S := S1 }) (R := { R with S := S2 }) hA nv hif htl hg k1 k3 k4 hW ho hac na hlen Fd (fun a o e => e) L hev fun S' m' g w' => wpAny_pure (kk S' m' ((GoS.of g1).trans g) w')) fun Q E k => Fd.self 0 _ Q E st.s0 k))
end
theorem closure_go {env : Env} : ∀ (names : List (Str × NameKind)) (acc : List (Str × Addr)), (∀ x ∈ names, x.2 = .free → ∃ c, env.cells.lookup x.1 = some c) → ∃ cl,
    (forIn names acc fun (x : Str × NameKind) (cs : List (Str × Addr)) => if x.2 == NameKind.free then (do let a ← cellOf env x.1; pure (ForInStep.yield ((x.1, a) :: cs))) else pure (ForInStep.yield cs) : Sem (List (Str × Addr))) = pure cl ∧
      ∀ n c, (n, c) ∈ cl ↔ (n, c) ∈ acc ∨ ((n, NameKind.free) ∈ names ∧ env.cells.lookup n = some c)
  | [], acc, _ => ⟨acc, rfl, fun n c => ⟨.inl, fun h => h.elim id fun h => nomatch h.1⟩⟩
  | x :: r, acc, h => by
    have ih := fun acc => closure_go r acc fun y hy => h y (.tail _ hy)
    rw [List.forIn_cons]
    cases hk : x.2 == NameKind.free with
    | true =>
      have hk := eq_of_beq hk
      obtain ⟨c, hc⟩ := h x (.head _) hk
      obtain ⟨cl, e, m⟩ := ih ((x.1, c) :: acc)
      refine ⟨cl, ?_, fun n d => (m n d).trans ⟨fun q => q.elim (fun q => (mCo q).elim (fun q => .inr (by cases q; exact ⟨hk ▸ .head _, hc⟩)) .inl) fun q => .inr ⟨.tail _ q.1, q.2⟩, fun q => q.elim (fun q => .inl (.tail _ q)) fun q => (mCo q.1).elim (fun z => .inl (by cases z; cases hc.symm.trans q.2; exact .head _)) fun z => .inr ⟨z, q.2⟩⟩⟩
      unfold cellOf
      rw [if_pos rfl, hc]
      exact e
    | false =>
      obtain ⟨cl, e, m⟩ := ih acc
      exact ⟨cl, e, fun n d => (m n d).trans ⟨.imp id fun q => ⟨.tail _ q.1, q.2⟩, .imp id fun q => (mCo q.1).elim (fun z => by cases z; exact absurd (show (NameKind.free == NameKind.free) = false from hk) (by decide)) fun z => ⟨z, q.2⟩⟩⟩
theorem closure_spec {env : Env} {scope : Scope} (h : ∀ x ∈ scope.names, x.2 = .free → ∃ c, env.cells.lookup x.1 = some c) : ∃ cl, closureFor scope env = pure cl ∧ ∀ n c, (n, c) ∈ cl ↔ (n, NameKind.free) ∈ scope.names ∧ env.cells.lookup n = some c :=
  (closure_go scope.names [] h).elim fun cl q => ⟨cl, by unfold closureFor; exact (congrArg (· >>= pure) q.1).trans rfl, fun n c => (q.2 n c).trans ⟨fun z => z.elim (fun z => nomatch z) id, .inr⟩⟩
theorem cells_app : ∀ (names : List (Str × NameKind)) (n : Nat) (acc : List (Str × Addr)), cellsFrom n names acc = cellsFrom n names [] ++ acc
  | [], _, _ => rfl
  | (x, k) :: r, n, acc => by
    unfold cellsFrom
    cases k == .cell
    · exact cells_app r n acc
    · rw [if_pos rfl, if_pos rfl, cells_app r _ ((x, n) :: acc), cells_app r _ [(x, n)], List.append_assoc]; rfl
theorem cells_mem : ∀ (names : List (Str × NameKind)) (n : Nat) (x : Str), (∀ c, (x, c) ∈ cellsFrom n names [] → (x, NameKind.cell) ∈ names) ∧ ((x, NameKind.cell) ∈ names → ∃ c, (x, c) ∈ cellsFrom n names [])
  | [], _, _ => ⟨fun _ h => (nomatch h), fun h => (nomatch h)⟩
  | (y, k) :: r, n, x => by
    unfold cellsFrom
    cases hk : k == .cell with
    | false => exact ⟨fun c h => .tail _ ((cells_mem r n x).1 c h), fun h => (mCo h).elim (fun q => by cases q; exact absurd (show (NameKind.cell == NameKind.cell) = false from hk) (by decide)) fun q => (cells_mem r n x).2 q⟩
    | true =>
      rw [if_pos rfl, cells_app]
      refine ⟨fun c h => (mAp h).elim (fun h => .tail _ ((cells_mem r (n + 1) x).1 c h)) fun h => ?_, fun h => (mCo h).elim (fun q => ⟨n, List.mem_append.mpr (.inr (by cases q; exact .head _))⟩) fun q => ((cells_mem r (n + 1) x).2 q).elim fun c h => ⟨c, List.mem_append.mpr (.inl h)⟩⟩
      cases mSg h
      exact eq_of_beq hk ▸ .head _
theorem lookup_some {α : Type} : ∀ {l : List (Str × α)} {n : Str} {c : α}, (n, c) ∈ l → ∃ d, l.lookup n = some d
  | (y, d) :: r, n, c, h => by
    rw [List.lookup_cons]
    cases hb : n == y with
    | true => exact ⟨d, rfl⟩
    | false => exact (mCo h).elim (fun q => by cases q; rw [beq_self_eq_true] at hb; cases hb) lookup_some
theorem relabel_names {sc : Sc} {env : Env} {scope : Scope} (hk : env.scope.kind = .function) (hs : env.scope.names = sc) : (relabel scope env).names = innerSc sc scope.names := by
  unfold relabel innerSc Env.kindOf relK
  subst hs
  refine List.map_congr_left fun x _ => ?_
  dsimp only
  rw [hk, show (ScopeKind.function == ScopeKind.function) = true from rfl, Bool.and_true]
  split <;> rfl
structure ScopeP (N : Nm) (sc : Sc) (caps : List Nat) (scope : Scope) : Prop where
  kind : scope.kind = .function
  lk : ∀ n k, (n, k) ∈ scope.names → scope.names.lookup n = some k ∧ (innerSc sc scope.names).lookup n = some (relK sc n k)
  fr : ∀ n, (n, NameKind.free) ∈ scope.names → CellN sc n
  cap : ∀ k, caps.contains k = true → ∃ n, N.vars[k]? = some n ∧ scope.names.lookup n = some .free
theorem scope_parts {N : Nm} {sc : Sc} {caps : List Nat} {scope : Scope} (h : scopeOk N sc caps scope = true) : ScopeP N sc caps scope :=
  have h := and3 h
  have h2 := fun n k hm => and3 (List.all_eq_true.mp h.2.1 (n, k) hm)
  ⟨eq_of_beq h.1, fun n k hm => ⟨eq_of_beq (h2 n k hm).1, eq_of_beq (h2 n k hm).2.1⟩, fun n hm => ((Bool.or_eq_true _ _).mp ((Bool.or_eq_true _ _).mp (h2 n _ hm).2.2 |>.resolve_left (by simp))).imp eq_of_beq eq_of_beq,
   fun k hk => by
    have := List.all_eq_true.mp h.2.2 k (by simpa using hk)
    unfold capOk at this
    cases e : N.vars[k]? with
    | none => rw [e] at this; cases this
    | some n => rw [e] at this; exact ⟨n, rfl, eq_of_beq this⟩⟩
theorem relK_cell {sc : Sc} {n : Str} {k : NameKind} (h : relK sc n k = .cell ∨ relK sc n k = .free) : k = .cell ∨ k = .free := by
  unfold relK at h
  split at h
  · rename_i q; exact .inr (eq_of_beq (bE q).1)
  · exact h
theorem inner_mem {sc names : Sc} {n : Str} {k : NameKind} (h : (innerSc sc names).lookup n = some k) : ∃ k0, (n, k0) ∈ names ∧ relK sc n k0 = k :=
  (List.mem_map.mp (mem_of_lookup h)).elim fun x q => by cases q.2; exact ⟨_, q.1, rfl⟩
section
variable {V : Vc}
theorem newEnv_ok {scope : Scope} {globals : Addr} {cl : List (Str × Addr)} {qual : Str} {outer : Env} {Q : Env → Shared → Prop} {E : Value → Shared → Prop} {s : Shared}
    (h : Q { scope, locals := s.heap.objs.size, globals, cells := cellsFrom (s.heap.objs.size + 1) scope.names cl, qual, func := none, code := outer.code, frame := outer.frame, builtins := outer.builtins } { s with heap := pushCells (s.heap.push { cls := .type "dict", data := .dict #[] }) scope.names }) :
    wpAny V.M V.A (newFunctionEnv scope globals cl [] qual none .none (some outer)) Q E s :=
  wpAny_bind (wpAny_alloc (wpAny_bind (wpAny_layCells _ (fun name kind cells => rfl) _ _ _ _ (wpAny_bind (wpAny_pure (wpAny_pure (by
    show Q { scope, locals := s.heap.objs.size, globals, cells := cellsFrom (s.heap.push { cls := .type "dict", data := .dict #[] }).objs.size scope.names cl, qual := qual, func := none, code := outer.code, frame := outer.frame, builtins := outer.builtins } _
    rw [Heap.size_push]; exact h)))))))
theorem noAB_some {z y : AV} (e : noAB z = some y) : z = y ∧ (∀ i, y ≠ .app i) := by
  cases z with
  | app _ => exact noneE e
  | ba _ => exact noneE e
  | _ => exact someE e ▸ ⟨rfl, nofun⟩
theorem only_some {ρ : Nv} {caps : List Nat} {k : Nat} {y : AV} (e : (ρ.only caps) k = some y) : caps.contains k = true ∧ ρ k = some y ∧ ∀ i, y ≠ .app i :=
  iteB (show (if caps.contains k then (ρ k).bind noAB else none) = some y from e) fun h e => bindE e fun z hz e => ⟨h, (noAB_some e).1 ▸ hz, (noAB_some e).2⟩
theorem VarR.noCell {S : Ws} {ad : Nat → Addr} {k : Nat} {y : AV} {v : Value} {u : Option Value} (r : VarR V ad S k y v) (h : isOwn y = true) (hc : S.s.heap.IsCell (ad k) u) : False :=
  (r.obj h).elim fun o q => hc.elim fun o' q' => q.2 u ((sIj (q'.1.symm.trans q.1)) ▸ q'.2)
theorem relK_free {sc : Sc} {n : Str} : relK sc n .free = .cell ∨ relK sc n .free = .free := by
  unfold relK
  split
  · exact .inl rfl
  · exact .inr rfl
variable {f : Fm} {S : Ws} {ρ : Nv} {caps : List Nat} {scope : Scope} {cl cs : List (Str × Addr)} {h5 : Heap} {a L lo : Addr}
structure CellP (V : Vc) (f : Fm) (S : Ws) (scope : Scope) (cs : List (Str × Addr)) (h5 : Heap) (lo : Addr) : Prop where
  lk : ∀ n c, cs.lookup n = some c → ((n, NameKind.cell) ∈ scope.names ∧ lo ≤ c ∧ h5.IsCell c none ∧ ∀ n', cs.lookup n' = some c → n' = n) ∨ ((n, NameKind.free) ∈ scope.names ∧ f.env.cells.lookup n = some c)
  fr : ∀ n c, (n, NameKind.free) ∈ scope.names → f.env.cells.lookup n = some c → cs.lookup n = some c
  ce : ∀ n, (n, NameKind.cell) ∈ scope.names → ∃ c, cs.lookup n = some c
theorem kind_fn {names : Sc} {n : Str} {k k' : NameKind} (sp : ScopeP V.N f.sc caps scope) (h : (n, k) ∈ scope.names) (h' : (n, k') ∈ scope.names) : k = k' := sIj ((sp.lk n k h).1.symm.trans (sp.lk n k' h').1)
theorem cellP (F : FrA V f S ρ) (sp : ScopeP V.N f.sc caps scope) (hcl : ∀ n c, (n, c) ∈ cl ↔ (n, NameKind.free) ∈ scope.names ∧ f.env.cells.lookup n = some c) (own : CellsOk h5 lo (cellsFrom lo scope.names [])) (hlo : ∀ b, lo ≤ b → S.s.heap.get? b = none) : CellP V f S scope (cellsFrom lo scope.names cl) h5 lo :=
  have mem : ∀ n c, (cellsFrom lo scope.names cl).lookup n = some c → (n, c) ∈ cellsFrom lo scope.names [] ∨ ((n, NameKind.free) ∈ scope.names ∧ f.env.cells.lookup n = some c) := fun n c e =>
    (mAp (cells_app scope.names lo cl ▸ mem_of_lookup e)).imp id (hcl n c).mp
  have old : ∀ n c, (n, NameKind.free) ∈ scope.names → f.env.cells.lookup n = some c → ¬ lo ≤ c := fun n c h e q => (F.cl n (sp.fr n h)).elim fun c' z => z.elim fun v z => z.2.elim fun o z' => noSome (hlo c q) (sIj (z.1.symm.trans e) ▸ z'.1)
  have get : ∀ n c, (n, c) ∈ cellsFrom lo scope.names [] ∨ (n, c) ∈ cl → ∃ d, (cellsFrom lo scope.names cl).lookup n = some d := fun n c h => lookup_some (cells_app scope.names lo cl ▸ List.mem_append.mpr h)
  { lk := fun n c e => (mem n c e).imp (fun h => ⟨(cells_mem _ _ n).1 c h, (own.empty n c h).2, (own.empty n c h).1, fun n' e' => (mem n' c e').elim (fun h' => name_of_addr own.apart h' h) fun h' => (old n' c h'.1 h'.2 (own.empty n c h).2).elim⟩) id
    fr := fun n c h e => (get n c (.inr ((hcl n c).mpr ⟨h, e⟩))).elim fun d z => (mem n d z).elim (fun q => nomatch kind_fn (names := []) sp h ((cells_mem _ _ n).1 d q)) fun q => z.trans (q.2.symm.trans e)
    ce := fun n h => ((cells_mem _ _ n).2 h).elim fun c z => get n c (.inl z) }
noncomputable abbrev compF (f : Fm) (scope : Scope) (cs : List (Str × Addr)) (L : Addr) : Fm := ⟨innerSc f.sc scope.names, compEnvC scope cs L f.env, fun _ => none, f.ad⟩
theorem comp_vars (sp : ScopeP V.N f.sc caps scope) (F : FrA V f S ρ) (c : CellP V f S scope cs h5 lo) (up : ∀ b o, S.s.heap.get? b = some o → h5.get? b = some o) {k : Nat} {y : AV} (e : (ρ.only caps) k = some y) :
    ∃ n v, V.N.vars[k]? = some n ∧ Rd (compF f scope cs L) h5 n v ∧ VarR V f.ad ⟨{ S.s with heap := h5 }, S.Z⟩ k y v := by
  obtain ⟨e0, e1, _⟩ := only_some e
  obtain ⟨n, hn, hf⟩ := sp.cap k e0
  obtain ⟨n', v, h1, h2, h3⟩ := F.vars k y e1
  cases hn.symm.trans h1
  have hm := mem_of_lookup hf
  refine ⟨n, v, hn, ?_, VarR.mv (S := S) (fun _ _ e => e) (fun _ o e => up _ o e) (fun _ => rfl) (fun _ _ => rfl) h3⟩
  rcases h2 with h2 | ⟨_, b, h4, h5⟩
  · exact (ne_loc h2.1 (sp.fr n hm)).elim
  · exact .inr ⟨(relK_free (sc := f.sc) (n := n)).imp (fun q => (sp.lk n _ hm).2.trans (congrArg some q)) (fun q => (sp.lk n _ hm).2.trans (congrArg some q)), b, c.fr n b hm h4, h5.keeps up⟩
theorem old_cell (sp : ScopeP V.N f.sc caps scope) (F : FrA V f S ρ) {n : Str} {b : Addr} (h : (n, NameKind.free) ∈ scope.names) (e : f.env.cells.lookup n = some b) : ∃ v, S.s.heap.IsCell b v := (F.cl n (sp.fr n h)).elim fun b' z => z.elim fun v z => ⟨v, sIj (z.1.symm.trans e) ▸ z.2⟩
theorem comp_cl (sp : ScopeP V.N f.sc caps scope) (F : FrA V f S ρ) (c : CellP V f S scope cs h5 lo) (up : ∀ b o, S.s.heap.get? b = some o → h5.get? b = some o) {n : Str} (h : CellN (innerSc f.sc scope.names) n) : ∃ b v, cs.lookup n = some b ∧ h5.IsCell b v := by
  obtain ⟨k0, hm, hk⟩ : ∃ k0, (n, k0) ∈ scope.names ∧ (relK f.sc n k0 = .cell ∨ relK f.sc n k0 = .free) := h.elim (fun h => (inner_mem h).imp fun _ q => ⟨q.1, .inl q.2⟩) fun h => (inner_mem h).imp fun _ q => ⟨q.1, .inr q.2⟩
  have : ∃ b, cs.lookup n = some b := (relK_cell hk).elim (fun q => c.ce n (q ▸ hm)) fun q => (F.cl n (sp.fr n (q ▸ hm))).elim fun b z => z.elim fun _ z => ⟨b, c.fr n b (q ▸ hm) z.1⟩
  exact this.elim fun b e => (c.lk n b e).elim (fun q => ⟨b, none, e, q.2.2.1⟩) fun q => (old_cell sp F q.1 q.2).elim fun v z => ⟨b, v, e, z.keeps up⟩
theorem comp_own (sp : ScopeP V.N f.sc caps scope) (F : FrA V f S ρ) (c : CellP V f S scope cs h5 lo) (hlo : ∀ b, lo ≤ b → S.s.heap.get? b = none) {k : Nat} {y : AV} (e : (ρ.only caps) k = some y) (ho : isOwn y = true) : (∃ o, S.s.heap.get? (f.ad k) = some o) ∧ ∀ n b, cs.lookup n = some b → f.ad k ≠ b := by
  obtain ⟨n, v, h1, h2, h3⟩ := F.vars k y (only_some e).2.1
  obtain ⟨o, ex⟩ := h3.ex ho
  exact ⟨⟨o, ex⟩, fun n b e q => (c.lk n b e).elim (fun z => noSome (hlo b z.2.1) (q ▸ ex)) fun z => (old_cell sp F z.1 z.2).elim fun v z => h3.noCell ho (q ▸ z)⟩
noncomputable abbrev compB (f : Fm) (scope : Scope) (cs : List (Str × Addr)) (L a : Addr) : Bs := ⟨innerSc f.sc scope.names, compEnvC scope cs L f.env, fun n => wrOk scope.names n = true, false, some a⟩
noncomputable abbrev compR (f : Fm) (S : Ws) (h5 : Heap) (ρ : Nv) (caps : List Nat) : Rs := ⟨⟨{ S.s with heap := h5 }, S.Z⟩, fun _ => none, f.ad, fun b => S.s.heap.get? b = none ∧ ∃ o, h5.get? b = some o, ρ.only caps, []⟩
theorem comp_enter (sp : ScopeP V.N f.sc caps scope) (F : FrA V f S ρ) (c : CellP V f S scope cs h5 lo) (up : ∀ b o, S.s.heap.get? b = some o → h5.get? b = some o) (ea : h5.get? a = some (lstO [] 0)) (ns : h5.Ns L fun _ => none) (hn : ∀ b, a ≤ b → S.s.heap.get? b = none) (haL : a < L) (hL : L < lo) :
    Wst V (compB f scope cs L a) (compR f S h5 ρ caps) :=
  have hLn := hn L (Nat.le_of_lt haL)
  have hlo : ∀ b, lo ≤ b → S.s.heap.get? b = none := fun b h => hn b (lz (Nat.le_of_lt (Nat.lt_trans haL hL)) h)
  { F := { w := (Go.keeps F.w up (Nat.le_refl _)).ok
           kind := sp.kind
           names := relabel_names F.kind F.names
           glob := F.glob
           blt := F.blt
           ns := ns
           vars := fun k y e => comp_vars sp F c up e
           cl := fun n h => comp_cl sp F c up h
           loc := WOk.ne F.w hLn
           cel := fun n b e => (c.lk n b e).elim (fun q => WOk.ne F.w (hlo b q.2.1)) fun q => F.cel n b q.2
           code := F.code }
    tl := ⟨hLn, ns.elim fun o z => z.elim fun _ z => z.elim fun _ z => ⟨o, z.1⟩⟩
    tc := fun n b hW hc e => (c.lk n b e).elim (fun q => ⟨⟨hlo b q.2.1, q.2.2.1.elim fun o z => ⟨o, z.1⟩⟩, q.2.2.2⟩) fun q => by
      have hW : wrOk scope.names n = true := hW
      unfold wrOk at hW
      rw [(sp.lk n _ q.1).1] at hW
      cases hW
    tz := fun b h => ⟨WOk.nz F.w h.1, WOk.ne F.w h.1, h.2⟩
    ow := fun k y e ho => have h := comp_own sp F c hlo e ho
      ⟨⟨fun q => h.1.elim fun o e => (noSome q.1 e).elim, nofun⟩, ⟨fun q => h.1.elim fun o e => noSome hLn ((show f.ad k = L from q) ▸ e), fun n b _ e => h.2 n b e⟩, nofun⟩
    ac := fun a' e => by
      cases (show some a = some a' from e)
      exact ⟨⟨hn a (Nat.le_refl _), _, ea⟩, ⟨Nat.ne_of_lt haL, fun n b _ e q => (c.lk n b e).elim (fun z => Nat.lt_irrefl _ (Nat.lt_of_lt_of_le (Nat.lt_trans haL hL) (q ▸ z.2.1))) fun z => (old_cell sp F z.1 z.2).elim fun v z => z.elim fun o z => noSome (hn a (Nat.le_refl _)) (q ▸ z.1)⟩, [], 0, ea, rfl⟩ }
theorem Sd.put {o : Obj} (w : Sd V S) (hz : S.Z a = none) (hP : a ≠ V.C.P) (e : S.s.heap.get? a = some o) : Sd V ⟨S.s, S.Z.put a o⟩ :=
  ⟨fun b x h => (put_or h).elim (w.sub b x) fun q => (congrArg S.s.heap.get? q.1).trans (e.trans (congrArg some q.2)), none_of fun x h => (put_or h).elim (fun h => noSome w.noP h) fun q => hP q.1.symm, fun b x h => put_mono hz b x (w.base b x h), w.tab.elim fun o t => ⟨o, t.1, V.C.tabMono t.2 (put_mono hz)⟩, w.gens, WOk.tk w⟩
theorem comp_out {b : Bs} {R0 R : Rs} (g : GoS V R0 R) (hT : ∀ a, ¬ R0.T a) (w : Wst V b R) (hac : b.ac = some a) (ha : R0.S.s.heap.get? a = none) : ∃ Z', Stp V R0.S ⟨R.S.s, Z'⟩ ∧ RepV Z' V.st (.list R.acc) (.ref a) ∧ ∀ b, R.T b → b ≠ a → Z' b = none := by
  obtain ⟨hTa, hO, vs, n, e, hl⟩ := w.ac a hac
  obtain ⟨hz, hP, _⟩ := w.tz a hTa
  exact ⟨R.S.Z.put a (lstO vs n), ⟨fun c o h e => g.keep c o (hT c) h e, g.os, fun c o e => put_mono hz c o (g.mono c o e), fun c o e => (put_or e).elim (fun e => (g.fz c o e).imp id fun h => h.elim (fun h => (hT c h).elim) id) fun q => .inr (q.1 ▸ ha), Sd.put w.w hz hP e⟩,
    ⟨a, vs, n, rfl, put_self, hl.mono (put_mono hz)⟩, fun c h q => (if_neg q).trans (w.tz c h).1⟩
section
variable {t : Tgt} {it : PI} {ifs : PEs} {rest : PC} {items ys : List AV} {tg iter elt : Expr} {is : List Expr} {gr : List Comprehension} {pos : Pos} {X : Fx} {S1 : Ws}
theorem comp_run (K : Env0 V) (hif : IfsOk V ifs) (htl : TailOk V rest) (sp : ScopeP V.N f.sc caps scope) (k1 : IsT V.N scope.names t tg) (k3 : IsEs V.N ifs (innerSc f.sc scope.names) is) (k4 : IsK V.N false rest f.sc scope.names (innerSc f.sc scope.names) gr elt) (F1 : FrA V f S1 ρ) (st : Start V false S1 S X) (Fd : Feed V tg S1.Z items false X)
    (c : CellP V f S scope cs h5 lo) (up : ∀ b o, S.s.heap.get? b = some o → h5.get? b = some o) (ea : h5.get? a = some (lstO [] 0)) (ns : h5.Ns L fun _ => none) (hn : ∀ b, a ≤ b → S.s.heap.get? b = none) (haL : a < L) (hL : L < lo)
    (hev : flatM (turnC V t ifs rest ρ (ρ.only caps)) items = some ys) (hlen : ys.length ≤ lim) {P : Result → Shared → Prop} (k : ∀ S', Stp V S1 S' → RepV S'.Z V.st (.list ys) (.ref a) → (∃ m', S'.s.heap.Ns L m') → S'.Z L = none → P (.ok .next) S'.s) :
    codeAny V.M V.A (.compStart (.ListComp elt (⟨tg, iter, is, 0⟩ :: gr) scope pos) 0 (.ref X.I) (.ref a) (compEnvC scope cs L f.env)) P { S.s with heap := h5 } := by
  have w5 := comp_enter sp (F1.go st.g) c up ea ns hn haL hL
  have nL := hn L (Nat.le_of_lt haL)
  have hlo : ∀ b, lo ≤ b → S.s.heap.get? b = none := fun b h => hn b (lz (Nat.le_of_lt (Nat.lt_trans haL hL)) h)
  have old1 : ∀ b, S.s.heap.get? b = none → S1.s.heap.get? b = none := fun b h => Go.none st.g (WOk.ne st.g.w h) h
  have exf := fun a ha => Fd.ex 0 _ st.s0 a ha
  have s5 : X.St 0 h5 := Fd.W.frame 0 _ _ st.s0 fun b _ o e => up b o e
  have L5 : Lp V (compB f scope cs L a) X ⟨S1, fun _ => none, f.ad, fun _ => False, ρ, []⟩ (compR f S h5 ρ caps) 0 :=
    { g := ⟨fun a o _ hP e => up a o (st.g.keep a o hP e), st.g.os, st.g.mono, fun a o e => (st.g.fresh a o e).imp id .inr, fun a h => .inr (old1 a h.1), w5.w⟩
      w := w5
      st := s5
      ap := fun a ha => ⟨fun q => (exf a ha).elim fun o e => noSome q.1 e, (st.fp a ha).1⟩
      wz := fun a ha => ⟨(st.wr a ha).2, (st.wr a ha).1, fun q => (exf a (Fd.W.sub a ha)).elim fun o e => noSome nL ((show a = L from q) ▸ e), fun n b _ e q => (c.lk n b e).elim (fun z => (exf a (Fd.W.sub a ha)).elim fun o e => noSome (hlo b z.2.1) (q ▸ e)) fun z => (old_cell sp F1 z.1 z.2).elim fun v z => z.elim fun o z => noSome (st.wr a ha).1 (q ▸ z.1)⟩
      ow := fun _ k y e ho q => (F1.vars k y (only_some e).2.1).elim fun n z => z.elim fun v z => (z.2.2.obj ho).elim fun o z => noSome (st.wr _ q).1 z.1 }
  have na : NA (ρ.only caps) := fun j i e => (only_some e).2.2 i rfl
  refine compStart_at rfl (loop_ok (R := compR f S h5 ρ caps) (b := compB f scope cs L a) (gens0 := ⟨tg, iter, is, 0⟩ :: gr) (depth := 0) K.room K.nv hif htl rfl k1 k3 k4 (fun n h => ⟨?_, h⟩) rfl rfl na hlen Fd (fun _ _ e => e) L5 hev fun S' m' g w => ?_) fun Q E k => Fd.self 0 _ Q E s5 k
  · rcases (Bool.or_eq_true _ _ ▸ h : (scope.names.lookup n == some .local) = true ∨ (scope.names.lookup n == some .cell) = true) with h | h
    · exact Bool.or_eq_true _ _ ▸ .inl (beq_iff_eq.mpr (sp.lk n _ (mem_of_lookup (eq_of_beq h))).2)
    · exact Bool.or_eq_true _ _ ▸ .inr (beq_iff_eq.mpr (sp.lk n _ (mem_of_lookup (eq_of_beq h))).2)
  · exact (comp_out g (fun _ => id) w rfl (old1 a (hn a (Nat.le_refl _)))).elim fun Z' h => k ⟨S'.s, Z'⟩ h.1 h.2.1 ⟨m', w.F.ns⟩ (h.2.2 L w.tl (Nat.ne_of_gt haL))
theorem comp_ok (K : Env0 V) {evf : Nv → Option (List AV)} (hit : ItOk V evf it false) (hif : IfsOk V ifs) (htl : TailOk V rest) {gens : List Comprehension} {use : Option (Value → Sem Unit)} (hsc : scopeOk V.N f.sc caps scope = true)
    (hk : IsK V.N true (.clause t it ifs rest) f.sc scope.names (innerSc f.sc scope.names) gens elt) (F : FrA V f S ρ) (hev : evf ρ = some items) (hev2 : flatM (turnC V t ifs rest ρ (ρ.only caps)) items = some ys) (hlen : ys.length ≤ lim) {Q E : Value → Shared → Prop}
    (hfin : ∀ a S' L, Stp V S S' → RepV S'.Z V.st (.list ys) (.ref a) → (∃ m', S'.s.heap.Ns L m') → S.s.heap.get? L = none → S'.Z L = none → compPost V.M V.A E use Q (.ref a) L (.ok .next) S'.s) :
    Wp V (comprehension (.ListComp elt gens scope pos) scope f.env (firstIterPos gens pos) (newList []) (firstAsync gens) (firstIter gens f.env) use) Q E S := by
  have sp := scope_parts hsc
  obtain ⟨tg, iter, is, gr, rfl, k1, k2, k3, k4⟩ := hk
  obtain ⟨cl, hcl, hcm⟩ := closure_spec (scope := scope) (env := f.env) fun x hx hf => (F.cl x.1 (sp.fr x.1 (hf ▸ hx))).elim fun c h => h.elim fun v h => ⟨c, h.1⟩
  refine wpAny_comprehension_free (g := ⟨tg, iter, is, 0⟩) (gs := gr) rfl (fun x => set_fold k2 x) hcl sp.kind (fun y hy hl => hl ▸ (sp.lk y.1 y.2 hy).1) (hit k2 k1.s F hev fun x S1 g1 hf => hf fun X S2 Fd st => wpAny_newObj_type (newEnv_ok ?_))
  have hs1 := Heap.size_push S2.s.heap (o := lstO [] 0)
  have own := cellsFrom_ok scope.names ((S2.s.heap.push (lstO [] 0)).push { cls := .type "dict", data := .dict #[] }) _ [] ⟨fun _ _ hm => (nomatch hm), List.Pairwise.nil⟩ (Nat.le_refl _)
  rw [Heap.size_push] at own
  have up4 : ∀ b o, (S2.s.heap.push (lstO [] 0)).get? b = some o → (pushCells ((S2.s.heap.push (lstO [] 0)).push { cls := .type "dict", data := .dict #[] }) scope.names).get? b = some o := fun b o e => pushCells_keeps scope.names _ b o (Heap.get?_push_of_some _ e)
  have hn : ∀ b, S2.s.heap.objs.size ≤ b → S2.s.heap.get? b = none := fun b h => get_none h
  exact comp_run K hif htl sp k1 k3 k4 (F.go g1) st Fd (cellP (F.go (g1.trans st.g)) sp hcm own fun b h => hn b (lz (hs1 ▸ Nat.le_add_right _ 1) (lz (Nat.le_succ _) h))) (fun b o e => up4 b o (Heap.get?_push_of_some _ e)) (up4 _ _ (Heap.get?_push_size _ rfl)) ((Heap.Ns.new ..).keeps fun b o e => pushCells_keeps scope.names _ b o e) hn (hs1 ▸ Nat.lt_succ_self _) (Nat.lt_succ_self _) hev2 hlen
    fun S' g r hns hz => hfin _ S' _ (g1.trans g) r hns (Go.none (g1.trans st.g) (WOk.ne st.g.w (hn _ (hs1 ▸ Nat.le_succ _))) (hn _ (hs1 ▸ Nat.le_succ _))) hz
end
end
end Mine
namespace Mine
open PySem PySem.W PyProof.Rows PySem.Calls
open PySem.Sem (wp)
noncomputable def decC : Code → Bool
  | .builtin id _ => Builtin.Bytes.decodersThatHold.contains id
  | _ => false
def CleanL (l : List (Code × Pos)) : Prop := ∀ x ∈ l, decC x.1 = false
def Cln (q : Bool) (c : Code) (l : List (Code × Pos)) : Prop := q = true → decC c = false ∧ CleanL l
def wpQ {α : Type} (q : Bool) (M : Model) (A : Around) (t : Sem α) (Q : α → Shared → Prop) (s : Shared) : Prop :=
  ∀ Γ p, Γ.In A → Cln q Γ.code Γ.below → wp M Γ t (fun a _ s' => Q a s') (fun _ _ _ => False) p s
def codeQ (q : Bool) (M : Model) (A : Around) (c : Code) (R : Flow → Shared → Prop) (s : Shared) : Prop :=
  ∀ Γ p, Γ.code = c → Γ.Below A → (q = true → CleanL Γ.below) → wpCode M Γ (fun r s' => ∃ f, r = .ok f ∧ R f s') p s
section
variable {α β : Type} {q : Bool} {M : Model} {A : Around} {s : Shared}
theorem wpQ_of {t : Sem α} {Q : α → Shared → Prop} (h : wpAny M A t Q (fun _ _ => False) s) : wpQ q M A t Q s := fun Γ p hΓ _ => h Γ p hΓ
theorem wpQ_mono {t : Sem α} {Q Q' : α → Shared → Prop} (h : wpQ q M A t Q s) (hQ : ∀ a s, Q a s → Q' a s) : wpQ q M A t Q' s :=
  fun Γ p h1 h2 => Sem.wp_mono M Γ t (fun a _ s => hQ a s) (fun _ _ _ h => h) p s (h Γ p h1 h2)
theorem wpQ_bind {m : Sem α} {f : α → Sem β} {Q : β → Shared → Prop} (h : wpQ q M A m (fun a s' => wpQ q M A (f a) Q s') s) : wpQ q M A (m >>= f) Q s := fun Γ p h1 h2 =>
  Sem.wp_bind' .. ▸ Sem.wp_mono M Γ m (fun a p' s' h' => h' Γ p' h1 h2) (fun _ _ _ h' => h') p s (h Γ p h1 h2)
theorem wpQ_bindA {m : Sem α} {f : α → Sem β} {Q : β → Shared → Prop} (h : wpAny M A m (fun a s' => wpQ q M A (f a) Q s') (fun _ _ => False) s) : wpQ q M A (m >>= f) Q s := wpQ_bind (wpQ_of h)
theorem wpQ_pure {a : α} {Q : α → Shared → Prop} (h : Q a s) : wpQ q M A (pure a) Q s := fun _ _ _ _ => h
theorem wpQ_holding {vs : List Value} {m : Sem α} {Q : α → Shared → Prop} (h : wpQ q M A m Q s) : wpQ q M A (holding vs m) Q s :=
  fun Γ p h1 h2 => by rw [Sem.wp_holding]; exact h Γ p h1 h2
theorem wpQ_keep {vs : List Value} {m : Sem α} {Q : α → Shared → Prop} (h : wpQ q M A m Q s) : wpQ q M A (m.keep vs) Q s :=
  fun Γ p h1 h2 => by rw [Sem.wp_keep]; exact h Γ p h1 h2
theorem wpQ_onRaise {m : Sem α} {k : Value → Sem Unit} {Q : α → Shared → Prop} (h : wpQ q M A m Q s) : wpQ q M A (m.onRaise k) Q s := fun Γ p h1 h2 => by
  rw [Sem.wp_onRaise]
  exact Sem.wp_mono M Γ m (fun _ _ _ h' => h') (fun e p' s' h' => h'.elim) p s (h Γ p h1 h2)
theorem wpQ_toks {t : Sem α} {Q : α → Shared → Prop} (h : wpQ q M A t (fun a s' => s.toks ≤ s'.toks → Q a s') s) : wpQ q M A t Q s := fun Γ p h1 h2 =>
  Sem.wp_mono M Γ t (fun a _ s' h => h.2 h.1) (fun e _ s' h => h.2) p s (wp_toks M Γ s.toks t _ _ p s (Nat.le_refl _) (h Γ p h1 h2))
theorem Cln.cons {c : Code} {p : Pos} {l : List (Code × Pos)} (h : Cln q c l) : q = true → CleanL ((c, p) :: l) := fun e x hx => (mCo hx).elim (fun z => z ▸ (h e).1) ((h e).2 x)
theorem wpQ_run {c : Code} {Q : Flow → Shared → Prop} (hc : codeQ q M A c Q s) : wpQ q M A (run c none) Q s := fun Γ p h1 h2 => by
  rw [Sem.wp_run]
  exact (hc _ p rfl (h1.enter c none p nofun) h2.cons).elim fun r h => h.elim fun s' h => ⟨r, s', h.1, by obtain ⟨f, rfl, hf⟩ := h.2; exact hf⟩
theorem wpQ_call {f : Value} {pos : List Value} {Q : Value → Shared → Prop} (hc : codeQ q M A (.call f ⟨pos, []⟩) (fun f s' => ∃ v, f = .ret v ∧ Q v s') s) : wpQ q M A (call f pos) Q s := fun Γ p h1 h2 => by
  show wp M Γ (runValue _) _ _ p s
  rw [Sem.wp_runValue]
  exact (hc _ p rfl (h1.enter _ none p nofun) h2.cons).elim fun r h => h.elim fun s' h => ⟨r, s', h.1, by obtain ⟨f, rfl, v, rfl, hf⟩ := h.2; exact hf⟩
theorem codeQ_of_tree {c : Code} {R : Flow → Shared → Prop} (hd : decC c = false)
    (h : wpQ q M (A.under c) (M.den c) (fun fin s' => match fin with | .done f => R f s' | .again c' => c'.quiet = true ∧ codeQ q M A c' R s') s) : codeQ q M A c R s := fun Γ p hc hΓ hcl => by
  rw [wpCode_iff_wp, hc]
  refine Sem.wp_mono M Γ _ (fun fin p' s' h' => ?_) (fun _ _ _ h' => h'.elim) p s (h Γ p (hc ▸ hΓ.in) fun e => ⟨hc ▸ hd, hcl e⟩)
  cases fin with
  | done f => exact ⟨f, rfl, h'⟩
  | again c' => exact ⟨h'.1, h'.2 (Γ.goto c') p' rfl (hΓ.goto c') hcl⟩
theorem codeQ_of_any {c : Code} {R : Flow → Shared → Prop} (h : codeAny M A c (fun r s' => ∃ f, r = .ok f ∧ R f s') s) : codeQ q M A c R s := fun Γ p hc hΓ _ => h Γ p hc hΓ
theorem wpAny_of {t : Sem α} {Q : α → Shared → Prop} {E : Value → Shared → Prop} (h : wpQ false M A t Q s) : wpAny M A t Q E s := fun Γ p h1 => Sem.wp_mono M Γ t (fun _ _ _ h => h) (fun _ _ _ h => h.elim) p s (h Γ p h1 nofun)
theorem wpQ_execs_cons {env : Env} {st : Stmt} {rest : List Stmt} {Q : Flow → Shared → Prop} (h : wpQ q M A (exec st env) (fun f s' => match f with | .next => wpQ q M A (execs rest env) Q s' | f => Q f s') s) : wpQ q M A (execs (st :: rest) env) Q s := by
  rw [execs_cons]
  refine wpQ_bind (wpQ_mono h fun f s' h' => ?_)
  cases f with
  | next => exact h'
  | _ => exact wpQ_pure h'
theorem wpQ_If {env : Env} {t : Expr} {a b : List Stmt} {pos : Pos} {Q : Flow → Shared → Prop} (h : wpAny M A (isTrue t env (eval t env)) (fun c s' => wpQ q M A (execs (if c then a else b) env) Q s') (fun _ _ => False) s) : wpQ q M A (exec (.If t a b pos) env) Q s := by
  rw [exec_If]
  refine wpQ_bindA (wpAny_standAt (wpQ_bindA (wpAny_mono h (fun c s' h' => ?_) fun _ _ e => e)))
  cases c
  · exact h'
  · exact h'
end
section
variable {q : Bool} {prog : Program} {w : World} {A : Around} {s : Shared} {env : Env}
theorem codeQ_loop {c : Code} {R : Flow → Shared → Prop} {t : Sem Fin} {k : Value → Sem Unit} (hd : decC c = false) (hq : c.quiet = true) (hc : (model prog w).den c = t.onRaise k) (hu : A.under c = A) (I : Nat → Shared → Prop)
    (turn : ∀ n s, I n s → wpQ q (model prog w) A t (fun fin s' => match fin with | .done f => R f s' | .again c' => (c' = c ∧ ∃ m, m < n ∧ I m s') ∨ c'.quiet = true ∧ codeQ q (model prog w) A c' R s') s) :
    ∀ (n : Nat) (s : Shared), I n s → codeQ q (model prog w) A c R s := by
  intro n
  induction n using Nat.strongRecOn with
  | ind n ih =>
    intro s h
    refine codeQ_of_tree hd ?_
    rw [hc, hu]
    refine wpQ_onRaise (wpQ_mono (turn n s h) fun fin s' h' => ?_)
    cases fin with
    | done f => exact h'
    | again c' => exact h'.elim (fun z => z.2.elim fun m z' => z.1 ▸ ⟨hq, ih m z'.1 s' z'.2⟩) id
theorem codeQ_while {R : Flow → Shared → Prop} {test : Expr} {body : List Stmt} (I : Nat → Shared → Prop)
    (turn : ∀ n s, I n s → wpAny (model prog w) A (isTrue test env (eval test env)) (fun b s₂ => match b with
      | false => R .next s₂
      | true => wpQ q (model prog w) A (execs body env) (fun f s₃ => match f with
          | .next | .cont => ∃ m, m < n ∧ I m s₃
          | .brk => R .next s₃
          | .ret v => R (.ret v) s₃) s₂) (fun _ _ => False) s) (n : Nat) (h : I n s) : codeQ q (model prog w) A (.whileLoop test body [] env) R s :=
  codeQ_loop rfl rfl rfl rfl I (fun n s hI => by
    simp only [whileTurn]
    refine wpQ_bindA (wpAny_mono (turn n s hI) (fun b s₂ h₂ => ?_) fun _ _ e => e)
    cases b with
    | false => exact wpQ_bindA (wpAny_execs_nil (wpQ_pure h₂))
    | true =>
      refine wpQ_bind (wpQ_mono h₂ fun f s₃ h₃ => ?_)
      cases f with
      | next => exact wpQ_pure (.inl ⟨rfl, h₃⟩)
      | cont => exact wpQ_pure (.inl ⟨rfl, h₃⟩)
      | brk => exact wpQ_pure h₃
      | ret v => exact wpQ_pure h₃) n s h
theorem codeQ_block {R : Flow → Shared → Prop} {b : List Stmt} (h : wpQ q (model prog w) A (execs b env) R s) : codeQ q (model prog w) A (.block b env) R s := by
  refine codeQ_of_tree rfl ?_
  show wpQ q _ A (do return Fin.done (← (execs b env).onRaise (fun x => do noteFrame x env; theTreesLotGoes x))) _ s
  exact wpQ_bind (wpQ_onRaise (wpQ_mono h fun f s' h' => wpQ_pure h'))
theorem codeQ_for {R : Flow → Shared → Prop} {target : Expr} {it : Value} {body orelse : List Stmt} (I : Nat → Shared → Prop)
    (turn : ∀ n s, I n s → wpAny (model prog w) A (pyNext it) (fun r s₁ => match r with
      | none => wpQ q (model prog w) A (execs orelse env) R s₁
      | some v => wpAny (model prog w) A (letOwnedTupleGo target it v) (fun _ s₁' => wpAny (model prog w) A (assign target env v) (fun _ s₂ => wpQ q (model prog w) A (execs body env) (fun f s₃ => match f with
            | .next | .cont => ∃ m, m < n ∧ I m s₃
            | .brk => R .next s₃
            | .ret v => R (.ret v) s₃) s₂) (fun _ _ => False) s₁') (fun _ _ => False) s₁) (fun _ _ => False) s) (n : Nat) (h : I n s) : codeQ q (model prog w) A (.forLoop target it body orelse env) R s :=
  codeQ_loop rfl rfl rfl rfl I (fun n s hI => by
    simp only [forTurn]
    refine wpQ_bindA (wpAny_standAt (wpQ_bindA (wpAny_onRaise (wpAny_mono (turn n s hI) (fun r s₁ h₁ => ?_) fun _ _ h' => h'.elim))))
    cases r with
    | none => exact wpQ_pure (.inr ⟨rfl, codeQ_block h₁⟩)
    | some v =>
      refine wpQ_bindA (wpAny_mono h₁ (fun _ s₁' h₁' => wpQ_bindA (wpAny_mono h₁' (fun _ s₂ h₂ => wpQ_bind (wpQ_mono h₂ fun f s₃ h₃ => ?_)) fun _ _ e => e)) fun _ _ e => e)
      cases f with
      | next => exact wpQ_pure (.inl ⟨rfl, h₃⟩)
      | cont => exact wpQ_pure (.inl ⟨rfl, h₃⟩)
      | brk => exact wpQ_pure h₃
      | ret v => exact wpQ_pure h₃) n s h
theorem wpQ_runOwn {c : Code} {Q : Flow → Shared → Prop} (h : codeQ q (model prog w) A c Q s) : wpQ q (model prog w) A (runOwn c env none) Q s := wpQ_onRaise (wpQ_run h)
theorem wpQ_For {target iter : Expr} {body orelse : List Stmt} {pos : Pos} {Q : Flow → Shared → Prop}
    (h : wpAny (model prog w) A (eval iter env) (fun x s₁ => wpAny (model prog w) A (pyIter x) (fun it s₂ => codeQ q (model prog w) A (.forLoop target it body orelse env) Q s₂) (fun _ _ => False) s₁) (fun _ _ => False) s)
    (hs : ∀ x, foldedSetIterable iter env x = pure x) : wpQ q (model prog w) A (exec (.For target iter body orelse pos) env) Q s := by
  rw [exec_For]
  exact wpQ_bindA (wpAny_standAt (wpQ_bindA (wpAny_mono h (fun x s₁ h₁ => wpQ_bindA (wpAny_of_eq (hs x) (wpQ_bindA (wpAny_standAt (wpQ_bindA (wpAny_holding (wpAny_mono h₁ (fun it s₂ h₂ => wpQ_runOwn h₂) fun _ _ e => e))))))) fun _ _ e => e)))
theorem wpQ_While {test : Expr} {body orelse : List Stmt} {pos : Pos} {Q : Flow → Shared → Prop} (h : codeQ q (model prog w) A (.whileLoop test body orelse env) Q s) : wpQ q (model prog w) A (exec (.While test body orelse pos) env) Q s := by
  rw [exec_While]; exact wpQ_bindA (wpAny_standAt (wpQ_runOwn h))
theorem wpQ_asg {tg v : Expr} {pos : Pos} {Q : Flow → Shared → Prop} (hT : swapsWithSole [tg] v pos.line env = pure false) (hst : swappedStores [tg] v env = pure none) (ha : assignEach [tg] env = [(false, assign tg env)])
    (h : wpQ q (model prog w) A (eval v env) (fun r s' => wpAny (model prog w) A (assign tg env r) (fun _ => Q .next) (fun _ _ => False) s') s) : wpQ q (model prog w) A (exec (.Assign [tg] v pos) env) Q s := by
  rw [PyProof.Rows.exec_Assign, hT]
  refine wpQ_bindA (wpAny_standAt (wpQ_bindA (wpAny_pure ?_)))
  rw [if_neg (by decide)]
  refine wpQ_bind (wpQ_mono h fun r s' h' => ?_)
  rw [hst]
  refine wpQ_bindA (wpAny_pure ?_)
  rw [ha]
  show wpQ q _ A (do assignAll r [assign tg env]; pure .next) Q s'
  exact wpQ_bindA (wpAny_mono h' (fun _ _ x => wpQ_pure x) fun _ _ x => x)
theorem execs_append : ∀ (a b : List Stmt), execs (a ++ b) env = (execs a env >>= fun f => match f with | .next => execs b env | f => pure f)
  | [], b => by
    show execs b env = (pure Flow.next >>= _)
    rw [pure_bind]
  | x :: a, b => by
    rw [List.cons_append, execs_cons, execs_cons, bind_assoc]
    refine congrArg _ (funext fun f => ?_)
    cases f with
    | next => exact execs_append a b
    | _ => exact (pure_bind _ _).symm
theorem execs_app {a b : List Stmt} {Q : Flow → Shared → Prop} (h : wpQ q (model prog w) A (execs a env) (fun f s' => match f with | .next => wpQ q (model prog w) A (execs b env) Q s' | f => Q f s') s) : wpQ q (model prog w) A (execs (a ++ b) env) Q s := by
  rw [execs_append]
  refine wpQ_bind (wpQ_mono h fun f s' z => ?_)
  cases f with
  | next => exact z
  | _ => exact wpQ_pure z
end
end Mine
namespace Mine
open PySem PySem.W PyProof.Rows PySem.Calls
section
variable {V : Vc} {S S' : Ws}
theorem Stp.butNew {L : Addr} {h' : Heap} (g : Stp V S S') (w : Sd V S) (hL : S.s.heap.get? L = none) (hz : S'.Z L = none) (hs : Heap.SameBut L S'.s.heap h') : Stp V S ⟨{ S'.s with heap := h' }, S'.Z⟩ :=
  ⟨fun b o hb e => hs.extBut b o (fun q => noSome hL (q ▸ e)) (g.keep b o hb e), g.os, g.mono, g.fresh, g.w.upd (tk := S'.s.toks) (fun a o e => hs.extBut a o (fun q => noSome hz (q ▸ e)) (g.w.sub a o e)) (fun o e => hs.extBut _ o (fun q => WOk.ne w hL q.symm) e) (Nat.le_refl _)⟩
theorem arm_comp (K : Env0 V) {t : Tgt} {it : PI} {ifs : PEs} {rest : PC} {caps : List Nat} (hit : ItOk V (evI V.Φ V.Γ it) it false) (hif : IfsOk V ifs) (htl : TailOk V rest) : ValOk V (.comp caps (.clause t it ifs rest)) := fun f e S ρ x hk F hev Q E kk => by
  obtain ⟨elt, gens, scope, p, rfl, k0, k1, k2⟩ := hk
  exact bindE hev fun ys hys hev => bindE hys fun items hi hys => iteE hev fun hl e => eval_ListComp .. ▸ comp_ok K hit hif htl k1 k2 F hi hys hl fun a S' L g hr hns hL hZ => hns.elim fun m hm => ⟨m, hm, fun h' hs => kk (.ref a) _ (g.butNew F.w hL hZ hs) (e ▸ hr.toR)⟩
theorem arm_comp0 {caps : List Nat} {p : PE} : ValOk V (.comp caps (.done p)) := fun f e S ρ x hk F hev Q E kk => by
  obtain ⟨elt, gens, scope, p, rfl, k0, k1, k2⟩ := hk
  exact absurd k2.1 k0
noncomputable def tstOf (e : Expr) (w : Sem Value) : Sem Bool := do let v ← w; standAt e.pos; holding [v] (truthy v)
theorem isTrue_plain (e : Expr) : plainTest e = true → ∀ env w, isTrue e env w = tstOf e w := by
  apply @Expr.casesOn (fun e => plainTest e = true → ∀ env w, isTrue e env w = tstOf e w) e <;> intros <;> first | exact Eq.refl (tstOf _ _) | exact absurd (by assumption) fnt
theorem tst_of_val {p : PE} (h : ValOk V p) (he : ∀ ρ, evB V.Φ V.Γ p ρ = (ev V.Φ V.Γ p ρ).bind truthV) (hp : ∀ sc e, IsE V.N p sc e → plainTest e = true) : TstOk V p := fun f e S ρ b hk F hev Q E k =>
  bindE ((he ρ).symm.trans hev) fun x hx hb => wpAny_isTrue_value (h hk F hx fun r S' g hr => (truth_ok g.w hb hr).next g k) (isTrue_plain e (hp _ _ hk) _ _)
theorem no_tst {p : PE} (h : ∀ ρ, evB V.Φ V.Γ p ρ = none) : TstOk V p := fun f e S ρ b hk F hev => noneE ((h ρ).symm.trans hev)
theorem no_it {it : PI} {pl : Bool} {f : Nv → Option (List AV)} (h : ∀ ρ, f ρ = none) : ItOk V f it pl := fun f iter S ρ items tg hk ht F hev => noneE ((h ρ).symm.trans hev)
structure EsOk (V : Vc) (ps : PEs) : Prop where
  vals : ValsOk V ps
  and : AndOk V ps
  all : AllOk V ps
  any : AnyOk V ps
  fs : FsOk V ps
  ifs : IfsOk V ps
abbrev EOk (V : Vc) (p : PE) : Prop := ValOk V p ∧ TstOk V p
theorem val_only {p : PE} (h : ValOk V p) (e : ∀ ρ, evB V.Φ V.Γ p ρ = none) : EOk V p := ⟨h, no_tst e⟩
theorem val_tst {p : PE} (h : ValOk V p) (he : ∀ ρ, evB V.Φ V.Γ p ρ = (ev V.Φ V.Γ p ρ).bind truthV) (hp : ∀ sc e, IsE V.N p sc e → plainTest e = true) : EOk V p := ⟨h, tst_of_val h he hp⟩
theorem es_cons {p : PE} {r : PEs} (hp : EOk V p) (hr : EsOk V r) (h : AndOk V (.cons p r)) : EsOk V (.cons p r) := ⟨vals_cons hp.1 hr.vals, h, all_cons hp.2 hr.all, any_cons hp.2 hr.any, fs_cons hp.1 hr.fs, ifs_cons hp.2 hr.ifs⟩
theorem call_plain {f : Nat} {es : PEs} {sc : Sc} {e : Expr} (h : IsE V.N (.call f es) sc e) : plainTest e = true := by obtain ⟨_, _, _, _, rfl, _⟩ := h; rfl
theorem bi_plain {b : Bi} {a : PE} {sc : Sc} {e : Expr} (h : IsE V.N (.bi b a) sc e) : plainTest e = true := by obtain ⟨_, _, _, _, rfl, _⟩ := h; rfl
theorem meth_plain {m : Mth} {o : PE} {es : PEs} {sc : Sc} {e : Expr} (h : IsE V.N (.meth m o es) sc e) : plainTest e = true := by obtain ⟨_, _, _, _, rfl, _⟩ := h; rfl
theorem es_nil : EsOk V .nil := ⟨vals_nil, and_nil, all_nil, any_nil, fs_nil, ifs_nil⟩
mutual
theorem expOk (K : Env0 V) : ∀ p : PE, EOk V p
  | .var k => val_tst (arm_var k) (fun ρ => rfl) fun sc e h => h.elim fun _ h => h.elim fun _ h => h.1 ▸ rfl
  | .cst v => val_tst (arm_cst v) (fun ρ => rfl) fun sc e h => h.elim fun _ h => h.elim fun _ h => h.elim fun _ h => h.1 ▸ rfl
  | .glob k => val_only (arm_glob K k) fun ρ => rfl
  | .bin o a b => val_only (arm_bin K (expOk K a).1 (expOk K b).1) fun ρ => rfl
  | .neg a => val_only (arm_neg (expOk K a).1) fun ρ => rfl
  | .not a => arm_not (expOk K a).2
  | .and es => arm_and (expsOk K es).and (expsOk K es).all
  | .or es => arm_or (expsOk K es).any
  | .cmp a o b => arm_cmp K (expOk K a).1 (expOk K b).1
  | .chain a o b o' c => arm_chain K (expOk K a).1 (expOk K b).1 (expOk K c).1
  | .ite t a b => arm_ite (expOk K t).2 (expOk K a) (expOk K b)
  | .idx a i => val_tst (arm_idx (expOk K a).1 (expOk K i).1) (fun ρ => rfl) fun sc e h => h.elim fun _ h => h.elim fun _ h => h.elim fun _ h => h.1 ▸ rfl
  | .slc a lo hi stp => val_only (arm_slc (expOk K a).1 (expOk K lo).1 (expOk K hi).1 (expOk K stp).1) fun ρ => rfl
  | .tup es => val_only (arm_tup (expsOk K es).vals) fun ρ => rfl
  | .lst es => val_only (arm_lst (expsOk K es).vals) fun ρ => rfl
  | .comp caps (.done p) => val_only arm_comp0 fun ρ => rfl
  | .comp caps (.clause t it ifs rest) => val_only (arm_comp K (itOk K it).1 (expsOk K ifs).ifs (clsOk K rest)) fun ρ => rfl
  | .call f es => val_tst (arm_call K (expsOk K es).vals) (fun ρ => rfl) fun sc e h => call_plain h
  | .bi b a => val_tst (arm_bi K (expOk K a).1) (fun ρ => rfl) fun sc e h => bi_plain h
  | .meth m o es => val_tst (arm_meth K (expOk K o).1 (expsOk K es).vals) (fun ρ => rfl) fun sc e h => meth_plain h
  | .joinEsc o k => val_only (arm_esc K (expOk K o).1) fun ρ => rfl
  | .fstr es => val_only (arm_fstr (expsOk K es).fs) fun ρ => rfl
theorem expsOk (K : Env0 V) : ∀ ps : PEs, EsOk V ps
  | .nil => es_nil
  | .cons p .nil => es_cons (expOk K p) es_nil (and_one (expOk K p).1)
  | .cons p (.cons q r) => es_cons (expOk K p) (expsOk K (.cons q r)) (and_cons (expOk K p).1 (expsOk K (.cons q r)).and)
theorem clsOk (K : Env0 V) : ∀ c : PC, TailOk V c
  | .done p => tail_done K.room (expOk K p).1
  | .clause t it ifs rest => tail_clause K.room K.nv (itOk K it).2 (expsOk K ifs).ifs (clsOk K rest)
theorem itOk (K : Env0 V) : ∀ it : PI, ItOk V (evI V.Φ V.Γ it) it false ∧ ItOk V (evP V.Φ V.Γ it) it true
  | .ex p => ⟨it_ex_val K.room (expOk K p).1, it_ex_plain K.room (expOk K p).1⟩
  | .range es => ⟨fun f iter S ρ items tg hk ht F hev Q E k => it_range K (expsOk K es).vals hk ht F hev fun x S' g hf => k x S' g hf.weak, it_range K (expsOk K es).vals⟩
  | .enum p => ⟨no_it fun ρ => rfl, no_it fun ρ => rfl⟩
end
end
structure Xc where
  V : Vc
  q : Bool
  Ξ : Option (Nat → List AV → Option AV)
  n : Nat
abbrev Wq (X : Xc) {α : Type} (t : Sem α) (Q : α → Shared → Prop) (S : Ws) : Prop := wpQ X.q X.V.M X.V.A t Q S.s
def Gq (q : Bool) (V : Vc) (t : Sem Value) (S : Ws) (x : AV) : Prop := ∀ ⦃Q : Value → Shared → Prop⦄, (∀ v S', Stp V S S' → Rp V S' x v → Q v S'.s) → wpQ q V.M V.A t Q S.s
structure XOk (X : Xc) : Prop where
  e : Env0 X.V
  g : ∀ F, X.Ξ = some F → X.q = true ∧ X.V.A.guards = some []
  fn : ∀ F, X.Ξ = some F → ∀ f vs x, F f vs = some x → ∃ id a o fd, X.V.N.fns[f]? = some id ∧ X.V.C.mg id = some (.ref a) ∧ X.V.C.B a = some o ∧ o.data = .func fd ∧ ∀ S vals, Sd X.V S → RepL S.Z X.V.st vs vals → Gq X.q X.V (call (.ref a) vals) S x
structure FnB (b : Bs) : Prop where
  wr : Wr b b.sc
  o : b.o = true
  ac : b.ac = none
def FlR (V : Vc) (b : Bs) (ρ' : Nv) (f : Fl) (fl : Flow) (R' : Rs) : Prop := match f with
  | .next => fl = .next ∧ Wst V b R' ∧ R'.ρ = ρ'
  | .brk => fl = .brk ∧ Wst V b R' ∧ R'.ρ = ρ'
  | .ret v => ∃ r, fl = .ret r ∧ RepV R'.S.Z V.st v r
abbrev ToK (X : Xc) (b : Bs) (R : Rs) (ρ' : Nv) (f : Fl) (t : Sem Flow) : Prop := ∀ ⦃Q : Flow → Shared → Prop⦄, (∀ fl R', GoS X.V R R' → FlR X.V b ρ' f fl R' → Q fl R'.S.s) → Wq X t Q R.S
def StOk (X : Xc) (p : PS) : Prop := ∀ ⦃b R stm ρ' f⦄, FnB b → IsS X.V.N p b.sc stm → Wst X.V b R → ex X.V.Φ X.V.Γ X.Ξ X.n p R.ρ = some (ρ', f) → ToK X b R ρ' f (exec stm b.env)
def SsOk (X : Xc) (p : PSs) : Prop := ∀ ⦃b R stm ρ' f⦄, FnB b → IsSs X.V.N p b.sc stm → Wst X.V b R → exs X.V.Φ X.V.Γ X.Ξ X.n p R.ρ = some (ρ', f) → ToK X b R ρ' f (execs stm b.env)
section
variable {X : Xc} {b : Bs} {R R' : Rs} {S1 : Ws} {k : Nat} {id : Str} {q : Pos} {x : AV} {r : Value} {Q : Unit → Shared → Prop} {E : Value → Shared → Prop}
abbrev KNext (X : Xc) (b : Bs) (R : Rs) (ρ' : Nv) (Q : Flow → Shared → Prop) : Prop := ∀ fl R', GoS X.V R R' → FlR X.V b ρ' .next fl R' → Q fl R'.S.s
theorem KNext.to {ρ' : Nv} {Q : Flow → Shared → Prop} (kk : KNext X b R ρ' Q) (g : GoS X.V R R') (w : Wst X.V b R') (e : R'.ρ = ρ') : Q .next R'.S.s := kk _ R' g ⟨rfl, w, e⟩
theorem Wst.sto (w : Wst X.V b R) (K : XOk X) (B : FnB b) (k1 : X.V.N.vars[k]? = some id) (k2 : wrOk b.sc id = true) (g : Stp X.V R.S S1) (hpl : plainV x = true) (hr : Rp X.V S1 x r) (kk : ∀ s' m', GoS X.V { R with S := S1 } (Rs.bd { R with S := S1 } s' m' (R.ρ.bind k x)) → Wst X.V b (Rs.bd { R with S := S1 } s' m' (R.ρ.bind k x)) → Q () s') : Wp X.V (storeName b.env id r) Q E S1 :=
  (w.go g).store K.e.nv k1 (B.wr id k2).1 (B.wr id k2).2 (plainR hpl hr).var (fun _ _ => rfl) (own_no (plainR hpl hr).nown) fun h' tk m' h => kk _ m' h.1 h.2
theorem Wst.asg (w : Wst X.V b R) (K : XOk X) (B : FnB b) (k1 : X.V.N.vars[k]? = some id) (k2 : wrOk b.sc id = true) (g : Stp X.V R.S S1) (hpl : plainV x = true) (hr : Rp X.V S1 x r) (kk : ∀ s' m', GoS X.V { R with S := S1 } (Rs.bd { R with S := S1 } s' m' (R.ρ.bind k x)) → Wst X.V b (Rs.bd { R with S := S1 } s' m' (R.ρ.bind k x)) → Q () s') : Wp X.V (assign (.Name id q) b.env r) Q E S1 :=
  wpAny_assign_Name (w.sto K B k1 k2 g hpl hr kk)
theorem swap_free (v : Expr) : asgB v = true → ∀ tgt line env, swapsWith v tgt line env = pure false := by
  apply @Expr.casesOn (fun v => asgB v = true → ∀ tgt line env, swapsWith v tgt line env = pure false) v <;> intros <;> first | exact Eq.refl (pure false) | exact absurd (by assumption) fnt
theorem asg_plain (K : XOk X) (B : FnB b) {e : PE} {v : Expr} {p : Pos} {Q : Flow → Shared → Prop} (w : Wst X.V b R) (k1 : X.V.N.vars[k]? = some id) (k2 : wrOk b.sc id = true) (k4 : IsE X.V.N e b.sc v) (hx : ev X.V.Φ X.V.Γ e R.ρ = some x) (hpl : plainV x = true) (hs : swapsWith v (some (.Name id q)) p.line b.env = pure false)
    (kk : KNext X b R (R.ρ.bind k x) Q) : Wq X (exec (.Assign [.Name id q] v p) b.env) Q R.S :=
  wpQ_asg hs rfl rfl (wpQ_of ((expOk K.e e).1 k4 w.F hx fun r S1 g hr => w.asg K B k1 k2 g hpl hr fun s' m' g' w' => kk.to ((GoS.of g).trans g') w' rfl))
theorem asg_used (K : XOk X) (B : FnB b) {L : Addr} {m : Str → Option Value} {Q : Flow → Shared → Prop} (w : Wst X.V b R) (k1 : X.V.N.vars[k]? = some id) (k2 : wrOk b.sc id = true) (g : Stp X.V R.S S1) (hpl : plainV x = true) (hr : Rp X.V S1 x r) (hns : S1.s.heap.Ns L m) (hL : R.S.s.heap.get? L = none) (hz : S1.Z L = none)
    (kk : KNext X b R (R.ρ.bind k x) Q) : Wp X.V (assign (.Name id q) b.env r) (fun _ s'' => ∃ m, s''.heap.Ns L m ∧ ∀ h', Heap.SameBut L s''.heap h' → Q .next { s'' with heap := h' }) E S1 :=
  w.asg K B k1 k2 g hpl hr fun s' m' g' w' =>
    have nT : ¬ R.T L := fun q => (w.tz L q).2.2.elim fun o e => noSome hL e
    have nP : L ≠ X.V.C.P := WOk.ne w.w hL
    ⟨m, hns.at' fun o e => g'.keep L o nT nP e, fun h' hs => by
      have c : Chg X.V b (Rs.bd { R with S := S1 } s' m' (R.ρ.bind k x)) h' (· = L) := ⟨fun a o q e => hs.extBut a o q e, fun a q => q ▸ ⟨hz, nP⟩, fun a q => q ▸ w.offNew hL, fun a q h => (nT (q ▸ h)).elim⟩
      have ho : ∀ j y, (R.ρ.bind k x) j = some y → isOwn y = true → R.ad j ≠ L := fun j y e ho q => Classical.byCases (fun z : j = k => by
          subst z
          cases bind_eq e
          exact absurd ((plainR hpl hr).nown.symm.trans ho) fnt) fun z => (w.exOwn (bind_ne z e).1 ho).elim fun o e => noSome hL (q ▸ e)
      exact kk.to (((GoS.of g).trans g').chg (acc' := R.acc) (ρ' := R.ρ.bind k x) c (Nat.le_refl _) fun a q => .inr (q ▸ hL)) (w'.chg c (Nat.le_refl _) (fun j y e => .inl ⟨e, fun h => ho j y e h⟩) (fun j y e h => ⟨y, e, h⟩) fun a q => nomatch B.ac.symm.trans q) rfl⟩
theorem asg_swap (K : XOk X) (B : FnB b) {caps : List Nat} {t : Tgt} {it : PI} {ifs : PEs} {rest : PC} {elt : Expr} {gens : List Comprehension} {scope : Scope} {p p' : Pos} {Q : Flow → Shared → Prop} (w : Wst X.V b R) (k1 : X.V.N.vars[k]? = some id) (k2 : wrOk b.sc id = true) (h1 : scopeOk X.V.N b.sc caps scope = true) (h2 : IsK X.V.N true (.clause t it ifs rest) b.sc scope.names (innerSc b.sc scope.names) gens elt)
    (hx : ev X.V.Φ X.V.Γ (.comp caps (.clause t it ifs rest)) R.ρ = some x) (hpl : plainV x = true) (hs : swapsWith (.ListComp elt gens scope p') (some (.Name id q)) p.line b.env = pure true) (kk : KNext X b R (R.ρ.bind k x) Q) : Wq X (exec (.Assign [.Name id q] (.ListComp elt gens scope p') p) b.env) Q R.S := by
  rw [exec_Assign_Name_used _ _ _ _ hs]
  refine wpQ_of (wpAny_bind (wpAny_standAt ?_))
  show wpAny _ X.V.A (do (do let _ ← comprehension (.ListComp elt gens scope p') scope b.env (firstIterPos gens p') (newList []) (firstAsync gens) (firstIter gens b.env) (some (assign (.Name id q) b.env)); pure ()); return .next) Q _ R.S.s
  exact bindE hx fun ys hys hx => bindE hys fun items hi hys => iteE hx fun hl e => wpAny_bind (wpAny_bind (wpAny_mono (comp_ok (Q := fun _ s' => Q .next s') (E := fun _ _ => False) (f := R.f b) K.e (itOk K.e it).1 (expsOk K.e ifs).ifs (clsOk K.e rest) h1 h2 w.F hi hys hl fun a S1 L g hr hns hL hz => hns.elim fun m hm =>
    asg_used K B w k1 k2 g hpl (e ▸ hr.toR) hm hL hz kk) (fun _ _ h => wpAny_pure (wpAny_pure h)) fun _ _ e => e))
theorem toK {ρ' a : Nv} {f g : Fl} {t : Sem Flow} (h : (a, g) = (ρ', f)) (k : ToK X b R a g t) : ToK X b R ρ' f t := (Prod.mk.inj h).1 ▸ (Prod.mk.inj h).2 ▸ k
theorem toS {ρ' : Nv} {f : Fl} {s s' : Stmt} (h : s' = s) (k : ToK X b R ρ' f (exec s b.env)) : ToK X b R ρ' f (exec s' b.env) := h ▸ k
theorem asg_comp (K : XOk X) (B : FnB b) {y : List Nat × Tgt × PI × PEs × PC} {v : Expr} {p : Pos} {Q : Flow → Shared → Prop} (w : Wst X.V b R) (k1 : X.V.N.vars[k]? = some id) (k2 : wrOk b.sc id = true) (k4 : IsE X.V.N (.comp y.1 (.clause y.2.1 y.2.2.1 y.2.2.2.1 y.2.2.2.2)) b.sc v)
    (hx : ev X.V.Φ X.V.Γ (.comp y.1 (.clause y.2.1 y.2.2.1 y.2.2.2.1 y.2.2.2.2)) R.ρ = some x) (hpl : plainV x = true) (kk : KNext X b R (R.ρ.bind k x) Q) : Wq X (exec (.Assign [.Name id q] v p) b.env) Q R.S :=
  have h := k4
  h.elim fun elt h => h.elim fun gens h => h.elim fun scope h => h.elim fun p' h => match hsw : (b.env.blockKind == .function && b.env.kindOf id == some .local && q.line == p'.line && !(scope.names.any fun (n, k) => n == id && (k == .local || k == .cell))) with
    | false => asg_plain K B w k1 k2 k4 hx hpl (h.1 ▸ congrArg pure hsw) kk
    | true => h.1 ▸ asg_swap K B w k1 k2 h.2.2.1 h.2.2.2 hx hpl (congrArg pure hsw) kk
theorem arm_asg (K : XOk X) {k : Nat} {e : PE} : StOk X (.asg k e) := fun b R stm ρ' f B hk w hex =>
  hk.elim fun y h => toS h.1 <| bindE hex fun x hx hex => iteE hex fun hpl he => toK he fun Q kk => h.2.2.2.1.elim (fun k3 => asg_plain K B w h.2.1 h.2.2.1 h.2.2.2.2 hx hpl (swap_free _ k3 ..) kk)
    fun k3 => k3.elim fun z hz => asg_comp K B w h.2.1 h.2.2.1 (hz ▸ h.2.2.2.2) (hz ▸ hx) hpl kk
end
section
variable {X : Xc} {V : Vc} {b : Bs} {R R' : Rs} {S S1 : Ws} {k : Nat} {id : Str} {x y : AV} {v r : Value}
theorem VarR.own {ad : Nat → Addr} (h : VarR V ad S k x v) (ho : isOwn x = true) : v = .ref (ad k) := (own_cases ho).elim (fun q => by obtain ⟨xs, rfl⟩ := q; exact h.2 rfl) fun q => by obtain ⟨xs, rfl⟩ := q; exact h.2 rfl
theorem Wst.mut {h' : Heap} {tk : Nat} (w : Wst V b R) (B : FnB b) (e : R.ρ k = some x) (ho : isOwn x = true) (ho' : isOwn y = true) (hs : Heap.SameBut (R.ad k) R.S.s.heap h') (htk : R.S.s.toks ≤ tk) (hv : VarR V R.ad ⟨{ R.S.s with heap := h', toks := tk }, R.S.Z⟩ k y (.ref (R.ad k))) :
    GoS V R (R.ch h' tk (R.ρ.set k y) R.acc) ∧ Wst V b (R.ch h' tk (R.ρ.set k y) R.acc) :=
  have h := w.ow k x e ho
  have hT := h.1.mpr B.o
  have c : Chg V b R h' (· = R.ad k) := ⟨fun a o q e => hs.extBut a o q e, fun a q => q ▸ ⟨(w.tz _ hT).1, (w.tz _ hT).2.1⟩, fun a q => q ▸ h.2.1, fun a q _ => q ▸ hv.ex ho'⟩
  have cs : ∀ j z, (R.ρ.set k y) j = some z → (j = k ∧ y = z) ∨ (j ≠ k ∧ R.ρ j = some z) := fun j z e => Classical.byCases (fun q : j = k => .inl ⟨q, someE ((if_pos q).symm.trans e)⟩) fun q => .inr ⟨q, (if_neg q).symm.trans e⟩
  have rd : ∃ n, V.N.vars[k]? = some n ∧ Rd (R.f b) R.S.s.heap n (.ref (R.ad k)) := (w.F.vars k x e).elim fun n q => q.elim fun u q => ⟨n, q.1, q.2.2.own ho ▸ q.2.1⟩
  ⟨(GoS.refl w.w).chg c htk fun a q => .inl (q ▸ hT), w.chg c htk (fun j z e' => (cs j z e').elim (fun q => .inr (by obtain ⟨rfl, rfl⟩ := q; exact rd.elim fun n q => ⟨n, _, q.1, q.2, hv⟩)) fun q => .inl ⟨q.2, fun ho2 z => q.1 (h.2.2 B.o j _ q.2 ho2 z)⟩)
    (fun j z e' ho2 => (cs j z e').elim (fun q => q.1 ▸ ⟨x, e, ho⟩) fun q => ⟨z, q.2, ho2⟩) fun a q => nomatch B.ac.symm.trans q⟩
theorem pyIdx_seq {n k : Nat} {i : Int} (h : pyIdx n i = some k) : seqIndex? i n = some k ∧ k < n ∧ n ≤ lim ∧ Builtin.List.listFitsIndex i = true := by
  obtain ⟨h1, h2, h3⟩ := pyIdx_some h
  refine ⟨seqIndex_of h2 h3, h2, h1, ?_⟩
  unfold lim at h1
  unfold Builtin.List.listFitsIndex
  simp; omega
theorem set_at {a : Addr} {vs : List Value} {n k : Nat} {A : Around} {Q : Value → Shared → Prop} {E : Value → Shared → Prop} (ho : S.s.heap.get? a = some (lstO vs n)) (kk : ∀ h', (∃ n', h'.get? a = some (lstO (vs.set k v) n')) → Heap.SameBut a S.s.heap h' → Q .none { S.s with heap := h' }) :
    wpAny V.M A (do setSeqItemAt a k v; ret .none) (fun f s' => ∃ r, f = .done (.ret r) ∧ Q r s') E S.s :=
  wpAny_bind (wpAny_setSeqItemAt ho rfl (wpAny_pure ⟨_, rfl, kk _ ⟨(if ((vs.toArray.setIfInBounds k v).size == vs.toArray.size) = true then n else n + 1), (IsL.update (n := n) ho (·.setIfInBounds k v)).trans (by simp)⟩ (Heap.SameBut.update ..)⟩))
theorem set_leaf {a : Addr} {vs : List Value} {n k : Nat} {i : Int} {t : Tok} {Q : Unit → Shared → Prop} {E : Value → Shared → Prop} (ho : S.s.heap.get? a = some (lstO vs n)) (hk : pyIdx vs.length i = some k)
    (kk : ∀ h', (∃ n', h'.get? a = some (lstO (vs.set k v) n')) → Heap.SameBut a S.s.heap h' → Q () { S.s with heap := h' }) : Wp V (setItem (.ref a) (.int i t) v) Q E S := by
  obtain ⟨h1, h2, h3, h4⟩ := pyIdx_seq hk
  have hT : S.s.TypeIs (.ref a) "list" := ⟨_, ho, rfl⟩
  have hx : vs.toArray[k]? = some vs[k] := by simp [h2]
  unfold setItem
  refine wpAny_holding (wpAny_bind (wpAny_sequenceKey hT (by decide) (wpAny_bind (wpAny_callSpecial?_slot (name := Str.ofString "__setitem__") hT slot_list_setitem (wpAny_call_entry slot_list_setitem hT entry_list_setitem ?_ (args_list_setitem _ _ _))))))
  show wpAny _ _ (Builtin.List.listSubscript? (.int i t) >>= _) _ _ S.s
  refine wpAny_bind (wpAny_listSubscript_int h4 ?_)
  have fin := set_at (V := V) (A := V.A.in1) (k := k) (v := v) (Q := fun _ s' => wpAny V.M V.A (pure ()) Q E s') (E := E) ho fun h' e hs => wpAny_pure (kk h' e hs)
  cases i with
  | ofNat j =>
    have hj : j = k := by
      unfold seqIndex? at h1
      simp at h1; omega
    subst hj
    show wpAny _ _ ((seqItemAt a j >>= fun r => pure (r.map (j, ·))) >>= _) _ _ S.s
    refine wpAny_bind (wpAny_bind (wpAny_seqItemAt ho rfl (wpAny_pure ?_)))
    rw [hx]
    exact fin
  | negSucc j =>
    show wpAny _ _ ((Builtin.List.listItems (.ref a) >>= fun xs => pure ((seqIndex? (Int.negSucc j) xs.size).bind fun i => xs[i]?.map (i, ·))) >>= _) _ _ S.s
    refine wpAny_bind (wpAny_bind ?_)
    show wpAny _ _ (seqItems? (.ref a) >>= _) _ _ S.s
    refine wpAny_bind (wpAny_seqItems ho rfl (wpAny_pure (wpAny_pure ?_)))
    rw [show vs.toArray.size = vs.length from rfl, h1]
    simp only [Option.bind_some, hx, Option.map_some]
    exact fin
end
theorem slot_ba_setitem : Slot "bytearray" "__setitem__" "bytearray.__setitem__" :=
  .of (owner := "bytearray") (n := "__setitem__") (by rw [typeLookup_type, builtinLookup_eq_fast]; kernel_rfl) (by decide +kernel) (by decide +kernel) (by decide +kernel)
    (by first | exact .inl (by decide +kernel) | exact .inr (by decide +kernel)) (by rw [isSubtype_type]; kernel_rfl)
theorem entry_ba_setitem : entryFor table "bytearray.__setitem__" = some Builtin.«bytearray.__setitem__» := entryFor_of_tree (by kernel_rfl)
theorem args_ba_setitem (a b c : Value) : argsOk "bytearray.__setitem__" ⟨[a, b, c], []⟩ := by unfold argsOk; kernel_rfl
section
variable {C : Cfg} {N : Nm} {A : Around} {st : Option Addr} {s : Shared} {Z : Fz}
theorem wpAny_writeBa {M : Model} {a : Addr} {b : Array UInt8} {f : Array UInt8 → Array UInt8} {Q : Unit → Shared → Prop} {E : Value → Shared → Prop} (ho : s.heap.get? a = some { cls := .type "bytearray", data := .bytearray b 0 }) (hz : (f b).size ≤ sizeLine)
    (hQ : ∀ h', h'.get? a = some { cls := .type "bytearray", data := .bytearray (f b) 0 } → Heap.SameBut a s.heap h' → Q () { s with heap := h' }) : wpAny M A (Builtin.Bytes.write (.ref a) f) Q E s := by
  show wpAny _ _ (updateBytearray a f) _ _ _
  unfold updateBytearray
  refine wpAny_bind (wpAny_load ho ?_)
  show wpAny _ _ (update a (Obj.mapBytearray f) >>= fun _ => lookBehind a) _ _ _
  refine wpAny_bind (wpAny_update ho ?_)
  have e : (s.heap.update a (Obj.mapBytearray f)).get? a = some { cls := .type "bytearray", data := .bytearray (f b) 0 } := Heap.get?_update_self (Obj.mapBytearray f) ho rfl
  refine wpAny_lookBehind e ?_ (hQ _ e (Heap.SameBut.update ..))
  show (if (f b).size > sizeLine then some "bytearray:memory" else none) = none
  rw [if_neg (by lia)]
theorem ba_set {a : Addr} {b : List Nat} {k : Nat} {i c : Int} {t u : Tok} {Q : Unit → Shared → Prop} {E : Value → Shared → Prop} (ho : s.heap.get? a = some { cls := .type "bytearray", data := .bytearray (bytesA b) 0 }) (hk : pyIdx b.length i = some k) (h0 : 0 ≤ c) (h1 : c < 256)
    (hQ : ∀ h', h'.get? a = some { cls := .type "bytearray", data := .bytearray (bytesA (b.set k c.toNat)) 0 } → Heap.SameBut a s.heap h' → Q () { s with heap := h' }) : wpAny (model C.prog C.w) A (setItem (.ref a) (.int i t) (.int c u)) Q E s := by
  have hT : s.TypeIs (.ref a) "bytearray" := ⟨_, ho, rfl⟩
  obtain ⟨z1, z2, z3⟩ := pyIdx_some hk
  unfold lim at z1
  unfold setItem
  try with_reducible refine wpAny_holding ?_
  first | refine wpAny_bind (wpAny_pure ?_) | skip
  refine wpAny_bind (wpAny_sequenceKey hT (by decide) ?_)
  refine wpAny_bind (wpAny_callSpecial?_slot (name := Str.ofString "__setitem__") hT slot_ba_setitem
    (wpAny_call_entry slot_ba_setitem hT entry_ba_setitem ?_ (args_ba_setitem _ _ _)))
  show wpAny _ _ (Builtin.Bytes.subscript? (.int i t) >>= _) _ _ s
  have hsub : ∀ (M : Model) (A : Around) (Q : Option Int → Shared → Prop) (E : Value → Shared → Prop), Q (some i) s → wpAny M A (Builtin.Bytes.subscript? (.int i t)) Q E s := by
    intro M A Q E h
    unfold Builtin.Bytes.subscript?
    refine wpAny_bind (wpAny_specialOf (T := "int") rfl int_index ?_)
    refine bm_if_false rfl ?_
    refine wpAny_bind (wpAny_of_eq (rfl : asIndex (.int i t) = pure i) ?_)
    refine bm_if_false (by simp only [Builtin.Bytes.fitsIndex, Bool.not_eq_false', Bool.and_eq_true, decide_eq_true_eq]; lia) ?_
    exact wpAny_pure h
  refine wpAny_bind (hsub _ _ _ _ ?_)
  refine wpAny_bind (m := Builtin.Bytes.byteValue (.int c u)) ?_
  unfold Builtin.Bytes.byteValue
  refine wpAny_bind (wpAny_of_eq (rfl : asIndex (.int c u) = pure c) ?_)
  refine bm_if_false (by simp only [Bool.or_eq_false_iff, decide_eq_false_iff_not]; lia) ?_
  refine wpAny_pure ?_
  show wpAny _ _ (Builtin.Bytes.payload (.ref a) >>= _) _ _ s
  refine wpAny_bind ?_
  unfold Builtin.Bytes.payload Builtin.Bytes.payload?
  refine wpAny_bind (wpAny_bind (wpAny_load ho (wpAny_pure (wpAny_pure ?_))))
  have hs : seqIndex? i (bytesA b).size = some k := by
    have : (bytesA b).size = b.length := by simp [bytesA]
    rw [this]; unfold seqIndex?; rcases z3 with ⟨p, q⟩ | ⟨p, q⟩ <;> simp <;> lia
  rw [hs]
  show wpAny _ _ (Builtin.Bytes.write (.ref a) (·.setIfInBounds k c.toNat.toUInt8) >>= _) _ _ s
  have fin := fun (h' : Heap) (e : h'.get? a = some { cls := .type "bytearray", data := .bytearray ((bytesA b).setIfInBounds k c.toNat.toUInt8) 0 }) (hs' : Heap.SameBut a s.heap h') =>
    hQ h' (by
      have : (bytesA b).setIfInBounds k c.toNat.toUInt8 = bytesA (b.set k c.toNat) := by
        simp [bytesA, List.map_set]
      rw [← this]; exact e) hs'
  refine wpAny_bind (wpAny_writeBa ho (by simp [bytesA]; rw [sizeLine_eq]; lia) fun h' e hs' => ?_)
  first
    | exact wpAny_bind (wpAny_pure (wpAny_pure ⟨.none, rfl, wpAny_pure (fin h' e hs')⟩))
    | exact wpAny_pure ⟨.none, rfl, wpAny_pure (fin h' e hs')⟩
    | exact wpAny_pure ⟨.none, rfl, wpAny_pure (wpAny_pure (fin h' e hs'))⟩
theorem ob_mro : mroOf (.type "object") = pure [.type "object"] := by rw [mroOf_type]; kernel_rfl
theorem ob_lookup_new : typeLookup (.type "object") "__new__" = pure (some (.builtin "object.__new__")) := by rw [typeLookup_type, builtinLookup_eq_fast]; kernel_rfl
theorem ob_slot_init : Slot "object" "__init__" "object.__init__" :=
  .of (owner := "object") (n := "__init__") (by rw [typeLookup_type, builtinLookup_eq_fast]; kernel_rfl) (by decide +kernel) (by decide +kernel) (by decide +kernel)
    (by first | exact .inl (by decide +kernel) | exact .inr (by decide +kernel)) (by rw [isSubtype_type]; kernel_rfl)
theorem ob_called : TypeCalled "object" "object.__new__" "object.__init__" :=
  ⟨by decide +kernel, by decide +kernel, ⟨_, _, ob_mro⟩, madeBy_type ob_mro ob_lookup_new (by decide +kernel), by decide +kernel, by rw [isSubtype_type]; kernel_rfl, ob_slot_init⟩
theorem ob_typeCall : checkTypeCall "object" ⟨[], []⟩ = pure () := by kernel_rfl
theorem ob_newCall : checkBuiltinCall "object.__new__" ⟨[.type "object"], []⟩ = pure () := by kernel_rfl
theorem ob_entry_new : entryFor table "object.__new__" = some Builtin.«object.__new__» := by first | exact entryFor_of_fast (by kernel_rfl) | exact entryFor_of_tree (by kernel_rfl)
theorem ob_plain_new : plainId "object.__new__" = true := by decide +kernel
theorem ob_args_init (a : Value) : argsOk "object.__init__" ⟨[a], []⟩ := by unfold argsOk; kernel_rfl
theorem ob_made : Bind.madeHere "object.__new__" (.type "object") = pure () := by kernel_rfl
theorem ob_code_new {Q₁ : Value → Shared → Prop} {E : Value → Shared → Prop}
    (h : Q₁ (.ref s.heap.objs.size) { s with heap := s.heap.push { cls := .type "object", data := .plain } }) :
    codeAny (model C.prog C.w) A (.call (.builtin "object.__new__") ⟨[.type "object"], []⟩) (wants Q₁ E) s := by
  refine codeAny_of_tree ?_
  show wpAny _ A.in1 (do checkBuiltinCall "object.__new__" ⟨[.type "object"], []⟩; again (.builtin "object.__new__" ⟨[.type "object"], []⟩)) _ _ s
  refine wpAny_bind (wpAny_of_eq ob_newCall (wpAny_pure ⟨plainId_quiet ob_plain_new _, codeAny_builtin ob_entry_new ?_⟩))
  rw [Around.under_plainId ob_plain_new _]
  unfold Builtin.«object.__new__»
  refine wpAny_bind (wpAny_of_eq (a := true) rfl ?_)
  refine bm_if_false rfl ?_
  refine bm_if_false (by decide +kernel) ?_
  refine wpAny_bind (wpAny_of_eq ob_made ?_)
  refine bm_if_false rfl ?_
  refine bm_if_false (by decide +kernel) ?_
  refine wpAny_bind (wpAny_pure ?_)
  show wpAny _ _ (newObj (.type "object") .plain none >>= _) _ _ _
  refine wpAny_bind ?_
  refine wpAny_newObj_type ?_ (by size_fits)
  refine bm_if_false (by decide +kernel) ?_
  first
    | exact wpAny_pure h
    | exact wpAny_bind (wpAny_pure (wpAny_pure h))
theorem obj_new {Q : Value → Shared → Prop} {E : Value → Shared → Prop}
    (hQ : ∀ h' a tk, (∀ b o, s.heap.get? b = some o → h'.get? b = some o) → Q (.ref a) { s with heap := h', toks := tk }) : wpAny (model C.prog C.w) A (call (.type "object") []) Q E s := by
  refine callType_codes (Q₁ := fun obj s₁ => obj = .ref s.heap.objs.size ∧ s₁ = { s with heap := s.heap.push { cls := .type "object", data := .plain } }) ob_called ob_typeCall F.entry_object_init
    (ob_code_new ⟨rfl, rfl⟩) fun obj s₁ h₁ => ?_
  obtain ⟨rfl, rfl⟩ := h₁
  have hS : (s.heap.push { cls := .type "object", data := .plain }).get? s.heap.objs.size = some { cls := .type "object", data := .plain } := Heap.get?_push_size _ rfl
  refine ⟨⟨_, hS, rfl⟩, ob_args_init _, ?_⟩
  unfold Builtin.«object.__init__»
  exact wpAny_pure ⟨rfl, hQ _ _ _ fun _ _ e => Heap.get?_push_of_some _ e⟩
theorem nextOf_tuple_item {it t : Addr} {i : Nat} {items : Array Value} {x : Value} {Q : Value → Shared → Prop} {E : Value → Shared → Prop} (hit : s.heap.IsTupleIter it t i)
    (ht : s.heap.IsTuple t items) (hx : items[i]? = some x) (hQ : ∀ h', h'.IsTupleIter it t (i + 1) → Heap.SameBut it s.heap h' → Q x { s with heap := h' }) :
    wpAny (model C.prog C.w) A (Builtin.SmallTypes.nextOf (.ref it)) Q E s := by
  unfold Builtin.SmallTypes.nextOf
  obtain ⟨o, ho, hc, hd⟩ := id hit
  obtain ⟨ol, hol, _, nl, hdl⟩ := ht
  refine wpAny_bind (wpAny_callSpecial?_slot (name := Str.ofString "__next__") hit.typeIs F.slot_tuple_iterator_next
    (wpAny_call_entry F.slot_tuple_iterator_next hit.typeIs F.entry_tuple_iterator_next ?_ (F.args_tuple_iterator_next_1 _)))
  show wpAny _ _ (field (.ref it) 0 >>= _) _ _ s
  refine wpAny_bind (wpAny_field ho hd (x := .ref t) rfl ?_)
  show wpAny _ _ (if (Value.ref t == Value.none) = true then _ else _) _ _ s
  rw [if_neg (show ¬ ((Value.ref t == Value.none) = true) from fnt)]
  show wpAny _ _ (field (.ref it) 1 >>= _) _ _ s
  refine wpAny_bind (wpAny_field ho hd (x := .int i 0) rfl ?_)
  show wpAny _ _ (seqItems? (.ref t) >>= _) _ _ s
  refine wpAny_bind (wpAny_seqItems hol hdl ?_)
  simp only [Int.toNat_natCast, hx]
  refine wpAny_bind (wpAny_setField ho hd (by simp) (wpAny_pure ⟨x, rfl, wpAny_pure (hQ _ ?_ (Heap.SameBut.update ..))⟩))
  exact ⟨_, Heap.get?_update_self _ ho (Obj.isFreed_of_fields (Obj.data_mapFields hd _)), (Obj.cls_mapFields ..).trans hc, by
    rw [Obj.data_mapFields hd]; simp [rawInt]⟩
theorem nextOf_tuple_end {it t : Addr} {i : Nat} {items : Array Value} {Q : Value → Shared → Prop} {E : Value → Shared → Prop} (hh : A.handled = none)
    (hit : s.heap.IsTupleIter it t i) (ht : s.heap.IsTuple t items) (hx : items[i]? = none)
    (hE : ∀ h' e, Heap.ExtBut it s.heap h' → (∃ o, h'.get? e = some o ∧ o.cls = .type "StopIteration") → E (.ref e) { s with heap := h' }) :
    wpAny (model C.prog C.w) A (Builtin.SmallTypes.nextOf (.ref it)) Q E s := by
  obtain ⟨o, ho, hc, hd⟩ := id hit
  obtain ⟨ol, hol, _, nl, hdl⟩ := ht
  unfold Builtin.SmallTypes.nextOf
  refine wpAny_bind (wpAny_callSpecial?_slot (name := Str.ofString "__next__") hit.typeIs F.slot_tuple_iterator_next
    (wpAny_call_entry F.slot_tuple_iterator_next hit.typeIs F.entry_tuple_iterator_next ?_ (F.args_tuple_iterator_next_1 _)))
  show wpAny _ _ (field (.ref it) 0 >>= _) _ _ s
  refine wpAny_bind (wpAny_field ho hd (x := .ref t) rfl ?_)
  show wpAny _ _ (if (Value.ref t == Value.none) = true then _ else _) _ _ s
  rw [if_neg (show ¬ ((Value.ref t == Value.none) = true) from fnt)]
  show wpAny _ _ (field (.ref it) 1 >>= _) _ _ s
  refine wpAny_bind (wpAny_field ho hd (x := .int i 0) rfl ?_)
  show wpAny _ _ (seqItems? (.ref t) >>= _) _ _ s
  refine wpAny_bind (wpAny_seqItems hol hdl ?_)
  simp only [Int.toNat_natCast, hx]
  refine wpAny_bind (wpAny_rule (wpAny_bind (wpAny_setField ho hd (by simp) ?_)))
  show wpAny _ _ (newExc (.type "StopIteration") [] >>= _) _ _ _
  refine wpAny_bind ?_
  simp only [newExc, newTuple]
  refine wpAny_bind (wpAny_newObj_type ?_ (by size_fits))
  refine wpAny_bind (m := firstArgMember _ _) (wpAny_of_eq (a := Value.none) (by first | rfl | (simp only [firstArgMember]; rfl)) ?_)
  refine wpAny_newObj_type ?_ (by size_fits)
  simp only [raiseNew]
  refine wpAny_bind (wpAny_handled ?_)
  first | rw [show A.in1.handled = none from hh] | rw [hh]
  exact wpAny_bind (wpAny_pure (wpAny_throw (hE _ _ (((Heap.SameBut.update ..).extBut.push _).push _) ⟨_, Heap.get?_push_size _ rfl, rfl⟩)))
theorem draws_tuple (hh : A.handled = none) (it t : Addr) (hne : t ≠ it) (items : Array Value) :
    Draws C.prog C.w A it [it, t] items.size (fun i v => items[i]? = some v) (fun i h => h.IsTupleIter it t i ∧ h.IsTuple t items) where
  live := fun _ _ st => let ⟨o, ho, _⟩ := st.1; ⟨o, ho⟩
  frame := fun _ _ _ st hk => ⟨(let ⟨o, ho, r⟩ := st.1; ⟨o, hk it (by simp) _ ho, r⟩), (let ⟨o, ho, r⟩ := st.2; ⟨o, hk t (by simp) _ ho, r⟩)⟩
  item := fun i s Q E hi st hQ => by
    refine nextOf_tuple_item st.1 st.2 (x := items[i]) (by simp [hi]) fun h' hit' hs' => ?_
    exact hQ _ h' s.toks (by simp [hi]) ⟨hit', st.2.extBut hs'.extBut hne⟩ hs'
  done := fun s Q E st hE => nextOf_tuple_end hh st.1 st.2 (by simp) hE
theorem meets_enumerate_newT (l : Addr) (items : Array Value) (n : Nat) :
    Meets (Builtin.«enumerate.__new__» ⟨[.type "enumerate", .ref l], []⟩) (fun _ R s => s.heap.get? l = some { cls := .type "tuple", data := .seq items n } ∧
      R (.ok (.ret (.ref (s.heap.push { cls := .type "tuple_iterator", data := .fields #[.ref l, .int 0 0] }).objs.size)))
        { s with heap := (s.heap.push { cls := .type "tuple_iterator", data := .fields #[.ref l, .int 0 0] }).push { cls := .type "enumerate", data := .fields #[.none, .bool false, .ref s.heap.objs.size, rawInt 0, .none, .none] } }) :=
  .of_wp fun prog w A R s h => by
    obtain ⟨hp, g, d, tk, os⟩ := s; obtain ⟨hl, h⟩ := h
    have hsub := sub_enumerate
    have hL : Heap.IsTuple (Shared.heap ⟨hp, g, d, tk, os⟩) l items := ⟨_, hl, rfl, n, rfl⟩
    wp_walk using AutoSeq1.wpAny_loadPart' hl
    refine wpAny_stack_any fun st => wpAny_pure ?_
    split
    · rename_i c _ _ _ _ _
      cases (c == Value.type "enumerate")
      · wp_walk using AutoSeq1.wpAny_loadPart' hl, wpAny_pyIter_tuple hL
        exact ⟨_, rfl, h⟩
      · wp_walk using AutoSeq1.wpAny_loadPart' hl, wpAny_pyIter_tuple hL
        exact ⟨_, rfl, h⟩
    · wp_walk using AutoSeq1.wpAny_loadPart' hl, wpAny_pyIter_tuple hL
      exact ⟨_, rfl, h⟩
theorem call_enumerate_tuple {l : Addr} {items : Array Value} {n : Nat} {Q : Value → Shared → Prop} {E : Value → Shared → Prop} (hl : s.heap.get? l = some { cls := .type "tuple", data := .seq items n })
    (h : ∀ h', IsEnum h' (s.heap.objs.size + 1) s.heap.objs.size 0 .none → h'.IsTupleIter s.heap.objs.size l 0 → h'.objs.size = s.heap.objs.size + 2 →
      (∀ b o, s.heap.get? b = some o → h'.get? b = some o) → Q (.ref (s.heap.objs.size + 1)) { s with heap := h' }) :
    wpAny (model C.prog C.w) A (call (.type "enumerate") [.ref l]) Q E s := by
  refine callType_new F.called_enumerate (by decide) (F.typeCall_enumerate_1 _) (F.newCall_enumerate_1 _) (fun obj => F.args_object_init_2 obj _) F.entry_enumerate_new
    (meets_enumerate_newT l items n) ⟨hl, ?_⟩
  have hz : (s.heap.push { cls := .type "tuple_iterator", data := .fields #[.ref l, .int 0 0] }).objs.size = s.heap.objs.size + 1 := Heap.size_push ..
  show _ ∧ _
  rw [hz]
  have he : IsEnum ((s.heap.push { cls := .type "tuple_iterator", data := .fields #[.ref l, .int 0 0] }).push
      { cls := .type "enumerate", data := .fields #[.none, .bool false, .ref s.heap.objs.size, rawInt 0, .none, .none] }) (s.heap.objs.size + 1) s.heap.objs.size 0 .none := by
    have := Heap.get?_push_size (s.heap.push { cls := .type "tuple_iterator", data := .fields #[.ref l, .int 0 0] })
      (o := { cls := .type "enumerate", data := .fields #[.none, .bool false, .ref s.heap.objs.size, rawInt 0, .none, .none] }) rfl
    rw [hz] at this; exact this
  exact ⟨⟨_, he, rfl⟩, h _ he ⟨_, Heap.get?_push_of_some _ (Heap.get?_push_size _ rfl), rfl, rfl⟩ (by rw [Heap.size_push, hz]) fun b o x => Heap.get?_push_of_some _ (Heap.get?_push_of_some _ x)⟩
end
section
variable {X : Xc} {V : Vc} {b : Bs} {R R' : Rs} {S S1 : Ws} {k : Nat} {id : Str} {x y z : AV} {v u r : Value} {q : Pos} {ad : Nat → Addr} {E : Value → Shared → Prop}
theorem Wst.var (w : Wst V b R) (e : R.ρ k = some x) (hn : V.N.vars[k]? = some id) : ∃ v, Rd (R.f b) R.S.s.heap id v ∧ VarR V R.ad R.S k x v := (w.F.vars k x e).elim fun n h => h.elim fun v h => ⟨v, eqFn h.1 hn ▸ h.2⟩
theorem ownAt_some {ρ : Nv} {xs : List AV} (e : ownAt ρ k = some xs) : ρ k = some (.own xs) := bindE e fun y hy e => hy.trans (congrArg some (asOE e))
theorem Wst.lst {xs : List AV} (w : Wst V b R) (e : ownAt R.ρ k = some xs) (hn : V.N.vars[k]? = some id) : ∃ vs n, Rd (R.f b) R.S.s.heap id (.ref (R.ad k)) ∧ R.S.s.heap.get? (R.ad k) = some (lstO vs n) ∧ RepL R.S.Z V.st xs vs :=
  (w.var (ownAt_some e) hn).elim fun v h => h.2.1.elim fun a q => q.elim fun vs q => q.elim fun n q => ⟨vs, n, h.2.own rfl ▸ h.1, (show a = R.ad k from Value.ref.inj (q.1.symm.trans (h.2.own rfl))) ▸ q.2.1, q.2.2⟩
theorem Wst.mutL {xs ys : List AV} {us : List Value} {h' : Heap} {tk : Nat} (w : Wst V b R) (B : FnB b) (e : ownAt R.ρ k = some xs) (hs : Heap.SameBut (R.ad k) R.S.s.heap h') (htk : R.S.s.toks ≤ tk) (h : ∃ n, h'.get? (R.ad k) = some (lstO us n)) (hl : RepL R.S.Z V.st ys us) :
    GoS V R (R.ch h' tk (R.ρ.set k (.own ys)) R.acc) ∧ Wst V b (R.ch h' tk (R.ρ.set k (.own ys)) R.acc) :=
  w.mut B (ownAt_some e) rfl rfl hs htk (h.elim fun n h => ⟨⟨_, us, n, rfl, h, hl⟩, fun _ => rfl⟩)
theorem Wst.newOwn {a : Addr} {Q : Unit → Shared → Prop} (w : Wst X.V b R) (K : XOk X) (B : FnB b) (k1 : X.V.N.vars[k]? = some id) (k2 : wrOk b.sc id = true) (g : Stp X.V R.S S1) (ha : R.S.s.heap.get? a = none) (hz : S1.Z a = none) (ho : isOwn x = true) (hx : ∀ ad', ad' k = a → VarR X.V ad' S1 k x (.ref a))
    (kk : ∀ R', GoS X.V R R' → Wst X.V b R' → R'.ρ = R.ρ.bind k x → Q () R'.S.s) : Wp X.V (assign (.Name id q) b.env (.ref a)) Q E S1 :=
  have w1 := w.go g
  have nP : a ≠ X.V.C.P := WOk.ne w.w ha
  have ex : ∃ o, S1.s.heap.get? a = some o := (hx (fun _ => a) rfl).ex ho
  have w2 : Wst X.V b { R with S := S1, T := fun c => R.T c ∨ c = a } :=
    { F := w1.F
      tl := .inl w1.tl
      tc := fun n c h1 h2 h3 => (w1.tc n c h1 h2 h3).imp .inl fun z => z
      tz := fun c h => h.elim (w1.tz c) fun h => h.symm ▸ ⟨hz, nP, ex⟩
      ow := fun j y e h => (w1.ow j y e h).imp (fun z => ⟨fun _ => B.o, fun h => .inl (z.mpr h)⟩) fun z => z
      ac := fun c h => nomatch B.ac.symm.trans h }
  have g2 : GoS X.V R { R with S := S1, T := fun c => R.T c ∨ c = a } := ⟨fun a o _ h e => g.keep a o h e, g.os, g.mono, fun a o e => (g.fresh a o e).imp (fun z => z) .inr, fun c h => h.imp (fun z => z) fun (h : c = a) => h.symm ▸ ha, g.w⟩
  wpAny_assign_Name (w2.store (ad' := fun j => if j = k then a else R.ad j) K.e.nv k1 (B.wr id k2).1 (B.wr id k2).2 (hx _ (if_pos rfl)) (fun j h => if_neg h) (fun _ => ⟨B.o, .inr (if_pos rfl), (show Off b (if k = k then a else R.ad k) from (if_pos rfl : (if k = k then a else R.ad k) = a).symm ▸ w.offNew ha), fun j y e h q => (w.exOwn e h).elim fun o e => noSome ha ((q.trans (if_pos rfl)) ▸ e)⟩) fun h' tk m' h => kk _ (g2.trans h.1) h.2 rfl)
theorem arm_asgL (K : XOk X) {k : Nat} : StOk X (.asgL k) := fun b R stm ρ' f B hk w hex => hk.elim fun y h => toS h.1 <| toK (someE hex) fun Q kk =>
  wpQ_asg rfl rfl rfl (wpQ_of (wpAny_List_spliced (show wpAny _ X.V.A (spliced []) _ _ R.S.s from spliced_nil ⟨Nat.zero_le _, w.newOwn (x := .own []) K B h.2.1 h.2.2 (w.w.newOnly (lstO [] 0)) (get_none (Nat.le_refl _)) (WOk.nz w.w (get_none (Nat.le_refl _))) rfl (fun ad' e => show Rp _ _ _ _ ∧ _ from ⟨⟨_, [], 0, rfl, Heap.get?_push_size _ rfl, rfl⟩, fun _ => congrArg Value.ref e.symm⟩) fun R' g w' e => KNext.to kk g w' e⟩)))
theorem swap_sub {v o i : Expr} {p : Pos} {line : Nat} {env : Env} : swapsWith v (some (.Subscript o i p)) line env = pure false := by apply @Expr.casesOn (fun v => swapsWith v (some (.Subscript o i p)) line env = pure false) v <;> intros <;> exact Eq.refl (pure false)
theorem put_ok {j : Int} {t : Tok} {c : AV} {Q : Unit → Shared → Prop} (e : putV x j c = some y) (hx : VarR V ad S k x u) (hr : Rp V S c r) (kk : isOwn x = true → isOwn y = true → ∀ h', Heap.SameBut (ad k) S.s.heap h' → VarR V ad ⟨{ S.s with heap := h' }, S.Z⟩ k y (.ref (ad k)) → Q () { S.s with heap := h' }) : Wp V (setItem u (.int j t) r) Q E S := by
  cases x with
  | own xs =>
    exact iteB e fun hpl e => mapE e fun n hn e => hx.1.elim fun a h => h.elim fun vs h => h.elim fun m h => hx.2 rfl ▸ set_leaf ((show a = ad k from Value.ref.inj (h.1.symm.trans (hx.2 rfl))) ▸ h.2.1) (h.2.2.length ▸ hn) fun h' hn' hs => kk rfl (e ▸ rfl) h' hs (e ▸ hn'.elim fun n' e' => ⟨⟨_, _, n', rfl, e', h.2.2.set (plainR hpl hr) n⟩, fun _ => rfl⟩)
  | ba bs =>
    exact bindE e fun c hc e => iteB e fun hb e => mapE e fun n hn e => hx.1.2.elim fun a h => (asIE hc ▸ hr : Rp V S (.int c) r).int.elim fun t' hr => hx.2 rfl ▸ hr ▸ ba_set ((show a = ad k from Value.ref.inj (h.1.symm.trans (hx.2 rfl))) ▸ h.2) hn hb.1 hb.2 fun h' e' hs => kk rfl (e ▸ rfl) h' hs (e ▸ ⟨⟨fun z hz => (List.mem_or_eq_of_mem_set hz).elim (hx.1.1 z) fun q => q ▸ (by omega), _, rfl, e'⟩, fun _ => rfl⟩)
  | _ => exact noneE e
theorem arm_put (K : XOk X) {k : Nat} {i e : PE} : StOk X (.put k i e) := fun b R stm ρ' f B hk w hex => hk.elim fun y h => toS h.1 <| bindE hex fun v hv hex => bindE hex fun j hj hex => bindE hex fun i' hi hex => bindE hex fun x hx hex => mapE hex fun z hz he => toK he fun Q kk =>
  wpQ_of (wpAny_Assign_Subscript (hs := swap_sub) ((expOk K.e e).1 h.2.2.2.2 w.F hv fun r S1 g1 hr => ((w.go g1).var hx h.2.1).elim fun u hu => name_rd (w.go g1).F h.2.2.1 hu.1 ((expOk K.e i).1 h.2.2.2.1 (w.go g1).F (hj.trans (congrArg some (asIE hi))) fun r2 S2 g2 hr2 => hr2.elim fun t e => e ▸ put_ok hz (hu.2.go g1.w g2) (hr.go g2 g1.w) fun ho ho' h' hs hv =>
    have m := ((w.go g1).go g2).mut B hx ho ho' hs (Nat.le_refl _) hv
    KNext.to kk ((GoS.of (g1.trans g2)).trans m.1) m.2 rfl)))
theorem iadd_ok {c : Unit} (w : Sd V S) (e1 : isIS x = some c) (e : addV x y = some z) (hx : VarR V ad S k x v) (hy : Rp V S y u) : plainV z = true ∧ Gv V (inplaceOp .Add v u) S z := by
  cases x with
  | int a => exact mapE e fun b hb e => e ▸ ⟨rfl, hx.1.int.elim fun t h => (asIE hb ▸ hy : Rp V S (.int b) u).int.elim fun t' h' => h ▸ h' ▸ gInt w fun Q E k => wpAny_iadd_int (k _ _)⟩
  | str a => exact bindE e fun b hb e => iteE e fun hz e => e ▸ ⟨rfl, hx.1.str.elim fun t h => (asSE hb ▸ hy : Rp V S (.str b) u).str.elim fun t' h' => h ▸ h' ▸ gStr w fun Q E k => SB.iadd (fun t' tk => (mkS_app a b).symm ▸ k t' tk) (limSz (by rw [mkS_len, mkS_len]; exact hz))⟩
  | _ => exact noneE e1
theorem arm_aug (K : XOk X) {k : Nat} {e : PE} : StOk X (.aug k e) := fun b R stm ρ' f B hk w hex => hk.elim fun y h => toS h.1 <| bindE hex fun x hx hex => bindE hex fun v hv hex => bindE hex fun c hc hex => mapE hex fun z hz he => toK he fun Q kk =>
  wpQ_of (wpAny_AugAssign_Name ((w.var hx h.2.1).elim fun u hu => load_rd w.F h.2.2.2.1 hu.1 ((expOk K.e e).1 h.2.2.2.2 w.F hv fun r S1 g1 hr =>
    have hi := iadd_ok g1.w hc hz (hu.2.go w.w g1) hr
    hi.2 fun r2 S2 g2 hr2 => w.sto K B h.2.1 h.2.2.1 (g1.trans g2) hi.1 hr2 fun s' m' g w' => KNext.to kk ((GoS.of (g1.trans g2)).trans g) w' rfl)))
noncomputable def augPlain (ov iv new : Value) : Sem Flow := do holding [new, ov, iv] (setItem ov iv new); release [new, ov, iv] []; pure .next
theorem aug_store (i : Expr) : (i.ctorIdx != 26) = true → ∀ ov iv new, augStore i ov iv new = augPlain ov iv new := by
  apply @Expr.casesOn (fun i => (i.ctorIdx != 26) = true → ∀ ov iv new, augStore i ov iv new = augPlain ov iv new) i <;> intros <;> first | exact Eq.refl (augPlain _ _ _) | exact absurd (by assumption) fnt
theorem arm_augPut (K : XOk X) {k : Nat} {i e : PE} : StOk X (.augPut k i e) := fun b R stm ρ' f B hk w hex => hk.elim fun y h => toS h.1 <| bindE hex fun j hj hex => bindE hex fun i' hi hex => bindE hex fun xs hxs hex => bindE hex fun n hn hex => bindE hex fun x hx hex => bindE hex fun v hv hex => bindE hex fun sx hsx hex => mapE hex fun z hz he => toK he fun Q kk =>
  wpQ_of ((w.lst hxs h.2.1).elim fun vs q => q.elim fun m q => wpAny_AugAssign_Subscript_any (name_rd w.F h.2.2.1 q.1 ((expOk K.e i).1 h.2.2.2.2.1 w.F (hj.trans (congrArg some (asIE hi))) fun r1 S1 g1 hr1 => hr1.elim fun t e1 => e1 ▸
    have hg1 := g1.keep _ _ (WOk.pNe w.w q.2.1 nofun) q.2.1
    (q.2.2.get hx).elim fun vx hvx => listItem hg1 (q.2.2.length ▸ hn) hvx.1 ((expOk K.e e).1 h.2.2.2.2.2 (w.go g1).F hv fun r2 S2 g2 hr2 =>
      have hx2 : VarR X.V R.ad S2 k x vx := asSE hsx ▸ ⟨(asSE hsx ▸ hvx.2 : RepV _ _ (.str sx) vx), nofun⟩
      have hi := iadd_ok (c := ()) g2.w (asSE hsx ▸ Eq.refl (some ())) hz hx2 hr2
      hi.2 fun r3 S3 g3 hr3 => set_leaf (Q := fun _ => Q .next) (g3.keep _ _ (WOk.pNe g2.w (g2.keep _ _ (WOk.pNe g1.w hg1 nofun) hg1) nofun) (g2.keep _ _ (WOk.pNe g1.w hg1 nofun) hg1)) (q.2.2.length ▸ hn) fun h' hn' hs =>
        have m := ((w.go (g1.trans (g2.trans g3)))).mutL B hxs hs (Nat.le_refl _) hn' ((q.2.2.mono (g1.trans (g2.trans g3)).mono).set (plainR hi.1 hr3) n)
        KNext.to kk ((GoS.of (g1.trans (g2.trans g3))).trans m.1) m.2 rfl))) (aug_store y.2.2.1 h.2.2.2.1))
theorem arm_del (K : XOk X) {k : Nat} {i : PE} : StOk X (.del k i) := fun b R stm ρ' f B hk w hex => hk.elim fun y h => toS h.1 <| bindE hex fun j hj hex => bindE hex fun i' hi hex => bindE hex fun xs hxs hex => mapE hex fun n hn he => toK he fun Q kk =>
  wpQ_of ((w.lst hxs h.2.1).elim fun vs q => q.elim fun m q => wpAny_Delete (wpAny_deleteEach_cons (wpAny_delete_Subscript (name_rd w.F h.2.2.1 q.1 ((expOk K.e i).1 h.2.2.2 w.F (hj.trans (congrArg some (asIE hi))) fun r1 S1 g1 hr1 => hr1.elim fun t e1 => e1 ▸
    have hp := pyIdx_seq hn
    wpAny_delItem_plain (items := vs.toArray) (k := n) ⟨m, g1.keep _ _ (WOk.pNe w.w q.2.1 nofun) q.2.1⟩ hp.2.2.2 ((congrArg (seqIndex? i') q.2.2.length).trans hp.1) (fun h' hp' hs =>
      have m := (w.go g1).mutL B hxs hs (Nat.le_refl _) (hp'.imp fun n' e => e.trans (by simp)) ((q.2.2.mono g1.mono).erase n)
      wpAny_deleteEach_nil (KNext.to kk ((GoS.of g1).trans m.1) m.2 rfl)) (limSz (lz (Nat.le_of_eq q.2.2.length) hp.2.2.1)))))))
end
theorem md_slot_get : Slot "method_descriptor" "__get__" "method_descriptor.__get__" :=
  .of (owner := "method_descriptor") (n := "__get__") (by rw [typeLookup_type, builtinLookup_eq_fast]; kernel_rfl) (by decide +kernel) (by decide +kernel) (by decide +kernel)
    (by first | exact .inl (by decide +kernel) | exact .inr (by decide +kernel)) (by rw [isSubtype_type]; kernel_rfl)
theorem md_entry_get : entryFor table "method_descriptor.__get__" = some Builtin.«method_descriptor.__get__» := entryFor_of_tree (by kernel_rfl)
theorem md_args_get (a b c : Value) : argsOk "method_descriptor.__get__" ⟨[a, b, c], []⟩ := by unfold argsOk; kernel_rfl
theorem md_set : typeLookup (.type "method_descriptor") "__set__" = pure none := by rw [typeLookup_type, builtinLookup_eq_fast]; kernel_rfl
theorem md_del : typeLookup (.type "method_descriptor") "__delete__" = pure none := by rw [typeLookup_type, builtinLookup_eq_fast]; kernel_rfl
theorem md_list_append : typeLookup (.type "list") "append" = pure (some (.builtin "list.append")) := by rw [typeLookup_type, builtinLookup_eq_fast]; kernel_rfl
theorem md_owner : ".".intercalate ("list.append".cutAt '.').dropLast = "list" := by first | decide +kernel | kernel_rfl
theorem md_sub : isSubtype (.type "list") (.type (".".intercalate ("list.append".cutAt '.').dropLast)) = pure true := by
  rw [md_owner, isSubtype_type]; kernel_rfl
theorem md_type : typeOf (.builtin "list.append") = pure (.type "method_descriptor") := type_list_append
section
variable {prog : Program} {w : World} {A : Around} {E : Value → Shared → Prop} {h : Heap} {g : Array GenState} {d : Drawn} {t : Nat} {os : OsState} {a : Addr} {o : Obj}
theorem app_run {R : Result → Shared → Prop} (hx : h.get? a = some o) (hc : o.cls = .type "list") (hq : R (.ok (.ret (.ref h.objs.size))) ⟨h.push (appObj a), g, d, t, os⟩) :
    codeAny (model prog w) A (.call (.builtin "method_descriptor.__get__") ⟨[.builtin "list.append", .ref a, .type "list"], []⟩) R ⟨h, g, d, t, os⟩ := by
  have hT : (⟨h, g, d, t, os⟩ : Shared).TypeIs (.ref a) "list" := ⟨_, hx, hc⟩
  have hT5 : (⟨h, g, d, t, os⟩ : Shared).TypeIs (.builtin "list.append") "method_descriptor" := type_list_append
  have f8 := PySem.F.slot_list_append.lookup
  refine codeAny_call_builtin md_slot_get.plain md_entry_get (md_slot_get.check _ _ _ _ _ _ _ _ hT5 (md_args_get _ _ _) ?_)
  unfold Builtin.«method_descriptor.__get__»
  repeat (any_goals (first | assumption | wp_step))
  have f9 := md_sub
  refine wpAny_of_eq f9 ?_
  repeat (any_goals (first | assumption | wp_step))
theorem app_entry {vs : List Value} {nn : Nat} {tk : Tok} {Q : Fin → Shared → Prop} (hx : h.get? a = some (lstO vs nn)) (hq : Q (.done (.ret (.ref h.objs.size))) ⟨h.push (appObj a), g, d, t, os⟩) :
    wpAny (model prog w) A (Builtin.«object.__getattribute__» ⟨[.ref a, .str "append" tk], []⟩) Q E ⟨h, g, d, t, os⟩ := by
  have hT : (⟨h, g, d, t, os⟩ : Shared).TypeIs (.ref a) "list" := ⟨_, hx, rfl⟩
  have hT5 : (⟨h, g, d, t, os⟩ : Shared).TypeIs (.builtin "list.append") "method_descriptor" := md_type
  have f4 := md_list_append
  have f5 := md_type
  have f6 := md_slot_get.lookup
  have f7 := md_set
  have f8 := md_del
  repeat (any_goals (first | assumption | wp_step))
  refine app_run hx rfl ?_
  repeat (any_goals (first | assumption | wp_step))
theorem app_call {vs : List Value} {nn : Nat} {tk : Tok} {R : Result → Shared → Prop} (hx : h.get? a = some (lstO vs nn)) (hq : R (.ok (.ret (.ref h.objs.size))) ⟨h.push (appObj a), g, d, t, os⟩) :
    codeAny (model prog w) A (.call (.builtin "list.__getattribute__") ⟨[.ref a, .str "append" tk], []⟩) R ⟨h, g, d, t, os⟩ :=
  codeAny_call_builtin PySem.F.slot_list_getattribute.plain PySem.F.entry_list_ga (PySem.F.slot_list_getattribute.check _ _ _ _ _ _ _ _ (show (⟨h, g, d, t, os⟩ : Shared).TypeIs (.ref a) "list" from ⟨_, hx, rfl⟩) (PySem.F.args_list_getattribute_2 _ _) (app_entry hx hq))
theorem app_by {vs : List Value} {nn : Nat} {tk : Tok} {Q : Value → Shared → Prop} (hx : h.get? a = some (lstO vs nn)) (hq : Q (.ref h.objs.size) ⟨h.push (appObj a), g, d, t, os⟩) : wpAny (model prog w) A (getAttrBy (.ref a) (.str "append" tk) true true) Q E ⟨h, g, d, t, os⟩ := by
  have hT : (⟨h, g, d, t, os⟩ : Shared).TypeIs (.ref a) "list" := ⟨_, hx, rfl⟩
  have f2 := PySem.F.slot_list_getattribute.lookup
  have f3 := PySem.F.slot_list_getattribute.bind (.ref a)
  repeat (any_goals (first | assumption | wp_step))
  refine app_call hx ?_
  show wpAny (model prog w) A (handedOut (.ref h.objs.size)) Q E _
  have hn : (h.push (appObj a)).get? h.objs.size = some (appObj a) := Heap.get?_push_size _ rfl
  repeat (any_goals (first | assumption | wp_step))
theorem app_get {vs : List Value} {nn : Nat} {s : Shared} {Q : Value → Shared → Prop} (hx : s.heap.get? a = some (lstO vs nn)) (hq : Q (.ref s.heap.objs.size) { s with heap := s.heap.push (appObj a), toks := s.toks + 1 }) : wpAny (model prog w) A (getAttr (.ref a) "append" true) Q E s := by
  obtain ⟨h, g, d, t, os⟩ := s
  unfold getAttr
  refine wpAny_bind (wpAny_mkText ?_)
  exact app_by hx hq
end
section
variable {X : Xc} {V : Vc} {b : Bs} {R R' : Rs} {S S1 : Ws} {k : Nat} {id : Str} {x y z : AV} {v u r : Value} {q : Pos} {ad : Nat → Addr} {E : Value → Shared → Prop}
theorem not_inter (w : Wst V b R) : interactive b.env = false := by
  have h := w.F.kind
  unfold interactive
  rw [show b.env.scope.kind = _ from h]; rfl
theorem one_arg {e : Expr} {env : Env} {pos : Pos} (h : formB e = true) : backTo pos (starEach [e] env) = [(false, eval e env)] := by rw [star_cons h]; rfl
theorem arm_append (K : XOk X) {k : Nat} {e : PE} : StOk X (.append k e) := fun b R stm ρ' f B hk w hex => hk.elim fun y h => toS h.1 <| bindE hex fun v hv hex => bindE hex fun xs hxs hex => iteE hex fun hz he => toK he fun Q kk =>
  wpQ_of (wpAny_Expr_any (hi := not_inter w) (hs := rfl) (wpAny_Call_method_lateS rfl ((one_arg (pos := y.2.2.2.2.1) (env := b.env) h.2.2.2.2.1).symm ▸ rfl) (beq_iff_eq.mpr h.2.2.2.1) ((w.lst hxs h.2.1).elim fun vs q => q.elim fun m q => name_rd w.F h.2.2.1 q.1 ⟨"list", "list.append", _root_.PySem.F.plainAttrs_list, slot_list_append, type_list_append, ⟨_, q.2.1, rfl⟩, fun c hc => Value.ref.inj hc ▸ ⟨_, q.2.1, rfl⟩,
    (one_arg h.2.2.2.2.1).symm ▸ Calls.callWith_builtin rfl (Calls.evalArgs_plain (spliced_cons ((expOk K.e e).1 h.2.2.2.2.2 w.F hv fun r1 S1 g1 hr1 => spliced_nil (wpAny_list_append_plain (items := vs.toArray) ⟨m, g1.keep _ _ (WOk.pNe w.w q.2.1 nofun) q.2.1⟩ (fun h' hp hs =>
      have m := (w.go g1).mutL B hxs hs (Nat.le_refl _) (hp.imp fun n' e => e.trans (by simp)) ((q.2.2.mono g1.mono).append (.cons (plainR hz.1 hr1) .nil))
      KNext.to kk ((GoS.of g1).trans m.1) m.2 rfl) (limSz (lz (Nat.le_of_eq q.2.2.length) (Nat.le_of_lt hz.2)))))))⟩)))
theorem arm_asgApp (K : XOk X) {k j : Nat} : StOk X (.asgApp k j) := fun b R stm ρ' f B hk w hex => hk.elim fun y h => toS h.1 <| bindE hex fun xs hxs hex => iteE hex fun hne he => toK he fun Q kk =>
  wpQ_asg rfl rfl rfl (wpQ_of ((w.lst hxs h.2.2.2.1).elim fun vs q => q.elim fun m q => Attribute_name (name_rd w.F h.2.2.2.2 q.1 (app_get q.2.1 (
    have g : Stp X.V R.S ⟨{ R.S.s with heap := R.S.s.heap.push (appObj (R.ad j)), toks := R.S.s.toks + 1 }, R.S.Z.put R.S.s.heap.objs.size (appObj (R.ad j))⟩ := Go.push w.w _ rfl _ (Nat.le_succ _)
    wpAny_assign_Name ((w.go g).store (x := .app j) K.e.nv h.2.1 (B.wr _ h.2.2.1).1 (B.wr _ h.2.2.1).2 ⟨_, rfl, put_self⟩ (fun _ _ => rfl) nofun fun h' tk m' h => KNext.to kk ((GoS.of g).trans h.1) h.2 rfl))))))
theorem sub_list_module : isSubtype (.type "list") (.type "module") = pure false := by rw [isSubtype_type]; kernel_rfl
theorem sub_list_type : isSubtype (.type "list") (.type "type") = pure false := by rw [isSubtype_type]; kernel_rfl
theorem wpAny_checkBound {prog : Program} {w : World} {A : Around} {s : Shared} {a : Addr} {Q : Unit → Shared → Prop} {vs : List Value} {nn : Nat} (hx : s.heap.get? a = some (lstO vs nn)) (h : Q () s) : wpAny (model prog w) A (checkBoundCall "list.append" ⟨[.ref a, r], []⟩) Q E s := by
  obtain ⟨hp, g, d, t, os⟩ := s
  have hT : (⟨hp, g, d, t, os⟩ : Shared).TypeIs (.ref a) "list" := ⟨_, hx, rfl⟩
  have f1 := sub_list_module
  have f2 := sub_list_type
  unfold checkBoundCall
  repeat (any_goals (first | assumption | wp_step))
theorem call_app {c a : Addr} {vs : List Value} {nn : Nat} {Q : Value → Shared → Prop} (hb : S.s.heap.get? c = some (appObj a)) (ha : S.s.heap.get? a = some (lstO vs nn)) (hz : vs.length < lim)
    (hQ : ∀ h', (∃ n', h'.get? a = some (lstO (vs ++ [r]) n')) → Heap.SameBut a S.s.heap h' → Q .none { S.s with heap := h' }) : Wp V (call (.ref c) [r]) Q E S := by
  have tail : codeAny V.M V.A (.builtin "list.append" ⟨[.ref a, r], []⟩) (fun r s' => match r with | .ok (.ret v) => Q v s' | .ok _ => False | .error e => E e s') S.s :=
    codeAny_builtin entry_list_append (wpAny_bind (m := updateSeq a (·.push r)) (wpAny_updateSeq ha rfl (hz := limSz (Nat.le_of_lt hz)) (_hz' := by rw [Array.size_push]; exact sl2 (limSz (Nat.le_of_lt hz))) (wpAny_pure (hQ _ ⟨nn + 1, by
      rw [Heap.get?_update_self _ ha (by rw [Obj.mapSeq_push_plain]; rfl), Obj.mapSeq_push_plain]; simp⟩ (Heap.SameBut.update ..)))))
  refine wpAny_call (codeAny_of_tree ?_)
  show wpAny _ _ (load c >>= fun o => _) _ _ S.s
  refine wpAny_bind (wpAny_load hb ?_)
  show wpAny _ _ (checkBoundCall "list.append" ⟨[.ref a, r], []⟩ >>= fun _ => _) _ _ S.s
  exact wpAny_bind (wpAny_checkBound ha (wpAny_bind (wpAny_pure (wpAny_pure ⟨Code.quiet_builtin _ (by decide +kernel), tail⟩))))
theorem with_app {c a : Addr} {pos : Pos} {t : Sem Value} {Q : Value → Shared → Prop} (h : Wp V t (fun r s' => s'.heap.get? c = some (appObj a) ∧ wpAny V.M V.A (call (.ref c) [r]) Q E s') E S) : Wp V (callWith pos (.ref c) [] [(false, t)] []) Q E S := by
  unfold callWith
  refine wpAny_bind (wpAny_holding (Calls.evalArgs_plain (spliced_cons (wpAny_mono h (fun r s₁ h₁ => spliced_nil (wpAny_bind (wpAny_standAt ?_))) fun _ _ e => e))))
  refine wpAny_bind (m := keeperOf (.ref c)) ?_
  show wpAny _ _ (load c >>= fun o => _) _ _ s₁
  exact wpAny_bind (wpAny_load h₁.1 (wpAny_pure (wpAny_bind (wpAny_mono h₁.2 (fun r s₂ hr => wpAny_bind (wpAny_holding (wpAny_point (wpAny_pure hr)))) fun _ _ x => x))))
theorem Wst.app {j : Nat} (w : Wst V b R) (e : R.ρ k = some (.app j)) (hn : V.N.vars[k]? = some id) : ∃ c, Rd (R.f b) R.S.s.heap id (.ref c) ∧ R.S.Z c = some (appObj (R.ad j)) := (w.var e hn).elim fun v h => h.2.elim fun c q => ⟨c, q.1 ▸ h.1, q.2⟩
theorem arm_callApp (K : XOk X) {k : Nat} {e : PE} : StOk X (.callApp k e) := fun b R stm ρ' f B hk w hex => hk.elim fun y h => toS h.1 <| bindE hex fun v hv hex => bindE hex fun j hj hex => bindE hex fun xs hxs hex => iteE hex fun hz he => toK he fun Q kk =>
  wpQ_of (wpAny_Expr_any (hi := not_inter w) (hs := rfl) (show wpAny _ X.V.A (do callWith y.2.2.2.1 (← eval (.Name y.1 y.2.1) b.env) [] (backTo y.2.2.2.1 (starEach [y.2.2.1] b.env)) []) _ _ R.S.s from
    wpAny_bind (bindE hj fun z hz' hj => (w.app (hz'.trans (congrArg some (asAE hj))) h.2.1).elim fun c hc => name_rd w.F h.2.2.1 hc.1 ((one_arg h.2.2.2.1).symm ▸ with_app ((expOk K.e e).1 h.2.2.2.2 w.F hv fun r1 S1 g1 hr1 => ⟨g1.w.sub _ _ (g1.mono _ _ hc.2),
      (w.F.vars j _ (ownAt_some hxs)).elim fun n q => (w.lst hxs (q.elim fun _ q => q.1)).elim fun vs q => q.elim fun m q => call_app (g1.w.sub _ _ (g1.mono _ _ hc.2)) (g1.keep _ _ (WOk.pNe w.w q.2.1 nofun) q.2.1) (q.2.2.length ▸ hz.2) fun h' hn' hs =>
        have m := (w.go g1).mutL B hxs hs (Nat.le_refl _) hn' ((q.2.2.mono g1.mono).append (.cons (plainR hz.1 hr1) .nil))
        KNext.to kk ((GoS.of g1).trans m.1) m.2 rfl⟩)))))
theorem pop_eq {vs : List Value} : vs.toArray.eraseIdxIfInBounds (vs.toArray.size - 1) = (vs.dropLast).toArray := by
  rcases vs.eq_nil_or_concat with rfl | ⟨l, a, rfl⟩
  · rfl
  · simp [List.eraseIdx_append_of_length_le]
theorem RepL.dropLast {Z : Fz} {st : Option Addr} {xs : List AV} {vs : List Value} (h : RepL Z st xs vs) : RepL Z st xs.dropLast vs.dropLast := by
  rw [List.dropLast_eq_take, List.dropLast_eq_take, h.length]; exact h.take _
theorem last_some {vs : List Value} {xs : List AV} (h : vs.length = xs.length) (hz : xs.isEmpty = false) : ∃ v, vs.toArray[vs.toArray.size - 1]? = some v := by
  cases vs with
  | nil => cases xs with
    | nil => cases hz
    | cons _ _ => cases h
  | cons v r => exact ⟨_, Array.getElem?_eq_getElem (Nat.lt_succ_self r.length)⟩
theorem arm_pop (K : XOk X) {k : Nat} : StOk X (.pop k) := fun b R stm ρ' f B hk w hex => hk.elim fun y h => toS h.1 <| bindE hex fun xs hxs hex => iteE hex fun hz he => toK he fun Q kk =>
  wpQ_of (wpAny_Expr_any (hi := not_inter w) (hs := rfl) (wpAny_Call_method_lateS rfl rfl (beq_iff_eq.mpr h.2.2.2) ((w.lst hxs h.2.1).elim fun vs q => q.elim fun m q => name_rd w.F h.2.2.1 q.1 ⟨"list", "list.pop", _root_.PySem.F.plainAttrs_list, _root_.PySem.F.slot_list_pop, _root_.PySem.F.type_list_pop, ⟨_, q.2.1, rfl⟩, fun c hc => Value.ref.inj hc ▸ ⟨_, q.2.1, rfl⟩,
    Calls.callWith_builtin rfl (evalArgs_nil3 ((last_some q.2.2.length hz.1).elim fun v hv => call_meets _root_.PySem.F.slot_list_pop ⟨_, q.2.1, rfl⟩ _root_.PySem.F.entry_list_pop (_root_.PySem.F.args_list_pop_1 _) (MeetsSeq.list_pop_last _ vs.toArray m _ hv (limSz (lz (Nat.le_of_eq q.2.2.length) hz.2))) ⟨q.2.1,
      have m := w.mutL (tk := R.S.s.toks) B hxs (Heap.SameBut.update ..) (Nat.le_refl _) ⟨_, (IsL.update (n := m) q.2.1 fun xs => xs.eraseIdxIfInBounds (vs.toArray.size - 1)).trans (by rw [pop_eq])⟩ q.2.2.dropLast
      KNext.to kk m.1 m.2 rfl⟩))⟩)))
end
section
variable {X : Xc} {V : Vc} {b : Bs} {R R' R0 : Rs} {S S1 : Ws} {k : Nat} {x y : AV} {v : Value}
open Classical in
noncomputable def frzZ (R : Rs) : Fz := fun a => if ∃ k xs, R.ρ k = some (.own xs) ∧ R.ad k = a then R.S.s.heap.get? a else R.S.Z a
theorem frz_ok (w : Wst V b R) (B : FnB b) : GoS V R { R with S := ⟨R.S.s, frzZ R⟩ } ∧ FrA V (R.f b) ⟨R.S.s, frzZ R⟩ R.ρ.frz :=
  have hT : ∀ a, (∃ k xs, R.ρ k = some (.own xs) ∧ R.ad k = a) → R.T a := fun a h => h.elim fun k h => h.elim fun xs h => h.2 ▸ (w.ow k _ h.1 rfl).1.mpr B.o
  have mono : ∀ a o, R.S.Z a = some o → frzZ R a = some o := fun a o e => (if_neg fun h => noSome (w.tz a (hT a h)).1 e).trans e
  have or : ∀ a o, frzZ R a = some o → R.S.Z a = some o ∨ (R.T a ∧ R.S.s.heap.get? a = some o) := fun a o e => Classical.byCases (fun h => .inr ⟨hT a h, (if_pos h).symm.trans e⟩) fun h => .inl ((if_neg h).symm.trans e)
  have ok : Sd V ⟨R.S.s, frzZ R⟩ := ⟨fun a o e => (or a o e).elim (w.w.sub a o) (·.2), none_of fun o e => (or _ o e).elim (fun e => noSome w.w.noP e) fun h => (w.tz _ h.1).2.1 rfl, fun a o e => mono a o (w.w.base a o e), w.w.tab.elim fun o t => ⟨o, t.1, V.C.tabMono t.2 mono⟩, w.w.gens, WOk.tk w.w⟩
  ⟨⟨fun _ _ _ _ e => e, rfl, mono, fun a o e => (or a o e).imp (fun z => z) fun h => .inl h.1, fun _ h => .inl h, ok⟩,
   { w.F with
     w := ok
     vars := fun k x e => mapE (show (R.ρ k).map frzV = some x from e) fun y hy e => (w.F.vars k y hy).imp fun n h => h.imp fun v h => ⟨h.1, h.2.1, by
       cases y with
       | own xs => exact e ▸ h.2.2.1.elim fun a q => q.elim fun vs q => q.elim fun m q => ⟨⟨a, vs, m, q.1, (if_pos ⟨k, xs, hy, Value.ref.inj ((h.2.2.2 rfl).symm.trans q.1)⟩).trans q.2.1, q.2.2.mono mono⟩, nofun⟩
       | _ => exact e ▸ VarR.mv (S := R.S) mono (fun _ o e => e) (fun _ => rfl) (fun _ _ => rfl) h.2.2⟩ }⟩
theorem arm_ret (K : XOk X) {e : PE} : StOk X (.ret e) := fun b R stm ρ' f B hk w hex => hk.elim fun y h => toS h.1 <| bindE hex fun v hv hex => iteE hex fun hpl he => toK he fun Q kk =>
  have z := frz_ok w B
  wpQ_of (wpAny_Return_some ((expOk K.e e).1 h.2 z.2 hv fun r S1 g hr => kk (.ret r) { R with S := S1 } (z.1.trans (GoS.of (R := { R with S := ⟨R.S.s, frzZ R⟩ }) g)) ⟨r, rfl, plainR hpl hr⟩))
theorem arm_brk : StOk X .brk := fun b R stm ρ' f B hk w hex => hk.elim fun y h => toS h <| toK (someE hex) fun Q kk => wpQ_of (wpAny_Break (kk .brk R (.refl w.w) ⟨rfl, w, rfl⟩))
theorem arm_dead : StOk X .dead := fun b R stm ρ' f B hk w hex => noneE hex
theorem arm_asrt (K : XOk X) {e : PE} : StOk X (.asrt e) := fun b R stm ρ' f B hk w hex => hk.elim fun y h => toS h.1 <| bindE hex fun c hc hex => iteE hex fun hb he => toK he fun Q kk =>
  wpQ_of (wpAny_Assert_holds ((expOk K.e e).2 h.2 w.F hc fun S1 g => ⟨hb, KNext.to kk (GoS.of g) (w.go g) rfl⟩))
theorem ToK.from {ρ' : Nv} {f : Fl} {t : Sem Flow} {S1 : Ws} (g : Stp X.V R.S S1) (h : ToK X b { R with S := S1 } ρ' f t) {Q : Flow → Shared → Prop} (kk : ∀ fl R', GoS X.V R R' → FlR X.V b ρ' f fl R' → Q fl R'.S.s) : Wq X t Q S1 := h fun fl R' g' h' => kk fl R' ((GoS.of g).trans g') h'
theorem arm_iff (K : XOk X) {t : PE} {a c : PSs} (ha : SsOk X a) (hc : SsOk X c) : StOk X (.iff t a c) := fun b R stm ρ' f B hk w hex => hk.elim fun y h => toS h.1 <| bindE hex fun q hq hex => fun Q kk =>
  wpQ_If ((expOk K.e t).2 h.2.1 w.F hq fun S1 g => match q with
    | true => (ha B h.2.2.1 (w.go g) hex).from g kk
    | false => (hc B h.2.2.2 (w.go g) hex).from g kk)
theorem ss_nil : SsOk X .nil := fun b R stm ρ' f B hk w hex => (show stm = [] from hk).symm ▸ toK (someE hex) fun Q kk => wpQ_of (wpAny_execs_nil (KNext.to kk (.refl w.w) w rfl))
theorem ss_cons {p : PS} {r : PSs} (hp : StOk X p) (hr : SsOk X r) : SsOk X (.cons p r) := fun b R stm ρ' f B hk w hex => hk.elim fun y h => h.1.symm ▸ bindE hex fun a ha hex => fun Q kk =>
  wpQ_execs_cons (hp B h.2.1 w ha fun fl R1 g h1 => match a, h1, hex with
    | (ρ1, .next), h1, hex => h1.1.symm ▸ hr B h.2.2 h1.2.1 (h1.2.2.symm ▸ hex) fun fl R' g' h' => kk fl R' (g.trans g') h'
    | (ρ1, .brk), h1, hex => h1.1.symm ▸ kk .brk R1 g (by cases hex; exact ⟨rfl, h1.2⟩)
    | (ρ1, .ret v), h1, hex => h1.elim fun r q => q.1.symm ▸ kk (.ret r) R1 g (by cases hex; exact ⟨r, rfl, q.2⟩))
structure TurnOk (X : Xc) (b : Bs) (R R1 : Rs) (nx : Nv → Option (Nv × Fl)) (ρ' : Nv) (f : Fl) (Nx : Rs → Prop) (Q : Flow → Shared → Prop) : Prop where
  n : ∀ R2, GoS X.V R1 R2 → Wst X.V b R2 → nx R2.ρ = some (ρ', f) → Nx R2
  k : ∀ fl R', GoS X.V R1 R' → FlR X.V b ρ' f fl R' → Q fl R'.S.s
theorem turn_out {bd : PSs} {body : List Stmt} {nx : Nv → Option (Nv × Fl)} {ρ' : Nv} {f : Fl} {Nx : Rs → Prop} {Q : Flow → Shared → Prop} {W : Flow → Shared → Prop} (hb : SsOk X bd) (B : FnB b) (hk : IsSs X.V.N bd b.sc body) (w : Wst X.V b R')
    (hex : ((exs X.V.Φ X.V.Γ X.Ξ X.n bd R'.ρ).bind fun a => match a with | (ρ1, f1) => match f1 with | .next => nx ρ1 | .brk => some (ρ1, .next) | .ret x => some (ρ1, .ret x)) = some (ρ', f)) (T : TurnOk X b R R' nx ρ' f Nx Q)
    (wn : ∀ R2, Nx R2 → W .next R2.S.s) (wb : ∀ s, Q .next s → W .brk s) (wr : ∀ v s, Q (.ret v) s → W (.ret v) s) : Wq X (execs body b.env) W R'.S :=
  bindE hex fun a ha hex => hb B hk w ha fun fl R2 g h => match a, h, hex with
    | (ρ1, .next), h, hex => h.1.symm ▸ wn R2 (T.n R2 g h.2.1 (h.2.2.symm ▸ hex))
    | (ρ1, .brk), h, hex => h.1.symm ▸ wb _ (T.k .next R2 g (by cases hex; exact ⟨rfl, h.2⟩))
    | (ρ1, .ret v), h, hex => h.elim fun r q => q.1.symm ▸ wr r _ (T.k (.ret r) R2 g (by cases hex; exact ⟨r, rfl, q.2⟩))
def WI (X : Xc) (b : Bs) (R0 : Rs) (t : PE) (bd : PSs) (ρ' : Nv) (f : Fl) (n : Nat) (s : Shared) : Prop := ∃ R, s = R.S.s ∧ GoS X.V R0 R ∧ Wst X.V b R ∧ whileL (evB X.V.Φ X.V.Γ t) (exs X.V.Φ X.V.Γ X.Ξ X.n bd) n R.ρ = some (ρ', f)
theorem while_turn (K : XOk X) {t : PE} {bd : PSs} {te : Expr} {body : List Stmt} {ρ' : Nv} {f : Fl} {n : Nat} {Q : Flow → Shared → Prop} (hb : SsOk X bd) (B : FnB b) (k1 : IsE X.V.N t b.sc te) (k2 : IsSs X.V.N bd b.sc body) (g : GoS X.V R0 R) (w : Wst X.V b R)
    (e : whileL (evB X.V.Φ X.V.Γ t) (exs X.V.Φ X.V.Γ X.Ξ X.n bd) n R.ρ = some (ρ', f)) (kk : ∀ fl R', GoS X.V R0 R' → FlR X.V b ρ' f fl R' → Q fl R'.S.s) : Wp X.V (isTrue te b.env (eval te b.env)) (fun b' s₂ => match b' with
      | false => Q .next s₂
      | true => wpQ X.q X.V.M X.V.A (execs body b.env) (fun fl s₃ => match fl with
          | .next | .cont => ∃ m, m < n ∧ WI X b R0 t bd ρ' f m s₃
          | .brk => Q .next s₃
          | .ret v => Q (.ret v) s₃) s₂) (fun _ _ => False) R.S :=
  match n, e with
  | n + 1, e => bindE e fun c hc e => (expOk K.e t).2 k1 w.F hc fun S1 g1 => match c, e with
    | false, e => kk .next { R with S := S1 } (g.trans (GoS.of g1)) (by cases e; exact ⟨rfl, w.go g1, rfl⟩)
    | true, e => turn_out (R := R) (R' := { R with S := S1 }) (Q := Q) (Nx := fun R2 => ∃ m, m < n + 1 ∧ WI X b R0 t bd ρ' f m R2.S.s) hb B k2 (w.go g1) e ⟨fun R2 g2 w2 e2 => ⟨n, Nat.lt_succ_self n, R2, rfl, (g.trans (GoS.of g1)).trans g2, w2, e2⟩, fun fl R' g2 h => kk fl R' ((g.trans (GoS.of g1)).trans g2) h⟩ (fun _ h => h) (fun _ h => h) fun _ _ h => h
theorem arm_whl (K : XOk X) {t : PE} {bd : PSs} (hb : SsOk X bd) : StOk X (.whl t bd) := fun b R stm ρ' f B hk w hex => hk.elim fun y h => toS h.1 fun Q kk =>
  wpQ_While (codeQ_while (WI X b R t bd ρ' f) (fun n s h' => h'.elim fun R' q => q.1.symm ▸ while_turn K hb B h.2.1 h.2.2 q.2.1 q.2.2.1 q.2.2.2 kk) X.n ⟨R, rfl, .refl w.w, w, hex⟩)
def FI (X : Xc) (b : Bs) (Y : Fx) (R0 : Rs) (Z0 : Fz) (F : List AV → Nv → Option (Nv × Fl)) (items : List AV) (ρ' : Nv) (f : Fl) (n : Nat) (s : Shared) : Prop := ∃ i R, n = items.length + 1 - i ∧ s = R.S.s ∧ i ≤ items.length ∧ Lp X.V b Y R0 R i ∧ (∀ a o, Z0 a = some o → R.S.Z a = some o) ∧ F (items.drop i) R.ρ = some (ρ', f)
theorem for_turn (K : XOk X) {t : Tgt} {bd oe : PSs} {tg : Expr} {body orelse : List Stmt} {items : List AV} {tup : Bool} {ρ' : Nv} {f : Fl} {i : Nat} {Y : Fx} {Z0 : Fz} {Q : Flow → Shared → Prop} (hb : SsOk X bd) (ho : SsOk X oe) (B : FnB b) (kt : IsT X.V.N b.sc t tg) (k1 : IsSs X.V.N bd b.sc body) (k2 : IsSs X.V.N oe b.sc orelse)
    (Fd : Feed X.V tg Z0 items tup Y) (hz : ∀ a o, Z0 a = some o → R.S.Z a = some o) (htup : tup = true → ∀ k, t ≠ .one k) (hi : i ≤ items.length) (L : Lp X.V b Y R0 R i) (e : forL (exs X.V.Φ X.V.Γ X.Ξ X.n bd) (exs X.V.Φ X.V.Γ X.Ξ X.n oe) t (items.drop i) R.ρ = some (ρ', f)) (kk : ∀ fl R', GoS X.V R0 R' → FlR X.V b ρ' f fl R' → Q fl R'.S.s) :
    Wp X.V (pyNext (.ref Y.I)) (fun r s₁ => match r with
      | none => wpQ X.q X.V.M X.V.A (execs orelse b.env) Q s₁
      | some v => wpAny X.V.M X.V.A (letOwnedTupleGo tg (.ref Y.I) v) (fun _ s₁' => wpAny X.V.M X.V.A (assign tg b.env v) (fun _ s₂ => wpQ X.q X.V.M X.V.A (execs body b.env) (fun fl s₃ => match fl with
            | .next | .cont => ∃ m, m < items.length + 1 - i ∧ FI X b Y R0 Z0 (forL (exs X.V.Φ X.V.Γ X.Ξ X.n bd) (exs X.V.Φ X.V.Γ X.Ξ X.n oe) t) items ρ' f m s₃
            | .brk => Q .next s₃
            | .ret v => Q (.ret v) s₃) s₂) (fun _ _ => False) s₁') (fun _ _ => False) s₁) (fun _ _ => False) R.S := by
  rcases Nat.lt_or_eq_of_le hi with hlt | he
  · rw [List.drop_eq_getElem_cons hlt] at e
    refine bindE e fun ρ1 hb1 e => L.turn (Q := fun _ s₂ => wpQ X.q X.V.M X.V.A (execs body b.env) _ s₂) Fd hz K.e.room K.e.nv kt B.wr htup (List.getElem?_eq_getElem hlt) hb1 (fun v s h => h) fun s' m' _ g1 w1 st => ?_
    exact turn_out (R := R) (R' := R.bd s' m' ρ1) (Q := Q) (Nx := fun R2 => ∃ m, m < items.length + 1 - i ∧ FI X b Y R0 Z0 (forL (exs X.V.Φ X.V.Γ X.Ξ X.n bd) (exs X.V.Φ X.V.Γ X.Ξ X.n oe) t) items ρ' f m R2.S.s) hb B k1 w1 e
      ⟨fun R2 g2 w2 e2 => ⟨_, Nat.sub_lt_sub_left (Nat.lt_succ_of_lt hlt) (Nat.lt_succ_self i), i + 1, R2, rfl, rfl, hlt, L.next Fd g1 st g2 w2 (fun h => absurd (h.symm.trans B.o) fnt), fun a o h => g2.mono a o (hz a o h), e2⟩, fun fl R' g2 h => kk fl R' (g1.trans g2) h⟩ (fun _ h => h) (fun _ h => h) fun _ _ h => h
  · subst he
    rw [List.drop_length] at e
    exact L.done Fd fun h' tk g w => ho B k2 w e fun fl R' g' h => kk fl R' (g.trans g') h
def ForIt (V : Vc) (it : PI) : Prop := ∀ ⦃f iter S ρ items tg⦄, IsI V.N it f.sc iter → TgS tg → FrA V f S ρ → evL V.Φ V.Γ it ρ = some items → (∀ p, it = .enum p → ∃ es n q, tg = Expr.Tuple es n q) → ∀ ⦃Q E : Value → Shared → Prop⦄,
  (∀ x S' tup Z0, Stp V S S' → (tup = true → ∃ p, it = .enum p) → (∀ ⦃Q E : Value → Shared → Prop⦄, (∀ Y S2, Feed V tg Z0 items tup Y → (∀ a o, Z0 a = some o → S2.Z a = some o) → Start V true S S2 Y → Q (.ref Y.I) S2.s) → Wp V (pyIter x) Q E S') → Q x S'.s) → Wp V (eval iter f.env) Q E S
theorem Start.back {S2 : Ws} {Y : Fx} (w : Sd V S) (g : Stp V S S1) (st : Start V true S1 S2 Y) : Start V true S S2 Y :=
  have bk : ∀ b, S1.s.heap.get? b = none → S.s.heap.get? b = none := fun b h => Go.none g (WOk.ne g.w h) h
  ⟨g.trans st.g, fun b hb => (st.wr b hb).imp (bk b) fun z => z, fun b hb => (st.fp b hb).imp (fun z => z) (·.imp (bk b) fun z => z), st.s0⟩
theorem for_it_of {it : PI} (h : ItOk V (evP V.Φ V.Γ it) it true) (e : ∀ ρ, evL V.Φ V.Γ it ρ = evP V.Φ V.Γ it ρ) : ForIt V it := fun f iter S ρ items tg hk ht F hev _ Q E k => h hk ht F ((e ρ).symm.trans hev) fun x S' g hf => k x S' false S'.Z g nofun fun Q E k2 => hf fun Y S2 Fd st => k2 Y S2 Fd st.g.mono (st.back F.w g)
theorem enum_tgt {N : Nm} {sc : Sc} {t : Tgt} {tg : Expr} (k1 : IsT N sc t tg) (k3 : ∀ k, t ≠ .one k) : ∃ es n q, tg = Expr.Tuple es n q := by
  cases t with
  | one k => exact absurd rfl (k3 k)
  | two k j => obtain ⟨e1, e2, n, p, e, _⟩ := k1; exact ⟨_, n, p, e⟩
theorem arm_loop (K : XOk X) {t : Tgt} {it : PI} {bd oe : PSs} (hb : SsOk X bd) (ho : SsOk X oe) (hit : ForIt X.V it) : StOk X (.loop t it bd oe) := fun b R stm ρ' f B hk w hex => hk.elim fun y h => toS h.1 <| bindE hex fun items hi hex => fun Q kk =>
  wpQ_For (hit h.2.2.1 h.2.1.s w.F hi (fun p e => enum_tgt h.2.1 (h.2.2.2.1 p · e)) fun x S1 tup Z0 g1 htup hf => hf fun Y S2 Fd hz st =>
    codeQ_for (FI X b Y R Z0 (forL (exs X.V.Φ X.V.Γ X.Ξ X.n bd) (exs X.V.Φ X.V.Γ X.Ξ X.n oe) t) items ρ' f) (fun n s h' => h'.elim fun i q => q.elim fun R' q => q.1.symm ▸ q.2.1.symm ▸ for_turn K hb ho B h.2.1 h.2.2.2.2.1 h.2.2.2.2.2 Fd q.2.2.2.2.1 (fun e k => (htup e).elim fun p hp => h.2.2.2.1 p k hp) q.2.2.1 q.2.2.2.1 q.2.2.2.2.2 kk)
      (items.length + 1) ⟨0, { R with S := S2 }, rfl, rfl, Nat.zero_le _, Lp.start (tg := y.1) (items := items) (tup := tup) w st, hz, hex⟩) (set_fold h.2.2.1)
end
end Mine
namespace Mine
open PySem PySem.W PyProof.Rows PySem.Calls
open PySem.Sem (wp)
theorem any_clean {f : Code × Pos → Bool} (hf : ∀ c p, c.isGuard = false → decC c = false → f (c, p) = false) : ∀ {l : List (Code × Pos)}, guardsOf l = [] → CleanL l → l.any f = false
  | [], _, _ => rfl
  | (c, p) :: l, hg, hc => by
    rw [guardsOf_cons] at hg
    obtain ⟨h1, h2⟩ := List.append_eq_nil_iff.mp hg
    have hcg : c.isGuard = false := by
      cases q : c.isGuard with
      | false => rfl
      | true => simp [Code.guards, q] at h1
    rw [List.any_cons, hf c p hcg (hc _ (List.mem_cons_self ..)), any_clean hf h2 (fun x hx => hc x (List.mem_cons_of_mem _ hx))]
    rfl
theorem guard_ne {id s : String} (h : guardIds.contains id = false) (hs : guardIds.contains s = true) : ¬ id = s := fun e => absurd (hs.symm.trans (e ▸ h)) Bool.noConfusion
theorem exportedQ {M : Model} {A : Around} {s : Shared} {a : Addr} {Q : Bool → Shared → Prop} (hg : A.guards = some []) (h : Q false s) : wpQ true M A (Builtin.Bytes.exported (.ref a)) Q s := fun Γ p h1 h0 => by
  have hgs : guardsOf ((Γ.code, p) :: Γ.below) = [] := by rw [guardsOf_cons]; exact h1.2.2.2.1 [] hg
  refine (show Q (List.any ((Γ.code, p) :: Γ.below) _) s from (any_clean (fun c p hcg hdc => ?_) hgs ((show Cln true Γ.code Γ.below from h0).cons rfl)).symm ▸ h)
  cases c with
  | builtin id args =>
    have hcg : guardIds.contains id = false := hcg
    delta Builtin.Bytes.exported.match_1 Builtin.Bytes.exported._sparseCasesOn_1
    refine (dif_neg (guard_ne (s := "bytearray.__contains__") hcg (by decide +kernel))).trans ?_
    refine (dif_neg (guard_ne (s := "bytearray.__mod__") hcg (by decide +kernel))).trans ?_
    refine (dif_neg (guard_ne (s := "bytearray.__rmod__") hcg (by decide +kernel))).trans ?_
    refine (dif_neg (guard_ne (s := "_struct.pack_into.held") hcg (by decide +kernel))).trans ?_
    refine (dif_neg (guard_ne (s := "bytearray.find.held") hcg (by decide +kernel))).trans ?_
    obtain ⟨pos, kw⟩ := args
    cases pos with
    | nil => rfl
    | cons v tl => exact (congrArg (Builtin.Bytes.sameRef v (.ref a) && ·) (show Builtin.Bytes.decodersThatHold.contains id = false from hdc)).trans (Bool.and_false _)
  | _ => rfl
section
variable {C : Cfg} {A : Around} {s : Shared}
theorem ba_mro : mroOf (.type "bytearray") = pure [.type "bytearray", .type "object"] := by rw [mroOf_type]; kernel_rfl
theorem ba_lookup_new : typeLookup (.type "bytearray") "__new__" = pure (some (.builtin "bytearray.__new__")) := by rw [typeLookup_type, builtinLookup_eq_fast]; kernel_rfl
theorem ba_slot_init : Slot "bytearray" "__init__" "bytearray.__init__" :=
  .of (owner := "bytearray") (n := "__init__") (by rw [typeLookup_type, builtinLookup_eq_fast]; kernel_rfl) (by decide +kernel) (by decide +kernel) (by decide +kernel)
    (by first | exact .inl (by decide +kernel) | exact .inr (by decide +kernel)) (by rw [isSubtype_type]; kernel_rfl)
theorem ba_called : TypeCalled "bytearray" "bytearray.__new__" "bytearray.__init__" :=
  ⟨by decide +kernel, by decide +kernel, ⟨_, _, ba_mro⟩, madeBy_type ba_mro ba_lookup_new (by decide +kernel), by decide +kernel, by rw [isSubtype_type]; kernel_rfl, ba_slot_init⟩
theorem ba_typeCall (a : Value) : checkTypeCall "bytearray" ⟨[a], []⟩ = pure () := by kernel_rfl
theorem ba_newCall (a : Value) : checkBuiltinCall "bytearray.__new__" ⟨[.type "bytearray", a], []⟩ = pure () := by kernel_rfl
theorem ba_entry_new : entryFor table "bytearray.__new__" = some Builtin.«list.__new__» :=
  entryFor_alias (id' := "list.__new__") (by kernel_rfl) (by first | rfl | decide +kernel | (unfold String.splitOn; simp +decide [String.splitOnAux])) (by decide +kernel) (by kernel_rfl)
theorem ba_plain_new : plainId "bytearray.__new__" = true := by decide +kernel
theorem ba_entry_init : entryFor table "bytearray.__init__" = some Builtin.«bytearray.__init__» := by first | exact entryFor_of_fast (by kernel_rfl) | exact entryFor_of_tree (by kernel_rfl)
theorem ba_args_init (a b : Value) : argsOk "bytearray.__init__" ⟨[a, b], []⟩ := by unfold argsOk; kernel_rfl
set_option maxRecDepth 1000000 in
set_option maxHeartbeats 4000000 in
theorem ba_owner_new : ("bytearray.__new__".splitOn ".__new__").headD "" = "bytearray" := by simp +decide [String.splitOn, String.splitOnAux]
theorem ba_bind (v : Value) : Builtin.Bytes.bindOptional "bytearray.__init__" "bytearray" ["source", "encoding", "errors"] [v] [] = pure [some v, none, none] := by kernel_rfl
theorem ba_code_new (a : Value) {Q₁ : Value → Shared → Prop} {E : Value → Shared → Prop}
    (h : Q₁ (.ref s.heap.objs.size) { s with heap := s.heap.push { cls := .type "bytearray", data := .bytearray #[] } }) :
    codeAny (model C.prog C.w) A (.call (.builtin "bytearray.__new__") ⟨[.type "bytearray", a], []⟩) (wants Q₁ E) s := by
  refine codeAny_of_tree ?_
  show wpAny _ A.in1 (do checkBuiltinCall "bytearray.__new__" ⟨[.type "bytearray", a], []⟩; again (.builtin "bytearray.__new__" ⟨[.type "bytearray", a], []⟩)) _ _ s
  refine wpAny_bind (wpAny_of_eq (ba_newCall a) (wpAny_pure ⟨plainId_quiet ba_plain_new _, codeAny_builtin_stack ba_entry_new rfl fun p st => ?_⟩))
  rw [Around.under_plainId ba_plain_new _]
  have hsub := ba_sub
  have hown := ba_owner_new
  obtain ⟨hp, g, d, tk, os⟩ := s
  simp only [hown]
  wp_walk
  exact h
theorem ba_init_plain : plainId "bytearray.__init__" = true := by decide +kernel
theorem q_if_false {α : Type} {M : Model} {A : Around} {s : Shared} {c : Bool} {a b : Sem α} {Q : α → Shared → Prop} (hc : c = false) (h : wpQ true M A b Q s) : wpQ true M A (if c = true then a else b) Q s := by
  subst hc
  exact h
theorem q_if_true {α : Type} {M : Model} {A : Around} {s : Shared} {c : Bool} {a b : Sem α} {Q : α → Shared → Prop} (hc : c = true) (h : wpQ true M A a Q s) : wpQ true M A (if c = true then a else b) Q s := by
  subst hc
  exact h
theorem q_if_neg {α : Type} {M : Model} {A : Around} {s : Shared} {c : Prop} [Decidable c] {a b : Sem α} {Q : α → Shared → Prop} (hc : ¬ c) (h : wpQ true M A b Q s) : wpQ true M A (if c then a else b) Q s := by
  rw [if_neg hc]; exact h
theorem ba_own {a : Addr} {M : Model} {A : Around} {s : Shared} {Q : Bool → Shared → Prop} {E : Value → Shared → Prop} (hT : s.TypeIs (.ref a) "bytearray") (h : Q false s) : wpAny M A (Builtin.Bytes.ownRelease (.ref a)) Q E s := by
  unfold Builtin.Bytes.ownRelease
  refine wpAny_bind (m := Builtin.Bytes.slotIsOwn (.ref a) "__release_buffer__") ?_
  unfold Builtin.Bytes.slotIsOwn
  refine wpAny_bind (wpAny_specialOf hT ba_release ?_)
  refine bm_if_false (by decide +kernel) ?_
  rw [show ("bytearray.__release_buffer__".dropRight ("__release_buffer__".length + 1)) = "bytearray" by decide +kernel]
  exact wpAny_isInstance hT ba_sub (wpAny_pure h)
theorem codeQ_builtin {prog : Program} {w : World} {id : String} {args : Args} {b : Builtin} {R : Flow → Shared → Prop} (hb : entryFor table id = some b) (hd : Builtin.Bytes.decodersThatHold.contains id = false)
    (h : wpQ true (model prog w) (A.under (.builtin id args)) (b args) (fun fin s' => match fin with | .done f => R f s' | .again c' => c'.quiet = true ∧ codeQ true (model prog w) A c' R s') s) :
    codeQ true (model prog w) A (.builtin id args) R s := by
  refine codeQ_of_tree hd ?_
  show wpQ true _ _ (match entryFor table id with | some b => b args | none => unsupported ((withoutEnding? id "#data").getD id)) _ s
  rw [hb]; exact h
theorem ba_newQ {k : Int} {t : Tok} {Q : Value → Shared → Prop} (hg : A.guards = some []) (h0 : 0 ≤ k) (h1 : k ≤ lim)
    (hQ : ∀ h' a tk, (∀ b o, s.heap.get? b = some o → h'.get? b = some o) → s.heap.get? a = none → h'.get? a = some { cls := .type "bytearray", data := .bytearray (bytesA (List.replicate k.toNat 0)) 0 } → Q (.ref a) { s with heap := h', toks := tk }) :
    wpQ true (model C.prog C.w) A (call (.type "bytearray") [.int k t]) Q s := by
  obtain ⟨c, tl, hmro⟩ := ba_called.mro
  have hmade := ba_called.made
  have hsub := ba_called.sub
  refine wpQ_call (codeQ_of_tree rfl ?_)
  show wpQ true _ _ (callAny (.type "bytearray") _) _ _
  refine wpQ_pure ⟨Code.quiet_builtin _ (by decide +kernel), codeQ_builtin F.entry_type_call (by decide +kernel) ?_⟩
  rw [Around.under_plain (weight_type_call_type "bytearray" [.int k t] []) rfl]
  unfold Builtin.«type.__call__»
  refine q_if_false (by decide) ?_
  refine q_if_false ba_called.canCreate ?_
  refine wpQ_bindA (wpAny_of_eq (ba_typeCall _) ?_)
  refine wpQ_bindA (wpAny_of_eq hmro ?_)
  refine q_if_false rfl ?_
  refine wpQ_bindA (wpAny_of_eq hmade ?_)
  refine wpQ_bindA (wpAny_pure ?_)
  refine wpQ_bind (wpQ_holding (wpQ_call (codeQ_of_any (codeAny_mono (ba_code_new (Q₁ := fun obj s₁ => obj = .ref s.heap.objs.size ∧ s₁ = { s with heap := s.heap.push { cls := .type "bytearray", data := .bytearray #[] } }) (E := fun _ _ => False) _ ⟨rfl, rfl⟩) fun r s₁ hr => ?_))))
  cases r with
  | error e => exact hr.elim
  | ok fl =>
  cases fl with
  | next => exact hr.elim
  | brk => exact hr.elim
  | cont => exact hr.elim
  | ret obj =>
  obtain ⟨rfl, rfl⟩ := hr
  refine ⟨_, rfl, _, rfl, ?_⟩
  have hS : (s.heap.push { cls := .type "bytearray", data := .bytearray #[] }).get? s.heap.objs.size = some { cls := .type "bytearray", data := .bytearray #[] 0 } := Heap.get?_push_size _ rfl
  have hT : ({ s with heap := s.heap.push { cls := .type "bytearray", data := .bytearray #[] } } : Shared).TypeIs (.ref s.heap.objs.size) "bytearray" := ⟨_, hS, rfl⟩
  refine wpQ_bindA (wpAny_isInstance hT ba_sub ?_)
  refine q_if_false rfl ?_
  refine wpQ_bind (wpQ_holding ?_)
  simp only [callSpecial?]
  refine wpQ_bindA (wpAny_specialOf hT ba_slot_init.lookup ?_)
  simp only [ba_slot_init.bind]
  refine wpQ_holding (wpQ_bindA (wpAny_pure (wpQ_bind (wpQ_call (codeQ_of_tree rfl ?_)))))
  show wpQ true _ A.in1.in1 (do checkBuiltinCall "bytearray.__init__" ⟨[.ref s.heap.objs.size, .int k t], []⟩; again (.builtin "bytearray.__init__" ⟨[.ref s.heap.objs.size, .int k t], []⟩)) _ _
  refine wpQ_bindA (ba_slot_init.check _ _ _ _ _ _ _ _ hT (ba_args_init _ _) (wpQ_pure ⟨plainId_quiet ba_init_plain _, codeQ_builtin ba_entry_init (by decide +kernel) ?_⟩))
  rw [Around.under_plainId ba_init_plain _]
  unfold Builtin.«bytearray.__init__»
  refine wpQ_bindA (ba_own hT ?_)
  refine q_if_false rfl ?_
  refine wpQ_bindA (wpAny_of_eq (ba_bind _) ?_)
  refine wpQ_bindA (wpAny_of_eq (a := ()) rfl ?_)
  refine wpQ_bindA (wpAny_of_eq (a := ()) rfl ?_)
  refine wpQ_bind (m := (Builtin.Bytes.exported (.ref s.heap.objs.size) <||> _)) ?_
  show wpQ true _ _ (Builtin.Bytes.exported (.ref s.heap.objs.size) >>= fun b => match toBool b with | true => pure b | false => _) _ _
  refine wpQ_bind (exportedQ hg ?_)
  show wpQ true _ _ (Builtin.Bytes.exportsOf (.ref s.heap.objs.size) >>= _) _ _
  refine wpQ_bindA ?_
  unfold Builtin.Bytes.exportsOf
  refine wpAny_bind (wpAny_load hS (wpAny_pure (wpQ_pure ?_)))
  refine q_if_false (by decide) ?_
  refine wpQ_bindA (wpAny_writeBa hS (Nat.zero_le _) fun h₁ e₁ hs₁ => ?_)
  refine wpQ_bindA (wpAny_of_eq (a := none) rfl ?_)
  refine q_if_false rfl ?_
  refine wpQ_bindA (m := (pure () : Sem Unit)) (wpAny_pure ?_)
  refine wpQ_bindA (wpAny_specialOf (T := "int") rfl int_index ?_)
  refine q_if_true rfl ?_
  refine wpQ_bindA (wpAny_attempt (wpAny_of_eq (rfl : asIndex (.int k t) = pure k) ?_))
  unfold lim at h1
  refine q_if_false (by simp only [Builtin.Bytes.fitsIndex, Bool.not_eq_false', Bool.and_eq_true, decide_eq_true_eq]; lia) ?_
  refine q_if_neg (by lia) ?_
  refine q_if_false (by simp; lia) ?_
  refine q_if_false (by unfold Builtin.Bytes.tooLong; rw [sizeLine_eq]; exact dF (by lia)) ?_
  refine wpQ_bindA (wpAny_rule ?_)
  have keep₁ : ∀ b o, s.heap.get? b = some o → h₁.get? b = some o := fun b o e => hs₁.extBut b o (fun q => by rw [q, get_none (Nat.le_refl _)] at e; cases e) (Heap.get?_push_of_some _ e)
  by_cases hk : k > 0
  · rw [if_pos hk]
    refine wpQ_bindA (wpAny_writeBa e₁ (by simp; rw [sizeLine_eq]; lia) fun h₂ e₂ hs₂ => ?_)
    have k₂ : ∀ b o, s.heap.get? b = some o → h₂.get? b = some o := fun b o e => hs₂.extBut b o (fun q => by rw [q, get_none (Nat.le_refl _)] at e; cases e) (keep₁ b o e)
    have e₃ : (Array.replicate k.toNat 0 : Array UInt8) = bytesA (List.replicate k.toNat 0) := by simp [bytesA]
    rw [e₃] at e₂
    exact wpQ_pure ⟨_, rfl, wpQ_pure (q_if_false rfl (wpQ_pure ⟨_, rfl, hQ _ _ _ k₂ (get_none (Nat.le_refl _)) e₂⟩))⟩
  · rw [if_neg hk]
    have hk0 : k.toNat = 0 := by lia
    have e₂ : h₁.get? s.heap.objs.size = some { cls := .type "bytearray", data := .bytearray (bytesA (List.replicate k.toNat 0)) 0 } := by rw [hk0]; simpa [bytesA] using e₁
    exact wpQ_pure ⟨_, rfl, wpQ_pure (q_if_false rfl (wpQ_pure ⟨_, rfl, hQ _ _ _ keep₁ (get_none (Nat.le_refl _)) e₂⟩))⟩
end
end Mine
namespace Mine
open PySem PySem.W PyProof.Rows PySem.Calls
section
variable {X : Xc} {V : Vc} {b : Bs} {R R' R0 : Rs} {S S1 : Ws} {k : Nat} {x y : AV} {v : Value}
theorem enumV_get : ∀ (xs : List AV) (a i : Nat) {x : AV}, xs[i]? = some x → (enumV a xs)[i]? = some (.tuple [.int ((a + i : Nat) : Int), x])
  | _ :: _, _, 0, _, h => (someE h : _ = _) ▸ rfl
  | _ :: r, a, i + 1, x, h => (enumV_get r (a + 1) i (x := x) h).trans (by rw [Nat.add_assoc, Nat.add_comm 1 i])
theorem enumV_length : ∀ (xs : List AV) (a : Nat), (enumV a xs).length = xs.length
  | [], _ => rfl
  | _ :: r, a => congrArg (· + 1) (enumV_length r (a + 1))
theorem mem3 {P : Addr → Prop} {a c d : Addr} (h1 : P a) (h2 : P c) (h3 : P d) : ∀ b ∈ [a, c, d], P b := fun b hb => (mCo hb).elim (fun q => q.symm ▸ h1) (two_mem h2 h3 b)
theorem enum_feeds {h' : Heap} {a : Addr} {xs : List AV} {vs : List Value} {n : Nat} {es : List Expr} {kx : Nat} {px : Pos} (hA : AOk 0 V.A) (w : Sd V S) (hz : S.Z a = some (tupO vs n)) (hl : RepL S.Z V.st xs vs) (hE : IsEnum h' (S.s.heap.objs.size + 1) S.s.heap.objs.size 0 .none) (hI : h'.IsTupleIter S.s.heap.objs.size a 0) (hk : ∀ b o, S.s.heap.get? b = some o → h'.get? b = some o) :
    ∃ Y : Fx, Y.I = S.s.heap.objs.size + 1 ∧ Feed V (Expr.Tuple es kx px) S.Z (enumV 0 xs) true Y ∧ (∀ b ∈ Y.wr, S.s.heap.get? b = none) ∧ (∀ b ∈ Y.fp, b ≠ V.C.P ∧ (S.s.heap.get? b = none ∨ S.Z b ≠ none)) ∧ Y.St 0 h' := by
  have hg := w.sub _ _ hz
  have halt := Heap.lt_size hg
  have hn1 := get_none (h := S.s.heap) (Nat.le_refl _)
  have hn2 := get_none (h := S.s.heap) (Nat.le_succ _)
  have W := WalksT.enumerateD (draws_tuple (C := V.C) (A := V.A.in1) hA.hand S.s.heap.objs.size a (Nat.ne_of_lt halt) vs.toArray) (S.s.heap.objs.size + 1) (Nat.succ_ne_self _) (fun hm => (mCo hm).elim (fun e => Nat.succ_ne_self _ e) fun hm => Nat.ne_of_gt (Nat.lt_succ_of_lt halt) (mSg hm)) (by simp)
  have KT := KTurns.ofWalksU (elts := es) (k := kx) (pos := px) W.toU
  rw [show vs.toArray.size = (enumV 0 xs).length from hl.length.trans (enumV_length xs 0).symm] at KT
  refine ⟨⟨_, _, _, _, _, _⟩, rfl, ⟨KT, W.self, fun i v h hP => ?_, fun i h st => mem3 (st.1.elim fun _ e => ⟨_, e⟩) (st.2.1.elim fun o e => ⟨o, e.1⟩) (st.2.2.elim fun o e => ⟨o, e.1⟩)⟩, two_mem hn2 hn1, mem3 ⟨WOk.ne w hn2, .inl hn2⟩ ⟨WOk.ne w hn1, .inl hn1⟩ ⟨w.pNe hg nofun, .inr fun q => noSome q hz⟩, ⟨_, hE⟩, hI, ⟨_, hk _ _ hg, rfl, n, rfl⟩⟩
  obtain ⟨T, vals, rfl, ⟨t, x, hx, rfl⟩, hT⟩ := hP
  obtain ⟨y, hy, hry⟩ := hl.get' (by simpa using hx)
  exact ⟨_, enumV_get xs 0 i hy, .inr ⟨T, _, _, rfl, rfl, hT, .cons ⟨t, by rw [Nat.zero_add]⟩ (.cons hry .nil)⟩, nofun⟩
theorem enum_ok {xs : List AV} {es : List Expr} {kx : Nat} {px : Pos} {Q E : Value → Shared → Prop} (hA : AOk 0 V.A) (w : Sd V S) (hr : RepV S.Z V.st (.tuple xs) v) (k : ∀ x S', Stp V S S' → (∀ ⦃Q E : Value → Shared → Prop⦄, (∀ Y, Feed V (Expr.Tuple es kx px) S.Z (enumV 0 xs) true Y → Start V true S S' Y → Q (.ref Y.I) S'.s) → Wp V (pyIter x) Q E S') → S'.Z = S.Z → Q x S'.s) : Wp V (call (.type "enumerate") [v]) Q E S :=
  hr.elim fun a h => h.elim fun vs h => h.elim fun n h => h.1 ▸ call_enumerate_tuple (w.sub _ _ h.2.1) fun h' hE hI hsz hk =>
    have g : Stp V S ⟨{ S.s with heap := h' }, S.Z⟩ := Go.keeps w hk (Nat.le_refl _)
    k _ _ g (fun Q E k2 => wpAny_pyIter_enum hE ((enum_feeds (es := es) (kx := kx) (px := px) hA w h.2.1 h.2.2 hE hI hk).elim fun Y q => q.1 ▸ k2 Y q.2.1 ⟨g, fun b hb => ⟨q.2.2.1 b hb, WOk.nz w (q.2.2.1 b hb)⟩, fun b hb => (q.2.2.2.1 b hb).imp (fun z => z) (·.imp (fun z => z) fun z _ => z), q.2.2.2.2⟩)) rfl
theorem enum_blt : (("enumerate" : Str), Value.type "enumerate") ∈ bltV := .tail _ (.tail _ (.tail _ (.tail _ (.tail _ (.tail _ (.tail _ (.head _)))))))
theorem for_it_enum (K : Env0 V) (p : PE) : ForIt V (.enum p) := fun f iter S ρ items tg hk ht F hev htg Q E kk => by
  obtain ⟨es, kx, px, rfl⟩ := htg p rfl
  obtain ⟨q, e, p', rfl, k1, k2, k3⟩ := hk
  show wpAny _ V.A (do callWith p' (← eval (.Name "enumerate" q) f.env) [] (backTo p' (starEach [e] f.env)) []) Q E S.s
  exact bindE hev fun y hy hev => mapE hev fun xs hxs he => wpAny_bind (name_bl K.cfg F k1 enum_blt ((one_arg k2).symm ▸ PySem.callWith_type rfl (Calls.evalArgs_plain (spliced_cons ((expOk K p).1 k3 F (hy.trans (congrArg some (asTE hxs))) fun r S1 g1 hr => spliced_nil (enum_ok (es := es) (kx := kx) (px := px) K.room g1.w hr fun x S2 g2 hf hZ =>
    kk x S2 true S1.Z (g1.trans g2) (fun _ => ⟨p, rfl⟩) fun Q E k2 => hf fun Y Fd st => k2 Y S2 (he ▸ Fd) (fun a o h => hZ.symm ▸ h) (st.back F.w g1)))))))
theorem forIt (K : Env0 V) : ∀ it : PI, ForIt V it
  | .ex p => for_it_of (itOk K (.ex p)).2 fun ρ => rfl
  | .range es => for_it_of (itOk K (.range es)).2 fun ρ => rfl
  | .enum p => for_it_enum K p
theorem swT {es : List Expr} {a : Nat} {p : Pos} {v : Expr} {line : Nat} {env : Env} : swapsWithSole [.Tuple es a p] v line env = pure false := by
  apply @Expr.casesOn (fun v => swapsWithSole [.Tuple es a p] v line env = pure false) v <;> intros <;> exact Eq.refl (pure false)
theorem noSwap (v : Expr) : tupB v = true → ∀ es a p env, swappedStores [.Tuple es a p] v env = pure none := by
  apply @Expr.casesOn (fun v => tupB v = true → ∀ es a p env, swappedStores [.Tuple es a p] v env = pure none) v <;> intros <;> first | exact Eq.refl (pure none) | exact absurd (by assumption) fnt
theorem bind_comm {ρ : Nv} {k j : Nat} {x y : AV} (hkj : k ≠ j) (hx : ∀ i, x ≠ .app i) (hy : ∀ i, y ≠ .app i) : (ρ.bind k x).bind j y = (ρ.bind j y).bind k x := funext fun i => by
  have un : ∀ {k z}, (∀ i, z ≠ .app i) → unApp k z = some z := fun {k z} h => by
    cases z with
    | app i => exact absurd rfl (h i)
    | _ => rfl
  unfold Nv.bind
  by_cases h1 : i = j
  · subst h1
    rw [if_pos rfl, if_neg (Ne.symm hkj), if_pos rfl]
    exact (un hy).symm
  · rw [if_neg h1, if_neg h1]
    by_cases h2 : i = k
    · rw [if_pos h2, if_pos h2]
      exact un hx
    · rw [if_neg h2, if_neg h2]
      cases ρ i with
      | none => rfl
      | some z =>
        cases z with
        | app q =>
          show (if q = k then none else some (AV.app q)).bind (unApp j) = (if q = j then none else some (AV.app q)).bind (unApp k)
          by_cases h3 : q = k <;> by_cases h4 : q = j
          · rw [if_pos h3, if_pos h4]; rfl
          · rw [if_pos h3, if_neg h4]; exact (if_pos h3).symm
          · rw [if_neg h3, if_pos h4]; exact if_pos h4
          · rw [if_neg h3, if_neg h4]; exact (if_neg h4).trans (if_neg h3).symm
        | _ => rfl
theorem iteP {α : Type} {P : α → Prop} {c : Prop} [Decidable c] {a b : α} (h1 : P a) (h2 : ¬ c → P b) : P (if c then a else b) := Classical.byCases (fun h => (if_pos h : (if c then a else b) = a).symm ▸ h1) fun h => (if_neg h : (if c then a else b) = b).symm ▸ h2 h
theorem fm2 {α β : Type} {f : α → Option β} {a b : α} (h : ([a, b].filterMap f).length = 2) : ∃ x y, f a = some x ∧ f b = some y ∧ [a, b].filterMap f = [x, y] := by
  cases h1 : f a with
  | none => rw [List.filterMap_cons_none h1] at h; exact absurd (h ▸ List.length_filterMap_le f [b] : 2 ≤ 1) (by decide)
  | some x =>
    rw [List.filterMap_cons_some h1] at h ⊢
    cases h2 : f b with
    | none => rw [List.filterMap_cons_none h2] at h; cases h
    | some y => exact ⟨x, y, rfl, rfl, by rw [List.filterMap_cons_some h2]; rfl⟩
theorem or_f {a b : Bool} (h : ¬ (a || b) = true) : a = false := by
  cases a with
  | false => rfl
  | true => exact absurd rfl h
theorem swap_two {env : Env} {n1 n2 : Str} {p1 p2 p q : Pos} {a m : Nat} {vs : List Expr} (h : vs.all (foldedForSure 8) = true ∨ vs.all (constantsAlone 8) = false) :
    swappedStores [.Tuple [.Name n1 p1, .Name n2 p2] a p] (.Tuple vs m q) env = pure none ∨ swappedStores [.Tuple [.Name n1 p1, .Name n2 p2] a p] (.Tuple vs m q) env = pure (some [n1, n2]) := by
  unfold swappedStores
  refine iteP (P := fun z => z = pure none ∨ z = pure (some [n1, n2])) (.inl rfl) fun _ => iteP (P := fun z => z = pure none ∨ z = pure (some [n1, n2])) (.inl rfl) fun _ => iteP (P := fun z => z = pure none ∨ z = pure (some [n1, n2])) (.inl rfl) fun h3 => iteP (P := fun z => z = pure none ∨ z = pure (some [n1, n2])) (.inl rfl) fun h1 => .inr ((if_neg (h.resolve_left h1 ▸ fnt)).trans ?_)
  obtain ⟨x, y, e1, e2, e⟩ := fm2 (bne_eq_false_iff_eq.mp (or_f h3))
  exact iteE e1 fun _ e1 => iteE e2 fun _ e2 => congrArg (fun z => pure (some z)) (e.trans (e1 ▸ e2 ▸ rfl))
theorem RepV.varZ {S S' : Ws} {ad : Nat → Addr} {k : Nat} (r : RepV S.Z V.st x v) (hz : S'.Z = S.Z) : VarR V ad S' k x v := (hz ▸ r : RepV S'.Z V.st x v).var
theorem asgT_swap (K : XOk X) (B : FnB b) {k j : Nat} {n1 n2 : Str} {q1 q2 p p' : Pos} {a : Nat} {e : PE} {v : Expr} {c : AV × AV} {Q : Flow → Shared → Prop} (w : Wst X.V b R) (k1 : X.V.N.vars[k]? = some n1) (k2 : wrOk b.sc n1 = true) (k3 : X.V.N.vars[j]? = some n2) (k4 : wrOk b.sc n2 = true) (hv : IsE X.V.N e b.sc v) (hkj : k ≠ j)
    (hx : ev X.V.Φ X.V.Γ e R.ρ = some (.tuple [c.1, c.2])) (hs : swappedStores [.Tuple [.Name n1 q1, .Name n2 q2] a p] v b.env = pure (some [n1, n2])) (kk : KNext X b R ((R.ρ.bind k c.1).bind j c.2) Q) : Wq X (exec (.Assign [.Tuple [.Name n1 q1, .Name n2 q2] a p] v p') b.env) Q R.S :=
  wpQ_of (Assign_Tuple_swapped (hs := swT) (hw := hs) ((expOk K.e e).1 hv w.F hx fun r S1 g hr => by
    obtain ⟨T, us, m, rfl, hz, u1, l1, rfl, r1, u2, l2, rfl, r2, rfl⟩ := hr
    refine unpackItems_tuple (items := #[u1, u2]) K.e.room.hand ⟨_, g.w.sub _ _ hz, rfl, m, rfl⟩ fun h' he => ?_
    have g1 : Stp X.V S1 ⟨{ S1.s with heap := h' }, S1.Z⟩ := Go.keeps g.w (fun b o e => he b o (Nat.ne_of_lt (Heap.lt_size e)) e) (Nat.le_refl _)
    have w1 := (w.go g).go g1
    show wpAny _ X.V.A (do holding [u1] (bindName b.env n2 u2); (do holding [] (bindName b.env n1 u1); pure ())) _ _ _
    refine wpAny_bind (wpAny_holding (wpAny_bindName (w1.store (v := u2) K.e.nv k3 (B.wr _ k4).1 (B.wr _ k4).2 (r2.varZ (S := S1) rfl) (fun _ _ => rfl) (own_no r2.nown) fun h2 t2 m2 z2 => ?_)))
    refine wpAny_bind (wpAny_holding (wpAny_bindName (z2.2.store (v := u1) K.e.nv k1 (B.wr _ k2).1 (B.wr _ k2).2 (r1.varZ (S := S1) rfl) (fun _ _ => rfl) (own_no r1.nown) fun h3 t3 m3 z3 => wpAny_pure ?_)))
    exact KNext.to kk ((GoS.of (g.trans g1)).trans (z2.1.trans z3.1)) z3.2 (bind_comm (Ne.symm hkj) r2.napp r1.napp)))
theorem arm_asgT (K : XOk X) {k j : Nat} {e : PE} : StOk X (.asgT k j e) := fun b R stm ρ' f B hk w hex => hk.elim fun y h => toS h.1 <| bindE hex fun x hx hex => mapE hex fun ρ1 hb he => toK he fun Q kk => bindE hb fun xs hxs hb' => mapE hb' fun c hc he' => by
  have plain : swappedStores [.Tuple [y.1, y.2.1] y.2.2.1 y.2.2.2.1] y.2.2.2.2.1 b.env = pure none → Wq X (exec (.Assign [.Tuple [y.1, y.2.1] y.2.2.1 y.2.2.2.1] y.2.2.2.2.1 y.2.2.2.2.2) b.env) Q R.S := fun hs =>
    wpQ_asg swT hs rfl (wpQ_of ((expOk K.e e).1 h.2.2.2.2 w.F hx fun r S1 g hr => tgt_ok (nm := b.sc) (t := .two k j) K.e.room K.e.nv (w.go g) ⟨y.1, y.2.1, _, _, rfl, h.2.1, h.2.2.1⟩ B.wr nofun (.inl ((asTE' hxs hc).symm ▸ (asTE' hxs hc ▸ hr : Rp X.V S1 (.tuple [c.1, c.2]) r))) hb fun s' m' g' w' => KNext.to kk ((GoS.of g).trans g') w' rfl))
  rcases h.2.2.2.1 with h4 | ⟨z, h4, h5, h6⟩
  · exact plain (noSwap _ h4 ..)
  · obtain ⟨n1, q1, e1, a1, a2⟩ := h.2.1
    obtain ⟨n2, q2, e2, a3, a4⟩ := h.2.2.1
    have hs := swap_two (env := b.env) (n1 := n1) (n2 := n2) (p1 := q1) (p2 := q2) (p := y.2.2.2.1) (q := z.2.2) (a := y.2.2.1) (m := z.2.1) h6
    rw [← h4, ← e1, ← e2] at hs
    rcases hs with hs | hs
    · exact plain hs
    · rw [e1, e2] at hs ⊢
      exact asgT_swap K B w a1 a2 a3 a4 h.2.2.2.2 h5 (asTE' hxs hc ▸ hx) hs (he' ▸ kk)
theorem wpAny_clean {α : Type} {q : Bool} {M : Model} {A : Around} {s : Shared} {t : Sem α} {Q : α → Shared → Prop} (hq : q = true) (h : wpQ true M A t Q s) : wpQ q M A t Q s := hq ▸ h
theorem callWithQ {q : Bool} {M : Model} {A : Around} {s : Shared} {pos : Pos} {a : Addr} {o : Obj} {fd : FuncData} {args : List (Bool × Sem Value)} {Q : Value → Shared → Prop} (hp : PlA M A args)
    (h : wpAny M A (spliced args) (fun vs s₁ => (s₁.heap.get? a = some o ∧ o.data = .func fd) ∧ wpQ q M A (call (.ref a) vs) Q s₁) (fun _ _ => False) s) : wpQ q M A (callWith pos (.ref a) [] args []) Q s := by
  unfold callWith
  refine wpQ_bindA (wpAny_holding (hp.go (wpAny_mono h (fun vs s₁ h₁ => wpQ_bindA (wpAny_standAt ?_)) fun _ _ e => e)))
  have tail : ∀ {t : Sem Value}, wpQ q M A t Q s₁ → wpQ q M A (t >>= fun r => holding [r] point >>= fun _ => pure r) Q s₁ :=
    fun ht => wpQ_bind (wpQ_mono ht fun r s₂ hr => wpQ_bindA (wpAny_holding (wpAny_point (wpQ_pure hr))))
  rw [hp.any]
  refine wpQ_bindA (m := keeperOf (.ref a)) ?_
  show wpAny _ _ (load a >>= fun o => _) _ _ s₁
  refine wpAny_bind (wpAny_load h₁.1.1 ?_)
  rw [h₁.1.2]
  refine wpAny_pure ?_
  show wpQ q M A (if args.length + 2 * ([] : List (Option Str × Sem Value)).length > 30 then _ else _) Q s₁
  split
  · exact tail h₁.2
  · exact tail (wpQ_keep h₁.2)
theorem arm_callX (K : XOk X) {k f : Nat} {es : PEs} : StOk X (.callX k f es) := fun b R stm ρ' fl B hk w hex => hk.elim fun y h => toS h.1 <| bindE hex fun F hF hex => bindE hex fun x hx hex => iteE hex fun hpl he => toK he fun Q kk => bindE hx fun vs hvs hx => bindE hvs fun xs hxs hp =>
  have hp := plains_some hp
  (K.fn F hF f vs x hx).elim fun id q => q.elim fun a q => q.elim fun o q => q.elim fun fd q => wpQ_asg rfl rfl rfl (show wpQ X.q _ X.V.A (do callWith y.2.2.2.2.2.1 (← eval (.Name y.2.2.1 y.2.2.2.1) b.env) [] (backTo y.2.2.2.2.2.1 (starEach y.2.2.2.2.1 b.env)) []) _ R.S.s from
    wpQ_bindA (name_gl K.e.cfg w.F h.2.2.2.2.1 ((eqFn h.2.2.2.1 q.1) ▸ q.2.1) (callWithQ (pla_of es _ h.2.2.2.2.2) ((expsOk K.e es).vals _ h.2.2.2.2.2 w.F hxs fun us S1 g1 hr => ⟨⟨g1.w.sub _ _ (g1.w.base _ _ q.2.2.1), q.2.2.2.1⟩, q.2.2.2.2 S1 us g1.w (plainsR vs us (hp.1 ▸ hr) (hp.1 ▸ hp.2.1)) fun r S2 g2 hr2 =>
      w.asg K B h.2.1 h.2.2.1 (g1.trans g2) hpl hr2 fun s' m' g w' => KNext.to kk ((GoS.of (g1.trans g2)).trans g) w' rfl⟩))))
theorem ba_blt : (("bytearray" : Str), Value.type "bytearray") ∈ bltV := .tail _ (.tail _ (.tail _ (.tail _ (.tail _ (.head _)))))
theorem callTypeQ {q : Bool} {M : Model} {A : Around} {s : Shared} {pos : Pos} {T : String} {args : List (Bool × Sem Value)} {Q : Value → Shared → Prop} (hp : PlA M A args) (h : wpAny M A (spliced args) (fun vs s₁ => wpQ q M A (call (.type T) vs) Q s₁) (fun _ _ => False) s) : wpQ q M A (callWith pos (.type T) [] args []) Q s := by
  unfold callWith
  refine wpQ_bindA (wpAny_holding (hp.go (wpAny_mono h (fun vs s₁ h₁ => wpQ_bindA (wpAny_standAt ?_)) fun _ _ e => e)))
  rw [hp.any]
  exact wpQ_bindA (m := keeperOf (.type T)) (wpAny_pure (wpQ_bind (wpQ_mono h₁ fun r s₂ hr => wpQ_bindA (wpAny_holding (wpAny_point (wpQ_pure hr))))))
theorem arm_newBA (K : XOk X) {k : Nat} {e : PE} : StOk X (.newBA k e) := fun b R stm ρ' fl B hk w hex => hk.elim fun y h => toS h.1 <| bindE hex fun F hF hex => bindE hex fun x hx hex => bindE hex fun c hc hex => iteE hex fun hz he => toK he fun Q kk =>
  wpQ_asg rfl rfl rfl (show wpQ X.q _ X.V.A (do callWith y.2.2.2.2.1 (← eval (.Name "bytearray" y.2.2.1) b.env) [] (backTo y.2.2.2.2.1 (starEach [y.2.2.2.1] b.env)) []) _ R.S.s from
    wpQ_bindA (name_bl K.e.cfg w.F h.2.2.2.1 ba_blt ((one_arg h.2.2.2.2.1).symm ▸ callTypeQ (.cons .nil) (spliced_cons ((expOk K.e e).1 h.2.2.2.2.2 w.F (hx.trans (congrArg some (asIE hc))) fun r1 S1 g1 hr1 => spliced_nil (hr1.elim fun t e1 => e1 ▸ wpAny_clean (K.g F hF).1 (wpQ_toks (ba_newQ (K.g F hF).2 hz.1 hz.2 fun h' a tk hk ha hg htk =>
      have g2 : Stp X.V S1 ⟨{ S1.s with heap := h', toks := tk }, S1.Z⟩ := Go.keeps g1.w hk htk
      have ha0 := Go.none g1 (WOk.ne g1.w ha) ha
      w.newOwn (x := .ba (List.replicate c.toNat 0)) K B h.2.1 h.2.2.1 (g1.trans g2) ha0 (WOk.nz g1.w ha) rfl (fun ad' e => show Rp _ _ _ _ ∧ _ from ⟨⟨fun z hz => (List.eq_of_mem_replicate hz).symm ▸ (by decide), a, rfl, hg⟩, fun _ => congrArg Value.ref e.symm⟩) fun R' g w' e => KNext.to kk g w' e))))))))
mutual
theorem stOk (K : XOk X) : ∀ p : PS, StOk X p
  | .asg k e => arm_asg K
  | .asgT k j e => arm_asgT K
  | .asgL k => arm_asgL K
  | .asgApp k j => arm_asgApp K
  | .callX k f es => arm_callX K
  | .newBA k e => arm_newBA K
  | .put k i e => arm_put K
  | .aug k e => arm_aug K
  | .augPut k i e => arm_augPut K
  | .del k i => arm_del K
  | .append k e => arm_append K
  | .callApp k e => arm_callApp K
  | .pop k => arm_pop K
  | .iff t a b => arm_iff K (ssOk K a) (ssOk K b)
  | .whl t b => arm_whl K (ssOk K b)
  | .loop t it b o => arm_loop K (ssOk K b) (ssOk K o) (forIt K.e it)
  | .ret e => arm_ret K
  | .brk => arm_brk
  | .asrt e => arm_asrt K
  | .dead => arm_dead
theorem ssOk (K : XOk X) : ∀ p : PSs, SsOk X p
  | .nil => ss_nil
  | .cons p r => ss_cons (stOk K p) (ssOk K r)
end
end
def StarE (N : Nm) (sc : Sc) (k : Nat) (s : Stmt) : Prop := ∃ x : Str × Pos × Expr × Pos, s = .Assign [.Name x.1 x.2.1] x.2.2.1 x.2.2.2 ∧ N.vars[k]? = some x.1 ∧ wrOk sc x.1 = true ∧
  ((∃ y : Pos × Pos, x.2.2.1 = .Call (.Name "object" y.1) [] [] y.2 ∧ glOk sc "object" = true) ∨ ∃ y : Str × Nat × Pos × Pos, x.2.2.1 = .List [.Constant (.str y.1) y.2.1 y.2.2.1] y.2.2.2)
def BodyOk (N : Nm) (F : Fn) (sc : Sc) (body : List Stmt) : Prop := match F.star with
  | none => IsSs N F.body sc body
  | some s => ∃ y : List Stmt × Stmt × List Stmt, body = y.1 ++ y.2.1 :: y.2.2 ∧ IsSs N F.body sc y.1 ∧ StarE N sc s.1 y.2.1 ∧ IsSs N s.2 sc y.2.2
structure FnIs (C : Cfg) (N : Nm) (F : Fn) (a : Addr) (o : Obj) (fd : FuncData) (body : List Stmt) : Prop where
  base : C.B a = some o
  data : o.data = .func fd
  bd : fd.body = .stmts body
  ok : BodyOk N F fd.scope.names body
  rec' : ∀ h : Heap, (∀ b o, C.B b = some o → h.get? b = some o) → h.CodeRec fd.code fd.qualname
  bind : ∀ vals : List Value, vals.length = F.ar → bindArgs fd ⟨vals, []⟩ = pure ((N.vars.take F.ar).zip vals)
  clo : fd.closure = []
  par : ∀ n ∈ N.vars.take F.ar, fd.scope.names.lookup n = some .local ∨ fd.scope.names.lookup n = some .cell
  co : fd.scope.isCoroutine = false
  gen : fd.scope.isGenerator = false
  kind : fd.scope.kind = .function
  glob : fd.globals = mainGlobals
  blt : fd.builtins = builtinsNs
  code : N.lam = true → fd.code = C.cd ∧ fd.qualname ++ ".<locals>." = C.cq
  free : ∀ n, fd.scope.names.lookup n ≠ some .free
  len : F.ar ≤ N.vars.length
def FnAt (C : Cfg) (N : Nm) (F : Fn) (a : Addr) : Prop := ∃ o fd body, FnIs C N F a o fd body
theorem zip_mem {α : Type} {n : Str} {v : α} : ∀ (ns : List Str) (vs : List α) (k : Nat), ns[k]? = some n → vs[k]? = some v → (n, v) ∈ ns.zip vs
  | [], _, _, h, _ => nomatch h
  | _ :: _, [], _, _, h => nomatch h
  | _ :: _, _ :: _, 0, h, h' => someE h ▸ someE h' ▸ .head _
  | _ :: ns, _ :: vs, k + 1, h, h' => .tail _ (zip_mem ns vs k h h')
theorem zip_fst {α : Type} : ∀ (ns : List Str) (vs : List α), ns.length = vs.length → (ns.zip vs).map (·.1) = ns
  | [], _, _ => by rw [List.zip_nil_left]; rfl
  | a :: ns, b :: vs, h => congrArg (a :: ·) (zip_fst ns vs (Nat.succ.inj h))
theorem bindL_out (kf : Str → Option NameKind) : ∀ (binds : List (Str × Value)) (m : Str → Option Value) (n : Str), n ∉ binds.map (·.1) → bindL kf binds m n = m n
  | [], _, _, _ => rfl
  | (x, v) :: r, m, n, h => by
    unfold bindL
    rw [bindL_out kf r _ n fun q => h (.tail _ q)]
    split
    · exact if_neg fun q : n = x => h (by rw [q]; exact .head _)
    · rfl
theorem bindL_in (kf : Str → Option NameKind) {n : Str} {v : Value} (hk : kf n = some .local) : ∀ (binds : List (Str × Value)) (m : Str → Option Value), (binds.map (·.1)).Nodup → (n, v) ∈ binds → bindL kf binds m n = some v
  | [], _, _, hm => (nomatch hm)
  | x :: r, m, hn, hm => by
    have hn := List.nodup_cons.mp hn
    unfold bindL
    exact (mCo hm).elim (fun e => by subst e; exact (bindL_out kf r _ n hn.1).trans ((congrFun (if_pos hk) n).trans (if_pos rfl))) (bindL_in kf hk r _ hn.2)
theorem bindC_out (kf : Str → Option NameKind) : ∀ (binds : List (Str × Value)) (m : Str → Option Value) (n : Str), n ∉ binds.map (·.1) → PySem.bindC kf binds m n = m n
  | [], _, _, _ => rfl
  | (x, v) :: r, m, n, h => by
    unfold PySem.bindC
    rw [bindC_out kf r _ n fun q => h (.tail _ q)]
    split
    · rfl
    · exact if_neg fun q : n = x => h (by rw [q]; exact .head _)
theorem bindC_in (kf : Str → Option NameKind) {n : Str} {v : Value} (hk : kf n ≠ some .local) : ∀ (binds : List (Str × Value)) (m : Str → Option Value), (binds.map (·.1)).Nodup → (n, v) ∈ binds → PySem.bindC kf binds m n = some v
  | [], _, _, hm => (nomatch hm)
  | x :: r, m, hn, hm => by
    have hn := List.nodup_cons.mp hn
    unfold PySem.bindC
    exact (mCo hm).elim (fun e => by subst e; exact (bindC_out kf r _ n hn.1).trans ((congrFun (if_neg hk) n).trans (if_pos rfl))) (bindC_in kf hk r _ hn.2)
section
variable {Z : Fz} {st st' : Option Addr} {x : AV} {v : Value}
theorem starless_rep (h : starless x = true) (r : RepV Z st x v) : RepV Z st' x v := by
  cases x with
  | str _ => exact r
  | bool _ => exact r
  | _ => exact absurd h fnt
theorem starInts_rep : ∀ {xs : List AV} {vs : List Value}, xs.all isIntV = true → RepL Z st xs vs → RepL Z st' xs vs
  | [], _, _, r => r
  | x :: xs, _, h, r => r.elim fun v r => r.elim fun us r => ⟨v, us, r.1, (by
    cases x with
    | int _ => exact r.2.1
    | _ => exact absurd (bE h).1 fnt), starInts_rep (bE h).2 r.2.2⟩
theorem starArg_rep (h : starArg x = true) (r : RepV Z st x v) : RepV Z st' x v := by
  cases x with
  | str _ => exact r
  | list xs => exact r.elim fun a r => r.elim fun vs r => r.elim fun n r => ⟨a, vs, n, r.1, r.2.1, starInts_rep h r.2.2⟩
  | _ => exact absurd h fnt
theorem starArgs_rep : ∀ {xs : List AV} {vs : List Value}, xs.all starArg = true → RepL Z st xs vs → RepL Z st' xs vs
  | [], _, _, r => r
  | x :: xs, _, h, r => r.elim fun v r => r.elim fun us r => ⟨v, us, r.1, starArg_rep (bE h).1 r.2.1, starArgs_rep (bE h).2 r.2.2⟩
end
abbrev Vc.to (V : Vc) (st : Option Addr) : Vc := ⟨V.C, V.N, V.A, V.Φ, V.Γ, st⟩
section
variable {V : Vc} {b : Bs} {R R' : Rs} {S S1 : Ws} {k : Nat} {x : AV} {v : Value} {ad : Nat → Addr}
theorem VarR.star {a : Addr} (h : VarR (V.to none) ad S k x v) : VarR (V.to (some a)) ad S k x v := by
  have u : Up S.Z S.Z none (some a) := ⟨fun _ _ e => e, nofun⟩
  cases x with
  | app j => exact h
  | own xs => exact ⟨h.1.elim fun a r => r.elim fun vs r => r.elim fun n r => ⟨a, vs, n, r.1, r.2.1, r.2.2.up u⟩, h.2⟩
  | ba _ => exact h
  | _ => exact ⟨RepV.up u _ _ h.1, h.2⟩
theorem Wst.star {a : Addr} (w : Wst (V.to none) b R) (B : FnB b) : Wst (V.to (some a)) b R where
  F := { w.F with vars := fun k x e => (w.F.vars k x e).imp fun n h => h.imp fun v h => ⟨h.1, h.2.1, h.2.2.star⟩ }
  tl := w.tl
  tc := w.tc
  tz := w.tz
  ow := w.ow
  ac := fun c h => nomatch B.ac.symm.trans h
theorem GoS.out (g : GoS V R R') (g0 : Stp V S R.S) (hT : ∀ a, R.T a → S.s.heap.get? a = none) : Stp V S R'.S :=
  ⟨fun a o hP e => g.keep a o (fun h => noSome (hT a h) e) hP (g0.keep a o hP e), g.os.trans g0.os, fun a o e => g.mono a o (g0.mono a o e), fun a o e => (g.fz a o e).elim (g0.fresh a o) fun h => .inr (h.elim (hT a) fun h => Go.none g0 (g.ok.neZ e) h), g.ok⟩
noncomputable abbrev callB (fd : FuncData) (L a : Addr) : Bs := ⟨fd.scope.names, callEnvC fd L a, fun _ => True, true, none⟩
theorem callB_ok (fd : FuncData) (L a : Addr) : FnB (callB fd L a) := ⟨fun n h => ⟨h, trivial⟩, rfl, rfl⟩
noncomputable abbrev callR (fd : FuncData) (S : Ws) (a : Addr) (N : Nm) (vs : List AV) (vals : List Value) (s1 : Shared) : Rs :=
  ⟨⟨s1, S.Z⟩, bindL (callEnvC fd S.s.heap.objs.size a).kindOf ((N.vars.take vs.length).zip vals) fun _ => none, fun _ => 0, fun c => S.s.heap.get? c = none ∧ ∃ o, s1.heap.get? c = some o, argNv vs, []⟩
theorem cells_look {names : Sc} {n : Nat} {x : Str} (h : names.lookup x = some .cell) : ∃ c, (cellsFrom n names []).lookup x = some c := ((cells_mem names n x).2 (mem_of_lookup h)).elim fun c h => lookup_some h
theorem enter_ok {F : Fn} {a : Addr} {o : Obj} {fd : FuncData} {body : List Stmt} {vs : List AV} {vals : List Value} {s1 : Shared} (nv : V.N.vars.Nodup) (hF : FnIs V.C V.N F a o fd body) (w : Sd V S) (hr : RepL S.Z V.st vs vals) (har : vs.length = F.ar) (htk : S.s.toks ≤ s1.toks)
    (x : InCallC S.s (callEnvC fd S.s.heap.objs.size a).locals (bindL (callEnvC fd S.s.heap.objs.size a).kindOf ((V.N.vars.take vs.length).zip vals) fun _ => none) (callEnvC fd S.s.heap.objs.size a).cells (PySem.bindC (callEnvC fd S.s.heap.objs.size a).kindOf ((V.N.vars.take vs.length).zip vals) fun _ => none) s1) :
    Stp V S ⟨s1, S.Z⟩ ∧ Wst V (callB fd S.s.heap.objs.size a) (callR fd S a V.N vs vals s1) := by
  obtain ⟨⟨⟨h', tk, rfl⟩, hns, hkeep, hfresh⟩, hcell, hap, habove⟩ := x
  have g : Stp V S ⟨{ S.s with heap := h', toks := tk }, S.Z⟩ := Go.keeps w hkeep htk
  have hlv : (V.N.vars.take vs.length).length = vals.length := by rw [List.length_take, hr.length]; exact Nat.min_eq_left (har ▸ hF.len)
  have hnd : (((V.N.vars.take vs.length).zip vals).map (·.1)).Nodup := by rw [zip_fst _ _ hlv]; exact nv.sublist (List.take_sublist ..)
  have hL : S.s.heap.get? (callEnvC fd S.s.heap.objs.size a).locals = none := get_none hfresh
  have hC : ∀ n c, (callEnvC fd S.s.heap.objs.size a).cells.lookup n = some c → S.s.heap.get? c = none := fun n c e => get_none (Nat.le_of_lt (Nat.lt_of_le_of_lt hfresh (habove n c (mem_of_lookup e))))
  have hpar : ∀ n ∈ V.N.vars.take vs.length, fd.scope.names.lookup n = some .local ∨ fd.scope.names.lookup n = some .cell := har ▸ hF.par
  have hno : ∀ k y, vs[k]? = some y → ¬ isOwn y = true := fun k y e h => (hr.get e).elim fun v q => absurd (q.2.nown.symm.trans h) fnt
  refine ⟨g, { F := { w := g.w, kind := hF.kind, names := rfl, glob := hF.glob, blt := hF.blt, ns := hns, vars := fun k y e => ?_, cl := fun n h => ?_, loc := WOk.ne w hL, cel := fun n c e => WOk.ne w (hC n c e), code := hF.code }, tl := ⟨hL, hns.elim fun o z => z.elim fun _ z => z.elim fun _ z => ⟨o, z.1⟩⟩, tc := fun n c _ h e => ⟨⟨hC n c e, (hcell n c e).imp fun o z => z.1⟩, fun n' e' => name_of_addr hap (mem_of_lookup e') (mem_of_lookup e)⟩, tz := fun c h => ⟨WOk.nz w h.1, WOk.ne w h.1, h.2⟩, ow := fun k y e h => (hno k y e h).elim, ac := nofun }⟩
  · have hk : k < vs.length := (List.getElem?_eq_some_iff.mp (show vs[k]? = some y from e)).1
    obtain ⟨n, hn⟩ : ∃ n, V.N.vars[k]? = some n := ⟨_, List.getElem?_eq_getElem (Nat.lt_of_lt_of_le (har ▸ hk) hF.len)⟩
    obtain ⟨v, hv, hrv⟩ := hr.get (show vs[k]? = some y from e)
    have hnt := (List.getElem?_take.trans (if_pos hk)).trans hn
    have hz := zip_mem _ _ _ hnt hv
    refine ⟨n, v, hn, ?_, hrv.varZ (S := S) rfl⟩
    rcases hpar n (List.mem_of_getElem? hnt) with h | h
    · exact .inl ⟨h, bindL_in _ h _ _ hnd hz⟩
    · exact (cells_look h).elim fun c hc => .inr ⟨.inl h, c, hc, bindC_in (callEnvC fd S.s.heap.objs.size a).kindOf (fun q => nomatch h.symm.trans q) _ _ hnd hz ▸ hcell _ c hc⟩
  · exact h.elim (fun h => (cells_look h).elim fun c hc => ⟨c, _, hc, hcell _ c hc⟩) fun h => (hF.free n h).elim
end
noncomputable def ofFl : Flow → Value
  | .ret v => v
  | _ => .none
section
variable {V : Vc} {q : Bool} {Ξ : Option (Nat → List AV → Option AV)} {b : Bs} {R R' : Rs} {S S1 : Ws} {k : Nat} {x : AV} {v : Value}
theorem obj_blt : (("object" : Str), Value.type "object") ∈ bltV := .tail _ (.tail _ (.tail _ (.tail _ (.tail _ (.tail _ (.tail _ (.tail _ (.tail _ (.head _)))))))))
theorem GoS.cv {st : Option Addr} (g : GoS (V.to st) R R') : GoS V R R' := ⟨g.keep, g.os, g.mono, g.fz, g.tt, g.ok⟩
theorem star_store (K : XOk ⟨V.to none, q, Ξ, lim⟩) (B : FnB b) {id : Str} {p : Pos} {a : Addr} {Q : Unit → Shared → Prop} {E : Value → Shared → Prop} (w : Wst (V.to none) b R) (k1 : V.N.vars[k]? = some id) (k2 : wrOk b.sc id = true) (g : Stp V R.S S1) (kk : ∀ a R', GoS V R R' → Wst (V.to (some a)) b R' → R'.ρ = R.ρ.bind k .star → Q () R'.S.s) :
    Wp V (assign (.Name id p) b.env (.ref a)) Q E S1 :=
  wpAny_assign_Name (((w.go g).star (a := a) B).store (x := .star) K.e.nv k1 (B.wr id k2).1 (B.wr id k2).2 ⟨⟨a, rfl, rfl⟩, nofun⟩ (fun _ _ => rfl) nofun fun h' tk m' h => kk a _ ((GoS.of g).trans h.1.cv) h.2 rfl)
theorem star_ok (K : XOk ⟨V.to none, q, Ξ, lim⟩) (B : FnB b) {stm : Stmt} {Q : Flow → Shared → Prop} (hk : StarE V.N b.sc k stm) (w : Wst (V.to none) b R) (kk : ∀ a R', GoS V R R' → Wst (V.to (some a)) b R' → R'.ρ = R.ρ.bind k .star → Q .next R'.S.s) : wpQ q V.M V.A (exec stm b.env) Q R.S.s :=
  hk.elim fun y h => h.1.symm ▸ h.2.2.2.elim
    (fun z => z.elim fun z hz => hz.1.symm ▸ wpQ_asg rfl rfl rfl (wpQ_of (show wpAny _ V.A (do callWith z.2 (← eval (.Name "object" z.1) b.env) [] [] []) _ _ R.S.s from wpAny_bind (name_bl K.e.cfg w.F hz.2 obj_blt (PySem.callWith_type rfl (evalArgs_nil3 (wpAny_toks (obj_new fun h' a tk hk htk => star_store (S1 := ⟨{ R.S.s with heap := h', toks := tk }, R.S.Z⟩) K B w h.2.1 h.2.2.1 (Go.keeps w.w hk htk) kk))))))))
    fun z => z.elim fun z hz => hz.symm ▸ wpQ_asg rfl rfl rfl (wpQ_of (wpAny_List_spliced (spliced_cons (show wpAny _ V.A (constValue b.env (.str z.1)) _ _ R.S.s from wpAny_mkText (spliced_nil ⟨by rw [sizeLine_eq]; exact lq rfl,
      star_store K B w h.2.1 h.2.2.1 (Stp.trans (S' := R.S.tk (R.S.s.toks + 1)) (w.w.tk _ (Nat.le_succ _)) (Sd.newOnly (Sd.tk w.w _ (Nat.le_succ _)).w (lstO [.str z.1 R.S.s.toks] 0))) kk⟩)))))
structure Ent (V : Vc) (b : Bs) (S : Ws) (R : Rs) (vs : List AV) (vals : List Value) : Prop where
  B : FnB b
  g : Stp V S R.S
  T : ∀ a, R.T a → S.s.heap.get? a = none
  r : RepL S.Z V.st vs vals
  w : ∀ st, RepL S.Z st vs vals → Wst (V.to st) b R
theorem retE {ρ' : Nv} {f : Fl} {fl : Flow} {y : AV} {P : Prop} (hy : retV (ρ', f) = some y) (h : FlR V b ρ' f fl R') (k : ∀ r, fl = .ret r → RepV R'.S.Z V.st y r → P) : P := by
  cases f with
  | ret v => exact h.elim fun r z => k r z.1 (someE hy ▸ z.2)
  | _ => exact noneE hy
theorem body_star (K : ∀ st, XOk ⟨V.to st, q, Ξ, lim⟩) {F : PSs} {s : Nat × PSs} {vs : List AV} {vals : List Value} {b1 b2 : List Stmt} {stt : Stmt} (E : Ent V b S R vs vals) (k1 : IsSs V.N F b.sc b1) (k2 : StarE V.N b.sc s.1 stt) (k3 : IsSs V.N s.2 b.sc b2) {ρ1 : Nv} (h1 : exs V.Φ V.Γ Ξ lim F R.ρ = some (ρ1, .next))
    (hx : starTail V.Φ V.Γ Ξ lim (vs.all starArg) (some s) ρ1 = some x) {Q : Value → Shared → Prop} (kk : ∀ r S', Stp V S S' → RepV S'.Z V.st x r → Q r S'.s) : wpQ q V.M V.A (execs (b1 ++ stt :: b2) b.env) (fun f s' => Q (ofFl f) s') R.S.s :=
  iteB hx fun hsa hx => bindE (show ((exs V.Φ V.Γ Ξ lim s.2 (ρ1.bind s.1 .star)).bind fun r => (retV r).bind fun v => if starless v then some v else none) = some x from hx) fun r2 h2 hx => bindE hx fun y hy hx => iteE hx fun hsl e =>
    execs_app (ssOk (K none) F E.B k1 (E.w none (starArgs_rep hsa E.r)) h1 fun fl R1 g1 z1 => z1.1.symm ▸ wpQ_execs_cons (star_ok (K none) E.B k2 z1.2.1 fun a R2 g2 w2 e2 =>
      ssOk (X := ⟨V.to (some a), q, Ξ, lim⟩) (K (some a)) s.2 E.B k3 w2 ((e2.trans (congrArg (·.bind s.1 .star) z1.2.2)).symm ▸ h2) fun fl R3 g3 z3 => retE hy z3 fun r er hr => er.symm ▸ kk r R3.S ((g1.cv.trans (g2.trans g3.cv)).out E.g E.T) (e ▸ starless_rep hsl hr)))
theorem body_ret (K : XOk ⟨V, q, Ξ, lim⟩) {F : PSs} {vs : List AV} {vals : List Value} {body : List Stmt} (E : Ent V b S R vs vals) (k1 : IsSs V.N F b.sc body) {ρ1 : Nv} (h1 : exs V.Φ V.Γ Ξ lim F R.ρ = some (ρ1, .ret x)) {Q : Flow → Shared → Prop} (kk : ∀ r S', Stp V S S' → RepV S'.Z V.st x r → Q (.ret r) S'.s) :
    wpQ q V.M V.A (execs body b.env) Q R.S.s :=
  ssOk K F E.B k1 (E.w V.st E.r) h1 fun fl R1 g1 z1 => z1.elim fun r z => z.1.symm ▸ kk r R1.S (g1.out E.g E.T) z.2
theorem body_ok (K : ∀ st, XOk ⟨V.to st, q, Ξ, lim⟩) {F : Fn} {vs : List AV} {vals : List Value} {body : List Stmt} (hx : runFn V.Φ V.Γ Ξ lim F vs = some x) (hb : BodyOk V.N F b.sc body) (E : Ent V b S R vs vals) (hρ : R.ρ = argNv vs) {Q : Value → Shared → Prop} (kk : ∀ r S', Stp V S S' → RepV S'.Z V.st x r → Q r S'.s) :
    wpQ q V.M V.A (execs body b.env) (fun f s' => Q (ofFl f) s') R.S.s :=
  iteB hx fun har hx => bindE hx fun r1 h1 hx => by
    obtain ⟨ar, Fb, st⟩ := F
    obtain ⟨ρ1, f1⟩ := r1
    have h2 : exs V.Φ V.Γ Ξ lim Fb R.ρ = some (ρ1, f1) := hρ ▸ h1
    cases st with
    | none =>
      cases f1 with
      | ret v => exact body_ret (K V.st) E hb ((someE hx : v = x) ▸ h2) kk
      | next => exact iteB (show (if vs.all starArg then none else none) = some x from hx) fun _ hx => noneE hx
      | brk => exact noneE hx
    | some s =>
      obtain ⟨y, rfl, k1, k2, k3⟩ := hb
      cases f1 with
      | ret v => exact execs_app (body_ret (K V.st) E k1 ((someE hx : v = x) ▸ h2) kk)
      | next => exact body_star K E k1 k2 k3 h2 hx kk
      | brk => exact noneE hx
theorem callQ {prog : Program} {w : World} {A : Around} {s : Shared} {a : Addr} {o : Obj} {fd : FuncData} {body : List Stmt} {vals : List Value} {binds : List (Str × Value)} {Q : Value → Shared → Prop}
    (hroom : A.depth < recursionLimit) (ho : s.heap.get? a = some o) (hdata : o.data = .func fd) (hlim : s.heap.NoLimit) (hcd : s.heap.CodeRec fd.code fd.qualname) (hbody : fd.body = .stmts body) (hbind : bindArgs fd ⟨vals, []⟩ = pure binds) (hclo : fd.closure = [])
    (hkind : ∀ x ∈ binds, fd.scope.names.lookup x.1 = some .local ∨ (fd.scope.names.lookup x.1 = some .cell ∧ ((cellsFrom (s.heap.objs.size + 1) fd.scope.names []).lookup x.1).isSome = true))
    (h : ∀ s₁, s.toks ≤ s₁.toks → InCallC s (callEnvC fd s.heap.objs.size a).locals (bindL (callEnvC fd s.heap.objs.size a).kindOf binds fun _ => none) (callEnvC fd s.heap.objs.size a).cells (PySem.bindC (callEnvC fd s.heap.objs.size a).kindOf binds fun _ => none) s₁ →
      wpQ q (model prog w) (A.deeper (callEnvC fd s.heap.objs.size a)) (execs body (callEnvC fd s.heap.objs.size a)) (fun f s' => Q (ofFl f) s') s₁)
    (hco : fd.scope.isCoroutine = false) (hgen : fd.scope.isGenerator = false) (hk : fd.scope.kind = .function) : wpQ q (model prog w) A (call (.ref a) vals) Q s := by
  obtain ⟨c, oc, vs, tq, hc, hoc, hdc, hq⟩ := hcd
  refine wpQ_call (codeQ_of_tree rfl (wpQ_of ?_))
  show wpAny _ A.in1 (load a >>= fun o => _) _ _ s
  refine wpAny_bind (wpAny_load ho ?_)
  rw [hdata]
  show wpAny _ A.in1 (callFunction a fd ⟨vals, []⟩) _ _ s
  unfold callFunction
  rw [hc, hbody, hgen, hco, hclo, hbind]
  refine wpAny_bind (m := field (.ref c) 1) (wpAny_field hoc hdc hq (wpAny_bind (wpAny_pure ?_)))
  refine wpAny_bind (m := pure binds) (wpAny_pure (wpAny_bind (wpAny_toks (wpAny_newFunctionEnv_cells hk hkind fun env he s' x htk => ?_))))
  subst he
  refine wpAny_bind (wpAny_enterFrame (hlim.keeps x.toInCall.keep) hroom (wpAny_pure ⟨rfl, codeQ_of_tree rfl ?_⟩))
  have he : callEnvC fd s.heap.objs.size a = newEnv fd.scope s.heap.objs.size fd.globals (cellsFrom (s.heap.objs.size + 1) fd.scope.names []) (fd.qualname ++ ".<locals>.") (some a) (.ref c) none fd.builtins := by
    unfold callEnvC; rw [hc]
  rw [he] at h
  show wpQ q _ (A.deeper _) (do point; match ← (execs body _).onRaise (leaving _) with | .ret v => ret v | _ => ret .none) _ s'
  exact wpQ_bindA (wpAny_point (wpQ_bind (wpQ_onRaise (wpQ_mono (h s' htk x) fun f s'' hf => by cases f <;> exact wpQ_pure ⟨_, rfl, hf⟩))))
theorem call_ok {C : Cfg} {N : Nm} {A : Around} {Φ : Nat → List AV → Option AV} {Γ : Nat → Option AV} (K : ∀ env st, XOk ⟨⟨C, N, A.deeper env, Φ, Γ, st⟩, q, Ξ, lim⟩) (hroom : A.depth < recursionLimit) {F : Fn} {a : Addr} (hF : FnAt C N F a) {vs : List AV} (hx : runFn Φ Γ Ξ lim F vs = some x) {vals : List Value}
    {V : Vc} (hC : V.C = C) (hA : V.A = A) (w : Sd V S) (hr : RepL S.Z V.st vs vals) : Gq q V (call (.ref a) vals) S x := fun Q kk => by
  obtain ⟨C', N', A', Φ', Γ', st⟩ := V
  cases hC; cases hA
  obtain ⟨o, fd, body, hF⟩ := hF
  have har : vs.length = F.ar := iteB hx fun h _ => h
  have hbase : ∀ b o, C'.B b = some o → S.s.heap.get? b = some o := fun b o e => w.sub b o (w.base b o e)
  have hlv : (N.vars.take F.ar).length = vals.length := by rw [List.length_take, hr.length, har]; exact Nat.min_eq_left hF.len
  refine callQ hroom (hbase _ _ hF.base) hF.data ((K default st).e.cfg.ns S.s.heap hbase).2.2 (hF.rec' _ hbase) hF.bd (hF.bind vals (hr.length.trans har)) hF.clo (fun y hy => ?_) (fun s1 htk x => ?_) hF.co hF.gen hF.kind
  · exact (hF.par y.1 (zip_fst _ _ hlv ▸ List.mem_map_of_mem (f := Prod.fst) hy)).imp (fun h => h) fun h => ⟨h, (cells_look h).elim fun c e => e ▸ rfl⟩
  · rw [← har] at x
    have K0 := K (callEnvC fd S.s.heap.objs.size a)
    have en := fun st' (hr' : RepL S.Z st' vs vals) => enter_ok (V := ⟨C', N, A'.deeper (callEnvC fd S.s.heap.objs.size a), Φ, Γ, st'⟩) (K0 st').e.nv hF w hr' har htk x
    exact body_ok (R := callR fd S a N vs vals s1) (V := ⟨C', N, A'.deeper (callEnvC fd S.s.heap.objs.size a), Φ, Γ, st⟩) K0 hx hF.ok ⟨callB_ok fd _ a, (en st hr).1, fun c h => h.1, hr, fun st' hr' => (en st' hr').2⟩ rfl fun r S' g hr => kk r S' g hr.toR
end
structure Lib (C : Cfg) (fns xfns : Nat → Option Fn) (nms : Nat → Nm) (adr : Nat → Addr) (Γ : Nat → Option AV) : Prop where
  cfg : CfgOk C
  fnAt : ∀ f F, fns f = some F ∨ xfns f = some F → FnAt C (nms f) F (adr f) ∧ ∀ g, ∃ id, (nms g).fns[f]? = some id ∧ C.mg id = some (.ref (adr f))
  nv : ∀ f, (nms f).vars.Nodup
  glob : ∀ f k x, Γ k = some x → ∃ id v, (nms f).globs[k]? = some id ∧ C.mg id = some v ∧ ∀ st s Z, WOk C s Z → RepV Z st x v
  tr : ∀ V, V.C = C → AOk 0 V.A → TrOk V
  sub : ∀ V f, V.C = C → V.N = nms f → AOk 0 V.A → SubOk V
  esc : ∀ V f, V.C = C → V.N = nms f → AOk 0 V.A → EscOk V
theorem AOk.deeper {A : Around} {d : Nat} (h : AOk (d + 1) A) (env : Env) : AOk d (A.deeper env) :=
  ⟨h.hand, by show A.depth + 1 + 4 * d + 8 < _; have := h.depth; lia, by show A.units + 3 + 100 * d + 200 < _; have := h.units; lia⟩
theorem AOk.zero {A : Around} {d : Nat} (h : AOk d A) : AOk 0 A := ⟨h.hand, by have := h.depth; lia, by have := h.units; lia⟩
theorem AOk.lt {A : Around} {d : Nat} (h : AOk d A) : A.depth < recursionLimit := Nat.lt_of_le_of_lt (lz (Nat.le_add_right _ (4 * d)) (Nat.le_add_right _ 8)) h.depth
section
variable {C : Cfg} {fns xfns : Nat → Option Fn} {nms : Nat → Nm} {adr : Nat → Addr} {Γ : Nat → Option AV}
theorem Lib.env0 (L : Lib C fns xfns nms adr Γ) {d : Nat} {A : Around} (hA : AOk d A) (f : Nat) (st : Option Addr) {Φ : Nat → List AV → Option AV} (h : ∀ f vs x, Φ f vs = some x → ∃ F, fns f = some F ∧ ∀ (V : Vc) S vals, V.C = C → V.A = A → Sd V S → RepL S.Z V.st vs vals → Gv V (call (.ref (adr f)) vals) S x) : Env0 ⟨C, nms f, A, Φ, Γ, st⟩ :=
  ⟨L.cfg, hA.zero, L.nv f, fun g vs x e => (h g vs x e).elim fun F q => (L.fnAt g F (.inl q.1)).1.elim fun o z => z.elim fun fd z => z.elim fun body z => ((L.fnAt g F (.inl q.1)).2 f).elim fun id n => ⟨id, adr g, o, fd, n.1, n.2, z.base, z.data, fun S vals w r => q.2 _ S vals rfl rfl w r⟩,
   fun k x e => (L.glob f k x e).imp fun id h => h.imp fun v h => ⟨h.1, h.2.1, fun S w => h.2.2 st S.s S.Z w⟩, L.tr _ rfl hA.zero, L.sub _ f rfl rfl hA.zero, L.esc _ f rfl rfl hA.zero⟩
theorem env_of (L : Lib C fns xfns nms adr Γ) : ∀ (d : Nat) (A : Around), AOk d A → ∀ f st, Env0 ⟨C, nms f, A, runP fns Γ lim d, Γ, st⟩
  | 0, A, hA, f, st => L.env0 hA f st fun g vs x h => noneE h
  | d + 1, A, hA, f, st => L.env0 hA f st fun g vs x h => bindE h fun F hF hx => ⟨F, hF, fun V S vals hC hVA w r Q E k =>
      wpAny_of (call_ok (Ξ := none) (q := false) (fun env st => ⟨env_of L d (A.deeper env) (hA.deeper env) g st, nofun, nofun⟩) hA.lt (L.fnAt g F (.inl hF)).1 hx hC hVA w r k)⟩
theorem xok_of (L : Lib C fns xfns nms adr Γ) : ∀ (d : Nat) (A : Around), AOk d A → A.guards = some [] → ∀ f st, XOk ⟨⟨C, nms f, A, runP fns Γ lim d, Γ, st⟩, true, some (runPX fns xfns Γ lim d), lim⟩
  | 0, A, hA, hg, f, st => ⟨env_of L 0 A hA f st, fun _ _ => ⟨rfl, hg⟩, fun F hF g vs x h => noneE (someE hF ▸ h : runPX fns xfns Γ lim 0 g vs = some x)⟩
  | d + 1, A, hA, hg, f, st => ⟨env_of L (d + 1) A hA f st, fun _ _ => ⟨rfl, hg⟩, fun F hF g vs x h => bindE (someE hF ▸ h : runPX fns xfns Γ lim (d + 1) g vs = some x) fun F hF hx => (L.fnAt g F (.inr hF)).1.elim fun o z => z.elim fun fd z => z.elim fun body z => ((L.fnAt g F (.inr hF)).2 f).elim fun id n =>
      ⟨id, adr g, o, fd, n.1, n.2, z.base, z.data, fun S vals w r => call_ok (V := ⟨C, nms f, A, runP fns Γ lim (d + 1), Γ, st⟩) (fun env st => xok_of L d (A.deeper env) (hA.deeper env) hg g st) hA.lt ⟨o, fd, body, z⟩ hx rfl rfl w r⟩⟩
end
noncomputable abbrev elB {α : Type} (o : Option α) (f : α → Bool) : Bool := o.elim false f
theorem elE {α : Type} {o : Option α} {f : α → Bool} {P : Prop} (h : elB o f = true) (k : ∀ x, o = some x → f x = true → P) : P := by
  cases o with
  | none => exact absurd h fnt
  | some x => exact k x rfl h
theorem andE {a b : Bool} (h : (a && b) = true) : a = true ∧ b = true := bE h
theorem outE {α : Type} (o : Option α) {P : α → Prop} {x : α} (h : o.elim True P) (e : o = some x) : P x := by rw [e] at h; exact h
theorem nilE {α : Type} {l : List α} (h : l.isEmpty = true) : l = [] := List.isEmpty_iff.mp h
theorem ngE {α : Type} {l : List α} (h : (!l.isEmpty) = true) : l ≠ [] := fun e => by rw [e] at h; cases h
theorem notE {b : Bool} (h : (!b) = true) : b = false := by cases b with | false => rfl | true => cases h
noncomputable def lc {α : Type} : List α → Option (α × List α)
  | a :: l => some (a, l)
  | [] => none
theorem lcE {α : Type} {l : List α} {x : α × List α} (h : lc l = some x) : l = x.1 :: x.2 := by
  cases l with
  | nil => cases h
  | cons a l => cases h; rfl
noncomputable def l1 {α : Type} (l : List α) : Option α := (lc l).bind fun x => if x.2.isEmpty then some x.1 else none
theorem l1E {α : Type} {l : List α} {x : α} (h : l1 l = some x) : l = [x] := bindE h fun y hy h => iteE h fun q e => (lcE hy).trans (by rw [nilE q, e])
noncomputable def l2 {α : Type} (l : List α) : Option (α × α) := (lc l).bind fun x => (l1 x.2).map fun y => (x.1, y)
theorem l2E {α : Type} {l : List α} {x : α × α} (h : l2 l = some x) : l = [x.1, x.2] := bindE h fun y hy h => mapE h fun z hz e => e ▸ (lcE hy).trans (by rw [l1E hz])
noncomputable def dName (e : PySem.Expr) : Option (Str × Pos) := by
  apply @PySem.Expr.casesOn (fun _ => Option (Str × Pos)) e
  case Name => exact fun a b => some (a, b)
  all_goals intros; exact none
theorem dNameE {e : PySem.Expr} {x : Str × Pos} (h : dName e = some x) : e = PySem.Expr.Name x.1 x.2 := outE (dName e) (by apply @PySem.Expr.casesOn (fun e => (dName e).elim True fun x => e = PySem.Expr.Name x.1 x.2) e <;> intros <;> first | exact True.intro | rfl) h
noncomputable def dConst (e : PySem.Expr) : Option (Const × Nat × Pos) := by
  apply @PySem.Expr.casesOn (fun _ => Option (Const × Nat × Pos)) e
  case Constant => exact fun a b c => some (a, b, c)
  all_goals intros; exact none
theorem dConstE {e : PySem.Expr} {x : Const × Nat × Pos} (h : dConst e = some x) : e = PySem.Expr.Constant x.1 x.2.1 x.2.2 := outE (dConst e) (by apply @PySem.Expr.casesOn (fun e => (dConst e).elim True fun x => e = PySem.Expr.Constant x.1 x.2.1 x.2.2) e <;> intros <;> first | exact True.intro | rfl) h
noncomputable def dBin (e : PySem.Expr) : Option (Expr × Operator × Expr × Pos) := by
  apply @PySem.Expr.casesOn (fun _ => Option (Expr × Operator × Expr × Pos)) e
  case BinOp => exact fun a b c d => some (a, b, c, d)
  all_goals intros; exact none
theorem dBinE {e : PySem.Expr} {x : Expr × Operator × Expr × Pos} (h : dBin e = some x) : e = PySem.Expr.BinOp x.1 x.2.1 x.2.2.1 x.2.2.2 := outE (dBin e) (by apply @PySem.Expr.casesOn (fun e => (dBin e).elim True fun x => e = PySem.Expr.BinOp x.1 x.2.1 x.2.2.1 x.2.2.2) e <;> intros <;> first | exact True.intro | rfl) h
noncomputable def dUn (e : PySem.Expr) : Option (UnaryOp × Expr × Pos) := by
  apply @PySem.Expr.casesOn (fun _ => Option (UnaryOp × Expr × Pos)) e
  case UnaryOp => exact fun a b c => some (a, b, c)
  all_goals intros; exact none
theorem dUnE {e : PySem.Expr} {x : UnaryOp × Expr × Pos} (h : dUn e = some x) : e = PySem.Expr.UnaryOp x.1 x.2.1 x.2.2 := outE (dUn e) (by apply @PySem.Expr.casesOn (fun e => (dUn e).elim True fun x => e = PySem.Expr.UnaryOp x.1 x.2.1 x.2.2) e <;> intros <;> first | exact True.intro | rfl) h
noncomputable def dBool (e : PySem.Expr) : Option (BoolOp × List Expr × Pos) := by
  apply @PySem.Expr.casesOn (fun _ => Option (BoolOp × List Expr × Pos)) e
  case BoolOp => exact fun a b c => some (a, b, c)
  all_goals intros; exact none
theorem dBoolE {e : PySem.Expr} {x : BoolOp × List Expr × Pos} (h : dBool e = some x) : e = PySem.Expr.BoolOp x.1 x.2.1 x.2.2 := outE (dBool e) (by apply @PySem.Expr.casesOn (fun e => (dBool e).elim True fun x => e = PySem.Expr.BoolOp x.1 x.2.1 x.2.2) e <;> intros <;> first | exact True.intro | rfl) h
noncomputable def dCmp (e : PySem.Expr) : Option (Expr × List CmpOp × List Expr × Pos) := by
  apply @PySem.Expr.casesOn (fun _ => Option (Expr × List CmpOp × List Expr × Pos)) e
  case Compare => exact fun a b c d => some (a, b, c, d)
  all_goals intros; exact none
theorem dCmpE {e : PySem.Expr} {x : Expr × List CmpOp × List Expr × Pos} (h : dCmp e = some x) : e = PySem.Expr.Compare x.1 x.2.1 x.2.2.1 x.2.2.2 := outE (dCmp e) (by apply @PySem.Expr.casesOn (fun e => (dCmp e).elim True fun x => e = PySem.Expr.Compare x.1 x.2.1 x.2.2.1 x.2.2.2) e <;> intros <;> first | exact True.intro | rfl) h
noncomputable def dIte (e : PySem.Expr) : Option (Expr × Expr × Expr × Pos) := by
  apply @PySem.Expr.casesOn (fun _ => Option (Expr × Expr × Expr × Pos)) e
  case IfExp => exact fun a b c d => some (a, b, c, d)
  all_goals intros; exact none
theorem dIteE {e : PySem.Expr} {x : Expr × Expr × Expr × Pos} (h : dIte e = some x) : e = PySem.Expr.IfExp x.1 x.2.1 x.2.2.1 x.2.2.2 := outE (dIte e) (by apply @PySem.Expr.casesOn (fun e => (dIte e).elim True fun x => e = PySem.Expr.IfExp x.1 x.2.1 x.2.2.1 x.2.2.2) e <;> intros <;> first | exact True.intro | rfl) h
noncomputable def dSub (e : PySem.Expr) : Option (Expr × Expr × Pos) := by
  apply @PySem.Expr.casesOn (fun _ => Option (Expr × Expr × Pos)) e
  case Subscript => exact fun a b c => some (a, b, c)
  all_goals intros; exact none
theorem dSubE {e : PySem.Expr} {x : Expr × Expr × Pos} (h : dSub e = some x) : e = PySem.Expr.Subscript x.1 x.2.1 x.2.2 := outE (dSub e) (by apply @PySem.Expr.casesOn (fun e => (dSub e).elim True fun x => e = PySem.Expr.Subscript x.1 x.2.1 x.2.2) e <;> intros <;> first | exact True.intro | rfl) h
noncomputable def dSlice (e : PySem.Expr) : Option (Option Expr × Option Expr × Option Expr × Pos) := by
  apply @PySem.Expr.casesOn (fun _ => Option (Option Expr × Option Expr × Option Expr × Pos)) e
  case Slice => exact fun a b c d => some (a, b, c, d)
  all_goals intros; exact none
theorem dSliceE {e : PySem.Expr} {x : Option Expr × Option Expr × Option Expr × Pos} (h : dSlice e = some x) : e = PySem.Expr.Slice x.1 x.2.1 x.2.2.1 x.2.2.2 := outE (dSlice e) (by apply @PySem.Expr.casesOn (fun e => (dSlice e).elim True fun x => e = PySem.Expr.Slice x.1 x.2.1 x.2.2.1 x.2.2.2) e <;> intros <;> first | exact True.intro | rfl) h
noncomputable def dTup (e : PySem.Expr) : Option (List Expr × Nat × Pos) := by
  apply @PySem.Expr.casesOn (fun _ => Option (List Expr × Nat × Pos)) e
  case Tuple => exact fun a b c => some (a, b, c)
  all_goals intros; exact none
theorem dTupE {e : PySem.Expr} {x : List Expr × Nat × Pos} (h : dTup e = some x) : e = PySem.Expr.Tuple x.1 x.2.1 x.2.2 := outE (dTup e) (by apply @PySem.Expr.casesOn (fun e => (dTup e).elim True fun x => e = PySem.Expr.Tuple x.1 x.2.1 x.2.2) e <;> intros <;> first | exact True.intro | rfl) h
noncomputable def dLst (e : PySem.Expr) : Option (List Expr × Pos) := by
  apply @PySem.Expr.casesOn (fun _ => Option (List Expr × Pos)) e
  case List => exact fun a b => some (a, b)
  all_goals intros; exact none
theorem dLstE {e : PySem.Expr} {x : List Expr × Pos} (h : dLst e = some x) : e = PySem.Expr.List x.1 x.2 := outE (dLst e) (by apply @PySem.Expr.casesOn (fun e => (dLst e).elim True fun x => e = PySem.Expr.List x.1 x.2) e <;> intros <;> first | exact True.intro | rfl) h
noncomputable def dComp (e : PySem.Expr) : Option (Expr × List Comprehension × Scope × Pos) := by
  apply @PySem.Expr.casesOn (fun _ => Option (Expr × List Comprehension × Scope × Pos)) e
  case ListComp => exact fun a b c d => some (a, b, c, d)
  all_goals intros; exact none
theorem dCompE {e : PySem.Expr} {x : Expr × List Comprehension × Scope × Pos} (h : dComp e = some x) : e = PySem.Expr.ListComp x.1 x.2.1 x.2.2.1 x.2.2.2 := outE (dComp e) (by apply @PySem.Expr.casesOn (fun e => (dComp e).elim True fun x => e = PySem.Expr.ListComp x.1 x.2.1 x.2.2.1 x.2.2.2) e <;> intros <;> first | exact True.intro | rfl) h
noncomputable def dCall (e : PySem.Expr) : Option (Expr × List Expr × List Keyword × Pos) := by
  apply @PySem.Expr.casesOn (fun _ => Option (Expr × List Expr × List Keyword × Pos)) e
  case Call => exact fun a b c d => some (a, b, c, d)
  all_goals intros; exact none
theorem dCallE {e : PySem.Expr} {x : Expr × List Expr × List Keyword × Pos} (h : dCall e = some x) : e = PySem.Expr.Call x.1 x.2.1 x.2.2.1 x.2.2.2 := outE (dCall e) (by apply @PySem.Expr.casesOn (fun e => (dCall e).elim True fun x => e = PySem.Expr.Call x.1 x.2.1 x.2.2.1 x.2.2.2) e <;> intros <;> first | exact True.intro | rfl) h
noncomputable def dAttr (e : PySem.Expr) : Option (Expr × Str × Pos) := by
  apply @PySem.Expr.casesOn (fun _ => Option (Expr × Str × Pos)) e
  case Attribute => exact fun a b c => some (a, b, c)
  all_goals intros; exact none
theorem dAttrE {e : PySem.Expr} {x : Expr × Str × Pos} (h : dAttr e = some x) : e = PySem.Expr.Attribute x.1 x.2.1 x.2.2 := outE (dAttr e) (by apply @PySem.Expr.casesOn (fun e => (dAttr e).elim True fun x => e = PySem.Expr.Attribute x.1 x.2.1 x.2.2) e <;> intros <;> first | exact True.intro | rfl) h
noncomputable def dJoined (e : PySem.Expr) : Option (List Expr × Pos) := by
  apply @PySem.Expr.casesOn (fun _ => Option (List Expr × Pos)) e
  case JoinedStr => exact fun a b => some (a, b)
  all_goals intros; exact none
theorem dJoinedE {e : PySem.Expr} {x : List Expr × Pos} (h : dJoined e = some x) : e = PySem.Expr.JoinedStr x.1 x.2 := outE (dJoined e) (by apply @PySem.Expr.casesOn (fun e => (dJoined e).elim True fun x => e = PySem.Expr.JoinedStr x.1 x.2) e <;> intros <;> first | exact True.intro | rfl) h
noncomputable def dFmt (e : PySem.Expr) : Option (Expr × Int × Option Expr × Pos) := by
  apply @PySem.Expr.casesOn (fun _ => Option (Expr × Int × Option Expr × Pos)) e
  case FormattedValue => exact fun a b c d => some (a, b, c, d)
  all_goals intros; exact none
theorem dFmtE {e : PySem.Expr} {x : Expr × Int × Option Expr × Pos} (h : dFmt e = some x) : e = PySem.Expr.FormattedValue x.1 x.2.1 x.2.2.1 x.2.2.2 := outE (dFmt e) (by apply @PySem.Expr.casesOn (fun e => (dFmt e).elim True fun x => e = PySem.Expr.FormattedValue x.1 x.2.1 x.2.2.1 x.2.2.2) e <;> intros <;> first | exact True.intro | rfl) h
noncomputable def dLam (e : PySem.Expr) : Option (Arguments × Expr × Scope × Pos) := by
  apply @PySem.Expr.casesOn (fun _ => Option (Arguments × Expr × Scope × Pos)) e
  case Lambda => exact fun a b c d => some (a, b, c, d)
  all_goals intros; exact none
theorem dLamE {e : PySem.Expr} {x : Arguments × Expr × Scope × Pos} (h : dLam e = some x) : e = PySem.Expr.Lambda x.1 x.2.1 x.2.2.1 x.2.2.2 := outE (dLam e) (by apply @PySem.Expr.casesOn (fun e => (dLam e).elim True fun x => e = PySem.Expr.Lambda x.1 x.2.1 x.2.2.1 x.2.2.2) e <;> intros <;> first | exact True.intro | rfl) h
noncomputable def dGen (e : PySem.Expr) : Option (Expr × List Comprehension × Scope × Pos) := by
  apply @PySem.Expr.casesOn (fun _ => Option (Expr × List Comprehension × Scope × Pos)) e
  case GeneratorExp => exact fun a b c d => some (a, b, c, d)
  all_goals intros; exact none
theorem dGenE {e : PySem.Expr} {x : Expr × List Comprehension × Scope × Pos} (h : dGen e = some x) : e = PySem.Expr.GeneratorExp x.1 x.2.1 x.2.2.1 x.2.2.2 := outE (dGen e) (by apply @PySem.Expr.casesOn (fun e => (dGen e).elim True fun x => e = PySem.Expr.GeneratorExp x.1 x.2.1 x.2.2.1 x.2.2.2) e <;> intros <;> first | exact True.intro | rfl) h
noncomputable def dAssign (e : PySem.Stmt) : Option (List Expr × Expr × Pos) := by
  apply @PySem.Stmt.casesOn (fun _ => Option (List Expr × Expr × Pos)) e
  case Assign => exact fun a b c => some (a, b, c)
  all_goals intros; exact none
theorem dAssignE {e : PySem.Stmt} {x : List Expr × Expr × Pos} (h : dAssign e = some x) : e = PySem.Stmt.Assign x.1 x.2.1 x.2.2 := outE (dAssign e) (by apply @PySem.Stmt.casesOn (fun e => (dAssign e).elim True fun x => e = PySem.Stmt.Assign x.1 x.2.1 x.2.2) e <;> intros <;> first | exact True.intro | rfl) h
noncomputable def dAug (e : PySem.Stmt) : Option (Expr × Operator × Expr × Pos) := by
  apply @PySem.Stmt.casesOn (fun _ => Option (Expr × Operator × Expr × Pos)) e
  case AugAssign => exact fun a b c d => some (a, b, c, d)
  all_goals intros; exact none
theorem dAugE {e : PySem.Stmt} {x : Expr × Operator × Expr × Pos} (h : dAug e = some x) : e = PySem.Stmt.AugAssign x.1 x.2.1 x.2.2.1 x.2.2.2 := outE (dAug e) (by apply @PySem.Stmt.casesOn (fun e => (dAug e).elim True fun x => e = PySem.Stmt.AugAssign x.1 x.2.1 x.2.2.1 x.2.2.2) e <;> intros <;> first | exact True.intro | rfl) h
noncomputable def dDel (e : PySem.Stmt) : Option (List Expr × Pos) := by
  apply @PySem.Stmt.casesOn (fun _ => Option (List Expr × Pos)) e
  case Delete => exact fun a b => some (a, b)
  all_goals intros; exact none
theorem dDelE {e : PySem.Stmt} {x : List Expr × Pos} (h : dDel e = some x) : e = PySem.Stmt.Delete x.1 x.2 := outE (dDel e) (by apply @PySem.Stmt.casesOn (fun e => (dDel e).elim True fun x => e = PySem.Stmt.Delete x.1 x.2) e <;> intros <;> first | exact True.intro | rfl) h
noncomputable def dExprS (e : PySem.Stmt) : Option (Expr × Pos) := by
  apply @PySem.Stmt.casesOn (fun _ => Option (Expr × Pos)) e
  case Expr => exact fun a b => some (a, b)
  all_goals intros; exact none
theorem dExprSE {e : PySem.Stmt} {x : Expr × Pos} (h : dExprS e = some x) : e = PySem.Stmt.Expr x.1 x.2 := outE (dExprS e) (by apply @PySem.Stmt.casesOn (fun e => (dExprS e).elim True fun x => e = PySem.Stmt.Expr x.1 x.2) e <;> intros <;> first | exact True.intro | rfl) h
noncomputable def dIf (e : PySem.Stmt) : Option (Expr × List Stmt × List Stmt × Pos) := by
  apply @PySem.Stmt.casesOn (fun _ => Option (Expr × List Stmt × List Stmt × Pos)) e
  case If => exact fun a b c d => some (a, b, c, d)
  all_goals intros; exact none
theorem dIfE {e : PySem.Stmt} {x : Expr × List Stmt × List Stmt × Pos} (h : dIf e = some x) : e = PySem.Stmt.If x.1 x.2.1 x.2.2.1 x.2.2.2 := outE (dIf e) (by apply @PySem.Stmt.casesOn (fun e => (dIf e).elim True fun x => e = PySem.Stmt.If x.1 x.2.1 x.2.2.1 x.2.2.2) e <;> intros <;> first | exact True.intro | rfl) h
noncomputable def dWhile (e : PySem.Stmt) : Option (Expr × List Stmt × List Stmt × Pos) := by
  apply @PySem.Stmt.casesOn (fun _ => Option (Expr × List Stmt × List Stmt × Pos)) e
  case While => exact fun a b c d => some (a, b, c, d)
  all_goals intros; exact none
theorem dWhileE {e : PySem.Stmt} {x : Expr × List Stmt × List Stmt × Pos} (h : dWhile e = some x) : e = PySem.Stmt.While x.1 x.2.1 x.2.2.1 x.2.2.2 := outE (dWhile e) (by apply @PySem.Stmt.casesOn (fun e => (dWhile e).elim True fun x => e = PySem.Stmt.While x.1 x.2.1 x.2.2.1 x.2.2.2) e <;> intros <;> first | exact True.intro | rfl) h
noncomputable def dFor (e : PySem.Stmt) : Option (Expr × Expr × List Stmt × List Stmt × Pos) := by
  apply @PySem.Stmt.casesOn (fun _ => Option (Expr × Expr × List Stmt × List Stmt × Pos)) e
  case For => exact fun a b c d f => some (a, b, c, d, f)
  all_goals intros; exact none
theorem dForE {e : PySem.Stmt} {x : Expr × Expr × List Stmt × List Stmt × Pos} (h : dFor e = some x) : e = PySem.Stmt.For x.1 x.2.1 x.2.2.1 x.2.2.2.1 x.2.2.2.2 := outE (dFor e) (by apply @PySem.Stmt.casesOn (fun e => (dFor e).elim True fun x => e = PySem.Stmt.For x.1 x.2.1 x.2.2.1 x.2.2.2.1 x.2.2.2.2) e <;> intros <;> first | exact True.intro | rfl) h
noncomputable def dRet (e : PySem.Stmt) : Option (Option Expr × Pos) := by
  apply @PySem.Stmt.casesOn (fun _ => Option (Option Expr × Pos)) e
  case Return => exact fun a b => some (a, b)
  all_goals intros; exact none
theorem dRetE {e : PySem.Stmt} {x : Option Expr × Pos} (h : dRet e = some x) : e = PySem.Stmt.Return x.1 x.2 := outE (dRet e) (by apply @PySem.Stmt.casesOn (fun e => (dRet e).elim True fun x => e = PySem.Stmt.Return x.1 x.2) e <;> intros <;> first | exact True.intro | rfl) h
noncomputable def dBrk (e : PySem.Stmt) : Option (Pos) := by
  apply @PySem.Stmt.casesOn (fun _ => Option (Pos)) e
  case Break => exact fun a => some (a)
  all_goals intros; exact none
theorem dBrkE {e : PySem.Stmt} {x : Pos} (h : dBrk e = some x) : e = PySem.Stmt.Break x := outE (dBrk e) (by apply @PySem.Stmt.casesOn (fun e => (dBrk e).elim True fun x => e = PySem.Stmt.Break x) e <;> intros <;> first | exact True.intro | rfl) h
noncomputable def dAssert (e : PySem.Stmt) : Option (Expr × Option Expr × Pos) := by
  apply @PySem.Stmt.casesOn (fun _ => Option (Expr × Option Expr × Pos)) e
  case Assert => exact fun a b c => some (a, b, c)
  all_goals intros; exact none
theorem dAssertE {e : PySem.Stmt} {x : Expr × Option Expr × Pos} (h : dAssert e = some x) : e = PySem.Stmt.Assert x.1 x.2.1 x.2.2 := outE (dAssert e) (by apply @PySem.Stmt.casesOn (fun e => (dAssert e).elim True fun x => e = PySem.Stmt.Assert x.1 x.2.1 x.2.2) e <;> intros <;> first | exact True.intro | rfl) h
noncomputable def dCallN (e : Expr) : Option (Str × Pos × List Expr × Pos) := (dCall e).bind fun x => (dName x.1).bind fun y => if x.2.2.1.isEmpty then some (y.1, y.2, x.2.1, x.2.2.2) else none
theorem dCallNE {e : Expr} {x : Str × Pos × List Expr × Pos} (h : dCallN e = some x) : e = .Call (.Name x.1 x.2.1) x.2.2.1 [] x.2.2.2 := bindE h fun a ha h => bindE h fun b hb h => iteE h fun q e => e ▸ (dCallE ha).trans (by rw [dNameE hb, nilE q])
noncomputable def dCallA (e : Expr) : Option (Expr × Str × Pos × List Expr × Pos) := (dCall e).bind fun x => (dAttr x.1).bind fun y => if x.2.2.1.isEmpty then some (y.1, y.2.1, y.2.2, x.2.1, x.2.2.2) else none
theorem dCallAE {e : Expr} {x : Expr × Str × Pos × List Expr × Pos} (h : dCallA e = some x) : e = .Call (.Attribute x.1 x.2.1 x.2.2.1) x.2.2.2.1 [] x.2.2.2.2 := bindE h fun a ha h => bindE h fun b hb h => iteE h fun q e => e ▸ (dCallE ha).trans (by rw [dAttrE hb, nilE q])
noncomputable def dAsg (s : PySem.Stmt) : Option (Expr × Expr × Pos) := (dAssign s).bind fun x => (l1 x.1).map fun t => (t, x.2.1, x.2.2)
theorem dAsgE {s : PySem.Stmt} {x : Expr × Expr × Pos} (h : dAsg s = some x) : s = .Assign [x.1] x.2.1 x.2.2 := bindE h fun a ha h => mapE h fun b hb e => e ▸ (dAssignE ha).trans (by rw [l1E hb])
noncomputable def dTxt (e : Expr) (s : List Nat) : Option (Nat × Pos) := (dConst e).bind fun x => if x.1 = .str (mkS s) then some x.2 else none
theorem dTxtE {e : Expr} {s : List Nat} {x : Nat × Pos} (h : dTxt e s = some x) : e = .Constant (.str (mkS s)) x.1 x.2 := bindE h fun a ha h => iteE h fun q e => e ▸ (dConstE ha).trans (by rw [q])
noncomputable def cstD : AV → Option Const
  | .none => some .none
  | .bool b => some (.bool b)
  | .int i => some (.int i)
  | .str x => some (.str (mkS x))
  | _ => none
theorem cstE {v : AV} {c : Const} (h : cstD v = some c) : IsC v c := by
  cases v with
  | none => exact someE h ▸ .none
  | bool b => exact someE h ▸ .bool b
  | int i => exact someE h ▸ .int i
  | str x => exact someE h ▸ .str x
  | _ => exact noneE h
noncomputable def noneC : PE → Bool
  | .cst v => cstD v == some .none
  | _ => false
theorem noneC_ok {p : PE} (h : noneC p = true) : p = .cst .none := by
  cases p with
  | cst v => cases v with
    | none => rfl
    | _ => exact absurd h fnt
  | _ => exact absurd h fnt
noncomputable def nilB : PEs → Bool
  | .nil => true
  | _ => false
theorem nilB_ok {p : PEs} (h : nilB p = true) : p = .nil := by
  cases p with
  | nil => rfl
  | _ => exact absurd h fnt
noncomputable def compD : PE → Option (List Nat × Tgt × PI × PEs × PC)
  | .comp a (.clause b c d e) => some (a, b, c, d, e)
  | _ => none
theorem compD_ok {p : PE} {y : List Nat × Tgt × PI × PEs × PC} (h : compD p = some y) : p = .comp y.1 (.clause y.2.1 y.2.2.1 y.2.2.2.1 y.2.2.2.2) := by
  cases p with
  | comp a c => cases c with
    | clause _ _ _ _ => exact someE h ▸ rfl
    | _ => exact noneE h
  | _ => exact noneE h
noncomputable def strD : PE → Option (List Nat)
  | .cst v => asS v
  | _ => none
theorem strD_ok {p : PE} {s : List Nat} (h : strD p = some s) : p = .cst (.str s) := by
  cases p with
  | cst v => exact congrArg PE.cst (asSE h)
  | _ => exact noneE h
noncomputable def esL : PEs → List PE
  | .nil => []
  | .cons p r => p :: esL r
theorem esL_two {p : PEs} {a b : PE} (h : esL p = [a, b]) : p = .cons a (.cons b .nil) := by
  cases p with
  | nil => cases h
  | cons x r => cases r with
    | nil => cases h
    | cons y r => cases r with
      | nil => cases h; rfl
      | cons _ _ => cases h
noncomputable def repB (es : PEs) (l : List Expr) : Bool := elB (l2 (esL es)) fun p => elB (strD p.1) fun a => elB (strD p.2) fun b => elB (l2 l) fun x => elB (dTxt x.1 a) fun _ => elB (dTxt x.2 b) fun _ => a != b
theorem repB_ok {es : PEs} {l : List Expr} (h : repB es l = true) : RepE es l :=
  elE h fun p hp h => elE h fun a ha h => elE h fun b hb h => elE h fun x hx h => elE h fun y hy h => elE h fun z hz h => ⟨a, b, y.1, y.2, z.1, z.2, (esL_two (l2E hp)).trans (by rw [strD_ok ha, strD_ok hb]), (l2E hx).trans (by rw [dTxtE hy, dTxtE hz]), bne_iff_ne.mp h⟩
noncomputable def nmB (sc : Sc) (s : Str) (l : List Expr) : Bool := elB (l1 l) fun e => elB (dName e) fun x => x.1 == s && glOk sc s
theorem nmB_ok {sc : Sc} {s : Str} {l : List Expr} (h : nmB sc s l = true) : ∃ p, l = [.Name s p] ∧ glOk sc s = true := elE h fun e he h => elE h fun x hx h => ⟨x.2, (l1E he).trans (by rw [dNameE hx, eq_of_beq (andE h).1]), (andE h).2⟩
noncomputable def moreB (sc : Sc) (b : Bi) (l : List Expr) : Bool := match b with
  | .isStr => nmB sc "str" l
  | .isBytes => nmB sc "bytes" l
  | _ => l.isEmpty
theorem moreB_ok {sc : Sc} {b : Bi} {l : List Expr} (h : moreB sc b l = true) : MoreE sc b l := by
  cases b with
  | isStr => exact nmB_ok h
  | isBytes => exact nmB_ok h
  | _ => exact nilE h
noncomputable def wB (N : Nm) (sc : Sc) (k : Nat) (e : Expr) : Bool := elB (dName e) fun x => N.vars[k]? == some x.1 && wrOk sc x.1
theorem wB_ok {N : Nm} {sc : Sc} {k : Nat} {e : Expr} (h : wB N sc k e = true) : WrE N sc k e := elE h fun x hx h => ⟨x.1, x.2, dNameE hx, eq_of_beq (andE h).1, (andE h).2⟩
noncomputable def tB (N : Nm) (sc : Sc) (t : Tgt) (e : Expr) : Bool := match t with
  | .one k => wB N sc k e
  | .two k j => elB (dTup e) fun x => elB (l2 x.1) fun y => wB N sc k y.1 && wB N sc j y.2
theorem tB_ok {N : Nm} {sc : Sc} {t : Tgt} {e : Expr} (h : tB N sc t e = true) : IsT N sc t e := by
  cases t with
  | one k => exact wB_ok h
  | two k j => exact elE h fun x hx h => elE h fun y hy h => ⟨y.1, y.2, x.2.1, x.2.2, (dTupE hx).trans (by rw [l2E hy]), wB_ok (andE h).1, wB_ok (andE h).2⟩
noncomputable def nth : List Bool → Nat → Bool
  | b :: _, 0 => b
  | _ :: r, n + 1 => nth r n
  | [], _ => true
noncomputable def allB (l : List Bool) : Bool := l.all id
theorem allE : ∀ {l : List Bool}, allB l = true → ∀ n, nth l n = true
  | [], _, _ => rfl
  | _ :: _, h, 0 => (andE h).1
  | _ :: _, h, n + 1 => allE (andE h).2 n
noncomputable def lamB (N : Nm) (l : Expr) : Bool := elB (dLam l) fun x => elB (l1 x.1.args) fun a => elB (dBin x.2.1) fun y => elB (dTxt y.1 [92]) fun _ => elB (dBool y.2.2.1) fun z => elB (l2 z.2.1) fun u => elB (dCallA u.1) fun v => elB (dName v.1) fun n => elB (l1 v.2.2.2.1) fun c => elB (dConst c) fun d => elB (dTxt u.2 []) fun _ => allB [x.1.posonlyargs.isEmpty, x.1.vararg.isNone, x.1.kwonlyargs.isEmpty, x.1.kw_defaults.isEmpty, x.1.kwarg.isNone, x.1.defaults.isEmpty, a.arg == "_m", a.annotation.isNone, y.2.1 == .Add, z.1 == .Or, v.2.1 == "group", n.1 == "_m", d.1 == .int 1, x.2.2.1.names == [(("_m" : Str), NameKind.local)], x.2.2.1.kind == .function, !x.2.2.1.isCoroutine, !x.2.2.1.isGenerator, v.2.2.1.endLine == v.2.2.2.2.line, (x.2.2.2.line, x.2.2.2.col) == N.lp]
theorem noneB {α : Type} {o : Option α} (h : o.isNone = true) : o = none := Option.isNone_iff_eq_none.mp h
theorem args_eq {a : Arguments} {g : Arg} (h1 : a.posonlyargs = []) (h2 : a.args = [g]) (h3 : a.vararg = none) (h4 : a.kwonlyargs = []) (h5 : a.kw_defaults = []) (h6 : a.kwarg = none) (h7 : a.defaults = []) (h8 : g.arg = "_m") (h9 : g.annotation = none) : a = ⟨[], [⟨"_m", none, g.pos⟩], none, [], [], none, []⟩ := by
  cases a; cases g; cases h1; cases h2; cases h3; cases h4; cases h5; cases h6; cases h7; cases h8; cases h9; rfl
theorem lamB_ok {N : Nm} {l : Expr} (h : lamB N l = true) : LamE N l :=
  elE h fun x hx h => elE h fun a ha h => elE h fun y hy h => elE h fun b hb h => elE h fun z hz h => elE h fun u hu h => elE h fun v hv h => elE h fun n hn h => elE h fun c hc h => elE h fun d hd h => elE h fun t ht h => by
    have g := allE h
    refine ⟨a.pos, b.1, b.2, n.2, v.2.2.1, d.2.1, d.2.2, v.2.2.2.2, t.1, t.2, z.2.2, y.2.2.2, x.2.2.1, x.2.2.2, ?_, eq_of_beq (g 13), eq_of_beq (g 14), notE (g 15), notE (g 16), eq_of_beq (g 17), eq_of_beq (g 18)⟩
    rw [dLamE hx, dBinE hy, dTxtE hb, dBoolE hz, l2E hu, dCallAE hv, dNameE hn, l1E hc, dConstE hd, dTxtE ht, args_eq (nilE (g 0)) (l1E ha) (noneB (g 1)) (nilE (g 2)) (nilE (g 3)) (noneB (g 4)) (nilE (g 5)) (eq_of_beq (g 6)) (noneB (g 7)), eq_of_beq (g 8), eq_of_beq (g 9), eq_of_beq (g 10), eq_of_beq (g 11), eq_of_beq (g 12)]
noncomputable def escB (N : Nm) (sc : Sc) (k : Nat) (g : Expr) : Bool := elB (dGen g) fun x => elB (dCallA x.1) fun o => elB (l2 o.2.2.2.1) fun s => elB (dTxt s.1 [45]) fun _ => elB (dTxt s.2 [92, 45]) fun _ => elB (dCallA o.1) fun i => elB (l2 i.2.2.2.1) fun r => elB (dTxt r.1 [92]) fun _ => elB (dTxt r.2 [92, 92]) fun _ => elB (dName i.1) fun b =>
  elB (l1 x.2.1) fun c => elB (dName c.target) fun t => elB (dName c.iter) fun n => allB [o.2.1 == "replace", i.2.1 == "replace", t.1 == b.1, c.ifs.isEmpty, c.is_async == 0, N.vars[k]? == some n.1, rdOk sc n.1, x.2.2.1.names == [((".0" : Str), NameKind.local), (b.1, NameKind.local)], b.1 != ".0", b.1 != "__debug__", x.2.2.1.kind == .function, !x.2.2.1.isCoroutine, x.2.2.1.isGenerator, i.2.2.1.endLine == i.2.2.2.2.line, o.2.2.1.endLine == o.2.2.2.2.line, (x.2.2.2.line, x.2.2.2.col) == N.gp]
theorem gen_eq {c : Comprehension} {a b : Expr} (h1 : c.target = a) (h2 : c.iter = b) (h3 : c.ifs = []) (h4 : c.is_async = 0) : c = ⟨a, b, [], 0⟩ := by
  cases c; cases h1; cases h2; cases h3; cases h4; rfl
theorem escB_ok {N : Nm} {sc : Sc} {k : Nat} {g : Expr} (h : escB N sc k g = true) : EscE N sc k g :=
  elE h fun x hx h => elE h fun o ho h => elE h fun s hs h => elE h fun s1 hs1 h => elE h fun s2 hs2 h => elE h fun i hi h => elE h fun r hr h => elE h fun r1 hr1 h => elE h fun r2 hr2 h => elE h fun b hb h => elE h fun c hc h => elE h fun t ht h => elE h fun n hn h => by
    have g := allE h
    refine ⟨b.1, b.2, i.2.2.1, r1.1, r1.2, r2.1, r2.2, i.2.2.2.2, o.2.2.1, s1.1, s1.2, s2.1, s2.2, o.2.2.2.2, t.2, n.1, n.2, x.2.2.1, x.2.2.2, ?_, eq_of_beq (g 5), (g 6), eq_of_beq (g 7), bne_iff_ne.mp (g 8), bne_iff_ne.mp (g 9), eq_of_beq (g 10), notE (g 11), (g 12), eq_of_beq (g 13), eq_of_beq (g 14), eq_of_beq (g 15)⟩
    have ht := dNameE ht
    rw [eq_of_beq (g 2)] at ht
    rw [dGenE hx, dCallAE ho, l2E hs, dTxtE hs1, dTxtE hs2, dCallAE hi, l2E hr, dTxtE hr1, dTxtE hr2, dNameE hb, l1E hc, gen_eq ht (dNameE hn) (nilE (g 3)) (eq_of_beq (g 4)), eq_of_beq (g 0), eq_of_beq (g 1)]
section
variable (N : Nm)
mutual
noncomputable def cE : PE → Sc → Expr → Bool
  | .var k, sc, e => elB (dName e) fun x => N.vars[k]? == some x.1 && rdOk sc x.1
  | .cst v, _, e => elB (dConst e) fun x => cstD v == some x.1
  | .glob k, sc, e => elB (dName e) fun x => N.globs[k]? == some x.1 && glOk sc x.1
  | .bin o a b, sc, e => elB (dBin e) fun x => x.2.1 == opOf o && (cE a sc x.1 && cE b sc x.2.2.1)
  | .neg a, sc, e => elB (dUn e) fun x => x.1 == .USub && cE a sc x.2.1
  | .not a, sc, e => elB (dUn e) fun x => x.1 == .Not && cE a sc x.2.1
  | .and es, sc, e => elB (dBool e) fun x => x.1 == .And && cEs es sc x.2.1
  | .or es, sc, e => elB (dBool e) fun x => x.1 == .Or && cEs es sc x.2.1
  | .cmp a o b, sc, e => elB (dCmp e) fun x => elB (l1 x.2.1) fun p => elB (l1 x.2.2.1) fun r => p == copOf o && (!behindInMarks (copOf o) r && (cE a sc x.1 && cE b sc r))
  | .chain a o b o' c, sc, e => elB (dCmp e) fun x => elB (l2 x.2.1) fun p => elB (l2 x.2.2.1) fun r => p == (copOf o, copOf o') && (!behindInMarks (copOf o') r.2 && (cE a sc x.1 && (cE b sc r.1 && cE c sc r.2)))
  | .ite t a b, sc, e => elB (dIte e) fun x => cE t sc x.1 && (cE a sc x.2.1 && cE b sc x.2.2.1)
  | .idx a i, sc, e => elB (dSub e) fun x => cE a sc x.1 && cE i sc x.2.1
  | .slc a lo hi st, sc, e => elB (dSub e) fun x => elB (dSlice x.2.1) fun y => cE a sc x.1 && (y.1.elim (noneC lo) (fun e => cE lo sc e) && (y.2.1.elim (noneC hi) (fun e => cE hi sc e) && y.2.2.1.elim (noneC st) fun e => cE st sc e))
  | .tup es, sc, e => elB (dTup e) fun x => cEs es sc x.1
  | .lst es, sc, e => elB (dLst e) fun x => cEs es sc x.1
  | .comp caps cls, sc, e => elB (dComp e) fun x => !x.2.1.isEmpty && (scopeOk N sc caps x.2.2.1 && cK true cls sc x.2.2.1.names (innerSc sc x.2.2.1.names) x.2.1 x.1)
  | .call f es, sc, e => elB (dCallN e) fun x => N.fns[f]? == some x.1 && (glOk sc x.1 && (!x.2.2.1.isEmpty && (decide (x.2.2.1.length ≤ 10) && cEs es sc x.2.2.1)))
  | .bi b a, sc, e => elB (dCallN e) fun x => elB (lc x.2.2.1) fun y => x.1 == biName b && (glOk sc (biName b) && (moreB sc b y.2 && (formB y.1 && cE a sc y.1)))
  | .meth m o es, sc, e => elB (dCallA e) fun x => x.2.1 == mthName m && (x.2.2.1.endLine == x.2.2.2.2.line && (decide (x.2.2.2.1.length < 20) && (baseB x.1 && match m with
      | .sub => elB (dName x.1) fun y => elB (l2 x.2.2.2.1) fun z => y.1 == "_twin_re_1" && (N.lam && (glOk sc "_twin_re_1" && (lamB N z.1 && (formB z.2 && (cE o sc z.2 && nilB es)))))
      | .tr => elB (l1 x.2.2.2.1) fun z => elB (dName z) fun y => y.1 == "_special_chars_map" && (glOk sc "_special_chars_map" && (cE o sc x.1 && nilB es))
      | .replace => cE o sc x.1 && repB es x.2.2.2.1
      | _ => cE o sc x.1 && cEs es sc x.2.2.2.1)))
  | .joinEsc o k, sc, e => elB (dCallA e) fun x => elB (l1 x.2.2.2.1) fun g => x.2.1 == "join" && (N.lam && (x.2.2.1.endLine == x.2.2.2.2.line && (baseB x.1 && (cE o sc x.1 && escB N sc k g))))
  | .fstr es, sc, e => elB (dJoined e) fun x => decide (2 ≤ x.1.length) && cF es sc x.1
noncomputable def cF : PEs → Sc → List Expr → Bool
  | .nil, _, l => l.isEmpty
  | .cons p r, sc, l => elB (lc l) fun y => (elB (dConst y.1) (fun _ => cE p sc y.1) || elB (dFmt y.1) fun z => z.2.1 == -1 && (z.2.2.1.isNone && cE p sc z.1)) && cF r sc y.2
noncomputable def cEs : PEs → Sc → List Expr → Bool
  | .nil, _, l => l.isEmpty
  | .cons p r, sc, l => elB (lc l) fun y => cE p sc y.1 && (formB y.1 && cEs r sc y.2)
noncomputable def cK : Bool → PC → Sc → Sc → Sc → List Comprehension → Expr → Bool
  | _, .done p, _, _, sc', gens, elt => gens.isEmpty && cE p sc' elt
  | first, .clause t it ifs rest, sc, names, sc', gens, elt => elB (lc gens) fun y => y.1.is_async == 0 && (tB N names t y.1.target && (cI it (if first then sc else sc') y.1.iter && (cEs ifs sc' y.1.ifs && cK false rest sc names sc' y.2 elt)))
noncomputable def cI : PI → Sc → Expr → Bool
  | .ex p, sc, e => cE p sc e && !setB e
  | .range es, sc, e => elB (dCallN e) fun x => x.1 == "range" && (glOk sc "range" && (!x.2.2.1.isEmpty && (decide (x.2.2.1.length ≤ 3) && cEs es sc x.2.2.1)))
  | .enum p, sc, e => elB (dCallN e) fun x => elB (l1 x.2.2.1) fun y => x.1 == "enumerate" && (glOk sc "enumerate" && (formB y && cE p sc y))
end
end
theorem optE {α : Type} {o : Option α} {b : Bool} {f : α → Bool} (h : o.elim b f = true) : (o = none ∧ b = true) ∨ ∃ x, o = some x ∧ f x = true := by
  cases o with
  | none => exact .inl ⟨rfl, h⟩
  | some x => exact .inr ⟨x, rfl, h⟩
theorem async_eq {c : Comprehension} (h : c.is_async = 0) : c = ⟨c.target, c.iter, c.ifs, 0⟩ := by cases c; cases h; rfl
theorem orE {a b : Bool} (h : (a || b) = true) : a = true ∨ b = true := (Bool.or_eq_true _ _).mp h
theorem partE {N : Nm} {p : PE} {sc : Sc} {o : Option Expr} (ih : ∀ sc e, cE N p sc e = true → IsE N p sc e) (h : o.elim (noneC p) (fun e => cE N p sc e) = true) : (o = none ∧ p = .cst .none) ∨ ∃ e, o = some e ∧ IsE N p sc e :=
  (optE h).imp (fun q => ⟨q.1, noneC_ok q.2⟩) fun q => q.imp fun x q => ⟨q.1, ih sc x q.2⟩
theorem meth_ok {N : Nm} {m : Mth} {o : PE} {es : PEs} {sc : Sc} {e : Expr} (h1 : ∀ sc e, cE N o sc e = true → IsE N o sc e) (h2 : ∀ sc l, cEs N es sc l = true → IsEs N es sc l) (h : cE N (.meth m o es) sc e = true) : IsE N (.meth m o es) sc e :=
  elE h fun x hx h => ⟨x.1, x.2.2.1, x.2.2.2.1, x.2.2.2.2, eq_of_beq (andE h).1 ▸ dCallAE hx, eq_of_beq (andE (andE h).2).1, of_decide_eq_true (andE (andE (andE h).2).2).1, (andE (andE (andE (andE h).2).2).2).1, by
    have h := (andE (andE (andE (andE h).2).2).2).2
    cases m with
    | sub => exact elE h fun y hy h => elE h fun z hz h => ⟨y.2, z.1, z.2, eq_of_beq (andE h).1 ▸ dNameE hy, l2E hz, (andE (andE h).2).1, (andE (andE (andE h).2).2).1, lamB_ok (andE (andE (andE (andE h).2).2).2).1, (andE (andE (andE (andE (andE h).2).2).2).2).1, h1 _ _ (andE (andE (andE (andE (andE (andE h).2).2).2).2).2).1, nilB_ok (andE (andE (andE (andE (andE (andE h).2).2).2).2).2).2⟩
    | tr => exact elE h fun z hz h => elE h fun y hy h => ⟨y.2, (l1E hz).trans (by rw [dNameE hy, eq_of_beq (andE h).1]), (andE (andE h).2).1, h1 _ _ (andE (andE (andE h).2).2).1, nilB_ok (andE (andE (andE h).2).2).2⟩
    | replace => exact ⟨h1 _ _ (andE h).1, repB_ok (andE h).2⟩
    | _ => exact ⟨h1 _ _ (andE h).1, h2 _ _ (andE h).2⟩⟩
mutual
theorem cE_ok (N : Nm) : ∀ (p : PE) (sc : Sc) (e : Expr), cE N p sc e = true → IsE N p sc e
  | .var k, sc, e, h => elE h fun x hx h => ⟨x.1, x.2, dNameE hx, eq_of_beq (andE h).1, (andE h).2⟩
  | .cst v, sc, e, h => elE h fun x hx h => ⟨x.1, x.2.1, x.2.2, dConstE hx, cstE (eq_of_beq h)⟩
  | .glob k, sc, e, h => elE h fun x hx h => ⟨x.1, x.2, dNameE hx, eq_of_beq (andE h).1, (andE h).2⟩
  | .bin o a b, sc, e, h => elE h fun x hx h => ⟨x.1, x.2.2.1, x.2.2.2, eq_of_beq (andE h).1 ▸ dBinE hx, cE_ok N a _ _ (andE (andE h).2).1, cE_ok N b _ _ (andE (andE h).2).2⟩
  | .neg a, sc, e, h => elE h fun x hx h => ⟨x.2.1, x.2.2, eq_of_beq (andE h).1 ▸ dUnE hx, cE_ok N a _ _ (andE h).2⟩
  | .not a, sc, e, h => elE h fun x hx h => ⟨x.2.1, x.2.2, eq_of_beq (andE h).1 ▸ dUnE hx, cE_ok N a _ _ (andE h).2⟩
  | .and es, sc, e, h => elE h fun x hx h => ⟨x.2.1, x.2.2, eq_of_beq (andE h).1 ▸ dBoolE hx, cEs_ok N es _ _ (andE h).2⟩
  | .or es, sc, e, h => elE h fun x hx h => ⟨x.2.1, x.2.2, eq_of_beq (andE h).1 ▸ dBoolE hx, cEs_ok N es _ _ (andE h).2⟩
  | .cmp a o b, sc, e, h => elE h fun x hx h => elE h fun p hp h => elE h fun r hr h => ⟨x.1, r, x.2.2.2, (dCmpE hx).trans (by rw [l1E hp, l1E hr, eq_of_beq (andE h).1]), notE (andE (andE h).2).1, cE_ok N a _ _ (andE (andE (andE h).2).2).1, cE_ok N b _ _ (andE (andE (andE h).2).2).2⟩
  | .chain a o b o' c, sc, e, h => elE h fun x hx h => elE h fun p hp h => elE h fun r hr h => ⟨x.1, r.1, r.2, x.2.2.2, (dCmpE hx).trans (by rw [l2E hp, l2E hr, eq_of_beq (andE h).1]), notE (andE (andE h).2).1, cE_ok N a _ _ (andE (andE (andE h).2).2).1, cE_ok N b _ _ (andE (andE (andE (andE h).2).2).2).1, cE_ok N c _ _ (andE (andE (andE (andE h).2).2).2).2⟩
  | .ite t a b, sc, e, h => elE h fun x hx h => ⟨x.1, x.2.1, x.2.2.1, x.2.2.2, dIteE hx, cE_ok N t _ _ (andE h).1, cE_ok N a _ _ (andE (andE h).2).1, cE_ok N b _ _ (andE (andE h).2).2⟩
  | .idx a i, sc, e, h => elE h fun x hx h => ⟨x.1, x.2.1, x.2.2, dSubE hx, cE_ok N a _ _ (andE h).1, cE_ok N i _ _ (andE h).2⟩
  | .slc a lo hi st, sc, e, h => elE h fun x hx h => elE h fun y hy h => ⟨x.1, y.1, y.2.1, y.2.2.1, y.2.2.2, x.2.2, (dSubE hx).trans (by rw [dSliceE hy]), cE_ok N a _ _ (andE h).1, partE (cE_ok N lo) (andE (andE h).2).1, partE (cE_ok N hi) (andE (andE (andE h).2).2).1, partE (cE_ok N st) (andE (andE (andE h).2).2).2⟩
  | .tup es, sc, e, h => elE h fun x hx h => ⟨x.1, x.2.1, x.2.2, dTupE hx, cEs_ok N es _ _ h⟩
  | .lst es, sc, e, h => elE h fun x hx h => ⟨x.1, x.2, dLstE hx, cEs_ok N es _ _ h⟩
  | .comp caps cls, sc, e, h => elE h fun x hx h => ⟨x.1, x.2.1, x.2.2.1, x.2.2.2, dCompE hx, ngE (andE h).1, (andE (andE h).2).1, cK_ok N true cls _ _ _ _ _ (andE (andE h).2).2⟩
  | .call f es, sc, e, h => elE h fun x hx h => ⟨x.1, x.2.1, x.2.2.1, x.2.2.2, dCallNE hx, eq_of_beq (andE h).1, (andE (andE h).2).1, ngE (andE (andE (andE h).2).2).1, of_decide_eq_true (andE (andE (andE (andE h).2).2).2).1, cEs_ok N es _ _ (andE (andE (andE (andE h).2).2).2).2⟩
  | .bi b a, sc, e, h => elE h fun x hx h => elE h fun y hy h => ⟨x.2.1, y.1, y.2, x.2.2.2, eq_of_beq (andE h).1 ▸ lcE hy ▸ dCallNE hx, (andE (andE h).2).1, moreB_ok (andE (andE (andE h).2).2).1, (andE (andE (andE (andE h).2).2).2).1, cE_ok N a _ _ (andE (andE (andE (andE h).2).2).2).2⟩
  | .meth m o es, sc, e, h => meth_ok (cE_ok N o) (cEs_ok N es) h
  | .joinEsc o k, sc, e, h => elE h fun x hx h => elE h fun g hg h => ⟨x.1, x.2.2.1, g, x.2.2.2.2, eq_of_beq (andE h).1 ▸ l1E hg ▸ dCallAE hx, (andE (andE h).2).1, eq_of_beq (andE (andE (andE h).2).2).1, (andE (andE (andE (andE h).2).2).2).1, cE_ok N o _ _ (andE (andE (andE (andE (andE h).2).2).2).2).1, escB_ok (andE (andE (andE (andE (andE h).2).2).2).2).2⟩
  | .fstr es, sc, e, h => elE h fun x hx h => ⟨x.1, x.2, dJoinedE hx, of_decide_eq_true (andE h).1, cF_ok N es _ _ (andE h).2⟩
theorem cF_ok (N : Nm) : ∀ (p : PEs) (sc : Sc) (l : List Expr), cF N p sc l = true → IsF N p sc l
  | .nil, _, _, h => nilE h
  | .cons p r, sc, l, h => elE h fun y hy h => ⟨y.2, (orE (andE h).1).imp (fun q => elE q fun z hz q => have e := dConstE hz; ⟨z.1, z.2.1, z.2.2, (lcE hy).trans (congrArg (· :: y.2) e), e ▸ cE_ok N p _ _ q⟩) fun q => elE q fun z hz q => ⟨z.1, z.2.2.2, (lcE hy).trans (congrArg (· :: y.2) ((dFmtE hz).trans (by rw [eq_of_beq (andE q).1, noneB (andE (andE q).2).1]))), cE_ok N p _ _ (andE (andE q).2).2⟩, cF_ok N r _ _ (andE h).2⟩
theorem cEs_ok (N : Nm) : ∀ (p : PEs) (sc : Sc) (l : List Expr), cEs N p sc l = true → IsEs N p sc l
  | .nil, _, _, h => nilE h
  | .cons p r, sc, l, h => elE h fun y hy h => ⟨y.1, y.2, lcE hy, cE_ok N p _ _ (andE h).1, (andE (andE h).2).1, cEs_ok N r _ _ (andE (andE h).2).2⟩
theorem cK_ok (N : Nm) : ∀ (b : Bool) (c : PC) (sc names sc' : Sc) (gens : List Comprehension) (elt : Expr), cK N b c sc names sc' gens elt = true → IsK N b c sc names sc' gens elt
  | _, .done p, _, _, _, _, _, h => ⟨nilE (andE h).1, cE_ok N p _ _ (andE h).2⟩
  | b, .clause t it ifs rest, _, _, _, _, _, h => elE h fun y hy h => ⟨y.1.target, y.1.iter, y.1.ifs, y.2, (lcE hy).trans (congrArg (· :: y.2) (async_eq (eq_of_beq (andE h).1))), tB_ok (andE (andE h).2).1, cI_ok N it _ _ (andE (andE (andE h).2).2).1, cEs_ok N ifs _ _ (andE (andE (andE (andE h).2).2).2).1, cK_ok N false rest _ _ _ _ _ (andE (andE (andE (andE h).2).2).2).2⟩
theorem cI_ok (N : Nm) : ∀ (it : PI) (sc : Sc) (e : Expr), cI N it sc e = true → IsI N it sc e
  | .ex p, sc, e, h => ⟨cE_ok N p _ _ (andE h).1, notE (andE h).2⟩
  | .range es, sc, e, h => elE h fun x hx h => ⟨x.2.1, x.2.2.1, x.2.2.2, eq_of_beq (andE h).1 ▸ dCallNE hx, (andE (andE h).2).1, ngE (andE (andE (andE h).2).2).1, of_decide_eq_true (andE (andE (andE (andE h).2).2).2).1, cEs_ok N es _ _ (andE (andE (andE (andE h).2).2).2).2⟩
  | .enum p, sc, e, h => elE h fun x hx h => elE h fun y hy h => ⟨x.2.1, y, x.2.2.2, eq_of_beq (andE h).1 ▸ l1E hy ▸ dCallNE hx, (andE (andE h).2).1, (andE (andE (andE h).2).2).1, cE_ok N p _ _ (andE (andE (andE h).2).2).2⟩
end
noncomputable def vB (N : Nm) (k : Nat) (b : Sc → Str → Bool) (sc : Sc) (x : Str × Pos) : Bool := N.vars[k]? == some x.1 && b sc x.1
theorem vBE {N : Nm} {k : Nat} {b : Sc → Str → Bool} {sc : Sc} {x : Str × Pos} (h : vB N k b sc x = true) : N.vars[k]? = some x.1 ∧ b sc x.1 = true := ⟨eq_of_beq (andE h).1, (andE h).2⟩
noncomputable def dAsgN (s : Stmt) : Option ((Str × Pos) × Expr × Pos) := (dAsg s).bind fun x => (dName x.1).map fun n => (n, x.2)
theorem dAsgNE {s : Stmt} {x : (Str × Pos) × Expr × Pos} (h : dAsgN s = some x) : s = .Assign [.Name x.1.1 x.1.2] x.2.1 x.2.2 := bindE h fun y hy h => mapE h fun n hn e => e ▸ (dAsgE hy).trans (by rw [dNameE hn])
noncomputable def dPut (e : Expr) : Option ((Str × Pos) × Expr × Pos) := (dSub e).bind fun x => (dName x.1).map fun n => (n, x.2)
theorem dPutE {e : Expr} {x : (Str × Pos) × Expr × Pos} (h : dPut e = some x) : e = .Subscript (.Name x.1.1 x.1.2) x.2.1 x.2.2 := bindE h fun y hy h => mapE h fun n hn e => e ▸ (dSubE hy).trans (by rw [dNameE hn])
noncomputable def dMeth (m : Str) (s : Stmt) : Option ((Str × Pos) × Pos × List Expr × Pos × Pos) := (dExprS s).bind fun x => (dCallA x.1).bind fun c => (dName c.1).bind fun n => if c.2.1 = m ∧ c.2.2.1.endLine = c.2.2.2.2.line then some (n, c.2.2.1, c.2.2.2.1, c.2.2.2.2, x.2) else none
theorem dMethE {m : Str} {s : Stmt} {x : (Str × Pos) × Pos × List Expr × Pos × Pos} (h : dMeth m s = some x) : s = .Expr (.Call (.Attribute (.Name x.1.1 x.1.2) m x.2.1) x.2.2.1 [] x.2.2.2.1) x.2.2.2.2 ∧ x.2.1.endLine = x.2.2.2.1.line :=
  bindE h fun y hy h => bindE h fun c hc h => bindE h fun n hn h => iteE h fun q e => e ▸ ⟨(dExprSE hy).trans (by rw [dCallAE hc, dNameE hn, q.1]), q.2⟩
noncomputable def enumB (t : Tgt) : PI → Bool
  | .enum _ => match t with
    | .two _ _ => true
    | _ => false
  | _ => true
theorem enumE {t : Tgt} {it : PI} (h : enumB t it = true) : ∀ x k, it = .enum x → t ≠ .one k := fun x k e q => by subst e; subst q; exact fnt h
section
variable (N : Nm)
mutual
noncomputable def cS : PS → Sc → Stmt → Bool
  | .asg k e, sc, s => elB (dAsgN s) fun x => vB N k wrOk sc x.1 && ((asgB x.2.1 || (compD e).isSome) && cE N e sc x.2.1)
  | .asgT k j e, sc, s => elB (dAsg s) fun x => elB (dTup x.1) fun y => elB (l2 y.1) fun z => wB N sc k z.1 && (wB N sc j z.2 && ((tupB x.2.1 || elB (dTup x.2.1) fun u => k != j && (u.1.all (foldedForSure 8) || !u.1.all (constantsAlone 8))) && cE N e sc x.2.1))
  | .asgL k, sc, s => elB (dAsgN s) fun x => elB (dLst x.2.1) fun y => y.1.isEmpty && vB N k wrOk sc x.1
  | .asgApp k j, sc, s => elB (dAsgN s) fun x => elB (dAttr x.2.1) fun y => elB (dName y.1) fun z => y.2.1 == "append" && (vB N k wrOk sc x.1 && vB N j rdOk sc z)
  | .callX k f es, sc, s => elB (dAsgN s) fun x => elB (dCallN x.2.1) fun y => vB N k wrOk sc x.1 && (N.fns[f]? == some y.1 && (glOk sc y.1 && cEs N es sc y.2.2.1))
  | .newBA k e, sc, s => elB (dAsgN s) fun x => elB (dCallN x.2.1) fun y => elB (l1 y.2.2.1) fun z => y.1 == "bytearray" && (vB N k wrOk sc x.1 && (glOk sc "bytearray" && (formB z && cE N e sc z)))
  | .put k i e, sc, s => elB (dAsg s) fun x => elB (dPut x.1) fun y => vB N k rdOk sc y.1 && (cE N i sc y.2.1 && cE N e sc x.2.1)
  | .aug k e, sc, s => elB (dAug s) fun x => elB (dName x.1) fun y => x.2.1 == .Add && (vB N k wrOk sc y && (rdOk sc y.1 && cE N e sc x.2.2.1))
  | .augPut k i e, sc, s => elB (dAug s) fun x => elB (dPut x.1) fun y => x.2.1 == .Add && (vB N k rdOk sc y.1 && (y.2.1.ctorIdx != 26 && (cE N i sc y.2.1 && cE N e sc x.2.2.1)))
  | .del k i, sc, s => elB (dDel s) fun x => elB (l1 x.1) fun t => elB (dPut t) fun y => vB N k rdOk sc y.1 && cE N i sc y.2.1
  | .append k e, sc, s => elB (dMeth "append" s) fun x => elB (l1 x.2.2.1) fun y => vB N k rdOk sc x.1 && (formB y && cE N e sc y)
  | .callApp k e, sc, s => elB (dExprS s) fun x => elB (dCallN x.1) fun y => elB (l1 y.2.2.1) fun z => vB N k rdOk sc (y.1, y.2.1) && (formB z && cE N e sc z)
  | .pop k, sc, s => elB (dMeth "pop" s) fun x => x.2.2.1.isEmpty && vB N k rdOk sc x.1
  | .iff t a b, sc, s => elB (dIf s) fun x => cE N t sc x.1 && (cSs a sc x.2.1 && cSs b sc x.2.2.1)
  | .whl t b, sc, s => elB (dWhile s) fun x => x.2.2.1.isEmpty && (cE N t sc x.1 && cSs b sc x.2.1)
  | .loop t it b o, sc, s => elB (dFor s) fun x => tB N sc t x.1 && (cI N it sc x.2.1 && (enumB t it && (cSs b sc x.2.2.1 && cSs o sc x.2.2.2.1)))
  | .ret e, sc, s => elB (dRet s) fun x => elB x.1 fun y => cE N e sc y
  | .brk, _, s => (dBrk s).isSome
  | .asrt e, sc, s => elB (dAssert s) fun x => x.2.1.isNone && cE N e sc x.1
  | .dead, _, _ => true
noncomputable def cSs : PSs → Sc → List Stmt → Bool
  | .nil, _, l => l.isEmpty
  | .cons p r, sc, l => elB (lc l) fun x => cS p sc x.1 && cSs r sc x.2
end
end
theorem someI {α : Type} {o : Option α} (h : o.isSome = true) : ∃ x, o = some x := Option.isSome_iff_exists.mp h
theorem asgE {e : PE} {v : Expr} (h : (asgB v || (compD e).isSome) = true) : asgB v = true ∨ ∃ y : List Nat × Tgt × PI × PEs × PC, e = .comp y.1 (.clause y.2.1 y.2.2.1 y.2.2.2.1 y.2.2.2.2) := (orE h).imp id fun q => (someI q).imp fun y h => compD_ok h
theorem tupE {k j : Nat} {v : Expr} (h : (tupB v || elB (dTup v) fun u => k != j && (u.1.all (foldedForSure 8) || !u.1.all (constantsAlone 8))) = true) : tupB v = true ∨ ∃ y : List Expr × Nat × Pos, v = .Tuple y.1 y.2.1 y.2.2 ∧ k ≠ j ∧ (y.1.all (foldedForSure 8) = true ∨ y.1.all (constantsAlone 8) = false) :=
  (orE h).imp id fun q => elE q fun y hy q => ⟨y, dTupE hy, bne_iff_ne.mp (andE q).1, (orE (andE q).2).imp id notE⟩
mutual
theorem cS_ok (N : Nm) : ∀ (p : PS) (sc : Sc) (s : Stmt), cS N p sc s = true → IsS N p sc s
  | .asg k e, sc, s, h => elE h fun x hx h => ⟨(x.1.1, x.1.2, x.2.1, x.2.2), dAsgNE hx, (vBE (andE h).1).1, (vBE (andE h).1).2, asgE (andE (andE h).2).1, cE_ok N e _ _ (andE (andE h).2).2⟩
  | .asgT k j e, sc, s, h => elE h fun x hx h => elE h fun y hy h => elE h fun z hz h => ⟨(z.1, z.2, y.2.1, y.2.2, x.2.1, x.2.2), (dAsgE hx).trans (by rw [dTupE hy, l2E hz]), wB_ok (andE h).1, wB_ok (andE (andE h).2).1, tupE (andE (andE (andE h).2).2).1, cE_ok N e _ _ (andE (andE (andE h).2).2).2⟩
  | .asgL k, sc, s, h => elE h fun x hx h => elE h fun y hy h => ⟨(x.1.1, x.1.2, y.2, x.2.2), (dAsgNE hx).trans (by rw [dLstE hy, nilE (andE h).1]), vBE (andE h).2⟩
  | .asgApp k j, sc, s, h => elE h fun x hx h => elE h fun y hy h => elE h fun z hz h => ⟨(x.1.1, x.1.2, z.1, z.2, y.2.2, x.2.2), (dAsgNE hx).trans (by rw [dAttrE hy, dNameE hz, eq_of_beq (andE h).1]), (vBE (andE (andE h).2).1).1, (vBE (andE (andE h).2).1).2, vBE (andE (andE h).2).2⟩
  | .callX k f es, sc, s, h => elE h fun x hx h => elE h fun y hy h => ⟨(x.1.1, x.1.2, y.1, y.2.1, y.2.2.1, y.2.2.2, x.2.2), (dAsgNE hx).trans (by rw [dCallNE hy]), (vBE (andE h).1).1, (vBE (andE h).1).2, eq_of_beq (andE (andE h).2).1, (andE (andE (andE h).2).2).1, cEs_ok N es _ _ (andE (andE (andE h).2).2).2⟩
  | .newBA k e, sc, s, h => elE h fun x hx h => elE h fun y hy h => elE h fun z hz h => ⟨(x.1.1, x.1.2, y.2.1, z, y.2.2.2, x.2.2), (dAsgNE hx).trans (by rw [dCallNE hy, l1E hz, eq_of_beq (andE h).1]), (vBE (andE (andE h).2).1).1, (vBE (andE (andE h).2).1).2, (andE (andE (andE h).2).2).1, (andE (andE (andE (andE h).2).2).2).1, cE_ok N e _ _ (andE (andE (andE (andE h).2).2).2).2⟩
  | .put k i e, sc, s, h => elE h fun x hx h => elE h fun y hy h => ⟨(y.1.1, y.1.2, y.2.1, y.2.2, x.2.1, x.2.2), (dAsgE hx).trans (by rw [dPutE hy]), (vBE (andE h).1).1, (vBE (andE h).1).2, cE_ok N i _ _ (andE (andE h).2).1, cE_ok N e _ _ (andE (andE h).2).2⟩
  | .aug k e, sc, s, h => elE h fun x hx h => elE h fun y hy h => ⟨(y.1, y.2, x.2.2.1, x.2.2.2), (dAugE hx).trans (by rw [dNameE hy, eq_of_beq (andE h).1]), (vBE (andE (andE h).2).1).1, (vBE (andE (andE h).2).1).2, (andE (andE (andE h).2).2).1, cE_ok N e _ _ (andE (andE (andE h).2).2).2⟩
  | .augPut k i e, sc, s, h => elE h fun x hx h => elE h fun y hy h => ⟨(y.1.1, y.1.2, y.2.1, y.2.2, x.2.2.1, x.2.2.2), (dAugE hx).trans (by rw [dPutE hy, eq_of_beq (andE h).1]), (vBE (andE (andE h).2).1).1, (vBE (andE (andE h).2).1).2, (andE (andE (andE h).2).2).1, cE_ok N i _ _ (andE (andE (andE (andE h).2).2).2).1, cE_ok N e _ _ (andE (andE (andE (andE h).2).2).2).2⟩
  | .del k i, sc, s, h => elE h fun x hx h => elE h fun t ht h => elE h fun y hy h => ⟨(y.1.1, y.1.2, y.2.1, y.2.2, x.2), (dDelE hx).trans (by rw [l1E ht, dPutE hy]), (vBE (andE h).1).1, (vBE (andE h).1).2, cE_ok N i _ _ (andE h).2⟩
  | .append k e, sc, s, h => elE h fun x hx h => elE h fun y hy h => ⟨(x.1.1, x.1.2, x.2.1, y, x.2.2.2.1, x.2.2.2.2), (dMethE hx).1.trans (by rw [l1E hy]), (vBE (andE h).1).1, (vBE (andE h).1).2, (dMethE hx).2, (andE (andE h).2).1, cE_ok N e _ _ (andE (andE h).2).2⟩
  | .callApp k e, sc, s, h => elE h fun x hx h => elE h fun y hy h => elE h fun z hz h => ⟨(y.1, y.2.1, z, y.2.2.2, x.2), (dExprSE hx).trans (by rw [dCallNE hy, l1E hz]), (vBE (andE h).1).1, (vBE (andE h).1).2, (andE (andE h).2).1, cE_ok N e _ _ (andE (andE h).2).2⟩
  | .pop k, sc, s, h => elE h fun x hx h => ⟨(x.1.1, x.1.2, x.2.1, x.2.2.2.1, x.2.2.2.2), (dMethE hx).1.trans (by rw [nilE (andE h).1]), (vBE (andE h).2).1, (vBE (andE h).2).2, (dMethE hx).2⟩
  | .iff t a b, sc, s, h => elE h fun x hx h => ⟨x, dIfE hx, cE_ok N t _ _ (andE h).1, cSs_ok N a _ _ (andE (andE h).2).1, cSs_ok N b _ _ (andE (andE h).2).2⟩
  | .whl t b, sc, s, h => elE h fun x hx h => ⟨(x.1, x.2.1, x.2.2.2), (dWhileE hx).trans (by rw [nilE (andE h).1]), cE_ok N t _ _ (andE (andE h).2).1, cSs_ok N b _ _ (andE (andE h).2).2⟩
  | .loop t it b o, sc, s, h => elE h fun x hx h => ⟨x, dForE hx, tB_ok (andE h).1, cI_ok N it _ _ (andE (andE h).2).1, enumE (andE (andE (andE h).2).2).1, cSs_ok N b _ _ (andE (andE (andE (andE h).2).2).2).1, cSs_ok N o _ _ (andE (andE (andE (andE h).2).2).2).2⟩
  | .ret e, sc, s, h => elE h fun x hx h => elE h fun y hy h => ⟨(y, x.2), (dRetE hx).trans (by rw [hy]), cE_ok N e _ _ h⟩
  | .brk, _, s, h => (someI h).imp fun p h => dBrkE h
  | .asrt e, sc, s, h => elE h fun x hx h => ⟨(x.1, x.2.2), (dAssertE hx).trans (by rw [noneB (andE h).1]), cE_ok N e _ _ (andE h).2⟩
  | .dead, _, _, _ => trivial
theorem cSs_ok (N : Nm) : ∀ (p : PSs) (sc : Sc) (l : List Stmt), cSs N p sc l = true → IsSs N p sc l
  | .nil, _, _, h => nilE h
  | .cons p r, sc, l, h => elE h fun x hx h => ⟨x, lcE hx, cS_ok N p _ _ (andE h).1, cSs_ok N r _ _ (andE h).2⟩
end
noncomputable def stB (N : Nm) (sc : Sc) (k : Nat) (s : Stmt) : Bool := elB (dAsgN s) fun x => vB N k wrOk sc x.1 && (elB (dCallN x.2.1) (fun y => y.1 == "object" && (y.2.2.1.isEmpty && glOk sc "object")) || elB (dLst x.2.1) fun y => elB (l1 y.1) fun z => elB (dConst z) fun c => match c.1 with
  | .str _ => true
  | _ => false)
theorem stB_ok {N : Nm} {sc : Sc} {k : Nat} {s : Stmt} (h : stB N sc k s = true) : StarE N sc k s :=
  elE h fun x hx h => ⟨(x.1.1, x.1.2, x.2.1, x.2.2), dAsgNE hx, (vBE (andE h).1).1, (vBE (andE h).1).2, (orE (andE h).2).imp (fun q => elE q fun y hy q => ⟨(y.2.1, y.2.2.2), (dCallNE hy).trans (by rw [eq_of_beq (andE q).1, nilE (andE (andE q).2).1]), (andE (andE q).2).2⟩)
    fun q => elE q fun y hy q => elE q fun z hz q => elE q fun c hc q => by
      obtain ⟨c, n, p⟩ := c
      cases c with
      | str u => exact ⟨(u, n, p, y.2), (dLstE hy).trans (by rw [l1E hz, dConstE hc])⟩
      | _ => exact absurd q fnt⟩
noncomputable def lenP : PSs → Nat
  | .nil => 0
  | .cons _ r => lenP r + 1
noncomputable def bodyB (N : Nm) (F : Fn) (sc : Sc) (body : List Stmt) : Bool := F.star.elim (cSs N F.body sc body) fun s => cSs N F.body sc (body.take (lenP F.body)) && elB (lc (body.drop (lenP F.body))) fun y => stB N sc s.1 y.1 && cSs N s.2 sc y.2
theorem bodyB_ok {N : Nm} {F : Fn} {sc : Sc} {body : List Stmt} (h : bodyB N F sc body = true) : BodyOk N F sc body := by
  unfold bodyB at h
  unfold BodyOk
  generalize F.star = o at *
  cases o with
  | none => exact cSs_ok N _ _ _ h
  | some s => exact elE (andE h).2 fun y hy q => ⟨(_, y.1, y.2), (List.take_append_drop _ _).symm.trans (congrArg (_ ++ ·) (lcE hy)), cSs_ok N _ _ _ (andE h).1, stB_ok (andE q).1, cSs_ok N _ _ _ (andE q).2⟩
end Mine
namespace Mine
open PySem PySem.W PyProof.Rows PySem.Calls Builtin.Str
noncomputable def strV : Value → Option Str
  | .str y _ => some y
  | _ => none
noncomputable def trChk (es : Array DictEntry) (c : Nat) : Bool := match findBy Value.isInt es (c : Int) with
  | none => escC c == [c]
  | some v => (strV v).elim false fun y => y == mkS [92, c] && escC c == [92, c]
noncomputable def intV : Value → Option Int
  | .int k _ => some k
  | _ => none
noncomputable def keysInt (es : Array DictEntry) : Bool := es.all fun e => (intV e.key).elim false fun k => e.hash == hashInt k
theorem keysInt_ok {prog : Program} {w : World} {es : Array DictEntry} (h : keysInt es = true) : KeysOf (intKind prog w) es := fun e he => by
  have := (Array.all_eq_true_iff_forall_mem.mp h) e he
  cases hk : e.key with
  | int k t => rw [hk] at this; exact ⟨k, by simp [intKind, Value.isInt], eq_of_beq (show (e.hash == hashInt k) = true from this)⟩
  | _ => rw [hk] at this; exact absurd this fnt
section
variable {V : Vc} {S : Ws} {prog : Program} {w : World} {A : Around} {s : Shared} {Q : Mapped → Shared → Prop} {E : Value → Shared → Prop}
theorem look_hit {d : Addr} {f : Int → Option Value} {c : Nat} {y : Str} {u : Tok} (hm : s.heap.MapOf (intKind prog w) d f) (hf : f c = some (.str y u))
    (h : ∀ tk, Q (.text y) { s with toks := tk }) : wpAny (model prog w) A (tableLookup (.ref d) c) Q E s :=
  wpAny_bind (wpAny_attempt (wpAny_bind (wpAny_mkInt (wpAny_getItem_of (knd := intKind prog w) (f := f) (k := (c : Int)) (v := .str y u) (by simp [intKind, Value.isInt]) (show ({ s with toks := s.toks + 1 } : Shared).heap.MapOf (intKind prog w) d f from hm) hf
    (wpAny_bind (wpAny_of_eq (a := none) rfl (wpAny_bind (wpAny_of_eq (a := some y) rfl (wpAny_pure (h _))))))))))
theorem sub_key_lookup : isSubtype (.type "KeyError") (.type "LookupError") = pure true := by rw [isSubtype_type]; kernel_rfl
theorem look_miss {d : Addr} {f : Int → Option Value} {c : Nat} (hh : A.handled = none) (hd : (d == sysModules) = false) (hm : s.heap.MapOf (intKind prog w) d f) (hf : f c = none)
    (h : ∀ h' tk, (∀ b o, s.heap.get? b = some o → h'.get? b = some o) → Q .keep { s with heap := h', toks := tk }) : wpAny (model prog w) A (tableLookup (.ref d) c) Q E s :=
  wpAny_bind (wpAny_attempt (wpAny_bind (wpAny_mkInt (wpAny_getItem_missing_of (knd := intKind prog w) (f := f) (k := (c : Int)) (by simp [intKind, Value.isInt]) hd hh (show ({ s with toks := s.toks + 1 } : Shared).heap.MapOf (intKind prog w) d f from hm) hf fun h' e hn =>
    hn.there.elim fun ob z => z.elim fun t z => wpAny_bind (wpAny_isInstance (T := "KeyError") (b := true) ⟨ob, z.1, z.2.1⟩ sub_key_lookup (wpAny_bind (wpAny_rule (wpAny_pure (h _ _ hn.keeps)))))))))
theorem wp_one {α β : Type} {M : Model} {x : α} {b : β} {f : α → β → Sem (ForInStep β)} {Q : β → Shared → Prop} (h : wpAny M A (f x b) (fun r s' => match r with | .done a => Q a s' | .yield a => Q a s') E s) : wpAny M A (forIn #[x] b f) Q E s := by
  rw [← Array.forIn_toList, List.forIn_cons]
  refine wpAny_bind (wpAny_mono h (fun r s' h => ?_) fun _ _ e => e)
  cases r
  · exact wpAny_pure h
  · exact wpAny_pure h
theorem short {n : Nat} (hn : n ≤ 2) : ¬ tooLong n = true := by
  unfold Builtin.Str.tooLong; rw [sizeLine_eq]; simp only [decide_eq_true_eq]; exact Nat.not_lt.mpr (lz hn (by decide))
theorem tr_end {x : List Nat} {Q : Value → Shared → Prop} {E : Value → Shared → Prop} {n : Nat} {a : Str} {z : Sem PySem.Fin} (hn : n ≤ 2) (ha : a = mkS x) (hx : x.length ≤ 2) (k : ∀ t tk, Q (.str (mkS x) t) { s with toks := tk }) :
    wpAny (model prog w) A (if tooLong n = true then z else retStr a) (fun fin s' => ∃ r, fin = .done (.ret r) ∧ Q r s') E s := by
  refine wpAny_ite (show if tooLong n = true then _ else _ from (if_neg (short hn)).symm ▸ ?_)
  subst ha
  exact wpAny_bind (wpAny_mkStr (wpAny_pure ⟨_, rfl, k _ _⟩) (show x.length ≤ _ by rw [sizeLine_eq]; exact lz hx (by decide)))
theorem tr_run {d : Addr} {f : Int → Option Value} {c : Nat} {t : Tok} {Q : Value → Shared → Prop} {E : Value → Shared → Prop} (hh : A.handled = none) (hc : c < 128) (hd : (d == sysModules) = false) (hm : s.heap.MapOf (intKind prog w) d f) (hf : (∃ u, f c = some (.str (mkS [92, c]) u) ∧ escC c = [92, c]) ∨ (f c = none ∧ escC c = [c]))
    (k : ∀ h' tk t', (∀ b o, s.heap.get? b = some o → h'.get? b = some o) → Q (.str (mkS (escC c)) t') { s with heap := h', toks := tk }) : wpAny (model prog w) A (Builtin.«str.translate» ⟨[.str (mkS [c]) t, .ref d], []⟩) (fun fin s' => ∃ r, fin = .done (.ret r) ∧ Q r s') E s := by
  unfold Builtin.«str.translate»
  refine wpAny_bind (wpAny_of_eq (a := (.str (mkS [c]) t, mkS [c], .ref d)) rfl (wpAny_ite_false rfl ?_))
  rw [show (mkS [c]).cps.all (· < 128) = true by simp [mkS, hc]]
  refine wpAny_bind (wp_one (wpAny_ite_false rfl ?_))
  rcases hf with ⟨u, hf, he⟩ | ⟨hf, he⟩
  · refine wpAny_bind (look_hit hm hf fun tk => wpAny_bind (wpAny_pure (wpAny_bind (wpAny_rule (wpAny_bind (look_hit (s := { s with toks := tk }) hm hf fun tk' => wpAny_pure ?_))))))
    exact tr_end (Nat.le_of_eq (by simp [mkS_len])) (he.symm ▸ rfl) (by rw [he]; exact Nat.le_refl 2) fun t tk => k _ _ _ fun _ _ e => e
  · refine wpAny_bind (look_miss hh hd hm hf fun h' tk hk => wpAny_bind (wpAny_pure (wpAny_pure ?_)))
    exact tr_end (Nat.le_succ 1) (he.symm ▸ rfl) (by rw [he]; exact Nat.le_succ 1) fun t tk => k _ _ _ hk
theorem tr_of {C : Cfg} {d : Addr} {es : Array DictEntry} {n : Nat} (hv : C.mg "_special_chars_map" = some (.ref d)) (hB : C.B d = some { cls := .type "dict", data := .dict es n }) (hsys : (d == sysModules) = false) (hk : keysInt es = true) (hf : ∀ c < 128, trChk es c = true) (hC : V.C = C) (hA : AOk 0 V.A) : TrOk V := by
  subst hC
  refine ⟨_, hv, fun S c t w hc Q E k => wpAny_toks (wpAny_call (codeAny_call_builtin F.slot_str_translate.plain F.entry_str_translate (F.slot_str_translate.check _ _ _ _ _ _ _ _ (typeIs_str S.s (mkS [c]) t) (F.args_str_translate_2 _ _) ?_)))⟩
  have h := hf c hc
  unfold trChk at h
  refine wpAny_mono (tr_run (A := V.A.in1) (Q := fun r s' => S.s.toks ≤ s'.toks → Q r s') hA.hand hc hsys ⟨_, es, n, w.sub _ _ (w.base _ _ hB), ⟨rfl, rfl, rfl⟩, rfl, keysInt_ok hk, fun _ => rfl⟩ ?_ fun h' tk t' hk' htk => k _ ⟨{ S.s with heap := h', toks := tk }, S.Z⟩ (Go.keeps w hk' htk) ⟨t', rfl⟩) (fun fin s' h => ?_) fun _ _ e => e
  · cases hfd : findBy Value.isInt es (c : Int) with
    | none => rw [hfd] at h; exact .inr ⟨hfd, eq_of_beq h⟩
    | some v =>
      rw [hfd] at h
      cases v with
      | str y u =>
        have h := bE (show (y == mkS [92, c] && escC c == [92, c]) = true from h)
        exact .inl ⟨u, hfd.trans (congrArg (fun z => some (Value.str z u)) (eq_of_beq h.1)), eq_of_beq h.2⟩
      | _ => exact absurd h fnt
  · obtain ⟨r, rfl, h⟩ := h
    exact h
end
end Mine
namespace Mine
open PySem PySem.W PyProof.Rows PySem.Calls
theorem slot_pat_sub : Slot "re.Pattern" "sub" "re.Pattern.sub" :=
  .of (owner := "re.Pattern") (n := "sub") (by rw [typeLookup_type, builtinLookup_eq_fast]; kernel_rfl) (by decide +kernel) (by decide +kernel) (by decide +kernel)
    (by first | exact .inl (by decide +kernel) | exact .inr (by decide +kernel)) (by rw [isSubtype_type]; kernel_rfl)
theorem type_pat_sub : typeOf (.builtin "re.Pattern.sub") = pure (.type "method_descriptor") := by show builtinType _ = _; rw [builtinType_eq_fast]; kernel_rfl
theorem entry_pat_sub : entryFor table "re.Pattern.sub" = some Builtin.«re.Pattern.sub» := entryFor_of_tree (by kernel_rfl)
theorem entry_pat_loop : entryFor table "re.Pattern.sub.loop" = some Builtin.«re.Pattern.sub.loop» := entryFor_of_tree (by kernel_rfl)
theorem slot_mat_group : Slot "re.Match" "group" "re.Match.group" :=
  .of (owner := "re.Match") (n := "group") (by rw [typeLookup_type, builtinLookup_eq_fast]; kernel_rfl) (by decide +kernel) (by decide +kernel) (by decide +kernel)
    (by first | exact .inl (by decide +kernel) | exact .inr (by decide +kernel)) (by rw [isSubtype_type]; kernel_rfl)
theorem type_mat_group : typeOf (.builtin "re.Match.group") = pure (.type "method_descriptor") := by show builtinType _ = _; rw [builtinType_eq_fast]; kernel_rfl
theorem entry_mat_group : entryFor table "re.Match.group" = some Builtin.«re.Match.group» := entryFor_of_tree (by kernel_rfl)
theorem plain_pat : PlainAttrs "re.Pattern" :=
  ⟨⟨"object.__getattribute__", by rw [typeLookup_type, builtinLookup_eq_fast]; kernel_rfl, by decide +kernel⟩, by rw [typeLookup_type, builtinLookup_eq_fast]; kernel_rfl⟩
theorem plain_mat : PlainAttrs "re.Match" :=
  ⟨⟨"object.__getattribute__", by rw [typeLookup_type, builtinLookup_eq_fast]; kernel_rfl, by decide +kernel⟩, by rw [typeLookup_type, builtinLookup_eq_fast]; kernel_rfl⟩
theorem owner_pat : Manifest.owners.lookup (String.ofList ['n', 'r', 'e', 't', 't', 'a', 'P', '.', 'e', 'r'].reverse) = some Manifest.sig_re_Pattern := by kernel_rfl
theorem owner_mat : Manifest.owners.lookup (String.ofList ['h', 'c', 't', 'a', 'M', '.', 'e', 'r'].reverse) = some Manifest.sig_re_Match := by kernel_rfl
theorem args_pat_sub (a b c : Value) : argsOk "re.Pattern.sub" ⟨[a, b, c], []⟩ := by
  unfold argsOk; rw [signature?_of (id := "re.Pattern.sub") (n := ['b', 'u', 's']) (o := ['n', 'r', 'e', 't', 't', 'a', 'P', '.', 'e', 'r']) (by kernel_rfl) owner_pat]; kernel_rfl
theorem args_mat_group (a b : Value) : argsOk "re.Match.group" ⟨[a, b], []⟩ := by
  unfold argsOk; rw [signature?_of (id := "re.Match.group") (n := ['p', 'u', 'o', 'r', 'g']) (o := ['h', 'c', 't', 'a', 'M', '.', 'e', 'r']) (by kernel_rfl) owner_mat]; kernel_rfl
noncomputable abbrev reCode : Array Nat := #[14,14,4,1,1,9,0,64,0,1342177280,0,0,0,0,0,17,0,13,11,9,0,64,0,1342177280,0,0,0,0,0,17,1,1]
noncomputable def isS (c : Nat) : Bool := c == 38 || c == 126 || c == 124
theorem set_isS5 (c : Nat) : (decide (c < 256) && (reCode.getD (5 + (1 + c / 32)) 0).testBit (c % 32)) = isS c := by
  by_cases h : c < 256
  · have key : ∀ i : Fin 256, (decide (i.val < 256) && (reCode.getD (5 + (1 + i.val / 32)) 0).testBit (i.val % 32)) = isS i.val := by decide +kernel
    exact key ⟨c, h⟩
  · have : isS c = false := by unfold isS; simp; lia
    rw [this, dF h]; rfl
theorem set_isS19 (c : Nat) : (decide (c < 256) && (reCode.getD (19 + (1 + c / 32)) 0).testBit (c % 32)) = isS c := by
  by_cases h : c < 256
  · have key : ∀ i : Fin 256, (decide (i.val < 256) && (reCode.getD (19 + (1 + i.val / 32)) 0).testBit (i.val % 32)) = isS i.val := by decide +kernel
    exact key ⟨c, h⟩
  · have : isS c = false := by unfold isS; simp; lia
    rw [this, dF h]; rfl
theorem inSet5 (c : Nat) (seen : Sre.Seen) : Sre.inSet reCode c 32 5 true seen = if isS c then .ok (true, seen.add 9) else .ok (false, (seen.add 9).add 0) := by
  show (if (decide (c < 256) && (reCode.getD (5 + (1 + c / 32)) 0).testBit (c % 32)) = true then Except.ok (true, seen.add 9) else Sre.inSet reCode c 31 14 true (seen.add 9)) = _
  rw [set_isS5]; rfl
theorem inSet19 (c : Nat) (seen : Sre.Seen) : Sre.inSet reCode c 32 19 true seen = if isS c then .ok (true, seen.add 9) else .ok (false, (seen.add 9).add 0) := by
  show (if (decide (c < 256) && (reCode.getD (19 + (1 + c / 32)) 0).testBit (c % 32)) = true then Except.ok (true, seen.add 9) else Sre.inSet reCode c 31 28 true (seen.add 9)) = _
  rw [set_isS19]; rfl
theorem adm_some (m : Sre.M) (hc : m.code = reCode) (k : Nat) (hk : k < m.lim) (hs : isS (m.text.getD k 0) = true) : ∀ (n s : Nat) (fuel : Nat) (seen : Sre.Seen), s + n = k → n < fuel → (∀ i, s ≤ i → i < k → isS (m.text.getD i 0) = false) →
    ∃ seen', Sre.M.admitted m fuel s seen = .ok (some k, seen')
  | 0, s, fuel + 1, seen, e, _, _ => by
    simp only [Nat.add_zero] at e; subst e
    refine ⟨seen.add 9, ?_⟩
    unfold Sre.M.admitted
    rw [if_neg (Nat.not_le.mpr hk), hc]
    have := inSet5 (m.text.getD s 0) seen
    rw [if_pos hs] at this
    rw [show reCode.size = 32 from rfl, this]
  | n + 1, s, fuel + 1, seen, e, hf, hn => by
    obtain ⟨seen', h⟩ := adm_some m hc k hk hs n (s + 1) fuel ((seen.add 9).add 0) (by lia) (by lia) (fun i h1 h2 => hn i (by lia) h2)
    refine ⟨seen', ?_⟩
    unfold Sre.M.admitted
    rw [if_neg (by lia), hc]
    have := inSet5 (m.text.getD s 0) seen
    rw [if_neg (by rw [hn s (Nat.le_refl _) (by lia)]; decide)] at this
    rw [show reCode.size = 32 from rfl, this]
    exact h
theorem adm_none (m : Sre.M) (hc : m.code = reCode) : ∀ (n s : Nat) (fuel : Nat) (seen : Sre.Seen), m.lim ≤ s + n → n < fuel → (∀ i, s ≤ i → i < m.lim → isS (m.text.getD i 0) = false) →
    ∃ seen', Sre.M.admitted m fuel s seen = .ok (none, seen')
  | 0, s, fuel + 1, seen, e, _, _ => by
    refine ⟨seen, ?_⟩
    unfold Sre.M.admitted
    rw [if_pos (by lia)]
  | n + 1, s, fuel + 1, seen, e, hf, hn => by
    by_cases hs : m.lim ≤ s
    · refine ⟨seen, ?_⟩
      unfold Sre.M.admitted
      rw [if_pos hs]
    obtain ⟨seen', h⟩ := adm_none m hc n (s + 1) fuel ((seen.add 9).add 0) (by lia) (by lia) (fun i h1 h2 => hn i (by lia) h2)
    refine ⟨seen', ?_⟩
    unfold Sre.M.admitted
    rw [if_neg hs, hc]
    have := inSet5 (m.text.getD s 0) seen
    rw [if_neg (by rw [hn s (Nat.le_refl _) (by lia)]; decide)] at this
    rw [show reCode.size = 32 from rfl, this]
    exact h
noncomputable def mStart (text : Array Nat) (k : Nat) (seen : Sre.Seen) : Sre.M :=
  { code := reCode, text, lim := text.size, start := k, lastStart := text.size, pc := 15, pos := k, handed := k, outermost := true, marks := #[none, none],
    frames := [{ wait := .nextStart, pc := 15, pos := k, outermost := true }], weight := 1, seen }
noncomputable def mEnd (text : Array Nat) (k : Nat) (seen : Sre.Seen) : Sre.M :=
  { code := reCode, text, lim := text.size, start := k, lastStart := text.size, pc := 15, pos := k, handed := k + 1, outermost := true, marks := #[some k, some (k + 1)], lastmark := 1, lastindex := 1,
    frames := [], weight := 0, answer := some true, seen, outcome := some .matched }
noncomputable def mFresh (text : Array Nat) (k : Nat) : Sre.M :=
  { code := reCode, text, lim := text.size, start := k, lastStart := text.size, pc := 15, pos := k, handed := k, marks := #[none, none], seen := ({} : Sre.Seen).add 14 }
noncomputable def mFail (text : Array Nat) (k : Nat) (seen : Sre.Seen) : Sre.M := { mFresh text k with seen, answer := some false }
theorem forSearch_eq (text : Array Nat) (s : Nat) (hs : s < text.size) : Sre.forSearch reCode text 1 s text.size false = (mFresh text s).attemptFrom s true := by
  have h1 : (decide (s > text.size) || decide (text.size - s < 1)) = false := by simp; lia
  unfold Sre.forSearch
  show (if (decide (s > text.size) || decide (text.size - s < 1)) = true then _ else _) = _
  rw [h1]; rfl
theorem search_some (text : Array Nat) (s k : Nat) (hk : k < text.size) (hsk : s ≤ k) (hs : isS (text.getD k 0) = true) (hn : ∀ i, s ≤ i → i < k → isS (text.getD i 0) = false) :
    ∃ seen, Sre.forSearch reCode text 1 s text.size false = mStart text k seen := by
  rw [forSearch_eq text s (by lia)]
  obtain ⟨seen, h⟩ := adm_some (mFresh text s) rfl k hk hs (k - s) s (text.size + 1 - s) (({} : Sre.Seen).add 14) (by lia) (by lia) hn
  refine ⟨seen, ?_⟩
  have h' : Sre.M.admitted (mFresh text s) ((mFresh text s).lim + 1 - s) s (mFresh text s).seen = .ok (some k, seen) := h
  have hf : (mFresh text s).hasFirstSet = true := rfl
  unfold Sre.M.attemptFrom
  rw [hf, h']; rfl
theorem search_none (text : Array Nat) (s : Nat) (hn : ∀ i, s ≤ i → i < text.size → isS (text.getD i 0) = false) :
    ∃ m, Sre.forSearch reCode text 1 s text.size false = m ∧ m.answer = some false ∧ m.frames = [] ∧ m.outcome = none := by
  by_cases hs : s < text.size
  · rw [forSearch_eq text s hs]
    obtain ⟨seen, h⟩ := adm_none (mFresh text s) rfl (text.size - s) s (text.size + 1 - s) (({} : Sre.Seen).add 14) (by show text.size ≤ _; lia) (by lia) hn
    refine ⟨_, rfl, ?_⟩
    have h' : Sre.M.admitted (mFresh text s) ((mFresh text s).lim + 1 - s) s (mFresh text s).seen = .ok (none, seen) := h
    have hf : (mFresh text s).hasFirstSet = true := rfl
    unfold Sre.M.attemptFrom
    rw [hf, h']; exact ⟨rfl, rfl, rfl⟩
  · have h1 : (decide (s > text.size) || decide (text.size - s < 1)) = true := by simp; lia
    refine ⟨_, rfl, ?_⟩
    unfold Sre.forSearch
    show Sre.M.answer (if (decide (s > text.size) || decide (text.size - s < 1)) = true then _ else _) = _ ∧ Sre.M.frames (if (decide (s > text.size) || decide (text.size - s < 1)) = true then _ else _) = _ ∧ Sre.M.outcome (if (decide (s > text.size) || decide (text.size - s < 1)) = true then _ else _) = _
    rw [h1]
    exact ⟨rfl, rfl, rfl⟩
theorem accepts17 (c : Nat) (seen : Sre.Seen) (h : isS c = true) : Sre.accepts reCode 17 c seen = .ok (true, seen.add 9) := by
  have := inSet19 c seen
  rw [if_pos h] at this
  exact this
noncomputable def m1 (text : Array Nat) (k : Nat) (seen : Sre.Seen) : Sre.M := { mStart text k seen with marks := #[some k, none], lastmark := 0, pc := 17 }
noncomputable def m2 (text : Array Nat) (k : Nat) (seen : Sre.Seen) : Sre.M := { mStart text k seen with marks := #[some k, none], lastmark := 0, pc := 29, pos := k + 1 }
noncomputable def m3 (text : Array Nat) (k : Nat) (seen : Sre.Seen) : Sre.M := { mStart text k seen with marks := #[some k, some (k + 1)], lastmark := 1, lastindex := 1, pc := 31, pos := k + 1 }
noncomputable def m4 (text : Array Nat) (k : Nat) (seen : Sre.Seen) : Sre.M := { mStart text k seen with marks := #[some k, some (k + 1)], lastmark := 1, lastindex := 1, pc := 31, pos := k + 1, handed := k + 1, answer := some true }
theorem st1 (text : Array Nat) (k : Nat) (seen : Sre.Seen) : (mStart text k seen).step = m1 text k (seen.add 17) := rfl
theorem st2 (text : Array Nat) (k : Nat) (seen : Sre.Seen) (hk : k < text.size) (hs : isS (text.getD k 0) = true) : (m1 text k seen).step = m2 text k ((seen.add 13).add 9) := by
  show (if k ≥ text.size then _ else match Sre.accepts reCode 17 (text.getD k 0) (seen.add 13) with | .error why => _ | .ok (false, seen) => _ | .ok (true, seen) => _) = _
  rw [if_neg (by lia), accepts17 _ _ hs]
  rfl
theorem st3 (text : Array Nat) (k : Nat) (seen : Sre.Seen) : (m2 text k seen).step = m3 text k (seen.add 17) := by kernel_rfl
theorem st4 (text : Array Nat) (k : Nat) (seen : Sre.Seen) : (m3 text k seen).step = m4 text k (seen.add 1) := rfl
theorem run4 (text : Array Nat) (k : Nat) (seen : Sre.Seen) (hk : k < text.size) (hs : isS (text.getD k 0) = true) : ∃ seen', (mStart text k seen).runFor 4 = m4 text k seen' := by
  refine ⟨((((seen.add 17).add 13).add 9).add 17).add 1, ?_⟩
  have e1 : (mStart text k seen).runFor 4 = ((((mStart text k seen).step).step).step).step := by
    rw [st1, st2 _ _ _ hk hs, st3, st4]
    show (if (mStart text k seen).outcome.isSome = true then _ else Sre.M.runFor 3 (mStart text k seen).step) = _
    rw [if_neg (show ¬ (mStart text k seen).outcome.isSome = true from fnt), st1]
    show (if (m1 text k (seen.add 17)).outcome.isSome = true then _ else Sre.M.runFor 2 (m1 text k (seen.add 17)).step) = _
    rw [if_neg (show ¬ (m1 text k (seen.add 17)).outcome.isSome = true from fnt), st2 _ _ _ hk hs]
    show Sre.M.runFor 1 (m2 text k _).step = _
    rw [st3]
    exact st4 text k _
  rw [e1, st1, st2 _ _ _ hk hs, st3, st4]
theorem run0 (m : Sre.M) (h1 : m.answer = some false) (h2 : m.frames = []) (h3 : m.outcome = none) : m.runFor 4 = { m with outcome := some .failed } := by
  obtain ⟨code, text, lim, start, lastStart, wholeText, mustAdvance, pc, pos, handed, outermost, marks, lastmark, lastindex, loops, inner, frames, weight, answer, seen, outcome⟩ := m
  cases h1; cases h2; cases h3
  rfl
theorem run8 (text : Array Nat) (k : Nat) (seen : Sre.Seen) : (m4 text k seen).runFor 4 = { mEnd text k seen with } := rfl
section
variable {M : Model} {A : Around} {E : Value → Shared → Prop} {s : Shared}
theorem drive_some {N : Nat} (hN : 2 ≤ N) {text : Array Nat} {k : Nat} {seen : Sre.Seen} {Q : Sre.M → Shared → Prop} (hk : k < text.size) (hs : isS (text.getD k 0) = true) (h : ∀ seen, Q (mEnd text k seen) s) :
    wpAny M A (Builtin.Re.reDrive N (mStart text k seen)) Q E s := by
  obtain ⟨n, rfl⟩ : ∃ n, N = n + 2 := ⟨N - 2, by lia⟩
  obtain ⟨seen', e⟩ := run4 text k seen hk hs
  unfold Builtin.Re.reDrive
  show wpAny M A (if ((mStart text k seen).runFor 4).outcome.isSome = true then pure ((mStart text k seen).runFor 4) else do rule "sre.turn"; Builtin.Re.reDrive (n + 1) ((mStart text k seen).runFor 4)) Q E s
  rw [e, if_neg (show ¬ (m4 text k seen').outcome.isSome = true from fnt)]
  refine wpAny_bind (wpAny_rule ?_)
  unfold Builtin.Re.reDrive
  show wpAny M A (if ((m4 text k seen').runFor 4).outcome.isSome = true then pure ((m4 text k seen').runFor 4) else do rule "sre.turn"; Builtin.Re.reDrive n ((m4 text k seen').runFor 4)) Q E s
  rw [run8, if_pos (show (mEnd text k seen').outcome.isSome = true from rfl)]
  exact wpAny_pure (h _)
theorem drive_none {N : Nat} (hN : 1 ≤ N) {m : Sre.M} {Q : Sre.M → Shared → Prop} (h1 : m.answer = some false) (h2 : m.frames = []) (h3 : m.outcome = none) (h : Q { m with outcome := some .failed } s) :
    wpAny M A (Builtin.Re.reDrive N m) Q E s := by
  obtain ⟨n, rfl⟩ : ∃ n, N = n + 1 := ⟨N - 1, by lia⟩
  unfold Builtin.Re.reDrive
  show wpAny M A (if (m.runFor 4).outcome.isSome = true then pure (m.runFor 4) else do rule "sre.turn"; Builtin.Re.reDrive n (m.runFor 4)) Q E s
  rw [run0 m h1 h2 h3, if_pos (show Option.isSome (some Sre.Outcome.failed) = true from rfl)]
  exact wpAny_pure h
theorem rules_loop (seen : Nat → Bool) {Q : PUnit → Shared → Prop} (h : Q ⟨⟩ s) : wpAny M A (forIn (List.range Sre.names.size) PUnit.unit fun i _ => do
    if seen i then rule (Sre.names.getD i "")
    pure (.yield ⟨⟩)) Q E s := by
  refine wpAny_forIn_list _ (fun _ _ s' => s' = s) _ (fun x rest b s' e => ?_) (fun b s' e => e ▸ h) _ _ rfl
  subst e
  cases seen x
  · exact wpAny_pure rfl
  · exact wpAny_bind (wpAny_rule (wpAny_pure rfl))
theorem found_some {text : Array Nat} {k st : Nat} {Q : Option Sre.M → Shared → Prop} (hk : k < text.size) (hsk : st ≤ k) (hs : isS (text.getD k 0) = true) (hn : ∀ i, st ≤ i → i < k → isS (text.getD i 0) = false)
    (h : ∀ seen, Q (some (mEnd text k seen)) s) : wpAny M A (Builtin.Re.reRunToEnd (Sre.forSearch reCode text 1 st text.size false)) Q E s := by
  obtain ⟨seen, e⟩ := search_some text st k hk hsk hs hn
  rw [e]
  unfold Builtin.Re.reRunToEnd
  refine wpAny_bind (drive_some (by decide) hk hs fun seen' => ?_)
  refine wpAny_bind (rules_loop (fun i => seen'.has i) ?_)
  exact wpAny_pure (h _)
theorem found_none {text : Array Nat} {st : Nat} {Q : Option Sre.M → Shared → Prop} (hn : ∀ i, st ≤ i → i < text.size → isS (text.getD i 0) = false)
    (h : Q none s) : wpAny M A (Builtin.Re.reRunToEnd (Sre.forSearch reCode text 1 st text.size false)) Q E s := by
  obtain ⟨m, e, h1, h2, h3⟩ := search_none text st hn
  rw [e]
  unfold Builtin.Re.reRunToEnd
  refine wpAny_bind (drive_none (by decide) h1 h2 h3 ?_)
  refine wpAny_bind (rules_loop (fun i => m.seen.has i) ?_)
  exact wpAny_pure h
end
abbrev matchO (y : Str) (u : Tok) (pat : Value) (n k : Nat) (li : Int) (tp : Addr) : Obj :=
  { cls := .type "re.Match", data := .fields #[.str y u, pat, rawInt 0, rawInt n, rawInt li, .ref tp] }
abbrev spanO (k : Nat) : Obj := { cls := .type "tuple", data := .seq #[rawInt k, rawInt (k + 1 : Nat), rawInt k, rawInt (k + 1 : Nat)] }
section
variable {C : Cfg} {A : Around} {s : Shared}
theorem slice_one {y : List Nat} {k : Nat} (hk : k < y.length) : (⟨(y.toArray).extract k (k + 1)⟩ : Str) = mkS [y.getD k 0] := by
  have : (y.toArray).extract k (k + 1) = [y.getD k 0].toArray := by
    apply Array.ext'
    simp only [List.extract_toArray, List.extract_eq_take_drop, List.getD_eq_getElem?_getD, List.getElem?_eq_getElem hk, Option.getD_some]
    rw [List.drop_eq_getElem_cons hk, show k + 1 - k = 1 by lia]
    rfl
  rw [this]
theorem group_leaf {y : List Nat} {u t : Tok} {pat : Value} {n k : Nat} {li : Int} {mm tp : Addr} {Q : Value → Shared → Prop} {E : Value → Shared → Prop} (hm : s.heap.get? mm = some (matchO (mkS y) u pat n k li tp)) (ht : s.heap.get? tp = some (spanO k)) (hk : k < y.length)
    (h : ∀ w tk, Q (.str (mkS [y.getD k 0]) w) { s with toks := tk }) : wpAny (model C.prog C.w) A (call (.builtin "re.Match.group") [.ref mm, .int 1 t]) Q E s := by
  have hT : s.TypeIs (.ref mm) "re.Match" := ⟨_, hm, rfl⟩
  refine wpAny_call (codeAny_call_builtin slot_mat_group.plain entry_mat_group (slot_mat_group.check _ _ _ _ _ _ _ _ hT (args_mat_group _ _) ?_))
  unfold Builtin.«re.Match.group»
  refine wpAny_bind (wpAny_of_eq (a := ()) rfl ?_)
  refine wpAny_bind (wpAny_bind (wpAny_fieldsOf hm rfl (wpAny_bind (wpAny_bind (wpAny_seqItems ht rfl (wpAny_pure (wpAny_pure ?_)))))))
  rw [show Array.map Builtin.Re.reRawOf ((some #[rawInt k, rawInt (k + 1 : Nat), rawInt k, rawInt (k + 1 : Nat)]).getD #[]) = #[(k : Int), (k + 1 : Nat), (k : Int), (k + 1 : Nat)] from by simp [Builtin.Re.reRawOf, rawInt]]
  refine wpAny_bind (wpAny_bind (wpAny_of_eq (a := some 1) rfl ?_))
  refine wpAny_ite_true rfl ?_
  refine wpAny_bind (wpAny_of_eq (a := 1) rfl ?_)
  refine wpAny_ite_false rfl ?_
  refine wpAny_pure ?_
  refine wpAny_bind ?_
  show wpAny _ _ (mkStr ⟨(y.toArray).extract k (k + 1)⟩) _ _ s
  rw [slice_one hk]
  exact wpAny_mkStr (wpAny_pure (h _ _)) (by rw [sizeLine_eq]; show 1 ≤ _; lia)
def CodeZ (Z : Fz) (cv : Value) (q : Str) : Prop := ∃ c o vs t, cv = .ref c ∧ Z c = some o ∧ o.data = .fields vs ∧ vs[1]? = some (.str q t)
def TabP (lp gp : Nat × Nat) (cq : Str) (o : Obj) (Z : Fz) : Prop := ∃ ps : Array Value, o = tabObj ps ∧ TriplesOk ps.toList ∧
  ∀ pos cv, codeAmong pos ps.toList = some cv → ((pos.line, pos.col) = lp → CodeZ Z cv (cq ++ "<lambda>")) ∧ ((pos.line, pos.col) = gp → CodeZ Z cv (cq ++ "<genexpr>"))
structure TabW (C : Cfg) (lp gp : Nat × Nat) : Prop where
  tab : ∀ o Z, C.tab o Z ↔ TabP lp gp C.cq o Z
  ne : lp ≠ gp
  c : ∃ c, C.cd = .ref c ∧ ∀ h : Heap, (∀ b o, C.B b = some o → h.get? b = some o) → CodeHd h c C.P
  blt : ∀ h : Heap, (∀ b o, C.B b = some o → h.get? b = some o) → h.BuiltinsAt C.mg C.P
  gP : mainGlobals ≠ C.P
theorem triples_app {a b : Nat} {c : Value} : ∀ l : List Value, TriplesOk l → TriplesOk (l ++ [rawInt a, rawInt b, c])
  | [], _ => trivial
  | .int _ _ :: .int _ _ :: _ :: rest, h => triples_app rest h
  | [.int _ _], h => h.elim
  | [.int _ _, .int _ _], h => h.elim
  | .int _ _ :: .none :: _, h => h.elim
  | .none :: _, h => h.elim
theorem among_app {pos : Pos} {a b : Nat} {c cv : Value} : ∀ l : List Value, TriplesOk l → codeAmong pos (l ++ [rawInt a, rawInt b, c]) = some cv → codeAmong pos l = some cv ∨ (a = pos.line ∧ b = pos.col ∧ cv = c) := by
  intro l
  fun_induction TriplesOk l with
  | case1 =>
    intro _ h
    simp only [List.nil_append, codeAmong, rawInt] at h
    split at h
    · rename_i hc
      cases h
      simp only [Bool.and_eq_true, beq_iff_eq] at hc
      exact .inr ⟨by lia, by lia, rfl⟩
    · cases h
  | case2 a t b u x rest ih =>
    intro h e
    simp only [List.cons_append, codeAmong] at e ⊢
    split
    · rename_i hc; rw [if_pos hc] at e; exact .inl e
    · rename_i hc; rw [if_neg hc] at e; exact ih h e
  | case3 l h1 h2 => exact fun h => h.elim
theorem CodeZ.mono {Z Z' : Fz} {cv : Value} {q : Str} (h : CodeZ Z cv q) (m : ∀ b o, Z b = some o → Z' b = some o) : CodeZ Z' cv q := by
  obtain ⟨c, o, vs, t, e, a, r⟩ := h; exact ⟨c, o, vs, t, e, m _ _ a, r⟩
theorem CodeZ.rec {Z : Fz} {cv : Value} {q : Str} {h : Heap} (x : CodeZ Z cv q) (m : ∀ b o, Z b = some o → h.get? b = some o) : h.CodeRec cv q := by
  obtain ⟨c, o, vs, t, e, a, r⟩ := x; exact ⟨c, o, vs, t, e, m _ _ a, r⟩
theorem tab_grow {lp gp : Nat × Nat} {Z : Fz} (W : TabW C lp gp) (hw : WOk C s Z) {ps : Array Value} (hP : s.heap.get? C.P = some (tabObj ps)) (hT : TabP lp gp C.cq (tabObj ps) Z) {a b : Nat} {c' : Addr} {q : Str} {h' : Heap} {tk : Nat}
    (hx : Heap.ExtBut C.P s.heap h') (hge : s.heap.objs.size ≤ c') (hrec : h'.CodeRec (.ref c') q) (htb : h'.get? C.P = some (tabObj (ps ++ #[rawInt a, rawInt b, .ref c']))) (htk : s.toks ≤ tk)
    (hq : ((a, b) = lp ∧ q = C.cq ++ "<lambda>") ∨ ((a, b) = gp ∧ q = C.cq ++ "<genexpr>")) :
    ∃ Z', Go C s Z { s with heap := h', toks := tk } Z' ∧ CodeZ Z' (.ref c') q := by
  obtain ⟨c₂, oc, vs, t, e2, hoc, hd, hv⟩ := hrec
  cases e2
  have hfr : s.heap.get? c' = none := get_none hge
  have hne : ∀ {b x}, Z b = some x → b ≠ c' := fun e q => by subst q; rw [hw.sub _ _ e] at hfr; cases hfr
  have mono : ∀ b x, Z b = some x → (Z.put c' oc) b = some x := fun b x e => by unfold Fz.put; rw [if_neg (hne e)]; exact e
  have hcP : c' ≠ C.P := fun q => by rw [q, hP] at hfr; cases hfr
  have hcode : CodeZ (Z.put c' oc) (.ref c') q := ⟨c', oc, vs, t, rfl, put_self, hd, hv⟩
  refine ⟨Z.put c' oc, ⟨fun b o hb e => hx b o hb e, rfl, mono, fun b x e => ?_, ⟨fun b x e => ?_, ?_, fun b x e => mono _ _ (hw.base b x e), ⟨_, htb, (W.tab _ _).mpr ?_⟩, hw.gens, Nat.lt_of_lt_of_le hw.tk htk⟩⟩, hcode⟩
  · unfold Fz.put at e
    by_cases q : b = c'
    · exact .inr (q ▸ hfr)
    · rw [if_neg q] at e; exact .inl e
  · unfold Fz.put at e
    by_cases q : b = c'
    · rw [if_pos q] at e; cases e; rw [q]; exact hoc
    · rw [if_neg q] at e
      exact hx _ _ (fun q => by rw [q, hw.noP] at e; cases e) (hw.sub b x e)
  · unfold Fz.put
    rw [if_neg (Ne.symm hcP)]; exact hw.noP
  · obtain ⟨ps', e1, h1, h2⟩ := hT
    cases e1
    refine ⟨_, rfl, by rw [Array.toList_append]; exact triples_app _ h1, fun pos cv e => ?_⟩
    rw [Array.toList_append] at e
    rcases among_app _ h1 e with e | ⟨rfl, rfl, rfl⟩
    · obtain ⟨x, y⟩ := h2 pos cv e
      exact ⟨fun e => (x e).mono mono, fun e => (y e).mono mono⟩
    · rcases hq with ⟨q1, q2⟩ | ⟨q1, q2⟩
      · exact ⟨fun _ => q2 ▸ hcode, fun e => absurd (q1.symm.trans e) W.ne⟩
      · exact ⟨fun e => absurd (e.symm.trans q1) W.ne, fun _ => q2 ▸ hcode⟩
def LamF (params : Arguments) (body : Expr) (scope : Scope) (q : Str) (Z : Fz) (f : Addr) (o : Obj) : Prop :=
  ∃ pm cv ctv, o = { cls := .type "function", data := .func (kla_fn "<lambda>" q params body scope [] pm cv ctv) } ∧ CodeZ Z cv q
theorem closure_nil {scope : Scope} {env : Env} {x : Str} (h : scope.names = [(x, NameKind.local)]) : closureFor scope env = pure [] := by
  unfold closureFor; rw [h]; rfl
theorem lam_make {lp gp : Nat × Nat} {Z : Fz} (K : CfgOk C) (W : TabW C lp gp) (hw : WOk C s Z) {params : Arguments} {body : Expr} {scope : Scope} {pos : Pos} {env : Env} {x : Str} {Q : Value → Shared → Prop} {E : Value → Shared → Prop}
    (hpos : (pos.line, pos.col) = lp) (hdef : defaultsOf params env = ([], [])) (hsc : scope.names = [(x, NameKind.local)]) (hge : env.globals = mainGlobals) (hcd : env.code = C.cd) (hq : env.qual = C.cq)
    (h : ∀ f o s' Z', Go C s Z s' Z' → Z' f = some o → LamF params body scope (C.cq ++ "<lambda>") Z' f o → Q (.ref f) s') :
    wpAny (model C.prog C.w) A (eval (.Lambda params body scope pos) env) Q E s := by
  obtain ⟨c, hc, hhd⟩ := W.c
  have hbase : ∀ b o, C.B b = some o → s.heap.get? b = some o := fun b o e => hw.sub _ _ (hw.base _ _ e)
  obtain ⟨oT, hP, hT⟩ := hw.tab
  have hT' := (W.tab _ _).mp hT
  obtain ⟨ps, rfl, htr, hall⟩ := id hT'
  have hns := (K.ns _ hbase).1
  refine kla_eval hdef ?_
  rw [hq]
  refine wpAny_toks ?_
  cases hf : codeAmong pos ps.toList with
  | none =>
    refine kla_makeFunction (closure_nil hsc) hge hns (hcd.trans hc) (hhd _ hbase) hP htr hf W.gP (W.blt _ hbase) fun c' ctv h' tk hx hge' hlt hrec htb htk => ?_
    obtain ⟨Z', g, hz⟩ := tab_grow W hw hP hT' hx hge' hrec htb (show s.toks ≤ tk from htk) (.inl ⟨hpos, rfl⟩)
    have g2 := Go.push g.ok (kla_obj "<lambda>" (C.cq ++ "<lambda>") params body scope [] ((C.mg "__name__").getD .none) c' ctv) rfl tk (Nat.le_refl _)
    exact h _ _ _ _ (g.trans g2) put_self ⟨_, _, _, rfl, hz.mono g2.mono⟩
  | some cv =>
    refine kla_makeFunctionHit (closure_nil hsc) hge hns (hcd.trans hc) (hhd _ hbase) hP htr hf (W.blt _ hbase) fun ctv h' tk hk hsz htk => ?_
    have g := Go.keeps hw hk (show s.toks ≤ tk from htk)
    have g2 := Go.push g.ok { cls := .type "function", data := .func (kla_fn "<lambda>" (C.cq ++ "<lambda>") params body scope [] ((C.mg "__name__").getD .none) cv ctv) } rfl tk (Nat.le_refl _)
    exact h _ _ _ _ (g.trans g2) put_self ⟨_, _, _, rfl, ((hall pos cv hf).1 hpos).mono g2.mono⟩
theorem lam_call {N : Nm} {Z : Fz} (K : CfgOk C) (hd : A.depth < recursionLimit) (hw : WOk C s Z) {params : Arguments} {body : Expr} {scope : Scope} {pos : Pos} {q : Str} {f : Addr} {o : Obj} (hl : LamE N (.Lambda params body scope pos)) (hZ : Z f = some o)
    (hF : LamF params body scope q Z f o) {y : List Nat} {u : Tok} {pat : Value} {n k : Nat} {li : Int} {mm tp : Addr} (hm : s.heap.get? mm = some (matchO (mkS y) u pat n k li tp)) (ht : s.heap.get? tp = some (spanO k)) (hk : k < y.length)
    {Q : Value → Shared → Prop} {E : Value → Shared → Prop}
    (h : ∀ w h' tk, (∀ b o, s.heap.get? b = some o → h'.get? b = some o) → Q (.str (mkS [92, y.getD k 0]) w) { s with heap := h', toks := tk }) :
    wpAny (model C.prog C.w) A (call (.ref f) [.ref mm]) Q E s := by
  obtain ⟨pm, cv, ctv, rfl, hcode⟩ := hF
  obtain ⟨p0, n1, p1, p2, ap, k1, p4, cp, n3, p6, p7, p3, sc, p8, e, hsc, hkd, hco, hge, hln, _⟩ := hl
  cases e
  refine wpAny_call (kla_callFunE hd (hw.sub _ _ hZ) rfl hco hge rfl (hcode.rec hw.sub) ?_)
  rw [show bindArgs (kla_fn "<lambda>" q _ _ scope [] pm cv ctv) ⟨[.ref mm], []⟩ = pure [(("_m" : Str), .ref mm)] from rfl]
  refine wpAny_pure (wpAny_newFunctionEnv (fun x hx => ?_) (fun x hx => ?_) (fun h₁ hns hsb => ⟨?_, ?_⟩) hkd)
  · rw [hsc] at hx
    simp only [List.mem_singleton] at hx
    rw [hx]; decide
  · simp only [List.mem_singleton] at hx
    rw [hx, hsc]; rfl
  · exact ((K.ns _ fun b o e => hw.sub _ _ (hw.base _ _ e)).2.2).fresh _ hsb
  · refine kla_codeExpr ?_
    have hold : ∀ b o, s.heap.get? b = some o → h₁.get? b = some o := fun b o e => hsb.extBut b o (Nat.ne_of_lt (Heap.lt_size e)) (Heap.get?_push_of_some _ e)
    generalize henv : newEnv scope s.heap.objs.size _ _ _ _ _ _ _ = env
    have hkd' : env.scope.kind = .function := by rw [← henv]; exact hkd
    have hkn : env.kindOf "_m" = some .local := by rw [← henv]; show scope.names.lookup _ = _; rw [hsc]; rfl
    have hlo : env.locals = s.heap.objs.size := by rw [← henv]; rfl
    clear henv
    refine wpAny_BinOp (wpAny_Constant_str ?_)
    show wpAny _ _ (do
      let v ← eval (.Call (.Attribute (.Name "_m" p2) "group" ap) [.Constant (.int 1) k1 p4] [] cp) env
      standAt p7
      let t ← holding [v] (truthy v)
      match BoolOp.Or, t with
      | .And, false | .Or, true => pure v
      | _, _ => boolOp p7 .Or (evalEach [.Constant (.str (mkS [])) n3 p6] env)) _ _ _
    refine wpAny_bind (wpAny_Call_method_lateS rfl (by rfl) (beq_iff_eq.mpr hln) ?_)
    refine wpAny_Name (wpAny_loadName_local hkd' hkn (hlo ▸ hns) rfl ?_)
    refine ⟨"re.Match", _, plain_mat, slot_mat_group, type_mat_group, ⟨_, hold _ _ hm, rfl⟩, fun a e => ?_, ?_⟩
    · cases e; exact ⟨_, hold _ _ hm, rfl⟩
    refine Calls.callWith_builtin rfl (Calls.evalArgs_plain (spliced_cons (wpAny_Constant_int (k := k1) (pos := p4) (spliced_nil ?_))))
    refine group_leaf (hold _ _ hm) (hold _ _ ht) hk fun w tk => ?_
    refine wpAny_bind (wpAny_standAt (wpAny_bind (wpAny_holding ?_)))
    refine P.truthy_str (by rw [mkS_len]; simp) ?_
    refine wpAny_pure ?_
    refine SB.add (fun t' tk' => ?_) (by rw [sizeLine_eq]; simp [Str.length])
    have := mkS_app [92] [y.getD k 0]
    rw [this]
    exact h _ _ _ hold
end
theorem Go.toks {C : Cfg} {s : Shared} {Z : Fz} (h : WOk C s Z) (tk : Nat) (htk : s.toks ≤ tk := by (first | exact Nat.le_refl _ | assumption | exact Nat.le_succ _ | lia)) : Go C s Z { s with toks := tk } Z := Go.keeps h (fun _ _ e => e) htk
theorem Go.pushOnly {C : Cfg} {s : Shared} {Z : Fz} (h : WOk C s Z) (o : Obj) (tk : Nat) (htk : s.toks ≤ tk) : Go C s Z { s with heap := s.heap.push o, toks := tk } Z := Go.keeps h (fun _ _ e => Heap.get?_push_of_some _ e) htk
structure PatAt (B : Fz) (a : Addr) : Prop where
  here : ∃ p t g b items n, B a = some { cls := .type "re.Pattern", data := .fields #[.str p t, .int 32 g, .int 1 0, .none, .none, .ref b, .int 0 0] } ∧
    (∃ o, B b = some o ∧ o.data = .seq items n) ∧ (items.map Builtin.Re.reRawOf).map (·.toNat) = reCode
theorem plain_loop : plainId "re.Pattern.sub.loop" = true := by decide +kernel
section
variable {C : Cfg} {A : Around} {s : Shared} {E : Value → Shared → Prop}
theorem whole_leaf {a : Addr} {y : List Nat} {u : Tok} {Q : Builtin.Re.ReTarget → Shared → Prop} (hp : PatAt (fun b => s.heap.get? b) a)
    (h : Q { pattern := .ref a, string := .str (mkS y) u, code := reCode, text := y.toArray, kind := 0, groups := 1, pos := 0, lim := y.toArray.size } s) :
    wpAny (model C.prog C.w) A (Builtin.Re.reWholeTarget (.ref a) (.str (mkS y) u)) Q E s := by
  obtain ⟨p, t, g, b, items, n, h1, ⟨o, h2, h3⟩, h4⟩ := hp
  unfold Builtin.Re.reWholeTarget
  refine wpAny_bind (wpAny_fieldsOf h1 rfl ?_)
  refine wpAny_bind (wpAny_of_eq (a := (y.toArray, 0)) rfl ?_)
  refine wpAny_ite_false rfl ?_
  refine wpAny_ite_false rfl ?_
  refine wpAny_bind (wpAny_of_eq (a := ()) rfl ?_)
  refine wpAny_bind (wpAny_bind (wpAny_seqItems h2 h3 (wpAny_pure ?_)))
  refine wpAny_pure ?_
  rw [show (Option.getD (some items) #[]) = items from rfl, h4]
  exact h
theorem Go.updD {s₀ s : Shared} {Z₀ Z : Fz} {D : Addr} (hw₀ : WOk C s₀ Z₀) (g : Go C s₀ Z₀ s Z) (h₀ : s₀.heap.get? D = Option.none) (hZ : Z D = Option.none) (f : Obj → Obj) : Go C s₀ Z₀ { s with heap := s.heap.update D f } Z := by
  have hP : D ≠ C.P := fun q => by
    obtain ⟨o, e, _⟩ := hw₀.tab
    rw [← q, h₀] at e; cases e
  have hk : ∀ b, b ≠ D → (s.heap.update D f).get? b = s.heap.get? b := fun b hb => Heap.get?_update_other _ _ (Ne.symm hb)
  refine ⟨fun b o hb e => ?_, g.os, g.mono, g.fresh, ⟨fun b o e => ?_, g.ok.noP, g.ok.base, ?_, g.ok.gens, g.ok.tk⟩⟩
  · show (s.heap.update D f).get? b = some o
    rw [hk b (fun q => by rw [q, h₀] at e; cases e)]
    exact g.keep b o hb e
  · show (s.heap.update D f).get? b = some o
    rw [hk b (fun q => by rw [q, hZ] at e; cases e)]
    exact g.ok.sub b o e
  · obtain ⟨o, e, t⟩ := g.ok.tab
    exact ⟨o, by show (s.heap.update D f).get? C.P = _; rw [hk _ (Ne.symm hP)]; exact e, t⟩
theorem push_leaf {D : Addr} {vs : List Value} {n : Nat} {v : Value} {Q : Unit → Shared → Prop} (hg : s.heap.get? D = some (lstO vs n)) (hz : vs.length ≤ 10000)
    (h : (s.heap.update D (Obj.mapSeq (·.push v))).get? D = some (lstO (vs ++ [v]) (n + 1)) → Q () { s with heap := s.heap.update D (Obj.mapSeq (·.push v)) }) :
    wpAny (model C.prog C.w) A (updateSeq D (·.push v)) Q E s := by
  refine wpAny_updateSeq hg rfl (h ?_) (by rw [sizeLine_eq, List.size_toArray]; lia) (by rw [sizeLine_eq, Array.size_push, List.size_toArray]; lia)
  rw [Heap.get?_update_self _ hg (by rw [Obj.mapSeq_push_plain]; rfl), Obj.mapSeq_push_plain]
  simp
theorem next_sign : ∀ (r : List Nat), (∀ i, i < r.length → isS (r.getD i 0) = false) ∧ subAmp r = r ∨
    ∃ a c r', r = a ++ c :: r' ∧ (∀ i, i < a.length → isS (a.getD i 0) = false) ∧ isS c = true ∧ subAmp r = a ++ 92 :: c :: subAmp r'
  | [] => .inl ⟨fun i h => absurd h (Nat.not_lt_zero _), rfl⟩
  | c :: r => by
    by_cases hc : isS c = true
    · refine .inr ⟨[], c, r, rfl, fun i h => absurd h (Nat.not_lt_zero _), hc, ?_⟩
      show subAmp (c :: r) = 92 :: c :: subAmp r
      rw [subAmp, if_pos (show (c == 38 || c == 126 || c == 124) = true from hc)]
    · have hc' : isS c = false := by simpa using hc
      have e : subAmp (c :: r) = c :: subAmp r := by
        rw [subAmp, if_neg (show ¬ (c == 38 || c == 126 || c == 124) = true from hc)]
      rcases next_sign r with ⟨h1, h2⟩ | ⟨a, c', r', rfl, h1, h2, h3⟩
      · refine .inl ⟨fun i hi => ?_, by rw [e, h2]⟩
        cases i with
        | zero => exact hc'
        | succ i => exact h1 i (by simpa using hi)
      · refine .inr ⟨c :: a, c', r', rfl, fun i hi => ?_, h2, by rw [e, h3]; rfl⟩
        cases i with
        | zero => exact hc'
        | succ i => exact h1 i (by simpa using hi)
theorem newMatch_leaf {y : List Nat} {u : Tok} {pat : Value} {k n : Nat} {text : Array Nat} {seen : Sre.Seen} {Q : Value → Shared → Prop}
    (h : Q (.ref (s.heap.push (spanO k)).objs.size) { s with heap := (s.heap.push (spanO k)).push (matchO (mkS y) u pat n k 1 s.heap.objs.size) }) :
    wpAny (model C.prog C.w) A (Builtin.Re.reNewMatch pat (.str (mkS y) u) 1 0 n (mEnd text k seen)) Q E s := by
  unfold Builtin.Re.reNewMatch
  refine wpAny_ite_false ?_ ?_
  · show decide (((decide (((1 : Nat) : Int) ≤ 1) && decide (k + 1 < k)) || false) = true) = false
    simp
  · show wpAny _ _ (newTuple [rawInt k, rawInt (k + 1 : Nat), rawInt k, rawInt (k + 1 : Nat)] >>= fun t => newFields "re.Match" [.str (mkS y) u, pat, rawInt 0, rawInt n, rawInt 1, t]) _ _ _
    refine wpAny_bind (wpAny_newTuple ?_)
    exact wpAny_newObj_type h (by size_fits)
theorem joinL_nil : ∀ l : List (List Nat), joinL [] l = l.flatten
  | [] => rfl
  | [x] => by simp [joinL]
  | x :: y :: r => by simp [joinL, joinL_nil (y :: r)]
theorem strsOf_map : ∀ l : List (List Nat), strsOf (l.map AV.str) = some l
  | [] => rfl
  | x :: r => by simp [strsOf, strsOf_map r]
theorem slice_leaf {y : List Nat} {k m : Nat} {Q : Value → Shared → Prop} (hy : y.length ≤ 1000) (h : Q (.str (mkS ((y.drop k).take (m - k))) s.toks) { s with toks := s.toks + 1 }) :
    wpAny (model C.prog C.w) A (Builtin.Re.reSlice y.toArray 0 k m) Q E s := by
  show wpAny _ _ (mkStr ⟨y.toArray.extract k m⟩) _ _ _
  have e : (⟨y.toArray.extract k m⟩ : Str) = mkS ((y.drop k).take (m - k)) := by
    rw [List.extract_toArray, List.extract_eq_take_drop]
  rw [e]
  exact wpAny_mkStr h (by rw [mkS_len, sizeLine_eq, List.length_take, List.length_drop]; lia)
theorem sub_loop {V : Vc} {N : Nm} {s₀ : Shared} {Z₀ : Fz} (K : CfgOk C) (hA : AOk 0 A) (hw₀ : WOk C s₀ Z₀) {a : Addr} (hp : PatAt C.B a) {params : Arguments} {body : Expr} {scope : Scope} {pos : Pos} {q : Str} {f : Addr} {o : Obj}
    (hl : LamE N (.Lambda params body scope pos)) {y : List Nat} {u : Tok} (hy : y.length ≤ 1000) {D : Addr} (h₀ : s₀.heap.get? D = none) {Q : Value → Shared → Prop} :
    ∀ (len : Nat) (r : List Nat) (k : Nat) (s : Shared) (Z : Fz) (ts : List (List Nat)) (vs : List Value) (n : Nat) (cnt : Int), r.length = len → y.drop k = r → k ≤ y.length → Go C s₀ Z₀ s Z → Z D = none →
      s.heap.get? D = some (lstO vs n) → RepL Z none (ts.map AV.str) vs → Z f = some o → LamF params body scope q Z f o → vs.length ≤ 2 * k → ts.flatten.length ≤ 2 * k →
      (∀ s' Z' t, Go C s₀ Z₀ s' Z' → Q (.str (mkS (ts.flatten ++ subAmp r)) t) s') →
      codeAny (model C.prog C.w) A (.builtin "re.Pattern.sub.loop" ⟨[.ref a, .str (mkS y) u, .ref f, rawInt 1, rawInt 0, rawInt cnt, rawInt k, rawInt k, .bool false, .ref D, .bool false], []⟩) (wants Q E) s := by
  intro len
  induction len using Nat.strongRecOn with
  | ind len ih =>
  intro r k s Z ts vs n cnt hlen hr hk g hZD hD hts hf hF hv1 hv2 kk
  have hpat : PatAt (fun b => s.heap.get? b) a := by
    obtain ⟨p, t, gg, b, items, n, h1, ⟨o, h2, h3⟩, h4⟩ := hp
    exact ⟨p, t, gg, b, items, n, g.ok.sub _ _ (g.ok.base _ _ h1), ⟨o, g.ok.sub _ _ (g.ok.base _ _ h2), h3⟩, h4⟩
  have hrl : r.length + k = y.length := by rw [← hr, List.length_drop]; lia
  have hget : ∀ i, y.toArray.getD (k + i) 0 = r.getD i 0 := fun i => by
    rw [← hr]; simp [Array.getD_eq_getD_getElem?, List.getD_eq_getElem?_getD]
  refine codeAny_builtin entry_pat_loop ?_
  rw [Around.under_plainId plain_loop _]
  refine wpAny_bind (whole_leaf hpat ?_)
  refine wpAny_ite_false rfl ?_
  show wpAny _ _ (Builtin.Re.reRunToEnd (Sre.forSearch reCode y.toArray 1 k y.toArray.size false) >>= _) _ _ _
  rcases next_sign r with ⟨h1, h2⟩ | ⟨pre, c, r', e, h1, h2, h3⟩
  · refine wpAny_bind (found_none (fun i h3 h4 => ?_) ?_)
    · obtain ⟨j, rfl⟩ := Nat.exists_eq_add_of_le h3
      rw [hget]
      exact h1 j (by rw [List.size_toArray] at h4; lia)
    have tail : ∀ (s : Shared) (Z : Fz) (ts : List (List Nat)) (vs : List Value) (n : Nat), Go C s₀ Z₀ s Z → s.heap.get? D = some (lstO vs n) → RepL Z none (ts.map AV.str) vs → ts.flatten.length ≤ 3000 →
        (∀ s' Z' t, Go C s₀ Z₀ s' Z' → Q (.str (mkS ts.flatten) t) s') →
        wpAny (model C.prog C.w) A.in1 (Builtin.Re.reSlice y.toArray 0 0 0 >>= fun joiner => seqItems? (.ref D) >>= fun x =>
          if (x.getD #[]).isEmpty = true then (pure joiner >>= fun text => ret text) else (call (.builtin "str.join") [joiner, .ref D] >>= fun text => ret text))
        (fun fin s' => match fin with | .done f => wants Q E (.ok f) s' | .again c' => c'.quiet = true ∧ codeAny (model C.prog C.w) A c' (wants Q E) s') (fun e s' => wants Q E (.error e) s') s := by
      intro s Z ts vs n g hD hts hz kk
      refine wpAny_bind (slice_leaf hy ?_)
      refine wpAny_bind (wpAny_seqItems hD rfl ?_)
      have e0 : mkS ((y.drop 0).take (0 - 0)) = mkS [] := by simp
      rw [e0]
      by_cases hvs : vs = []
      · subst hvs
        have : ts = [] := by
          have := hts.length
          rw [List.length_map, List.length_nil] at this
          exact List.length_eq_zero_iff.mp this.symm
        subst this
        refine wpAny_ite_true (by rfl) (wpAny_bind (wpAny_pure (wpAny_pure ?_)))
        exact kk _ _ _ (g.trans (Go.toks g.ok _))
      · refine wpAny_ite_false (by cases vs <;> simp_all) (wpAny_bind (wpAny_toks (join_leaf (V := ⟨C, N, A.in1, V.Φ, V.Γ, V.st⟩) hD hts (strsOf_map _) (by rw [joinL_nil]; unfold lim; lia) (by unfold lim; simp) fun u tk htk => wpAny_pure ?_)))
        rw [joinL_nil]
        exact kk _ _ _ (g.trans (Go.toks g.ok _ (by have : s.toks + 1 ≤ tk := htk; lia)))
    by_cases hlt : k < y.length
    · refine wpAny_ite_true (dT (by show k < y.toArray.size; simpa using hlt)) ?_
      refine wpAny_bind (slice_leaf hy ?_)
      refine wpAny_bind (push_leaf hD (by lia) fun hD' => ?_)
      have er : (y.drop k).take (y.toArray.size - k) = r := by rw [hr, List.take_of_length_le]; rw [List.size_toArray]; lia
      refine tail _ Z (ts ++ [r]) _ _ (Go.updD hw₀ (g.trans (Go.toks g.ok _)) h₀ hZD _) hD' ?_ (by rw [List.flatten_append, List.flatten_singleton, lnA]; lia) (fun s' Z' t g' => ?_)
      · rw [List.map_append]
        refine hts.append (.cons ⟨s.toks, ?_⟩ .nil)
        rw [show ((k : Int)).toNat = k from rfl, er]
      · rw [List.flatten_append, List.flatten_singleton, ← h2]
        rw [h2]
        have := kk s' Z' t g'
        rw [h2] at this
        exact this
    · refine wpAny_ite_false (dF (by show ¬ k < y.toArray.size; simpa using hlt)) ?_
      refine tail s Z ts vs n g hD hts (by lia) fun s' Z' t g' => ?_
      have e : r = [] := by
        have : r.length = 0 := by lia
        simpa using this
      have := kk s' Z' t g'
      rw [e] at this
      simpa [subAmp] using this
  · have hpl : pre.length + 1 + r'.length = r.length := by rw [e]; simp; lia
    have hsz : y.toArray.size = y.length := List.size_toArray ..
    have hgk : y.toArray.getD (k + pre.length) 0 = c := by rw [hget, e]; simp [List.getD_eq_getElem?_getD]
    have hgy : y.getD (k + pre.length) 0 = c := by rw [← hgk]; simp [Array.getD_eq_getD_getElem?, List.getD_eq_getElem?_getD]
    refine wpAny_bind (found_some (k := k + pre.length) (by lia) (by lia) (by rw [hgk]; exact h2) (fun i h4 h5 => ?_) fun seen => ?_)
    · obtain ⟨j, rfl⟩ := Nat.exists_eq_add_of_le h4
      rw [hget, e]
      have hj : j < pre.length := by lia
      have := h1 j hj
      simp only [List.getD_eq_getElem?_getD] at this ⊢
      rw [List.getElem?_append_left hj]; exact this
    have next : ∀ (s : Shared) (Z : Fz) (ts : List (List Nat)) (vs : List Value) (n : Nat), Go C s₀ Z₀ s Z → Z D = none → s.heap.get? D = some (lstO vs n) → RepL Z none (ts.map AV.str) vs → Z f = some o → LamF params body scope q Z f o →
        vs.length ≤ 2 * k + 1 → ts.flatten.length ≤ 2 * k + pre.length → (∀ s' Z' t, Go C s₀ Z₀ s' Z' → Q (.str (mkS (ts.flatten ++ 92 :: c :: subAmp r')) t) s') →
        wpAny (model C.prog C.w) A.in1 (Builtin.Re.reNewMatch (.ref a) (.str (mkS y) u) 1 0 y.toArray.size (mEnd y.toArray (k + pre.length) seen) >>= fun found => holding [found] (call (.ref f) [found]) >>= fun item =>
          if (item != Value.none) = true then (updateSeq D (·.push item) >>= fun _ => again (.builtin "re.Pattern.sub.loop" ⟨[.ref a, .str (mkS y) u, .ref f, rawInt 1, rawInt 0, rawInt (cnt + 1), rawInt (k + pre.length + 1 : Nat), rawInt (k + pre.length + 1 : Nat), .bool (k + pre.length + 1 == k + pre.length), .ref D, .bool false], []⟩)) else
            again (.builtin "re.Pattern.sub.loop" ⟨[.ref a, .str (mkS y) u, .ref f, rawInt 1, rawInt 0, rawInt (cnt + 1), rawInt (k + pre.length + 1 : Nat), rawInt (k + pre.length + 1 : Nat), .bool (k + pre.length + 1 == k + pre.length), .ref D, .bool false], []⟩))
        (fun fin s' => match fin with | .done f => wants Q E (.ok f) s' | .again c' => c'.quiet = true ∧ codeAny (model C.prog C.w) A c' (wants Q E) s') (fun e s' => wants Q E (.error e) s') s := by
      intro s Z ts vs n g hZD hD hts hf hF hv1 hv2 kk
      refine wpAny_bind (newMatch_leaf ?_)
      have g1 := g.trans (Go.pushOnly g.ok (spanO (k + pre.length)) s.toks (Nat.le_refl _))
      have g2 := g1.trans (Go.pushOnly g1.ok (matchO (mkS y) u (.ref a) y.toArray.size (k + pre.length) 1 s.heap.objs.size) s.toks (Nat.le_refl _))
      have hD2 := Heap.get?_push_of_some (matchO (mkS y) u (.ref a) y.toArray.size (k + pre.length) 1 s.heap.objs.size) (Heap.get?_push_of_some (spanO (k + pre.length)) hD)
      refine wpAny_bind (wpAny_holding (wpAny_toks (lam_call K (A := A.in1) (by show A.depth < _; have := hA.depth; lia) g2.ok hl hf hF (Heap.get?_push_size _ rfl) (Heap.get?_push_of_some _ (Heap.get?_push_size _ rfl)) (by lia) fun w h' tk hk' htk => ?_)))
      have g3 := g2.trans (Go.keeps g2.ok hk' htk)
      have hD3 := hk' _ _ hD2
      rw [hgy]
      refine wpAny_ite_true rfl ?_
      refine wpAny_bind (push_leaf hD3 (by lia) fun hD4 => ?_)
      refine wpAny_pure ⟨plainId_quiet plain_loop _, ?_⟩
      have g4 := Go.updD hw₀ g3 h₀ hZD (Obj.mapSeq fun x => x.push (.str (mkS [92, c]) w))
      rw [show (k + pre.length + 1 == k + pre.length) = false by simp]
      refine ih r'.length (by lia) r' (k + pre.length + 1) _ Z (ts ++ [[92, c]]) _ _ _ rfl ?_ (by lia) g4 hZD hD4 ?_ hf hF ?_ ?_ (fun s' Z' t g' => ?_)
      · rw [Nat.add_assoc, ← List.drop_drop, hr, e]; simp
      · rw [List.map_append]
        exact hts.append (.cons ⟨w, rfl⟩ .nil)
      · simp; lia
      · rw [List.flatten_append, List.flatten_singleton, lnA]; show ts.flatten.length + 2 ≤ _; lia
      · rw [List.flatten_append, List.flatten_singleton, List.append_assoc]
        exact kk s' Z' t g'
    by_cases hlt : 0 < pre.length
    · refine wpAny_ite_true (dT (by show k < k + pre.length; lia)) ?_
      refine wpAny_bind (slice_leaf hy ?_)
      refine wpAny_bind (push_leaf hD (by lia) fun hD' => ?_)
      have er : (y.drop k).take (k + pre.length - k) = pre := by rw [hr, e, Nat.add_sub_cancel_left]; simp
      refine next _ Z (ts ++ [pre]) _ _ (Go.updD hw₀ (g.trans (Go.toks g.ok _)) h₀ hZD _) hZD hD' ?_ hf hF (by simp; lia) (by rw [List.flatten_append, List.flatten_singleton, lnA]; lia) (fun s' Z' t g' => ?_)
      · rw [List.map_append]
        refine hts.append (.cons ⟨s.toks, ?_⟩ .nil)
        rw [show ((k : Int)).toNat = k from rfl]
        show Value.str (mkS ((y.drop k).take (k + pre.length - k))) _ = _
        rw [er]
      · rw [List.flatten_append, List.flatten_singleton, List.append_assoc, ← h3]
        exact kk s' Z' t g'
    · refine wpAny_ite_false (dF (by show ¬ k < k + pre.length; lia)) ?_
      have ep : pre = [] := List.length_eq_zero_iff.mp (by lia)
      refine next s Z ts vs n g hZD hD hts hf hF (by lia) (by lia) fun s' Z' t g' => ?_
      have := kk s' Z' t g'
      rw [h3, ep] at this
      exact this
end
theorem call_function : typeLookup (.type "function") "__call__" = pure (some (.builtin "function.__call__")) := by rw [typeLookup_type, builtinLookup_eq_fast]; kernel_rfl
theorem sub_str_ba : isSubtype (.type "str") (.type "bytearray") = pure false := by rw [isSubtype_type]; kernel_rfl
section
variable {C : Cfg} {N : Nm} {A : Around}
theorem named_leaf (a b : Value) : Builtin.Re.reNamed "re.Pattern.sub" "sub" ["repl", "string", "count"] 2 [a, b] [] = pure [some a, some b, none] := by
  kernel_rfl
theorem LamF.mono {params : Arguments} {body : Expr} {scope : Scope} {q : Str} {Z Z' : Fz} {f : Addr} {o : Obj} (h : LamF params body scope q Z f o) (m : ∀ b o, Z b = some o → Z' b = some o) : LamF params body scope q Z' f o := by
  obtain ⟨pm, cv, ctv, e, h⟩ := h
  exact ⟨pm, cv, ctv, e, h.mono m⟩
theorem sub_of {V : Vc} (K : CfgOk V.C) (hA : AOk 0 V.A) (W : TabW V.C V.N.lp V.N.gp) {a : Addr} (hv : V.C.mg "_twin_re_1" = some (.ref a)) (hp : PatAt V.C.B a) : SubOk V := by
  intro hlam fr S ρ l ex p apos pos y hl hgl hln F hy hstar hex Q E kk
  have hw := F.w
  have hbase : ∀ b o, V.C.B b = some o → S.s.heap.get? b = some o := fun b o e => hw.sub _ _ (hw.base _ _ e)
  obtain ⟨pp, pt, pg, pb, items, n, hpa, h2, h3⟩ := id hp
  refine wpAny_Call_method_lateS rfl (by rw [hstar]; rfl) (beq_iff_eq.mpr hln) ?_
  refine name_gl K F hgl hv ?_
  rw [hstar]
  refine ⟨"re.Pattern", _, plain_pat, slot_pat_sub, type_pat_sub, ⟨_, hbase _ _ hpa, rfl⟩, fun b e => ?_, ?_⟩
  · cases e; exact ⟨_, hbase _ _ hpa, rfl⟩
  have hl' := hl
  obtain ⟨p0, n1, p1, p2, ap, k1, p4, cp, n3, p6, p7, p3, sc, p8, rfl, hsc, hkd, hco, hge, hln, hlp⟩ := hl'
  refine Calls.callWith_builtin rfl (Calls.evalArgs_plain (spliced_cons ?_))
  rw [if_neg fnt]
  refine lam_make K W hw hlp ?_ hsc F.glob (F.code hlam).1 (F.code hlam).2 fun f o s1 Z1 g1 hf hF => ?_
  · rfl
  refine spliced_cons ?_
  rw [if_neg fnt]
  refine hex ⟨s1, Z1⟩ g1 fun v S2 g2 hr => spliced_nil ?_
  obtain ⟨s2, Z2⟩ := S2
  obtain ⟨u, rfl⟩ := hr
  have g1 : Go V.C S.s S.Z s1 Z1 := g1
  have g2 : Go V.C s1 Z1 s2 Z2 := g2
  have g := g1.trans g2
  have hb2 : ∀ b o, V.C.B b = some o → s2.heap.get? b = some o := fun b o e => g2.ok.sub _ _ (g2.ok.base _ _ e)
  have hf2 := g2.mono _ _ hf
  refine wpAny_call (codeAny_call_builtin slot_pat_sub.plain entry_pat_sub (slot_pat_sub.check _ _ _ _ _ _ _ _ ⟨_, hb2 _ _ hpa, rfl⟩ (args_pat_sub _ _ _) ?_))
  have hF2 := hF.mono g2.mono
  obtain ⟨pm, cv, ctv, ho, hcode⟩ := id hF2
  unfold Builtin.«re.Pattern.sub» Builtin.Re.reSubstitute
  refine wpAny_bind (wpAny_of_eq (named_leaf _ _) ?_)
  refine wpAny_bind (wpAny_pure ?_)
  refine wpAny_bind (wpAny_specialOf (T := "function") ⟨_, g2.ok.sub _ _ hf2, by rw [ho]⟩ call_function ?_)
  refine wpAny_ite_true rfl ?_
  refine wpAny_bind (wpAny_pure ?_)
  refine wpAny_ite_true rfl ?_
  refine wpAny_bind (wpAny_pure ?_)
  have hpat : PatAt (fun b => s2.heap.get? b) _ := ⟨pp, pt, pg, pb, items, n, hb2 _ _ hpa, (let ⟨o, e, d⟩ := h2; ⟨o, hb2 _ _ e, d⟩), h3⟩
  refine wpAny_bind (wpAny_holding (whole_leaf hpat ?_))
  refine wpAny_ite_true rfl ?_
  refine wpAny_bind ?_
  unfold Builtin.Re.reNotHeld
  refine wpAny_bind (wpAny_isInstance (T := "str") (b := false) (typeIs_str _ _ _) sub_str_ba ?_)
  refine wpAny_ite_false rfl ?_
  refine wpAny_pure ?_
  refine wpAny_bind (wpAny_newList ?_)
  refine wpAny_pure ⟨plainId_quiet plain_loop _, ?_⟩
  have hD : (s2.heap.push { cls := .type "list", data := .seq ([] : List Value).toArray }).get? s2.heap.objs.size = some (lstO [] 0) := Heap.get?_push_size _ rfl
  have g3 := Go.pushOnly g2.ok { cls := .type "list", data := .seq ([] : List Value).toArray } s2.toks (Nat.le_refl _)
  refine sub_loop (V := V) K hA g2.ok hp hl hy (get_none (Nat.le_refl _)) _ y 0 _ Z2 [] [] 0 0 rfl rfl (Nat.zero_le _) g3 ?_ hD .nil hf2 hF2 (Nat.zero_le _) (Nat.zero_le _) fun s' Z' t g' => ?_
  · cases e : Z2 s2.heap.objs.size with
    | none => rfl
    | some o => exact absurd (Heap.lt_size (g2.ok.sub _ _ e)) (Nat.lt_irrefl _)
  · exact kk _ ⟨s', Z'⟩ (g.trans g') ⟨t, by simp⟩
end
section
variable {prog : Program} {w : World} {A : Around}
def protoT (L : Addr) (fp wr : List Addr) (n₀ : Nat) (F : Nat → Value → Prop) : Protocol := fun m s₀ v s kap =>
  F (n₀ - 1 - m) v ∧ GenSince L wr s₀ s ∧ 0 < s.toks ∧ ∀ s'' : Shared, 0 < s''.toks → (∀ b ∈ L :: fp, ∀ o, s.heap.get? b = some o → s''.heap.get? b = some o) → kap (.send .none) s''
def EltT (prog : Program) (w : World) (cenv : Env) (x : Str) (elt : Expr) (P : Nat → Value → Prop) (F : Nat → Value → Prop) : Prop :=
  ∀ (A' : Around) E' i v (s₂ : Shared) m₂, A'.handled = none → P i v → 0 < s₂.toks → s₂.heap.Ns cenv.locals m₂ → m₂ x = some v →
    wpAny (model prog w) A' (eval elt cenv) (fun y s₃ => F i y ∧ Keeps s₂ s₃) E' s₂
theorem segT_loop {elt iter : Expr} {x : Str} {px : Pos} {scope : Scope} {pos : Pos} {I : Addr} {fp wr : List Addr} {n₀ : Nat} {P : Nat → Value → Prop} {St₀ : Nat → Heap → Prop} {cenv : Env}
    (hh : A.handled = none) (W₀ : ∀ A' : Around, A'.handled = none → Walks prog w A' I fp wr n₀ P St₀) (F : Nat → Value → Prop)
    (hx : cenv.kindOf x = some .local) (hp : (cenv.scope.kind == .class || (cenv.scope.kind == .module && cenv.locals != cenv.globals)) = false)
    (hco : cenv.scope.isCoroutine = false) (hCf : cenv.locals ∉ fp) (hq : EltT prog w cenv x elt P F) :
    ∀ (k i : Nat) (s₀ s : Shared) (m : Str → Option Value), n₀ - i = k → i ≤ n₀ → St₀ i s.heap → s.heap.Ns cenv.locals m → GenSince cenv.locals wr s₀ s → 0 < s.toks →
      Seg (model prog w) A (fun n s₀ r s₁ => r = .ok .next ∧ (n = 0 ∧ GenSince cenv.locals wr s₀ s₁)) (protoT cenv.locals fp wr n₀ F) k s₀
        (.compLoop (.GeneratorExp elt [⟨.Name x px, iter, [], 0⟩] scope pos) 0 (.ref I) .none cenv)
        ((model prog w).den (.compLoop (.GeneratorExp elt [⟨.Name x px, iter, [], 0⟩] scope pos) 0 (.ref I) .none cenv)) [] s := by
  have hh' : (A.over (.compLoop (.GeneratorExp elt [⟨.Name x px, iter, [], 0⟩] scope pos) 0 (.ref I) .none cenv) []).handled = none := hh
  have hCw : cenv.locals ∉ wr := fun h => hCf ((W₀ A hh).sub _ h)
  intro k
  induction k with
  | zero =>
    intro i s₀ s m hk hi hst hn hsince htk
    have hin : i = n₀ := by lia
    subst hin
    show Seg _ A _ _ _ s₀ _ ((compTurn (.GeneratorExp elt [⟨.Name x px, iter, [], 0⟩] scope pos) 0 (.ref I) .none cenv).onRaise (leaving cenv)) [] s
    rw [compTurn_gen, Sem.onRaise_eq_wrap]
    refine seg_bind_wrap (wpAny_standAt ?_)
    refine seg_bind_wrap ((W₀ _ hh').done s _ _ hst fun h' tk hk' => ?_)
    exact seg_end (.ok .next) ⟨rfl, rfl, hsince.step fun b o _ hw e => hk' b o hw e⟩
  | succ k ih =>
    intro i s₀ s m hk hi hst hn hsince htk
    have hlt : i < n₀ := by lia
    show Seg _ A _ _ _ s₀ _ ((compTurn (.GeneratorExp elt [⟨.Name x px, iter, [], 0⟩] scope pos) 0 (.ref I) .none cenv).onRaise (leaving cenv)) [] s
    rw [compTurn_gen, Sem.onRaise_eq_wrap]
    refine seg_bind_wrap (wpAny_standAt ?_)
    refine seg_bind_wrap (wpAny_toks ((W₀ _ hh').item i s _ _ hlt hst fun v h₁ tk₁ hPv hst₁ hk₁ ht₁ => ?_))
    refine seg_bind_wrap (wpAny_of_eq (rfl : letOwnedTupleGo (.Name x px) (.ref I) v = pure ()) ?_)
    refine seg_bind_wrap (wpAny_toks (wpAny_assign_Name (wpAny_storeName_local hx (hn.at' fun o e => hk₁ _ o hCw e) (fun h₂ hn₂ hs₂ ht₂ => ?_) hp)))
    have up₂ : ∀ b o, b ≠ cenv.locals → b ∉ wr → s.heap.get? b = some o → h₂.get? b = some o := fun b o hbC hbw e => hs₂.extBut b o hbC (hk₁ b o hbw e)
    have hst₂ : St₀ (i + 1) h₂ := (W₀ A hh).frame _ _ _ hst₁ fun b hb o e => hs₂.extBut b o (fun h => hCf (h ▸ hb)) e
    refine seg_bind_wrap (wpAny_pure ?_)
    rw [if_pos (rfl : true = true)]
    have hy : ∀ v, yieldOut cenv v = yieldValue v := fun v => by simp only [yieldOut, hco, Bool.false_eq_true, if_false]
    simp only [hy]
    rw [Sem.bind_eq_wrap', Sem.bind_eq_wrap', Sem.wrap_wrap, Sem.wrap_wrap]
    refine seg_wrap (wpAny_toks (wpAny_mono (hq _ _ i v _ _ hh' hPv (Nat.lt_of_lt_of_le htk (lz ht₁ ht₂)) hn₂ (by simp)) (fun y s₄ h₄ ht₄ => ?_) fun _ _ e => e))
    obtain ⟨hFy, h₄', tk₄, rfl, hk₄⟩ := h₄
    have h0 : 0 < tk₄ := Nat.lt_of_lt_of_le htk (lz ht₁ (lz ht₂ ht₄))
    refine seg_at (seg_yield rfl rfl rfl ⟨?_, hsince.step fun b o hbC hbw e => hk₄ b o (up₂ b o hbC hbw e), h0, fun s'' ht'' hal => ?_⟩)
    · rw [show n₀ - 1 - k = i by lia]; exact hFy
    · exact seg_again rfl (ih (i + 1) s'' s'' _ (by lia) hlt ((W₀ A hh).frame _ _ _ hst₂ fun b hb o e => hal b (List.mem_cons_of_mem _ hb) o (hk₄ b o e))
        ((hn₂.keeps hk₄).at' fun o e => hal _ (List.mem_cons_self ..) o e) (GenSince.refl _ _ _) ht'')
theorem segT_start {elt iter : Expr} {x : Str} {px : Pos} {scope : Scope} {pos : Pos} {I : Addr} {fp wr : List Addr} {n₀ : Nat} {P : Nat → Value → Prop} {St₀ : Nat → Heap → Prop} {cenv : Env}
    (hh : A.handled = none) (W₀ : ∀ A' : Around, A'.handled = none → Walks prog w A' I fp wr n₀ P St₀) (F : Nat → Value → Prop)
    (hx : cenv.kindOf x = some .local) (hp : (cenv.scope.kind == .class || (cenv.scope.kind == .module && cenv.locals != cenv.globals)) = false)
    (hco : cenv.scope.isCoroutine = false) (hCf : cenv.locals ∉ fp) (hq : EltT prog w cenv x elt P F)
    (s₀ s : Shared) (m : Str → Option Value) (hst : St₀ 0 s.heap) (hn : s.heap.Ns cenv.locals m) (hsince : GenSince cenv.locals wr s₀ s) (htk : 0 < s.toks) :
    Seg (model prog w) A (fun n s₀ r s₁ => r = .ok .next ∧ (n = 0 ∧ GenSince cenv.locals wr s₀ s₁)) (protoT cenv.locals fp wr n₀ F) n₀ s₀
      (.compStart (.GeneratorExp elt [⟨.Name x px, iter, [], 0⟩] scope pos) 0 (.ref I) .none cenv)
      ((model prog w).den (.compStart (.GeneratorExp elt [⟨.Name x px, iter, [], 0⟩] scope pos) 0 (.ref I) .none cenv)) [] s := by
  have hh' : (A.over (.compStart (.GeneratorExp elt [⟨.Name x px, iter, [], 0⟩] scope pos) 0 (.ref I) .none cenv) []).handled = none := hh
  have loop := segT_loop (iter := iter) (px := px) (scope := scope) (pos := pos) hh W₀ F hx hp hco hCf hq n₀ 0 s₀ s m (Nat.sub_zero _) (Nat.zero_le _) hst hn hsince htk
  show Seg _ A _ _ _ s₀ _ ((compStart (.GeneratorExp elt [⟨.Name x px, iter, [], 0⟩] scope pos) 0 (.ref I) .none cenv).onRaise (leaving cenv)) [] s
  unfold compStart
  rw [Sem.onRaise_eq_wrap]
  show Seg _ A _ _ _ s₀ _ ((ask >>= _).wrap _ _ _ _) [] s
  refine seg_bind_wrap (wpAny_askSetting ?_)
  split
  · exact seg_again rfl loop
  · refine seg_bind_wrap (wpAny_rule (seg_bind_wrap (wpAny_standAt (seg_bind_wrap ((W₀ _ hh').self 0 s _ _ hst (seg_again rfl loop))))))
def AtT (prog : Program) (w : World) (A : Around) (a : Addr) (g : Nat) (L : Addr) (fp wr : List Addr) (n₀ : Nat) (F : Nat → Value → Prop) (j : Nat) (s : Shared) : Prop :=
  s.heap.IsGen a g ∧ s.heap.NoLimit ∧ 0 < s.toks ∧ ∃ gs, s.gens[g]? = some gs ∧ ∀ s'' : Shared, 0 < s''.toks → (∀ b ∈ L :: fp, ∀ o, s.heap.get? b = some o → s''.heap.get? b = some o) →
    gs.Goes (model prog w) A.in1 (fun n s₀ r s₁ => r = .ok .next ∧ (n = 0 ∧ GenSince L wr s₀ s₁)) (protoT L fp wr n₀ F) (n₀ - j) (.send .none) s''
theorem walksT (hh : A.handled = none) (a : Addr) (g : Nat) (L : Addr) (fp wr : List Addr) (n₀ : Nat) (F : Nat → Value → Prop) (haC : a ≠ L) (haf : a ∉ fp) (hsub : ∀ b ∈ wr, b ∈ fp)
    (hroom : A.depth < recursionLimit) (hcs : cStatics ∈ fp) (hcC : cStatics ≠ L) (hcw : cStatics ∉ wr) :
    WalksS prog w A a (a :: L :: fp) (L :: wr) (GenOnlyQ g) n₀ F (AtT prog w A a g L fp wr n₀ F) where
  sub := fun b hb => by
    rcases mCo hb with rfl | hb
    · simp
    · exact List.mem_cons_of_mem _ (List.mem_cons_of_mem _ (hsub b hb))
  grefl := fun _ => .inl rfl
  gtrans := fun _ _ _ x y => x.trans y
  frame := fun j s h' tk st ht hk =>
    ⟨let ⟨o, nm, qn, ho, r⟩ := st.1; ⟨o, nm, qn, hk a (List.mem_cons_self ..) o ho, r⟩,
     (let ⟨mc, hns, hnn⟩ := st.2.1; ⟨mc, hns.at' fun o e => hk cStatics (List.mem_cons_of_mem _ (List.mem_cons_of_mem _ hcs)) o e, hnn⟩),
     Nat.lt_of_lt_of_le st.2.2.1 ht,
     let ⟨gs, hgs, hgo⟩ := st.2.2.2; ⟨gs, hgs, fun s'' h0 hal => hgo s'' h0 fun b hb o e => hal b hb o (hk b (List.mem_cons_of_mem _ hb) o e)⟩⟩
  item := fun j s Q E hj st hQ => by
    obtain ⟨hg, hl, h0, gs, hgs, hgo⟩ := st
    obtain ⟨m, hm⟩ : ∃ m, n₀ - j = m + 1 := ⟨n₀ - j - 1, by lia⟩
    rw [hm] at hgo
    refine wpAny_with_toks (Nat.le_refl s.toks) ?_
    refine wpAny_pyNext_genexpQ (P := fun n s₀ s₁ => n = 0 ∧ GenSince L wr s₀ s₁) hh hl hroom hg hgs (hgo _ h0 fun _ _ _ e => e) (fun v s₁ gs' hb hv => ?_) (fun s₁ hp h' hk => ?_)
    · obtain ⟨hF, ⟨h₁, tk₁, rfl, hk₁⟩, ht₁, hkap⟩ := hv
      rw [show n₀ - 1 - (m + 1 - 1) = j by lia] at hF
      have haw : a ∉ wr := fun h => haf (hsub a h)
      intro htk
      refine hQ v _ hF ⟨let ⟨o, nm, qn, ho, r⟩ := hg; ⟨o, nm, qn, hk₁ a o haC haw ho, r⟩, (let ⟨mc, hns, hnn⟩ := hl; ⟨mc, hns.at' fun o e => hk₁ cStatics o hcC hcw e, hnn⟩), ht₁, gs', setGen_self (gs := .running) (setGen_self hgs), fun s'' h0 hal => ?_⟩
        ⟨fun b o hb e => hk₁ b o (fun h => hb (h ▸ List.mem_cons_self ..)) (fun h => hb (List.mem_cons_of_mem _ h)) e, GenOnlyQ.of ((GenOnly.setGen s g .running).trans (GenOnly.setGen _ g gs')) (setGen_self (gs := .running) (setGen_self hgs)) hb, rfl, rfl, htk⟩
      have e : n₀ - (j + 1) = m := by lia
      rw [e]
      exact hkap s'' h0 hal
    · exact absurd hp.1 (Nat.succ_ne_zero m)
  done := fun s Q E st hQ => by
    obtain ⟨hg, hl, h0, gs, hgs, hgo⟩ := st
    rw [Nat.sub_self] at hgo
    refine wpAny_with_toks (Nat.le_refl s.toks) ?_
    refine wpAny_pyNext_genexpQ (P := fun n s₀ s₁ => n = 0 ∧ GenSince L wr s₀ s₁) hh hl hroom hg hgs (hgo _ h0 fun _ _ _ e => e) (fun v s₁ gs' hb hv => ?_) (fun s₁ hp h' hk => ?_)
    · obtain ⟨_, _, _, hkap⟩ := hv
      exact False.elim (hkap { s₁ with toks := 1 } (Nat.lt_succ_self 0) fun _ _ _ e => e)
    · obtain ⟨_, h₁, tk₁, rfl, hk₁⟩ := hp
      intro htk
      exact hQ _ ⟨fun b o hb e => hk b o (hk₁ b o (fun h => hb (h ▸ List.mem_cons_self ..)) (fun h => hb (List.mem_cons_of_mem _ h)) e), GenOnlyQ.of ((GenOnly.setGen s g .running).trans (GenOnly.setGen _ g .finished)) (setGen_self (gs := .running) (setGen_self hgs)) rfl, rfl, rfl, htk⟩
  self := fun _ _ _ _ st hQ => wpAny_pyIter_gen st.1 hQ
end
section
variable {C : Cfg} {N : Nm} {A : Around}
theorem repC_len (c : Nat) (new : List Nat) : ∀ x : List Nat, (repC c new x).length ≤ x.length * (new.length + 1)
  | [] => by simp [repC]
  | d :: r => by
    have := repC_len c new r
    unfold repC
    split
    · simp only [lnA, List.length_cons]; rw [Nat.add_mul]; lia
    · simp only [List.length_cons]; rw [Nat.add_mul]; lia
theorem elt_leaf {cenv : Env} {x : Str} {P : Nat → Value → Prop} {l : List (List Nat)} {p0 p1 p2 q1 q2 b1 b2 b3 b4 : Pos} {k1 k2 k3 k4 : Nat} (hkd : cenv.scope.kind = .function) (hx : cenv.kindOf x = some .local)
    (hxd : (x == ("__debug__" : Str)) = false) (hp1 : p1.endLine = q1.line) (hp2 : p2.endLine = q2.line)
    (hP : ∀ i v, P i v → ∃ u, v = .str (mkS (l.getD i [])) u) (hl : ∀ y ∈ l, y.length ≤ 1000) :
    EltT C.prog C.w cenv x (.Call (.Attribute (.Call (.Attribute (.Name x p0) "replace" p1) [.Constant (.str (mkS [92])) k1 b1, .Constant (.str (mkS [92, 92])) k2 b2] [] q1) "replace" p2)
      [.Constant (.str (mkS [45])) k3 b3, .Constant (.str (mkS [92, 45])) k4 b4] [] q2) P (fun i y => ∃ u, y = .str (mkS (escP (l.getD i []))) u) := by
  intro A' E' i v s m hh hPv h0 hn hm
  obtain ⟨u, rfl⟩ := hP i v hPv
  have hlen : (l.getD i []).length ≤ 1000 := by
    rw [List.getD_eq_getElem?_getD]
    cases e : l[i]? with
    | none => simp
    | some y => exact hl y (List.mem_of_getElem? e)
  refine wpAny_Call_method_lateS rfl (by rfl) (by simpa using hp2) ?_
  refine wpAny_Call_method_lateS rfl (by rfl) (by simpa using hp1) ?_
  refine wpAny_Name (wpAny_loadName_local hkd hx hn hm ?_) hxd
  refine ⟨"str", _, _root_.PySem.F.plainAttrs_str, _root_.PySem.F.slot_str_replace, _root_.PySem.F.type_str_replace, typeIs_str _ _ _, (fun _ e => nomatch e), ?_⟩
  refine Calls.callWith_builtin rfl (Calls.evalArgs_plain (spliced_cons (wpAny_Constant_str (k := k1) (pos := b1) (spliced_cons (wpAny_Constant_str (k := k2) (pos := b2) (spliced_nil ?_))))))
  refine wpAny_toks (SC.replaceW (by show s.toks ≠ 0; lia) (by show s.toks + 1 ≠ 0; lia) (by show s.toks ≠ s.toks + 1; lia) (by decide +kernel) (by rw [mkS_len]; lia) (by decide +kernel) fun t' tk htk => ?_)
  rw [replace_eq]
  have h1 : 0 < tk := Nat.lt_of_lt_of_le (by show 0 < s.toks + 1 + 1; lia) htk
  have hr := repC_len 92 [92, 92] (l.getD i [])
  refine ⟨"str", _, _root_.PySem.F.plainAttrs_str, _root_.PySem.F.slot_str_replace, _root_.PySem.F.type_str_replace, typeIs_str _ _ _, (fun _ e => nomatch e), ?_⟩
  refine Calls.callWith_builtin rfl (Calls.evalArgs_plain (spliced_cons (wpAny_Constant_str (k := k3) (pos := b3) (spliced_cons (wpAny_Constant_str (k := k4) (pos := b4) (spliced_nil ?_))))))
  refine SC.replaceW (by show tk ≠ 0; lia) (by show tk + 1 ≠ 0; lia) (by show tk ≠ tk + 1; lia) (by decide +kernel) (by rw [mkS_len]; simp only [List.length_cons, List.length_nil] at hr; lia) (by decide +kernel) fun t'' tk'' => ?_
  rw [replace_eq]
  exact ⟨⟨t'', rfl⟩, s.heap, tk'', rfl, fun _ _ e => e⟩
theorem Go.moved {s₀ s s' : Shared} {Z₀ Z : Fz} {wr : List Addr} {G : Array GenState → Array GenState → Prop} {k : Nat} (hw₀ : WOk C s₀ Z₀) (g : Go C s₀ Z₀ s Z) (m : Moved wr G s s') (hg : AllBare s'.gens)
    (h₀ : ∀ b ∈ wr, s₀.heap.get? b = Option.none) (hz : ∀ b ∈ wr, Z b = Option.none) (hk : 0 < k) : Go C s₀ Z₀ { s' with toks := k } Z := by
  have hP : C.P ∉ wr := fun h => by
    obtain ⟨o, e, _⟩ := hw₀.tab
    rw [h₀ _ h] at e; cases e
  refine ⟨fun b o hb e => m.heap b o (fun h => by rw [h₀ b h] at e; cases e) (g.keep b o hb e), m.os.trans g.os, g.mono, g.fresh, ⟨fun b o e => m.heap b o (fun h => by rw [hz b h] at e; cases e) (g.ok.sub b o e), g.ok.noP, g.ok.base, ?_, hg, hk⟩⟩
  obtain ⟨o, e, t⟩ := g.ok.tab
  exact ⟨o, m.heap _ _ hP e, t⟩
theorem Go.gens {s₀ s : Shared} {Z₀ Z : Fz} {h' : Heap} {gs : Array GenState} {tk : Nat} (g : Go C s₀ Z₀ s Z) (hk : ∀ b o, s.heap.get? b = some o → h'.get? b = some o) (hg : AllBare gs) (h0 : 0 < tk) : Go C s₀ Z₀ { s with gens := gs, toks := tk, heap := h' } Z := by
  refine ⟨fun b o hb e => hk _ _ (g.keep b o hb e), g.os, g.mono, g.fresh, ⟨fun b o e => hk _ _ (g.ok.sub b o e), g.ok.noP, g.ok.base, ?_, hg, h0⟩⟩
  obtain ⟨o, e, t⟩ := g.ok.tab
  exact ⟨o, hk _ _ e, t⟩
theorem gen_code {lp gp : Nat × Nat} {s : Shared} {Z : Fz} (W : TabW C lp gp) (hw : WOk C s Z) {scope : Scope} {pos : Pos} {env : Env} {Q : Value → Shared → Prop} {E : Value → Shared → Prop}
    (hpos : (pos.line, pos.col) = gp) (hcd : env.code = C.cd) (h : ∀ code s' Z', Go C s Z s' Z' → Q code s') :
    wpAny (model C.prog C.w) A (genexprCode env pos (C.cq ++ "<genexpr>") scope) Q E s := by
  obtain ⟨c, hc, hhd⟩ := W.c
  have hbase : ∀ b o, C.B b = some o → s.heap.get? b = some o := fun b o e => hw.sub _ _ (hw.base _ _ e)
  obtain ⟨oT, hP, hT⟩ := hw.tab
  have hT' := (W.tab _ _).mp hT
  obtain ⟨ps, rfl, htr, hall⟩ := id hT'
  refine wpAny_toks ?_
  cases hf : codeAmong pos ps.toList with
  | none =>
    refine wpAny_genexprCodeX (hcd.trans hc) ((hhd _ hbase).code hP htr) ((hhd _ hbase).tab hP) hf fun c' h' tk hx hge' hlt _ hrec htb _ htk => ?_
    obtain ⟨Z', g, _⟩ := tab_grow W hw hP hT' hx hge' hrec htb.2 (show s.toks ≤ tk from htk) (.inr ⟨hpos, rfl⟩)
    exact h _ _ _ g
  | some cv => exact wpAny_genexprCode_hit (hcd.trans hc) ((hhd _ hbase).code hP htr) hf fun _ => h _ _ _ (Go.refl hw)
theorem closure_nil2 {scope : Scope} {env : Env} {x y : Str} (h : scope.names = [(x, NameKind.local), (y, NameKind.local)]) : closureFor scope env = pure [] := by
  unfold closureFor; rw [h]; rfl
theorem esc_of {V : Vc} (K : CfgOk V.C) (hA : AOk 0 V.A) (W : TabW V.C V.N.lp V.N.gp) : EscOk V := by
  intro hlam fr S ρ k g ob sep xs l apos pos hg hln F hρ hl hlen hxl hz hsep hbase hob Q E kk
  obtain ⟨C, N, A, Φ, Γ, st⟩ := V
  obtain ⟨sc, env, m, ad⟩ := fr
  obtain ⟨s, Z⟩ := S
  have hw : WOk C s Z := F.w
  obtain ⟨a, p0, p1, k1, b1, k2, b2, c1, p2, k3, b3, k4, b4, c2, pb, id, pid, scope, gpos, rfl, hid, hrd, hnm, hb0, hbd, hkd, hco, hge, hq1, hq2, hgp⟩ := hg
  have hdep' := hA.depth
  have hdep : A.depth + 4 * 0 + 8 < recursionLimit := hA.depth
  refine wpAny_Call_method_lateS hbase (by rfl) (beq_iff_eq.mpr hln) ?_
  refine hob fun v S1 g1 hv => ?_
  obtain ⟨s1, Z1⟩ := S1
  obtain ⟨t, rfl⟩ := hv
  refine ⟨"str", _, _root_.PySem.F.plainAttrs_str, _root_.PySem.F.slot_str_join, _root_.PySem.F.type_str_join, typeIs_str _ _ _, (fun _ e => nomatch e), ?_⟩
  refine Calls.callWith_builtin rfl (Calls.evalArgs_plain (spliced_cons ?_))
  rw [if_neg fnt]
  have F1 := F.go (S' := ⟨s1, Z1⟩) g1
  have g1 : Go C s Z s1 Z1 := g1
  obtain ⟨n, v, h1, h2, h3⟩ := F1.vars k _ hρ
  have e1 := hid
  cases h1.symm.trans e1
  obtain ⟨⟨D, vs, nn, rfl, hD, hxs⟩, _⟩ := h3
  have hDlt : D < s1.heap.objs.size := Heap.lt_size hD
  have ht0 := g1.ok.tk
  refine wpAny_GeneratorExp_make hco (closure_nil2 hnm) (fun y hy => ?_) (by rw [hnm]; rfl) hkd (by lia) ?_ (fun _ => rfl)
  · rw [hnm] at hy
    simp only [List.mem_cons, List.not_mem_nil, or_false] at hy
    rcases hy with rfl | rfl <;> simp
  refine name_rd F1 hrd h2 ?_
  refine wpAny_pyIter_list (lookList hD) ?_
  have g2 := g1.trans (Go.pushOnly g1.ok { cls := .type "list_iterator", data := .fields #[.ref D, .int 0 0] } s1.toks (Nat.le_refl _))
  have hI : (s1.heap.push { cls := .type "list_iterator", data := .fields #[.ref D, .int 0 0] }).get? s1.heap.objs.size = some { cls := .type "list_iterator", data := .fields #[.ref D, .int 0 0] } := Heap.get?_push_size _ rfl
  have hbase2 : ∀ b o, C.B b = some o → (s1.heap.push { cls := .type "list_iterator", data := .fields #[.ref D, .int 0 0] }).get? b = some o := fun b o e => g2.ok.sub _ _ (g2.ok.base _ _ e)
  refine ⟨(K.ns _ hbase2).2.2, ?_⟩
  rw [(F.code hlam).2]
  refine gen_code W g2.ok hgp (F.code hlam).1 fun code s4 Z4 g4 => ?_
  have hbase4 : ∀ b o, C.B b = some o → s4.heap.get? b = some o := fun b o e => g4.ok.sub _ _ (g4.ok.base _ _ e)
  obtain ⟨bm, obm, e1, e2, e3, e4, e5, e6, e7, e8⟩ := W.blt _ hbase4
  obtain ⟨n1, n2, n3⟩ := K.ns _ hbase4
  refine wpAny_builtinsFor (F.glob ▸ n1) e1 e2 e5 e6 e7 e8 ?_
  intro h' hns hsb
  have hP2 : C.P ≠ s1.heap.objs.size := fun q => by
    obtain ⟨o, e, _⟩ := g1.ok.tab
    exact absurd (Heap.lt_size (q ▸ e)) (Nat.lt_irrefl _)
  have hDP : D ≠ C.P := g1.ok.pNe hD nofun
  have hI4 := g4.keep _ _ (Ne.symm hP2) hI
  have hD4 := g4.keep _ _ hDP (Heap.get?_push_of_some _ hD)
  have hsz : h'.objs.size = s4.heap.objs.size + 1 := by rw [hsb.1, Heap.size_push]
  have keep' : ∀ b o, s4.heap.get? b = some o → h'.get? b = some o := fun b o e => hsb.extBut b o (Nat.ne_of_lt (Heap.lt_size e)) (Heap.get?_push_of_some _ e)
  have hclt : cStatics < s4.heap.objs.size := let ⟨_, hn, _⟩ := n3; hn.lt
  have hIlt : s1.heap.objs.size < s4.heap.objs.size := Heap.lt_size hI4
  have hDlt4 : D < s4.heap.objs.size := Heap.lt_size hD4
  have hcI : cStatics < s1.heap.objs.size := by
    obtain ⟨_, _, n3'⟩ := K.ns s1.heap fun b o e => g1.ok.sub _ _ (g1.ok.base _ _ e)
    obtain ⟨_, hn, _⟩ := n3'
    exact hn.lt
  have haC : h'.objs.size ≠ s4.heap.objs.size := by rw [hsz]; exact Nat.succ_ne_self _
  have haf : h'.objs.size ∉ List.range s4.heap.objs.size := fun hm => by have := List.mem_range.mp hm; lia
  have hsub : ∀ b ∈ [s1.heap.objs.size], b ∈ List.range s4.heap.objs.size := fun b hb => by
    rw [List.mem_singleton] at hb; rw [hb]; exact List.mem_range.mpr hIlt
  obtain ⟨ps, rfl, hps⟩ := strs_are hl hxs
  have hn0 : (strValues ps).toArray.size = l.length := by
    have := congrArg List.length hps
    rw [List.size_toArray]; simpa [strValues] using this
  have W₀ : ∀ A' : Around, A'.handled = none → Walks C.prog C.w A' s1.heap.objs.size (List.range s4.heap.objs.size) [s1.heap.objs.size] (strValues ps).toArray.size (fun i v => (strValues ps).toArray[i]? = some v)
      (fun i h => h.IsListIter s1.heap.objs.size D i ∧ h.IsList D (strValues ps).toArray) := fun A' hA' => (Walks.list hA' _ _ (Nat.ne_of_lt hDlt) _).mono_fp fun b hb => by
    simp only [List.mem_cons, List.not_mem_nil, or_false] at hb
    rcases hb with rfl | rfl
    · exact List.mem_range.mpr hIlt
    · exact List.mem_range.mpr hDlt4
  have hP : ∀ (i : Nat) (v : Value), (strValues ps).toArray[i]? = some v → ∃ u, v = .str (mkS (l.getD i [])) u := fun i v e => by
    rw [List.getElem?_toArray] at e
    unfold strValues at e
    rw [List.getElem?_map] at e
    obtain ⟨p, hp, rfl⟩ := Option.map_eq_some_iff.mp e
    have h5 := congrArg (fun x => x[i]?) hps
    simp only [List.getElem?_map, hp, Option.map_some] at h5
    obtain ⟨y, hy, e6⟩ := Option.map_eq_some_iff.mp h5.symm
    exact ⟨p.2, by rw [List.getD_eq_getElem?_getD, hy, Option.getD_some, e6]⟩
  have hkn : (genEnv scope [] s4.heap.objs.size code builtinsNs env).kindOf a = some .local := by
    show scope.names.lookup a = _
    rw [hnm]
    have : (a == Str.ofString ".0") = false := by simpa using hb0
    simp [List.lookup, this]
  have helt := elt_leaf (C := C) (cenv := genEnv scope [] s4.heap.objs.size code builtinsNs env) (k1 := k1) (k2 := k2) (k3 := k3) (k4 := k4) (p0 := p0) (b1 := b1) (b2 := b2) (b3 := b3) (b4 := b4) hkd hkn (by simpa using hbd) hq1 hq2 hP hxl
  have hA2 : A.in1.in1.handled = none := hA.hand
  have W5 := walksT (prog := C.prog) (w := C.w) (A := A.in1.in1) hA2 h'.objs.size s4.gens.size s4.heap.objs.size (List.range s4.heap.objs.size) [s1.heap.objs.size] (strValues ps).toArray.size (fun i y => ∃ u, y = Value.str (mkS (escP (l.getD i []))) u)
    haC haf hsub (by show A.depth < _; lia) (List.mem_range.mpr hclt) (Nat.ne_of_lt hclt) (fun h => by rw [List.mem_singleton] at h; rw [h] at hcI; exact Nat.lt_irrefl _ hcI)
  have keep₅ : ∀ b o, s4.heap.get? b = some o → (h'.push { cls := .type "generator", data := .fields #[.int s4.gens.size 0, .str "<genexpr>" (s4.toks + 1), .str (C.cq ++ "<genexpr>") (s4.toks + 1 + 1)] }).get? b = some o :=
    fun b o e => Heap.get?_push_of_some _ (keep' b o e)
  refine spliced_nil ?_
  refine wpAny_toks (SC.joinGen W5 (fun i s' st => st.1.typeIs) ⟨⟨_, _, _, Heap.get?_push_size _ rfl, rfl, rfl, rfl⟩, n3.keeps keep₅, Nat.lt_of_lt_of_le g4.ok.tk (by show s4.toks ≤ s4.toks + 1 + 1 + 1; lia), _, Array.getElem?_push_size .., fun s'' h0 hal => ⟨rfl, ?_⟩⟩ ?_ (List.mem_cons_self ..) (fun i v hv => ?_) (fun s' lt hm hacc => ?_) (by rw [hn0, sizeLine_eq]; lia))
  · refine segT_start (A := A.in1.in1.in1) (cenv := genEnv scope [] s4.heap.objs.size code builtinsNs env) hA.hand W₀ _ hkn (by simp [genEnv, hkd]) hco (fun hm => Nat.lt_irrefl _ (List.mem_range.mp hm)) helt s'' s'' _ ?_
      ((hns.push _).at' fun o e => hal _ (List.mem_cons_self ..) o e) (GenSince.refl _ _ _) h0
    have hk : ∀ b ∈ List.range s4.heap.objs.size, ∀ o, s4.heap.get? b = some o → s''.heap.get? b = some o := fun b hb o e => hal b (List.mem_cons_of_mem _ hb) o (keep₅ b o e)
    exact ⟨⟨_, hk _ (List.mem_range.mpr hIlt) _ hI4, rfl, rfl⟩, lookList (hk _ (List.mem_range.mpr hDlt4) _ hD4)⟩
  · intro b hb
    show b < (h'.push _).objs.size
    rw [Heap.size_push, hsz]
    rcases mCo hb with rfl | hb
    · rw [hsz]; exact Nat.lt_succ_self _
    · rcases mCo hb with rfl | hb
      · exact Nat.lt_succ_of_lt (Nat.lt_succ_self _)
      · exact Nat.lt_succ_of_lt (Nat.lt_succ_of_lt (List.mem_range.mp hb))
  · obtain ⟨u, e⟩ := hv; exact ⟨_, u, e⟩
  · have hlt : lt.map (·.1) = (l.map escP).map mkS := by
      have hsz5 : lt.length = l.length := by rw [← hn0]; simpa [strValues] using hacc.1
      apply List.ext_getElem?
      intro j
      by_cases hj : j < l.length
      · have hj' : j < lt.length := hsz5 ▸ hj
        obtain ⟨u, hv⟩ := hacc.2 j (.str lt[j].1 lt[j].2) (by simp [strValues, List.getElem?_eq_getElem hj'])
        injection hv with h1 _
        simp only [List.getElem?_map, List.getElem?_eq_getElem hj', List.getElem?_eq_getElem hj, Option.map_some, h1, List.getD_eq_getElem?_getD, Option.getD_some]
      · rw [List.getElem?_eq_none (by simpa [hsz5] using Nat.le_of_not_lt hj), List.getElem?_eq_none (by simpa using Nat.le_of_not_lt hj)]
    rw [hlt]
    refine ⟨joinOk_of hz hsep, fun t' k htk => ?_⟩
    rw [txtJoin_eq]
    have g := g2.trans g4
    have hk0 : 0 < k := Nat.lt_of_lt_of_le (Nat.lt_of_lt_of_le g4.ok.tk (by show s4.toks ≤ s4.toks + 1 + 1 + 1; lia)) htk
    have g5 := Go.gens g (h' := h'.push { cls := .type "generator", data := .fields #[.int s4.gens.size 0, .str "<genexpr>" (s4.toks + 1), .str (C.cq ++ "<genexpr>") (s4.toks + 1 + 1)] }) (gs := s4.gens.push (.fresh (.compStart
        (.GeneratorExp (.Call (.Attribute (.Call (.Attribute (.Name a p0) "replace" p1) [.Constant (.str (mkS [92])) k1 b1, .Constant (.str (mkS [92, 92])) k2 b2] [] c1) "replace" p2) [.Constant (.str (mkS [45])) k3 b3, .Constant (.str (mkS [92, 45])) k4 b4] [] c2)
        [⟨.Name a pb, .Name id pid, [], 0⟩] scope gpos) 0 (.ref s1.heap.objs.size) .none (genEnv scope [] s4.heap.objs.size code builtinsNs env)))) (tk := s4.toks + 1 + 1 + 1) keep₅ (AllBare.push g4.ok.gens rfl) (Nat.succ_pos _)
    have nL : ∀ (x : Nat) (st : Shared), st.heap.get? st.heap.objs.size = none := fun _ st => get_none (Nat.le_refl _)
    refine kk _ ⟨_, Z4⟩ (Go.moved hw g5 hm (GenOnlyQ.bare hm.gens g5.ok.gens) (fun b hb => ?_) (fun b hb => ?_) hk0) ⟨t', rfl⟩
    · cases e : s.heap.get? b with
      | none => rfl
      | some o =>
        exfalso
        rcases mCo hb with rfl | hb
        · have hne : s4.heap.objs.size ≠ C.P := fun q => by
            obtain ⟨o, e, _⟩ := g4.ok.tab
            exact absurd (Heap.lt_size (q ▸ e)) (Nat.lt_irrefl _)
          exact absurd (Heap.lt_size (g.keep _ _ hne e)) (Nat.lt_irrefl _)
        · rw [List.mem_singleton] at hb
          subst hb
          exact absurd (Heap.lt_size (g1.keep _ _ (Ne.symm hP2) e)) (Nat.lt_irrefl _)
    · show Z4 b = none
      cases e : Z4 b with
      | none => rfl
      | some o =>
        exfalso
        rcases mCo hb with rfl | hb
        · exact absurd (Heap.lt_size (g4.ok.sub _ _ e)) (Nat.lt_irrefl _)
        · rw [List.mem_singleton] at hb
          subst hb
          rcases g4.fresh _ _ e with e | e
          · exact absurd (Heap.lt_size (g1.ok.sub _ _ e)) (Nat.lt_irrefl _)
          · have := hI.symm.trans e; cases this
end
noncomputable def vRef (e : PySem.Value) : Option (Addr) := by
  apply @PySem.Value.casesOn (fun _ => Option (Addr)) e
  case ref => exact fun a => some (a)
  all_goals intros; exact none
theorem vRefE {e : PySem.Value} {x : Addr} (h : vRef e = some x) : e = PySem.Value.ref x := outE (vRef e) (by apply @PySem.Value.casesOn (fun e => (vRef e).elim True fun x => e = PySem.Value.ref x) e <;> intros <;> first | exact True.intro | rfl) h
noncomputable def vStr (e : PySem.Value) : Option (Str × Tok) := by
  apply @PySem.Value.casesOn (fun _ => Option (Str × Tok)) e
  case str => exact fun a b => some (a, b)
  all_goals intros; exact none
theorem vStrE {e : PySem.Value} {x : Str × Tok} (h : vStr e = some x) : e = PySem.Value.str x.1 x.2 := outE (vStr e) (by apply @PySem.Value.casesOn (fun e => (vStr e).elim True fun x => e = PySem.Value.str x.1 x.2) e <;> intros <;> first | exact True.intro | rfl) h
noncomputable def vInt (e : PySem.Value) : Option (Int × Tok) := by
  apply @PySem.Value.casesOn (fun _ => Option (Int × Tok)) e
  case int => exact fun a b => some (a, b)
  all_goals intros; exact none
theorem vIntE {e : PySem.Value} {x : Int × Tok} (h : vInt e = some x) : e = PySem.Value.int x.1 x.2 := outE (vInt e) (by apply @PySem.Value.casesOn (fun e => (vInt e).elim True fun x => e = PySem.Value.int x.1 x.2) e <;> intros <;> first | exact True.intro | rfl) h
noncomputable def vBool (e : PySem.Value) : Option (Bool) := by
  apply @PySem.Value.casesOn (fun _ => Option (Bool)) e
  case bool => exact fun a => some (a)
  all_goals intros; exact none
theorem vBoolE {e : PySem.Value} {x : Bool} (h : vBool e = some x) : e = PySem.Value.bool x := outE (vBool e) (by apply @PySem.Value.casesOn (fun e => (vBool e).elim True fun x => e = PySem.Value.bool x) e <;> intros <;> first | exact True.intro | rfl) h
noncomputable def vNone (e : PySem.Value) : Option (Unit) := by
  apply @PySem.Value.casesOn (fun _ => Option (Unit)) e
  case none => exact some ()
  all_goals intros; exact none
theorem vNoneE {e : PySem.Value} {x : Unit} (h : vNone e = some x) : e = PySem.Value.none  := outE (vNone e) (by apply @PySem.Value.casesOn (fun e => (vNone e).elim True fun x => e = PySem.Value.none ) e <;> intros <;> first | exact True.intro | rfl) h
noncomputable def oFunc (e : PySem.Data) : Option (FuncData) := by
  apply @PySem.Data.casesOn (fun _ => Option (FuncData)) e
  case func => exact fun a => some (a)
  all_goals intros; exact none
theorem oFuncE {e : PySem.Data} {x : FuncData} (h : oFunc e = some x) : e = PySem.Data.func x := outE (oFunc e) (by apply @PySem.Data.casesOn (fun e => (oFunc e).elim True fun x => e = PySem.Data.func x) e <;> intros <;> first | exact True.intro | rfl) h
noncomputable def oFields (e : PySem.Data) : Option (Array Value) := by
  apply @PySem.Data.casesOn (fun _ => Option (Array Value)) e
  case fields => exact fun a => some (a)
  all_goals intros; exact none
theorem oFieldsE {e : PySem.Data} {x : Array Value} (h : oFields e = some x) : e = PySem.Data.fields x := outE (oFields e) (by apply @PySem.Data.casesOn (fun e => (oFields e).elim True fun x => e = PySem.Data.fields x) e <;> intros <;> first | exact True.intro | rfl) h
noncomputable def oDict (e : PySem.Data) : Option (Array DictEntry × Nat) := by
  apply @PySem.Data.casesOn (fun _ => Option (Array DictEntry × Nat)) e
  case dict => exact fun a b => some (a, b)
  all_goals intros; exact none
theorem oDictE {e : PySem.Data} {x : Array DictEntry × Nat} (h : oDict e = some x) : e = PySem.Data.dict x.1 x.2 := outE (oDict e) (by apply @PySem.Data.casesOn (fun e => (oDict e).elim True fun x => e = PySem.Data.dict x.1 x.2) e <;> intros <;> first | exact True.intro | rfl) h
noncomputable def oSeq (e : PySem.Data) : Option (Array Value × Nat) := by
  apply @PySem.Data.casesOn (fun _ => Option (Array Value × Nat)) e
  case seq => exact fun a b => some (a, b)
  all_goals intros; exact none
theorem oSeqE {e : PySem.Data} {x : Array Value × Nat} (h : oSeq e = some x) : e = PySem.Data.seq x.1 x.2 := outE (oSeq e) (by apply @PySem.Data.casesOn (fun e => (oSeq e).elim True fun x => e = PySem.Data.seq x.1 x.2) e <;> intros <;> first | exact True.intro | rfl) h
noncomputable def bStm (e : PySem.FuncBody) : Option (List Stmt) := by
  apply @PySem.FuncBody.casesOn (fun _ => Option (List Stmt)) e
  case stmts => exact fun a => some (a)
  all_goals intros; exact none
theorem bStmE {e : PySem.FuncBody} {x : List Stmt} (h : bStm e = some x) : e = PySem.FuncBody.stmts x := outE (bStm e) (by apply @PySem.FuncBody.casesOn (fun e => (bStm e).elim True fun x => e = PySem.FuncBody.stmts x) e <;> intros <;> first | exact True.intro | rfl) h
def InF (K : Addr → Option Obj) (h : Heap) : Prop := ∀ a o, K a = some o → h.get? a = some o
noncomputable def base (h : Heap) (P : Addr) : Fz := fun a => if a = P then none else h.get? a
theorem baseOf {h : Heap} {P a : Addr} {o : Obj} (hne : a ≠ P) (e : h.get? a = some o) : base h P a = some o := (if_neg hne).trans e
theorem baseIn {h : Heap} {P a : Addr} {o : Obj} (e : base h P a = some o) : a ≠ P ∧ h.get? a = some o :=
  Classical.byCases (fun q : a = P => by rw [base, if_pos q] at e; cases e) fun q => ⟨q, (if_neg q).symm.trans e⟩
noncomputable def atB {α : Type} (K : Addr → Option Obj) (P a : Addr) (d : Data → Option α) (f : Obj → α → Bool) : Bool := a != P && elB (K a) fun o => elB (d o.data) (f o)
theorem atE {K : Addr → Option Obj} {h : Heap} {P a : Addr} {α : Type} {d : Data → Option α} {f : Obj → α → Bool} {G : Prop} (KX : InF K h) (e : atB K P a d f = true) (k : ∀ o x, base h P a = some o → d o.data = some x → f o x = true → G) : G :=
  elE (andE e).2 fun o ho e2 => elE e2 fun x hx e3 => k o x (baseOf (bne_iff_ne.mp (andE e).1) (KX _ _ ho)) hx e3
noncomputable def plainO (c : String) (o : Obj) : Bool := o.cls == .type c && (o.dict.isNone && o.slots.isEmpty)
theorem plainO_ok {c : String} {o : Obj} (h : plainO c o = true) : o = { cls := .type c, data := o.data } := by
  have h1 := eq_of_beq (andE h).1
  have h2 := noneB (andE (andE h).2).1
  have h3 := Array.isEmpty_iff.mp (andE (andE h).2).2
  cases o; cases h1; cases h2; cases h3; rfl
theorem fm_congr {α β : Type} {f g : α → Option β} : ∀ (l : List α), (∀ x ∈ l, f x = g x) → l.filterMap f = l.filterMap g
  | [], _ => rfl
  | a :: l, h => by rw [List.filterMap_cons, List.filterMap_cons, h a (.head _), fm_congr l fun x hx => h x (.tail _ hx)]
theorem look_zip {α : Type} : ∀ (ns : List Str) (vs : List α), ns.Nodup → ns.length = vs.length → ns.filterMap (fun n => ((ns.zip vs).lookup n).map (n, ·)) = ns.zip vs
  | [], _, _, _ => rfl
  | n :: ns, [], _, h => nomatch h
  | n :: ns, v :: vs, hn, h => by
    have hn := List.nodup_cons.mp hn
    rw [List.zip_cons_cons, List.filterMap_cons, List.lookup_cons, beq_self_eq_true]
    exact congrArg ((n, v) :: ·) ((fm_congr ns fun x hx => by rw [List.lookup_cons, beq_eq_false_iff_ne.mpr fun e : x = n => hn.1 (e ▸ hx)]).trans (look_zip ns vs hn.2 (Nat.succ.inj h)))
theorem look_some {α : Type} : ∀ (ns : List Str) (vs : List α), ns.length = vs.length → ∀ n ∈ ns, ((ns.zip vs).lookup n).isNone = false
  | [], _, _, n, h => nomatch h
  | a :: ns, [], h, _, _ => nomatch h
  | a :: ns, v :: vs, h, n, hn => by
    rw [List.zip_cons_cons, List.lookup_cons]
    by_cases e : n = a
    · rw [e, beq_self_eq_true]; rfl
    · rw [beq_eq_false_iff_ne.mpr e]; exact look_some ns vs (Nat.succ.inj h) n ((mCo hn).resolve_left e)
theorem ite_skip {α : Type} {c : Bool} {a b r : Sem α} (hc : c = false) (h : b = r) : (if c = true then a else b) = r := by rw [hc]; exact h
theorem forIn_skip {α β γ : Type} {l : List α} {s : β} {f : α → β → Sem (ForInStep β)} {k : β → Sem γ} {r : Sem γ} (hl : l = []) (h : k s = r) : (forIn l s f >>= k) = r := by rw [hl]; exact h
theorem bind_plain {fd : FuncData} {ns : List Str} {vals : List Value} (h1 : fd.params.posonlyargs = []) (h2 : fd.params.kwonlyargs = []) (h3 : fd.params.vararg = none) (h4 : fd.params.kwarg = none) (h5 : fd.defaults = .none)
    (h6 : fd.params.args.map (·.arg) = ns) (hn : ns.Nodup) (hl : vals.length = ns.length) : bindArgs fd ⟨vals, []⟩ = pure (ns.zip vals) := by
  have hd : List.drop (0 - ns.length) ([] : List Value) = [] := List.drop_nil
  have hm : ns.filter (fun n => ((ns.zip vals).lookup n).isNone) = [] := List.filter_eq_nil_iff.mpr fun n hn e => fnt ((look_some ns vals hl.symm n hn).symm.trans e)
  have hm' : (!(List.filter (fun n => ((ns.zip vals).lookup n).isNone) (ns.take (ns.length - (List.drop (0 - ns.length) ([] : List Value)).length))).isEmpty) = false := by rw [hd, show ns.length - ([] : List Value).length = ns.length from rfl, List.take_length, hm]; rfl
  have hz : (ns.drop (ns.length - (List.drop (0 - ns.length) ([] : List Value)).length)).zip (List.drop (0 - ns.length) ([] : List Value)) = [] := by rw [hd]; exact List.zip_nil_right
  have hlt : (decide (vals.length > ns.length) && true) = false := by rw [dF (Nat.not_lt.mpr (Nat.le_of_eq hl))]; rfl
  obtain ⟨name, qual, ⟨po, ar, va, kwo, kwd, kwa, df⟩, body, scope, glob, clo, dfl, kdf⟩ := fd
  cases h1; cases h2; cases h3; cases h4; cases h5; cases h6
  exact ite_skip hlt (ite_skip hm' (forIn_skip hz (forIn_skip rfl (ite_skip rfl (congrArg pure ((congrArg (List.filterMap _) (List.append_nil _)).trans (look_zip _ vals hn hl.symm)))))))
noncomputable def fdB (N : Nm) (F : Fn) (cd : Addr) (cq : Str) (fd : FuncData) (body : List Stmt) : List Bool :=
  [bodyB N F fd.scope.names body, fd.params.posonlyargs.isEmpty, fd.params.kwonlyargs.isEmpty, fd.params.vararg.isNone, fd.params.kwarg.isNone, (vNone fd.defaults).isSome, fd.params.args.map (·.arg) == N.vars.take F.ar, fd.closure.isEmpty,
   (N.vars.take F.ar).all (fun n => fd.scope.names.lookup n == some .local || fd.scope.names.lookup n == some .cell), !fd.scope.isCoroutine, !fd.scope.isGenerator, fd.scope.kind == .function, fd.globals == mainGlobals, fd.builtins == builtinsNs,
   !N.lam || (fd.code == .ref cd && fd.qualname ++ ".<locals>." == cq), fd.scope.names.all (fun p => p.2 != .free), decide (F.ar ≤ N.vars.length)]
noncomputable def codeB (K : Addr → Option Obj) (P : Addr) (fd : FuncData) : Bool := elB (vRef fd.code) fun c => atB K P c oFields fun _ vs => elB vs[1]? fun v => elB (vStr v) fun x => x.1 == fd.qualname
noncomputable def fnB (K : Addr → Option Obj) (P : Addr) (N : Nm) (F : Fn) (cd : Addr) (cq : Str) (a : Addr) : Bool :=
  atB K P a oFunc fun _ fd => codeB K P fd && elB (bStm fd.body) fun body => allB (fdB N F cd cq fd body)
theorem lookup_free {l : List (Str × NameKind)} (h : l.all (fun p => p.2 != .free) = true) (n : Str) : l.lookup n ≠ some .free := fun e => bne_iff_ne.mp (List.all_eq_true.mp h _ (mem_of_lookup e)) rfl
theorem codeB_ok {K : Addr → Option Obj} {h : Heap} {P : Addr} {fd : FuncData} (KX : InF K h) (e : codeB K P fd = true) : ∀ h' : Heap, (∀ b o, base h P b = some o → h'.get? b = some o) → h'.CodeRec fd.code fd.qualname := fun h' hh =>
  elE e fun c hc e => atE KX e fun o vs ho hv e => elE e fun v h1 e => elE e fun x hx e => ⟨c, o, vs, x.2, vRefE hc, hh _ _ ho, oFieldsE hv, h1.trans (by rw [vStrE hx, eq_of_beq e])⟩
theorem fnB_ok {C : Cfg} {K : Addr → Option Obj} {h : Heap} {P : Addr} {N : Nm} {F : Fn} {cd : Addr} {cq : Str} {a : Addr} (KX : InF K h) (hB : C.B = base h P) (hcd : C.cd = .ref cd) (hcq : C.cq = cq) (hn : N.vars.Nodup) (hk : fnB K P N F cd cq a = true) : FnAt C N F a :=
  atE KX hk fun o fd ho hd e => elE (andE e).2 fun body hb q =>
    have g := allE q
    have hlen : F.ar ≤ N.vars.length := of_decide_eq_true (g 16)
    ⟨o, fd, body, hB ▸ ho, oFuncE hd, bStmE hb, bodyB_ok (g 0), hB ▸ codeB_ok KX (andE e).1, fun vals hv => bind_plain (nilE (g 1)) (nilE (g 2)) (noneB (g 3)) (noneB (g 4)) ((someI (g 5)).elim fun x e => vNoneE e) (eq_of_beq (g 6)) (hn.sublist (List.take_sublist ..)) (hv.trans (by rw [List.length_take]; exact (Nat.min_eq_left hlen).symm)),
      nilE (g 7), fun n hn => (orE (List.all_eq_true.mp (g 8) n hn)).imp eq_of_beq eq_of_beq, notE (g 9), notE (g 10), eq_of_beq (g 11), eq_of_beq (g 12), eq_of_beq (g 13), fun hl => (orE (g 14)).elim (fun q => absurd (hl.symm.trans (notE q)) (fun q => nomatch q)) fun q => ⟨(eq_of_beq (andE q).1).trans hcd.symm, (eq_of_beq (andE q).2).trans hcq.symm⟩, lookup_free (g 15), hlen⟩
noncomputable def esOf (K : Addr → Option Obj) : Option (Array DictEntry) := (K mainGlobals).bind fun o => (oDict o.data).map (·.1)
noncomputable def gAt (K : Addr → Option Obj) (x : Str) (f : Option Value → Bool) : Bool := elB (esOf K) fun es => f (nsFind es x)
theorem gAt_ok {K : Addr → Option Obj} {h : Heap} {mg : Str → Option Value} {x : Str} {f : Option Value → Bool} {G : Prop} (KX : InF K h) (hg : h.Ns mainGlobals mg) (e : gAt K x f = true) (k : ∀ v, mg x = v → f v = true → G) : G :=
  elE e fun es he e => bindE he fun o ho he => mapE he fun y hy he => k _ (by
    obtain ⟨o', es', ep, h1, h2, _, h4⟩ := hg
    cases (KX _ _ ho).symm.trans h1
    cases (oDictE hy).symm.trans h2
    cases he
    exact (h4 x).symm) e
mutual
noncomputable def rpB (K : Addr → Option Obj) (P : Addr) : AV → Value → Bool
  | .int i, v => elB (vInt v) fun x => i == x.1
  | .str s, v => elB (vStr v) fun x => x.1 == mkS s
  | .tuple xs, v => elB (vRef v) fun a => atB K P a oSeq fun o arr => plainO "tuple" o && rpBs K P xs arr.1.toList
  | _, _ => false
noncomputable def rpBs (K : Addr → Option Obj) (P : Addr) : List AV → List Value → Bool
  | [], l => l.isEmpty
  | x :: xs, l => elB (lc l) fun y => rpB K P x y.1 && rpBs K P xs y.2
end
mutual
theorem rpB_ok {K : Addr → Option Obj} {h : Heap} {P : Addr} {Z : Fz} (KX : InF K h) (hZ : ∀ a o, base h P a = some o → Z a = some o) (st : Option Addr) : ∀ (x : AV) (v : Value), rpB K P x v = true → RepV Z st x v
  | .int i, v, e => elE e fun x hx e => ⟨x.2, (vIntE hx).trans (by rw [eq_of_beq e])⟩
  | .str s, v, e => elE e fun x hx e => ⟨x.2, (vStrE hx).trans (by rw [eq_of_beq e])⟩
  | .tuple xs, v, e => elE e fun a ha e => atE KX e fun o arr ho hd e => ⟨a, arr.1.toList, arr.2, vRefE ha, (hZ a o ho).trans (congrArg some ((plainO_ok (andE e).1).trans (by rw [oSeqE hd]))), rpBs_ok KX hZ st xs _ (andE e).2⟩
  | .none, _, e => absurd e fnt
  | .bool _, _, e => absurd e fnt
  | .list _, _, e => absurd e fnt
  | .own _, _, e => absurd e fnt
  | .bytes _, _, e => absurd e fnt
  | .ba _, _, e => absurd e fnt
  | .app _, _, e => absurd e fnt
  | .star, _, e => absurd e fnt
theorem rpBs_ok {K : Addr → Option Obj} {h : Heap} {P : Addr} {Z : Fz} (KX : InF K h) (hZ : ∀ a o, base h P a = some o → Z a = some o) (st : Option Addr) : ∀ (xs : List AV) (vs : List Value), rpBs K P xs vs = true → RepL Z st xs vs
  | [], l, e => nilE e ▸ RepL.nil
  | x :: xs, l, e => elE e fun y hy e => lcE hy ▸ RepL.cons (rpB_ok KX hZ st x _ (andE e).1) (rpBs_ok KX hZ st xs _ (andE e).2)
end
section
variable {K : Addr → Option Obj} {h : Heap} {P : Addr}
theorem dataAt {o : Obj} {c : String} {d : Data} (p : plainO c o = true) (e : o.data = d) : o = { cls := .type c, data := d } := (plainO_ok p).trans (by rw [e])
noncomputable def spB (K : Addr → Option Obj) (P sp : Addr) : Bool := !(sp == sysModules) && atB K P sp oDict fun o x => plainO "dict" o && (keysInt x.1 && (List.range 128).all (trChk x.1))
theorem spB_ok (KX : InF K h) {sp : Addr} (e : spB K P sp = true) : ∃ x : Array DictEntry × Nat, base h P sp = some { cls := .type "dict", data := .dict x.1 x.2 } ∧ (sp == sysModules) = false ∧ keysInt x.1 = true ∧ ∀ c < 128, trChk x.1 c = true :=
  atE KX (andE e).2 fun o x ho hd q => ⟨x, ho.trans (congrArg some (dataAt (andE q).1 (oDictE hd))), notE (andE e).1, (andE (andE q).2).1, fun c hc => List.all_eq_true.mp (andE (andE q).2).2 c (List.mem_range.mpr hc)⟩
noncomputable def iL (f : Int) (t : Option Tok) (v : Value) : Bool := elB (vInt v) fun x => x.1 == f && t.elim true fun t => x.2 == t
noncomputable def twB (K : Addr → Option Obj) (P tw : Addr) : Bool := atB K P tw oFields fun o vs => plainO "re.Pattern" o && elB (lc vs.toList) fun a => elB (vStr a.1) fun s => elB (lc a.2) fun b => elB (vInt b.1) fun f => f.1 == 32 && elB (lc b.2) fun c => elB (vInt c.1) fun g => (g.1 == 1 && g.2 == 0) &&
  elB (lc c.2) fun d => (vNone d.1).isSome && elB (lc d.2) fun e => (vNone e.1).isSome && elB (lc e.2) fun i => elB (vRef i.1) fun r => elB (lc i.2) fun j => elB (vInt j.1) fun k => (k.1 == 0 && k.2 == 0) && (j.2.isEmpty && atB K P r oSeq fun _ x => (x.1.toList.map Builtin.Re.reRawOf).map (·.toNat) == reCode.toList)
theorem someN' {v : Value} (h : (vNone v).isSome = true) : v = .none := (someI h).elim fun x e => vNoneE e
theorem twB_ok (KX : InF K h) {tw : Addr} (e : twB K P tw = true) : PatAt (base h P) tw :=
  atE KX e fun o vs ho hd q => elE (andE q).2 fun a ha q1 => elE q1 fun s hs q1 => elE q1 fun b hb q1 => elE q1 fun f hf q1 => elE (andE q1).2 fun c hc q2 => elE q2 fun g hg q2 => elE (andE q2).2 fun d hd' q3 => elE (andE q3).2 fun e' he q4 => elE (andE q4).2 fun i hi q5 => elE q5 fun r hr q5 => elE q5 fun j hj q5 => elE q5 fun k hk q5 =>
    atE KX (andE (andE q5).2).2 fun o2 x ho2 hx q6 => ⟨⟨s.1, s.2, f.2, r, x.1, x.2, ho.trans (congrArg some (dataAt (andE q).1 ((oFieldsE hd).trans (congrArg _ (Array.toList_inj.mp (by
      rw [lcE ha, vStrE hs, lcE hb, vIntE hf, eq_of_beq (andE q1).1, lcE hc, vIntE hg, eq_of_beq (andE (andE q2).1).1, eq_of_beq (andE (andE q2).1).2, lcE hd', someN' (andE q3).1, lcE he, someN' (andE q4).1, lcE hi, vRefE hr, lcE hj, vIntE hk, eq_of_beq (andE (andE q5).1).1, eq_of_beq (andE (andE q5).1).2, nilE (andE (andE q5).2).1])))))),
      ⟨o2, ho2, oSeqE hx⟩, Array.toList_inj.mp ((by rw [Array.toList_map, Array.toList_map] : _ = _).trans (eq_of_beq q6))⟩⟩
noncomputable def hdB (K : Addr → Option Obj) (P c : Addr) : Bool := c != P && elB (K c) fun o => codeHdIn [(c, o)] c P
theorem hdB_ok (KX : InF K h) {c : Addr} (e : hdB K P c = true) : ∀ h' : Heap, (∀ b o, base h P b = some o → h'.get? b = some o) → CodeHd h' c P := fun h' hh =>
  elE (andE e).2 fun o ho q => codeHd_of_K (K := [(c, o)]) (fun a o' hl => by
    have hb := hh _ _ (baseOf (bne_iff_ne.mp (andE e).1) (KX _ _ ho))
    by_cases hac : a = c
    · subst hac
      rw [List.lookup_cons, beq_self_eq_true] at hl
      exact someE hl ▸ hb
    · rw [List.lookup_cons, beq_eq_false_iff_ne.mpr hac] at hl
      cases hl) q
end
structure Law where
  fns : Nat → Option Fn
  xfns : Nat → Option Fn
  nms : Nat → Nm
  fname : List Str
  adr : List Addr
  P : Addr
  c : Addr
  cq : Str
  lp : Nat × Nat
  gp : Nat × Nat
  tw : Addr
  sp : Addr
  tab : AV
noncomputable def Law.at (L : Law) (f : Nat) : Addr := L.adr.getD f 0
noncomputable def Law.Γ (L : Law) (k : Nat) : Option AV := if k = 0 then some L.tab else none
noncomputable def Law.cfg (L : Law) (prog : Program) (w : World) (mg mb : Str → Option Value) (h : Heap) : Cfg where
  prog := prog
  w := w
  mg := mg
  mb := mb
  P := L.P
  cd := .ref L.c
  cq := L.cq
  B := base h L.P
  tab := TabP L.lp L.gp L.cq
  tabMono := fun t m => t.elim fun ps t => ⟨ps, t.1, t.2.1, fun pos cv hc => ⟨fun e => ((t.2.2 pos cv hc).1 e).mono m, fun e => ((t.2.2 pos cv hc).2 e).mono m⟩⟩
  tabCls := fun t => t.elim fun ps t => t.1 ▸ rfl
noncomputable def isRef (a : Addr) (o : Option Value) : Bool := o == some (.ref a)
noncomputable def fnAtB (L : Law) (K : Addr → Option Obj) (f : Nat) (F : Option Fn) : Bool := F.elim true fun F => f < L.fname.length && fnB K L.P (L.nms f) F L.c L.cq (L.at f)
noncomputable def oneB (L : Law) (K : Addr → Option Obj) (f : Nat) : Bool := gAt K (L.fname.getD f "") (isRef (L.at f)) && (fnAtB L K f (L.fns f) && fnAtB L K f (L.xfns f))
noncomputable def nmsB (L : Law) (N : Nm) : Bool := N.fns == L.fname && (N.globs == [Str.ofString "_filemode_table"] && (decide N.vars.Nodup && (!N.lam || (N.lp == L.lp && N.gp == L.gp))))
noncomputable def lawB (L : Law) (K : Addr → Option Obj) : List Bool := [(List.range L.fname.length).all (oneB L K), gAt K "_filemode_table" fun o => elB o (rpB K L.P L.tab), spB K L.P L.sp, gAt K "_special_chars_map" (isRef L.sp), twB K L.P L.tw, gAt K "_twin_re_1" (isRef L.tw), hdB K L.P L.c,
  bltV.all (fun p => gAt K p.1 Option.isNone), mainGlobals != L.P, builtinsNs != L.P, cStatics != L.P, bltV.all (fun p => bootBuiltins p.1 == some p.2 && p.1 != "__name__"), L.lp != L.gp]
theorem gRef {K : Addr → Option Obj} {h : Heap} {mg : Str → Option Value} {x : Str} {a : Addr} (KX : InF K h) (hg : h.Ns mainGlobals mg) (e : gAt K x (isRef a) = true) : mg x = some (.ref a) := gAt_ok KX hg e fun v hv q => hv.trans (eq_of_beq q)
section
variable {L : Law} {K : Addr → Option Obj} {prog : Program} {w : World} {mg mb : Str → Option Value} {h : Heap}
theorem cfg_ok (KX : InF K h) (hg : h.Ns mainGlobals mg) (hbn : h.Ns builtinsNs mb) (hnl : h.NoLimit) (hbi : ∀ x : Str, x ≠ "__name__" → mb x = bootBuiltins x) (k : allB (lawB L K) = true) : CfgOk (L.cfg prog w mg mb h) :=
  have g := allE k
  have hin : ∀ {h' : Heap}, (∀ b o, base h L.P b = some o → h'.get? b = some o) → ∀ b o, b ≠ L.P → h.get? b = some o → h'.get? b = some o := fun hh b o hb e => hh _ _ (baseOf hb e)
  ⟨fun h' hh => ⟨hg.at' fun o e => hin hh _ _ (bne_iff_ne.mp (g 8)) e, hbn.at' fun o e => hin hh _ _ (bne_iff_ne.mp (g 9)) e, hnl.elim fun mc x => ⟨mc, x.1.at' fun o e => hin hh _ _ (bne_iff_ne.mp (g 10)) e, x.2⟩⟩,
   fun p hp => ⟨gAt_ok KX hg (List.all_eq_true.mp (g 7) p hp) fun v hv q => hv.trans (noneB q), have z := andE (List.all_eq_true.mp (g 11) p hp); (hbi _ (bne_iff_ne.mp z.2)).trans (eq_of_beq z.1)⟩⟩
theorem tabW_ok (KX : InF K h) (hg : h.Ns mainGlobals mg) (hbm : ∃ bm ob, mg "__builtins__" = some (.ref bm) ∧ bm ≠ builtinsNs ∧ h.get? bm = some ob ∧ ob.cls = .type "module" ∧ ob.dict = some builtinsNs ∧ ob.data = .plain)
    (hP : h.get? L.P = some (tabObj #[])) (k : allB (lawB L K) = true) : TabW (L.cfg prog w mg mb h) L.lp L.gp :=
  ⟨fun o Z => Iff.rfl, bne_iff_ne.mp (allE k 12), ⟨L.c, rfl, hdB_ok KX (allE k 6)⟩, fun h' hh => by
    obtain ⟨bm, ob, e1, e2, e3, e4, e5, e6⟩ := hbm
    have hP' : bm ≠ L.P := fun q => by cases (q ▸ e3 : h.get? L.P = some ob).symm.trans hP; cases e4
    have hM : bm ≠ mainGlobals := fun q => by
      obtain ⟨o, es, ep, ho, hd, _⟩ := hg
      cases (q ▸ e3 : h.get? mainGlobals = some ob).symm.trans ho
      cases hd.symm.trans e6
    exact ⟨bm, ob, e1, e2, hM, hP', hh _ _ (baseOf hP' e3), e4, e5, e6⟩, bne_iff_ne.mp (allE k 8)⟩
theorem fn_ok (KX : InF K h) (hg : h.Ns mainGlobals mg) (hnm : ∀ f, nmsB L (L.nms f) = true) (k : allB (lawB L K) = true) {f : Nat} {F : Fn} (b : fnAtB L K f (some F) = true) : FnAt (L.cfg prog w mg mb h) (L.nms f) F (L.at f) ∧ ∀ g, ∃ id, (L.nms g).fns[f]? = some id ∧ mg id = some (.ref (L.at f)) :=
  have hf : f < L.fname.length := of_decide_eq_true (andE b).1
  ⟨fnB_ok KX rfl rfl rfl (of_decide_eq_true (andE (andE (andE (hnm f)).2).2).1) (andE b).2, fun g => ⟨L.fname.getD f "", by rw [eq_of_beq (andE (hnm g)).1, List.getD_eq_getElem?_getD, List.getElem?_eq_getElem hf]; rfl, gRef KX hg (andE (List.all_eq_true.mp (allE k 0) f (List.mem_range.mpr hf))).1⟩⟩
theorem lib_of (KX : InF K h) (hg : h.Ns mainGlobals mg) (hbn : h.Ns builtinsNs mb) (hnl : h.NoLimit) (hbi : ∀ x : Str, x ≠ "__name__" → mb x = bootBuiltins x)
    (hbm : ∃ bm ob, mg "__builtins__" = some (.ref bm) ∧ bm ≠ builtinsNs ∧ h.get? bm = some ob ∧ ob.cls = .type "module" ∧ ob.dict = some builtinsNs ∧ ob.data = .plain) (hP : h.get? L.P = some (tabObj #[])) (hnm : ∀ f, nmsB L (L.nms f) = true)
    (hn : ∀ f, L.fname.length ≤ f → L.fns f = none ∧ L.xfns f = none) (k : allB (lawB L K) = true) : Lib (L.cfg prog w mg mb h) L.fns L.xfns L.nms L.at L.Γ :=
  have g := allE k
  have K0 := cfg_ok (prog := prog) (w := w) KX hg hbn hnl hbi k
  have W : ∀ f, (L.nms f).lam = true → TabW (L.cfg prog w mg mb h) (L.nms f).lp (L.nms f).gp := fun f hl => by
    have z := (orE (andE (andE (andE (hnm f)).2).2).2).resolve_left fun q => nomatch hl.symm.trans (notE q)
    rw [eq_of_beq (andE z).1, eq_of_beq (andE z).2]
    exact tabW_ok KX hg hbm hP k
  ⟨K0, fun f F hF => by
    have hlt : f < L.fname.length := Nat.lt_of_not_le fun q => hF.elim (fun e => noneE ((hn f q).1 ▸ e)) fun e => noneE ((hn f q).2 ▸ e)
    have b := (andE (List.all_eq_true.mp (g 0) f (List.mem_range.mpr hlt))).2
    exact hF.elim (fun e => fn_ok KX hg hnm k (e ▸ (andE b).1)) fun e => fn_ok KX hg hnm k (e ▸ (andE b).2),
   fun f => of_decide_eq_true (andE (andE (andE (hnm f)).2).2).1,
   fun f k' x hx => iteE hx fun q e => by
    subst q; subst e
    exact gAt_ok KX hg (show gAt K "_filemode_table" (fun o => elB o (rpB K L.P L.tab)) = true from g 1) fun o ho q => elE q fun v hv q => ⟨"_filemode_table", v, by rw [eq_of_beq (andE (andE (hnm f)).2).1]; rfl, ho.trans hv, fun st s Z hw => rpB_ok KX hw.base st _ _ q⟩,
   fun V hC hA => (spB_ok KX (g 2)).elim fun x z => tr_of (gRef KX hg (g 3)) z.1 z.2.1 z.2.2.1 z.2.2.2 hC hA,
   fun V f hC hN hA => by
    obtain ⟨C, N, A, Φ, Γ, st⟩ := V
    cases hC; cases hN
    by_cases hl : (L.nms f).lam = true
    · exact sub_of K0 hA (W f hl) (gRef KX hg (g 5)) (twB_ok KX (g 4))
    · exact fun q => absurd q hl,
   fun V f hC hN hA => by
    obtain ⟨C, N, A, Φ, Γ, st⟩ := V
    cases hC; cases hN
    by_cases hl : (L.nms f).lam = true
    · exact esc_of K0 hA (W f hl)
    · exact fun q => absurd q hl⟩
end
end Mine
namespace Mine
open PySem PySem.W PyProof.Rows PySem.Calls
open PySem.Sem (wp)
abbrev ctx0 : PySem.Ctx := ⟨.builtin "claim.caller" {}, none, none, [], none⟩
theorem wp0_of_wpQ {α : Type} {M : Model} {t : Sem α} {Q : α → Shared → Prop} {s : Shared} {p : Pos} (h : wpQ true M callerA t Q s) : wp M ctx0 t (fun a _ s' => Q a s') (fun _ _ _ => False) p s :=
  h ctx0 p caller_in fun _ => ⟨by decide +kernel, fun _ h => nomatch h⟩
theorem callFrom0 {c : ClaimW} {tree : List Value → Sem Fin} {w : World} {s : Shared} {free : Addr → Prop} {gens : Prop} {kept : Heap → Prop} (hz : s.asleep) (hgens : s.gens = #[])
    (hspec : ∀ args, c.pre args = true → WData.layableAll args = true → ∀ ord : List DictEntry → List DictEntry, (∀ l, (ord l).Perm l) →
      ∃ vs s₁, layAllW c.records (classAt s.heap) w.params ord args s = some (vs, s₁) ∧
        wp (model c.prog w) ctx0 (tree vs) (fun fin _ s' => ∃ f, fin = .done f ∧ (c.Ends s args vs s₁ (.ok f) s' ∧ s'.os = s.os ∧ AllBare s'.gens ∧ kept s'.heap)) (fun _ _ _ => False) default s₁) :
    c.CallFrom (fun vs => ⟨tree vs, .builtin "claim.caller" {}, default, []⟩) w free gens kept s := fun args hpre hlay ord hord =>
  (hspec args hpre hlay ord hord).elim fun vs z => z.elim fun s₁ z => by
    have hal := layAllW_rest _ _ _ z.1
    obtain ⟨k, r, s'', s', hs, hn, hfo, hR⟩ := wp_halts_full (M := model c.prog w) (R := fun r s' => (c.Ends s args vs s₁ r s' ∧ s'.os = s.os ∧ kept s'.heap)) (Shared.asleep_of_life hal.2.2.2 hz)
      (Sem.wp_mono _ _ (tree vs) (fun fin p' s' h' => h'.elim fun f h => h.1.symm ▸ ⟨⟨h.2.1, h.2.2.1, h.2.2.2.2⟩, leftWithCleanup_false_of_bare h.2.2.2.1⟩) (fun _ _ _ h' => h'.elim) _ _ z.2)
    have eh := (Shared.forget_eq hfo).1
    exact ⟨vs, s₁, z.1, k, _, s', hs, (hR.1.congr eh).imp (fun h => h.imp fun v h => ⟨congrArg outcomeOf h.1, h.2.1, h.2.2.1, h.2.2.2.1, fun b o y _ => h.2.2.2.2.1 b o y, h.2.2.2.2.2⟩) (fun h => h.imp fun e h => h.imp fun ob h => h.imp fun cls h => ⟨congrArg outcomeOf h.1, h.2.1, h.2.2.1, h.2.2.2.1, h.2.2.2.2.1, fun b o y _ => h.2.2.2.2.2 b o y⟩),
      fun _ i x hx => (nomatch (hgens ▸ hx : (#[] : Array _)[i]? = some x)), eh ▸ hR.2.2, by rw [(runN_life _ _ _ hn).trans hal.2.2.2], Shared.rest_eq ((Shared.forget_eq hfo).2.2.2.1 ▸ hR.2.1)⟩
abbrev Walk0 (q : Program) (loose : List Str) (XP : (Str → Option Value) → Heap → Prop) (YP : Shared → Prop) (r : RowW) (d : DefRec) (kwd : List (Str × Expr)) : Prop :=
  ∀ (w : World) (s₀ s₁ : Shared) (mg mb : Str → Option Value), Ground q loose r.records XP w s₀ mg mb s₁.heap → YP s₁ → ∀ (a : Addr), mg d.name = some (.ref a) → s₁.gens = #[] →
    ∀ (args : List WData) (vals : List Value) (as : List Addr), r.claim.pre args = true → WData.layableAll args = true → ReadsAllW r.records (classAt s₀.heap) s₁.heap vals args as → WellAll w.params s₁.heap vals args → (∀ a ∈ as, (a == sysModules) = false) →
      wpQ true (model r.prog w) callerA (PySem.call (.ref a) vals) (fun v s' => GoodWG r.claim (classAt s₀.heap) (ExcName.means s₀.heap) args s₁ (.ok (.ret v)) s') s₁
theorem holds_open0 {r : OpenRow} {q : Program} {loose : List Str} {Xt : Shared → Bool} {XP : (Str → Option Value) → Heap → Prop} {Yf : Shared → Bool} {d : DefRec} {kwd : List (Str × Expr)} {N : Nat} {YP : Shared → Prop}
    (left : LeftO r.prog q loose Xt Yf (fun _ => true) N) (hY : ∀ s, Yf s = true → YP s) (hYk : ∀ s s', YP s → (∀ b o, s.heap.get? b = some o → s'.heap.get? b = some o) → s.toks ≤ s'.toks → YP s')
    (hX : ∀ s, Xt s = true → XP (s.heap.nsMap mainGlobals) s.heap) (hXk : ∀ mg h h', XP mg h → (∀ b o, h.get? b = some o → h'.get? b = some o) → XP mg h')
    (hdef : defOf q r.name = some (d, kwd)) (hp : r.prog.theDef r.name = some (d.params, d.body, d.scope)) (hk : kwWritten? d.params.kwonlyargs d.params.kw_defaults = some kwd) (hRf : ∀ s, Xt s = true → RecFacts r.records s.heap) (hwr : (!r.writes || r.records.isEmpty) = true)
    (k1 : r.wellSaid = true) (ok : (chainsOk q && opensWell r.prog && (frees r.toRowW && r.within.isEmpty)) = true) (hb : r.prog.bare) (hw : r.toRowW.promised)
    (call : Walk0 q loose XP YP r.toRowW d kwd) : r.Holds := by
  refine ⟨k1, hw, ?_⟩
  obtain ⟨ok, k5⟩ := andE ok
  obtain ⟨hch, o1⟩ := andE ok
  obtain ⟨k5, k6⟩ := andE k5
  obtain ⟨hsame, hu, ha, hap, hm⟩ := frees_parts k5
  refine ⟨⟨hb, o1, by show r.makers.map _ = []; rw [hm]; rfl⟩, hw.witness, fun w => ⟨(left.behind hX hch w).1, fun s' hs' => ?_⟩⟩
  obtain ⟨s₀, hf, hg0, s, hT, hz, hgens, hg, G00, y⟩ := (left.behind (XP := fun mg h => XP mg h ∧ RecFacts r.records h) (fun s hs => ⟨hX s hs, hRf s hs⟩) hch w).2 s' hs'
  have G0 : Ground q loose [] XP w s (s.heap.nsMap mainGlobals) (s.heap.nsMap builtinsNs) s.heap := ⟨G00.T, G00.B, G00.D, G00.TE, G00.TD, G00.W, G00.X.1, G00.cls, G00.has, G00.apart, G00.once, G00.K⟩
  have RF := G00.X.2
  refine ⟨s₀, hf, hg0, s, hT, fun n hn => ?_, RF.1, RF.2.1, ?_⟩
  · obtain rfl : n = r.name := by
      cases hq : r.pinned with
      | true => exact mSg (by rw [hq] at hn; exact hn)
      | false => exact nomatch (by rw [hq] at hn; exact hn : n ∈ ([] : List Str))
    exact pinned_of_view hg G0 hdef hp hk
  have hgens : s.gens = #[] := Array.eq_empty_of_size_eq_zero (eq_of_beq hgens)
  have G : Ground q loose r.records XP w s _ _ s.heap := RF.ground G0
  refine callFrom0 (c := r.claim) hz hgens fun args hpre hlay ord hord => ?_
  obtain ⟨⟨vs, s₁⟩, hlaid⟩ := Option.isSome_iff_exists.mp (layAllW_isSome (P := w.params) (ord := ord) G.has args r.args s (pre_splitW hpre).1)
  have keeps := layAllW_keeps _ _ _ hlaid
  have hal := layAllW_rest _ _ _ hlaid
  obtain ⟨as, hrd, hin, hold⟩ := reads_layAllW hord _ _ _ hlaid hlay s₁.heap (fun _ _ e => e)
  have L : Laid r.records w s s₁ args vs as := ⟨⟨ord, hord, hlaid⟩, hrd, hin, hold, keeps, hal.1.trans hgens, hal.2.2.1⟩
  have G₁ := G.keeps hXk keeps
  obtain ⟨a, o, pm, cd, doc, dV, kV, h1, _⟩ := G₁.fn hdef
  have hh := call w s s₁ _ _ G₁ (hYk _ _ (hY s y) keeps (layAllW_grows _ _ _ hlaid).toks) a (defOf_name hdef ▸ h1) L.gens args vs as hpre hlay L.reads L.well (L.low G.low)
  refine ⟨vs, s₁, hlaid, wp0_of_wpQ (M := model r.prog w) (wpQ_bindA (wpAny_nsGet G₁.T.g ?_))⟩
  rw [h1]
  refine wpQ_bind (wpQ_mono hh fun v s' g => wpQ_pure ⟨_, rfl, ?_⟩)
  have z := g.laid (c := r.claim) hsame (List.isEmpty_iff.mp k6) (ident_freeW hu ha hap) L
  exact ⟨z.1, z.2.1, z.2.2, fun q => ⟨namesKept_of hT hg _ keeps g.2.1.old, noTable hwr q⟩⟩
theorem rep_ints {Z : Fz} {st : Option Addr} : ∀ {vs : List Value} {ns : List Int}, IntsAre vs ns → RepL Z st (ns.map AV.int) vs
  | _, _, .nil => .nil
  | _, _, .cons n t r => .cons ⟨t, rfl⟩ (rep_ints r)
theorem well_list {P : Params} {h : Heap} {l : Addr} {xs : List WData} {vs : List Value} (e : Well P h (.ref l) (.list xs)) (hl : h.IsList l vs.toArray) : h.get? l = some (lstO vs 0) := by
  cases e with
  | list h1 h2 =>
    obtain ⟨o, ho, _, n, hd⟩ := hl
    cases h1.symm.trans ho
    injection hd with h3 _
    rw [h3] at h1
    exact h1
theorem law_end {L : Law} {K : Addr → Option Obj} {prog : Program} {w : World} {mg mb : Str → Option Value} {s : Shared} {d i : Nat} (KX : InF K s.heap) (k : allB (lawB L K) = true) (X : Lib (L.cfg prog w mg mb s.heap) L.fns L.xfns L.nms L.at L.Γ) (hA : AOk d callerA) (hg : callerA.guards = some [])
    (hP : s.heap.get? L.P = some (tabObj #[])) (hgen : s.gens = #[]) (htk : 0 < s.toks) {script : List Int} {l : Addr} {vs : List Value} (hl : s.heap.get? l = some (lstO vs 0)) (hI : IntsAre vs script)
    (hi : mg (L.fname.getD i "") = some (.ref (L.at i))) (hn : ∀ id, (L.nms 0).fns[i]? = some id → id = L.fname.getD i "")
    (hrun : runPX L.fns L.xfns L.Γ lim d i [.list (script.map .int)] = some (.bool true)) : wpQ true (model prog w) callerA (call (.ref (L.at i)) [.ref l]) (fun v s' => v = .bool true ∧ OldK s.heap s'.heap ∧ s'.os = s.os ∧ AllBare s'.gens) s := by
  have hlP : l ≠ L.P := fun q => by cases (q ▸ hl : s.heap.get? L.P = _).symm.trans hP
  have hT := (hdB_ok KX (allE k 6) s.heap fun b o e => (baseIn e).2).tab hP
  have hw : WOk (L.cfg prog w mg mb s.heap) s (base s.heap L.P) := ⟨fun b o e => (baseIn e).2, if_pos rfl, fun _ _ e => e, ⟨_, hP, #[], rfl, trivial, fun pos cv e => nomatch e⟩, hgen ▸ .empty, htk⟩
  obtain ⟨id, a, o, fd, e1, e2, _, _, z⟩ := (xok_of X d callerA hA hg 0 none).fn _ rfl i _ _ hrun
  obtain rfl : L.at i = a := by
    have := hi.symm.trans ((hn id e1) ▸ e2)
    injection (someE this)
  refine z ⟨s, base s.heap L.P⟩ [.ref l] hw (.cons ⟨l, vs, 0, rfl, baseOf hlP hl, rep_ints hI⟩ .nil) fun r S' g hr => ?_
  obtain ⟨oP, h1, ps, rfl, _⟩ := g.ok.tab
  exact ⟨hr, ⟨fun b o e => Classical.byCases (fun hb : b = L.P => by
      subst hb
      cases hP.symm.trans e
      exact .inr (.inl ⟨hT.isCodeTable, rfl, #[], ps, rfl, by rw [Array.empty_append]; exact h1⟩)) fun hb => .inl (g.keep b o hb e),
    fun b o e => Classical.byCases (fun hb : b = L.P => by subst hb; exact ⟨_, h1⟩) fun hb => ⟨o, g.keep b o hb e⟩⟩, g.os, g.ok.gens⟩
noncomputable def tabIs (o : Option Obj) : Bool := elB o fun o => o.cls == .none && (o.dict.isNone && (o.slots.isEmpty && elB (oFields o.data) fun vs => vs.isEmpty))
theorem tabIs_ok {o : Option Obj} (h : tabIs o = true) : o = some (tabObj #[]) := elE h fun o ho q => by
  have h4 := elE (andE (andE (andE q).2).2).2 fun vs hv q => (oFieldsE hv).trans (by rw [Array.isEmpty_iff.mp q])
  have h1 := eq_of_beq (andE q).1
  have h2 := noneB (andE (andE q).2).1
  have h3 := Array.isEmpty_iff.mp (andE (andE (andE q).2).2).1
  obtain ⟨cls, dict, data, slots⟩ := o
  cases h1; cases h2; cases h3; cases h4
  exact ho
noncomputable def tabL : List (List (Nat × Nat)) := [[(40960, 108), (49152, 115), (32768, 45), (24576, 98), (16384, 100), (8192, 99), (4096, 112)], [(256, 114)], [(128, 119)], [(2112, 115), (2048, 83), (64, 120)], [(32, 114)], [(16, 119)],
  [(1032, 115), (1024, 83), (8, 120)], [(4, 114)], [(2, 119)], [(513, 116), (512, 84), (1, 120)]]
noncomputable def rowAV (p : Nat × Nat) : AV := .tuple [.int p.1, .str [p.2]]
noncomputable def tabRow (L : List (Nat × Nat)) : AV := .tuple (L.map rowAV)
end Mine
namespace Mine.L
open PySem
abbrev i_ms : Nat := 0
abbrev i_fi : Nat := 1
abbrev i_tl : Nat := 2
abbrev i_es : Nat := 3
abbrev i_tr : Nat := 4
abbrev i_jn : Nat := 5
abbrev i_sw : Nat := 6
abbrev i_ro : Nat := 7
abbrev i_rn : Nat := 8
abbrev i_wr : Nat := 9
abbrev i_rd : Nat := 10
abbrev i_be : Nat := 11
abbrev i_la : Nat := 12
noncomputable def ms_a : PSs := (.cons (.ret (.bin .band (.var 0) (.cst (.int 61440)))) .nil)
noncomputable def f_ms : Fn := ⟨1, ms_a, none⟩
noncomputable def fi_a : PSs := (.cons (.append 1 (.var 5)) (.cons .brk .nil))
noncomputable def fi_b : PSs := (.cons (.iff (.cmp (.call 0 (.cons (.var 0) .nil)) .eq (.var 4)) fi_a .nil) .nil)
noncomputable def fi_c : PSs := (.cons (.append 1 (.var 5)) (.cons .brk .nil))
noncomputable def fi_d : PSs := (.cons (.iff (.cmp (.bin .band (.var 0) (.var 4)) .eq (.var 4)) fi_c .nil) .nil)
noncomputable def fi_e : PSs := (.cons (.iff (.cmp (.var 2) .eq (.cst (.int 0))) fi_b fi_d) .nil)
noncomputable def fi_f : PSs := (.cons (.append 1 (.cst (.str [63]))) .nil)
noncomputable def fi_g : PSs := (.cons (.append 1 (.cst (.str [45]))) .nil)
noncomputable def fi_h : PSs := (.cons (.iff (.cmp (.var 2) .eq (.cst (.int 0))) fi_f fi_g) .nil)
noncomputable def fi_i : PSs := (.cons (.loop (.two 4 5) (.ex (.var 3)) fi_e fi_h) .nil)
noncomputable def fi_j : PSs := (.cons (.asgL 1) (.cons (.loop (.two 2 3) (.enum (.glob 0)) fi_i .nil) (.cons (.ret (.meth .join (.cst (.str [])) (.cons (.var 1) .nil))) .nil)))
noncomputable def f_fi : Fn := ⟨1, fi_j, none⟩
noncomputable def tl_a : PSs := (.cons (.asg 2 (.call 4 (.cons (.var 0) (.cons (.var 1) (.cons (.cst (.str [46])) .nil))))) (.cons (.ret (.call 5 (.cons (.var 2) (.cons (.var 1) .nil)))) .nil))
noncomputable def f_tl : Fn := ⟨1, .nil, some (1, tl_a)⟩
noncomputable def es_a : PSs := (.cons (.ret (.meth .tr (.var 0) .nil)) .nil)
noncomputable def es_b : PSs := (.cons (.iff (.bi .isStr (.var 0)) es_a (.cons .dead (.cons .dead .nil))) .nil)
noncomputable def f_es : Fn := ⟨1, es_b, none⟩
noncomputable def tr_a : PSs := (.cons (.callApp 4 (.var 1)) .nil)
noncomputable def tr_b : PSs := (.cons (.iff (.or (.cons (.not (.var 3)) (.cons (.cmp (.idx (.var 3) (.neg (.cst (.int 1)))) .isnot (.var 1)) .nil))) tr_a .nil) .nil)
noncomputable def tr_c : PSs := (.cons (.callApp 4 (.var 2)) .nil)
noncomputable def tr_d : PSs := (.cons (.callApp 4 (.cst (.str [92, 91]))) .nil)
noncomputable def tr_e : PSs := (.cons (.callApp 4 (.cst (.str [40, 63, 33, 41]))) .nil)
noncomputable def tr_f : PSs := (.cons (.callApp 4 (.cst (.str [46]))) .nil)
noncomputable def tr_g : PSs := (.cons (.asg 9 (.bin .add (.cst (.str [94])) (.slc (.var 9) (.cst (.int 1)) (.cst .none) (.cst .none)))) .nil)
noncomputable def tr_h : PSs := (.cons (.asg 9 (.bin .add (.cst (.str [92])) (.var 9))) .nil)
noncomputable def tr_i : PSs := (.cons (.iff (.cmp (.idx (.var 9) (.cst (.int 0))) .isin (.tup (.cons (.cst (.str [94])) (.cons (.cst (.str [91])) .nil)))) tr_h .nil) .nil)
noncomputable def tr_j : PSs := (.cons (.iff (.cmp (.idx (.var 9) (.cst (.int 0))) .eq (.cst (.str [33]))) tr_g tr_i) (.cons (.callApp 4 (.fstr (.cons (.cst (.str [91])) (.cons (.var 9) (.cons (.cst (.str [93])) .nil))))) .nil))
noncomputable def tr_k : PSs := (.cons (.iff (.cmp (.var 9) .eq (.cst (.str [33]))) tr_f tr_j) .nil)
noncomputable def tr_l : PSs := (.cons (.asg 9 (.meth .replace (.var 9) (.cons (.cst (.str [92])) (.cons (.cst (.str [92, 92])) .nil)))) .nil)
noncomputable def tr_m : PSs := (.cons (.put 10 (.bin .sub (.var 11) (.cst (.int 1))) (.bin .add (.slc (.idx (.var 10) (.bin .sub (.var 11) (.cst (.int 1)))) (.cst .none) (.neg (.cst (.int 1))) (.cst .none)) (.slc (.idx (.var 10) (.var 11)) (.cst (.int 1)) (.cst .none) (.cst .none)))) (.cons (.del 10 (.var 11)) .nil))
noncomputable def tr_n : PSs := (.cons (.iff (.cmp (.idx (.idx (.var 10) (.bin .sub (.var 11) (.cst (.int 1)))) (.neg (.cst (.int 1)))) .gt (.idx (.idx (.var 10) (.var 11)) (.cst (.int 0)))) tr_m .nil) .nil)
noncomputable def tr_o : PSs := (.cons (.append 10 (.var 12)) .nil)
noncomputable def tr_p : PSs := (.cons (.augPut 10 (.neg (.cst (.int 1))) (.cst (.str [45]))) .nil)
noncomputable def tr_q : PSs := (.cons .brk .nil)
noncomputable def tr_r : PSs := (.cons (.asg 11 (.meth .find3 (.var 0) (.cons (.cst (.str [45])) (.cons (.var 11) (.cons (.var 8) .nil))))) (.cons (.iff (.cmp (.var 11) .lt (.cst (.int 0))) tr_q .nil) (.cons (.append 10 (.slc (.var 0) (.var 5) (.var 11) (.cst .none))) (.cons (.asg 5 (.bin .add (.var 11) (.cst (.int 1)))) (.cons (.asg 11 (.bin .add (.var 11) (.cst (.int 3)))) .nil)))))
noncomputable def tr_s : PSs := (.cons (.asgL 10) (.cons (.asg 11 (.ite (.cmp (.idx (.var 0) (.var 5)) .eq (.cst (.str [33]))) (.bin .add (.var 5) (.cst (.int 2))) (.bin .add (.var 5) (.cst (.int 1))))) (.cons (.whl (.cst (.bool true)) tr_r) (.cons (.asg 12 (.slc (.var 0) (.var 5) (.var 8) (.cst .none))) (.cons (.iff (.var 12) tr_o tr_p) (.cons (.loop (.one 11) (.range (.cons (.bin .sub (.bi .len (.var 10)) (.cst (.int 1))) (.cons (.cst (.int 0)) (.cons (.neg (.cst (.int 1))) .nil)))) tr_n .nil) (.cons (.asg 9 (.joinEsc (.cst (.str [45])) 10)) .nil)))))))
noncomputable def tr_t : PSs := (.cons (.asg 9 (.slc (.var 0) (.var 5) (.var 8) (.cst .none))) (.cons (.iff (.cmp (.cst (.str [45])) .notin (.var 9)) tr_l tr_s) (.cons (.asg 9 (.meth .sub (.var 9) .nil)) (.cons (.asg 5 (.bin .add (.var 8) (.cst (.int 1)))) (.cons (.iff (.not (.var 9)) tr_e tr_k) .nil)))))
noncomputable def tr_u : PSs := (.cons (.asg 8 (.bin .add (.var 8) (.cst (.int 1)))) .nil)
noncomputable def tr_v : PSs := (.cons (.asg 8 (.bin .add (.var 8) (.cst (.int 1)))) .nil)
noncomputable def tr_w : PSs := (.cons (.asg 8 (.bin .add (.var 8) (.cst (.int 1)))) .nil)
noncomputable def tr_x : PSs := (.cons (.asg 8 (.var 5)) (.cons (.iff (.and (.cons (.cmp (.var 8) .lt (.var 6)) (.cons (.cmp (.idx (.var 0) (.var 8)) .eq (.cst (.str [33]))) .nil))) tr_w .nil) (.cons (.iff (.and (.cons (.cmp (.var 8) .lt (.var 6)) (.cons (.cmp (.idx (.var 0) (.var 8)) .eq (.cst (.str [93]))) .nil))) tr_v .nil) (.cons (.whl (.and (.cons (.cmp (.var 8) .lt (.var 6)) (.cons (.cmp (.idx (.var 0) (.var 8)) .ne (.cst (.str [93]))) .nil))) tr_u) (.cons (.iff (.cmp (.var 8) .ge (.var 6)) tr_d tr_t) .nil)))))
noncomputable def tr_y : PSs := (.cons (.callApp 4 (.call 3 (.cons (.var 7) .nil))) .nil)
noncomputable def tr_z : PSs := (.cons (.iff (.cmp (.var 7) .eq (.cst (.str [91]))) tr_x tr_y) .nil)
noncomputable def tr_z26 : PSs := (.cons (.iff (.cmp (.var 7) .eq (.cst (.str [63]))) tr_c tr_z) .nil)
noncomputable def tr_z27 : PSs := (.cons (.asg 7 (.idx (.var 0) (.var 5))) (.cons (.asg 5 (.bin .add (.var 5) (.cst (.int 1)))) (.cons (.iff (.cmp (.var 7) .eq (.cst (.str [42]))) tr_b tr_z26) .nil)))
noncomputable def tr_z28 : PSs := (.cons (.asgL 3) (.cons (.asgApp 4 3) (.cons (.asgT 5 6 (.tup (.cons (.cst (.int 0)) (.cons (.bi .len (.var 0)) .nil)))) (.cons (.whl (.cmp (.var 5) .lt (.var 6)) tr_z27) (.cons (.asrt (.cmp (.var 5) .eq (.var 6))) (.cons (.ret (.var 3)) .nil))))))
noncomputable def f_tr : Fn := ⟨3, tr_z28, none⟩
noncomputable def jn_a : PSs := (.cons (.callApp 3 (.cst (.str [46, 42]))) (.cons (.callApp 3 (.var 6)) .nil))
noncomputable def jn_b : PSs := (.cons (.callApp 3 (.fstr (.cons (.cst (.str [40, 63, 62, 46, 42, 63])) (.cons (.var 6) (.cons (.cst (.str [41])) .nil))))) .nil)
noncomputable def jn_c : PSs := (.cons (.append 6 (.idx (.var 0) (.var 4))) (.cons (.aug 4 (.cst (.int 1))) .nil))
noncomputable def jn_d : PSs := (.cons (.callApp 3 (.cst (.str [46, 42]))) (.cons .brk .nil))
noncomputable def jn_e : PSs := (.cons (.asrt (.cmp (.idx (.var 0) (.var 4)) .is (.var 1))) (.cons (.aug 4 (.cst (.int 1))) (.cons (.iff (.cmp (.var 4) .eq (.var 5)) jn_d .nil) (.cons (.asrt (.cmp (.idx (.var 0) (.var 4)) .isnot (.var 1))) (.cons (.asgL 6) (.cons (.whl (.and (.cons (.cmp (.var 4) .lt (.var 5)) (.cons (.cmp (.idx (.var 0) (.var 4)) .isnot (.var 1)) .nil))) jn_c) (.cons (.asg 6 (.meth .join (.cst (.str [])) (.cons (.var 6) .nil))) (.cons (.iff (.cmp (.var 4) .eq (.var 5)) jn_a jn_b) .nil))))))))
noncomputable def jn_f : PSs := (.cons (.callApp 3 (.idx (.var 0) (.var 4))) (.cons (.aug 4 (.cst (.int 1))) .nil))
noncomputable def jn_g : PSs := (.cons (.asgL 2) (.cons (.asgApp 3 2) (.cons (.asgT 4 5 (.tup (.cons (.cst (.int 0)) (.cons (.bi .len (.var 0)) .nil)))) (.cons (.whl (.and (.cons (.cmp (.var 4) .lt (.var 5)) (.cons (.cmp (.idx (.var 0) (.var 4)) .isnot (.var 1)) .nil))) jn_f) (.cons (.whl (.cmp (.var 4) .lt (.var 5)) jn_e) (.cons (.asrt (.cmp (.var 4) .eq (.var 5))) (.cons (.asg 2 (.meth .join (.cst (.str [])) (.cons (.var 2) .nil))) (.cons (.ret (.fstr (.cons (.cst (.str [40, 63, 115, 58])) (.cons (.var 2) (.cons (.cst (.str [41, 92, 90])) .nil))))) .nil))))))))
noncomputable def f_jn : Fn := ⟨2, jn_g, none⟩
noncomputable def sw_a : PSs := (.cons (.put 2 (.bin .sub (.bin .sub (.bin .add (.var 3) (.var 1)) (.cst (.int 1))) (.var 4)) (.idx (.var 0) (.bin .add (.var 3) (.var 4)))) .nil)
noncomputable def sw_b : PSs := (.cons (.loop (.one 4) (.range (.cons (.var 1) .nil)) sw_a .nil) .nil)
noncomputable def sw_c : PSs := (.cons (.newBA 2 (.bi .len (.var 0))) (.cons (.loop (.one 3) (.range (.cons (.cst (.int 0)) (.cons (.bi .len (.var 0)) (.cons (.var 1) .nil)))) sw_b .nil) (.cons (.ret (.bi .bytesOf (.var 2))) .nil)))
noncomputable def f_sw : Fn := ⟨2, sw_c, none⟩
noncomputable def ro_a : PSs := (.cons (.asg 4 (.bin .mod (.bin .mod (.bin .fdiv (.var 0) (.bin .pow (.cst (.int 10)) (.var 3))) (.cst (.int 10))) (.cst (.int 8)))) (.cons (.asg 5 (.bin .mod (.bin .fdiv (.bin .mod (.bin .fdiv (.var 0) (.cst (.int 1000))) (.cst (.int 10))) (.bin .pow (.cst (.int 2)) (.var 3))) (.cst (.int 2)))) (.cons (.aug 1 (.bin .add (.bin .mul (.var 4) (.bin .pow (.cst (.int 8)) (.var 3))) (.bin .mul (.var 5) (.bin .pow (.cst (.int 2)) (.bin .add (.cst (.int 9)) (.var 3)))))) (.cons (.aug 2 (.bin .add (.bin .add (.idx (.cst (.str [45, 114])) (.bin .fdiv (.var 4) (.cst (.int 4)))) (.idx (.cst (.str [45, 119])) (.bin .mod (.bin .fdiv (.var 4) (.cst (.int 2))) (.cst (.int 2))))) (.idx (.ite (.cmp (.var 3) .gt (.cst (.int 0))) (.cst (.str [45, 120, 83, 115])) (.cst (.str [45, 120, 84, 116]))) (.bin .add (.bin .mod (.var 4) (.cst (.int 2))) (.bin .mul (.cst (.int 2)) (.var 5)))))) .nil))))
noncomputable def ro_b : PSs := (.cons (.asg 1 (.bin .mul (.bin .mod (.bin .mod (.bin .fdiv (.var 0) (.bin .pow (.cst (.int 10)) (.cst (.int 4)))) (.cst (.int 100))) (.cst (.int 16))) (.cst (.int 4096)))) (.cons (.asg 2 (.idx (.cst (.str [63, 112, 99, 63, 100, 63, 98, 63, 45, 63, 108, 63, 115, 63, 63, 63])) (.bin .fdiv (.var 1) (.cst (.int 4096))))) (.cons (.aug 1 (.bin .mul (.bin .mod (.bin .fdiv (.var 0) (.bin .pow (.cst (.int 10)) (.cst (.int 6)))) (.cst (.int 10))) (.cst (.int 65536)))) (.cons (.loop (.one 3) (.ex (.tup (.cons (.cst (.int 2)) (.cons (.cst (.int 1)) (.cons (.cst (.int 0)) .nil))))) ro_a .nil) (.cons (.ret (.tup (.cons (.var 1) (.cons (.var 2) .nil)))) .nil)))))
noncomputable def f_ro : Fn := ⟨1, ro_b, none⟩
noncomputable def rn_a : PSs := (.cons (.asg 2 (.meth .split (.meth .join (.cst (.str [])) (.cons (.comp [1] (.clause (.one 4) (.ex (.var 0)) .nil (.done (.ite (.cmp (.var 4) .isin (.var 1)) (.var 4) (.cst (.str [32])))))) .nil)) .nil)) (.cons (.ret (.meth .join (.cst (.str [])) (.cons (.comp [] (.clause (.one 3) (.ex (.var 2)) .nil (.done (.bin .add (.bin .add (.idx (.var 3) (.cst (.int 0))) (.cst (.str [45]))) (.idx (.var 3) (.neg (.cst (.int 1)))))))) .nil))) .nil))
noncomputable def f_rn : Fn := ⟨2, rn_a, none⟩
noncomputable def wr_a : PSs := (.cons (.ret (.idx (.var 1) (.cst (.int 0)))) .nil)
noncomputable def wr_b : PSs := (.cons (.ret (.idx (.lst (.cons (.cst (.str [63])) (.cons (.cst (.str [91, 33, 98, 45, 97, 93])) (.cons (.bin .add (.bin .add (.bin .add (.bin .add (.cst (.str [91])) (.idx (.var 0) (.cst (.int 0)))) (.cst (.str [45]))) (.idx (.var 0) (.neg (.cst (.int 1))))) (.cst (.str [93]))) (.cons (.cst (.str [91, 98, 45, 97, 33, 93])) (.cons (.bin .add (.bin .add (.cst (.str [91])) (.var 0)) (.cst (.str [93]))) .nil)))))) (.bin .mod (.var 2) (.cst (.int 5))))) .nil)
noncomputable def wr_c : PSs := (.cons (.asg 3 (.comp [1] (.clause (.one 7) (.ex (.var 0)) (.cons (.cmp (.var 7) .notin (.var 1)) .nil) (.done (.var 7))))) (.cons (.iff (.cmp (.var 3) .eq (.lst .nil)) wr_b .nil) (.cons (.iff (.and (.cons (.cmp (.var 2) .eq (.cst (.int 0))) (.cons (.cmp (.bi .len (.var 1)) .eq (.cst (.int 1))) (.cons (.cmp (.var 1) .ne (.lst (.cons (.cst (.str [63])) .nil))) .nil)))) wr_a .nil) (.cons (.asg 4 (.meth .join (.cst (.str [])) (.cons (.var 1) .nil))) (.cons (.asg 5 (.bin .add (.meth .replace (.var 4) (.cons (.cst (.str [45])) (.cons (.cst (.str [])) .nil))) (.ite (.cmp (.cst (.str [45])) .isin (.var 1)) (.cst (.str [45])) (.cst (.str []))))) (.cons (.asg 6 (.bin .add (.meth .replace (.meth .join (.cst (.str [])) (.cons (.var 3) .nil)) (.cons (.cst (.str [45])) (.cons (.cst (.str [])) .nil))) (.ite (.cmp (.cst (.str [45])) .isin (.var 3)) (.cst (.str [45])) (.cst (.str []))))) (.cons (.ret (.bin .add (.bin .add (.cst (.str [91])) (.idx (.lst (.cons (.var 4) (.cons (.bin .add (.cst (.str [33])) (.call 8 (.cons (.var 0) (.cons (.var 3) .nil)))) (.cons (.call 8 (.cons (.var 0) (.cons (.var 1) .nil))) (.cons (.bin .add (.var 4) (.cst (.str [98, 45, 97]))) (.cons (.bin .add (.cst (.str [98, 45, 97, 33])) (.var 6)) (.cons (.bin .add (.cst (.str [93])) (.var 5)) (.cons (.bin .add (.cst (.str [33, 93])) (.var 6)) (.cons (.bin .add (.cst (.str [94])) (.var 5)) (.cons (.bin .add (.cst (.str [91])) (.var 5)) (.cons (.bin .add (.cst (.str [38, 38, 126, 126, 124, 124, 92])) (.var 5)) .nil))))))))))) (.var 2))) (.cst (.str [93])))) .nil)))))))
noncomputable def f_wr : Fn := ⟨3, wr_c, none⟩
noncomputable def rd_a : PSs := (.cons (.ret (.cst .none)) .nil)
noncomputable def rd_b : PSs := (.cons (.aug 4 (.ite (.cmp (.idx (.var 2) (.bin .add (.var 4) (.cst (.int 2)))) .eq (.cst (.str [92]))) (.cst (.int 3)) (.cst (.int 2)))) (.cons (.asg 6 (.idx (.var 2) (.var 4))) .nil))
noncomputable def rd_c : PSs := (.cons (.ret (.cst .none)) .nil)
noncomputable def rd_d : PSs := (.cons (.aug 4 (.cst (.int 1))) (.cons (.iff (.meth .isalnum (.idx (.var 2) (.var 4)) .nil) rd_c .nil) .nil))
noncomputable def rd_e : PSs := (.cons (.iff (.cmp (.idx (.var 2) (.var 4)) .eq (.cst (.str [92]))) rd_d .nil) (.cons (.asg 5 (.idx (.var 2) (.var 4))) (.cons (.asg 6 (.var 5)) (.cons (.iff (.and (.cons (.cmp (.slc (.var 2) (.bin .add (.var 4) (.cst (.int 1))) (.bin .add (.var 4) (.cst (.int 2))) (.cst .none)) .eq (.cst (.str [45]))) (.cons (.cmp (.bin .add (.var 4) (.cst (.int 2))) .lt (.bi .len (.var 2))) .nil))) rd_b .nil) (.cons (.iff (.cmp (.var 6) .lt (.var 5)) rd_a .nil) (.cons (.append 3 (.tup (.cons (.var 5) (.cons (.var 6) .nil)))) (.cons (.aug 4 (.cst (.int 1))) .nil)))))))
noncomputable def rd_f : PSs := (.cons (.ret (.cst .none)) .nil)
noncomputable def rd_g : PSs := (.cons (.ret (.cst .none)) .nil)
noncomputable def rd_h : PSs := (.cons (.ret (.ite (.or (.cons (.cmp (.var 0) .eq (.cst (.str [92, 45]))) (.cons (.and (.cons (.cmp (.bi .len (.var 0)) .eq (.cst (.int 1))) (.cons (.meth .isalnum (.var 0) .nil) .nil))) .nil))) (.tup (.cons (.cst (.bool false)) (.cons (.lst (.cons (.tup (.cons (.idx (.var 0) (.neg (.cst (.int 1)))) (.cons (.idx (.var 0) (.neg (.cst (.int 1)))) .nil))) .nil)) .nil))) (.cst .none))) .nil)
noncomputable def rd_i : PSs := (.cons (.ret (.tup (.cons (.cmp (.var 0) .eq (.cst (.str [46]))) (.cons (.lst .nil) .nil)))) .nil)
noncomputable def rd_j : PSs := (.cons (.iff (.cmp (.var 0) .isin (.tup (.cons (.cst (.str [46])) (.cons (.cst (.str [40, 63, 33, 41])) .nil)))) rd_i .nil) (.cons (.iff (.cmp (.slc (.var 0) (.cst .none) (.cst (.int 1)) (.cst .none)) .ne (.cst (.str [91]))) rd_h .nil) (.cons (.asg 1 (.cmp (.idx (.var 0) (.cst (.int 1))) .eq (.cst (.str [94])))) (.cons (.asg 2 (.ite (.var 1) (.slc (.var 0) (.cst (.int 2)) (.neg (.cst (.int 1))) (.cst .none)) (.slc (.var 0) (.cst (.int 1)) (.neg (.cst (.int 1))) (.cst .none)))) (.cons (.iff (.or (.cons (.cmp (.idx (.var 0) (.neg (.cst (.int 1)))) .ne (.cst (.str [93]))) (.cons (.cmp (.slc (.var 2) (.cst .none) (.cst (.int 1)) (.cst .none)) .isin (.tup (.cons (.cst (.str [])) (.cons (.cst (.str [91])) .nil)))) (.cons (.cmp (.cst (.str [93])) .isin (.slc (.var 2) (.cst (.int 1)) (.cst .none) (.cst .none))) .nil)))) rd_g .nil) (.cons (.iff (.cmp (.comp [2] (.clause (.one 7) (.ex (.tup (.cons (.cst (.str [38, 38])) (.cons (.cst (.str [126, 126])) (.cons (.cst (.str [124, 124])) .nil))))) (.cons (.cmp (.var 7) .isin (.var 2)) .nil) (.done (.var 7)))) .ne (.lst .nil)) rd_f .nil) (.cons (.asgL 3) (.cons (.asg 4 (.cst (.int 0))) (.cons (.whl (.cmp (.var 4) .lt (.bi .len (.var 2))) rd_e) (.cons (.ret (.tup (.cons (.var 1) (.cons (.var 3) .nil)))) .nil))))))))))
noncomputable def f_rd : Fn := ⟨1, rd_j, none⟩
noncomputable def be_a : PSs := (.cons (.ret (.cst (.bool false))) .nil)
noncomputable def be_b : PSs := (.cons (.asgT 3 4 (.idx (.var 0) (.var 2))) (.cons (.iff (.cmp (.cmp (.comp [1, 2] (.clause (.two 5 6) (.ex (.var 4)) (.cons (.chain (.var 5) .le (.slc (.var 1) (.var 2) (.bin .add (.var 2) (.cst (.int 1))) (.cst .none)) .le (.var 6)) .nil) (.done (.var 5)))) .ne (.lst .nil)) .eq (.var 3)) be_a .nil) .nil))
noncomputable def be_c : PSs := (.cons (.loop (.one 2) (.range (.cons (.bi .len (.var 0)) .nil)) be_b .nil) (.cons (.ret (.cst (.bool true))) .nil))
noncomputable def f_be : Fn := ⟨2, be_c, none⟩
noncomputable def la_a : PSs := (.cons (.ret (.cst (.bool false))) .nil)
noncomputable def la_b : PSs := (.cons (.ret (.cst (.bool false))) .nil)
noncomputable def la_c : PSs := (.cons (.asg 1 (.bin .add (.slc (.var 0) (.cst .none) (.cst (.int 5)) (.cst .none)) (.slc (.lst (.cons (.cst (.int 1010010101010)) (.cons (.cst (.int 12075431869)) (.cons (.cst (.int 14)) (.cons (.cst (.int 3080650)) (.cons (.cst (.int 20320)) .nil)))))) (.bi .len (.var 0)) (.cst .none) (.cst .none)))) (.cons (.asg 2 (.cst (.str [45, 63, 83, 84, 98, 99, 100, 108, 112, 114, 115, 116, 119, 120]))) (.cons (.asg 3 (.comp [1, 2] (.clause (.one 20) (.range (.cons (.cst (.int 14)) .nil)) (.cons (.cmp (.bin .mod (.bin .add (.bin .fdiv (.idx (.var 1) (.cst (.int 0))) (.bin .pow (.cst (.int 10)) (.var 20))) (.var 20)) (.cst (.int 2))) .eq (.cst (.int 1))) .nil) (.done (.idx (.var 2) (.var 20)))))) (.cons (.asg 4 (.comp [3] (.clause (.one 21) (.ex (.var 2)) (.cons (.cmp (.var 21) .notin (.var 3)) .nil) (.done (.var 21))))) (.cons (.asg 5 (.bin .add (.cst (.int 1)) (.bin .mod (.bin .mod (.idx (.var 1) (.cst (.int 2))) (.cst (.int 10))) (.cst (.int 6))))) (.cons (.asg 6 (.bin .mod (.bin .mod (.bin .fdiv (.idx (.var 1) (.cst (.int 2))) (.cst (.int 10))) (.cst (.int 10))) (.bin .sub (.cst (.int 11)) (.var 5)))) (.cons (.asg 7 (.comp [] (.clause (.one 22) (.ex (.slc (.var 1) (.cst (.int 3)) (.cst .none) (.cst .none))) .nil (.done (.call 7 (.cons (.var 22) .nil)))))) (.cons (.asg 8 (.comp [] (.clause (.two 26 27) (.ex (.var 7)) .nil (.done (.call 1 (.cons (.var 26) .nil)))))) (.cons (.iff (.cmp (.comp [] (.clause (.one 23) (.ex (.var 8)) .nil (.done (.bin .add (.slc (.var 23) (.cst .none) (.cst (.int 1)) (.cst .none)) (.slc (.var 23) (.cst (.int 10)) (.cst .none) (.cst .none)))))) .ne (.comp [] (.clause (.two 26 27) (.ex (.var 7)) .nil (.done (.slc (.var 27) (.cst .none) (.cst (.int 1)) (.cst .none)))))) la_b .nil) (.cons (.asg 9 (.comp [5, 6] (.clause (.one 23) (.ex (.var 8)) .nil (.done (.slc (.var 23) (.var 6) (.bin .add (.var 6) (.var 5)) (.cst .none)))))) (.cons (.asg 10 (.comp [3, 5, 6] (.clause (.two 26 27) (.ex (.var 7)) .nil (.done (.comp [3] (.clause (.one 21) (.ex (.slc (.var 27) (.var 6) (.bin .add (.var 6) (.var 5)) (.cst .none))) .nil (.done (.cmp (.var 21) .isin (.var 3))))))))) (.cons (.callX 11 6 (.cons (.bi .bytesOf (.comp [] (.clause (.one 31) (.ex (.var 9)) .nil (.clause (.one 21) (.ex (.var 31)) .nil (.done (.bi .ord (.var 21))))))) (.cons (.var 5) .nil))) (.cons (.iff (.or (.cons (.not (.bi .isBytes (.var 11))) (.cons (.cmp (.bi .len (.var 11)) .ne (.bin .mul (.cst (.int 2)) (.var 5))) .nil))) la_a .nil) .nil)))))))))))))
noncomputable def la_d : PSs := (.cons (.ret (.cst (.bool false))) .nil)
noncomputable def la_e : PSs := (.cons (.asg 24 (.bin .add (.idx (.var 9) (.var 19)) (.idx (.var 9) (.var 19)))) (.cons (.asg 25 (.comp [10, 13, 19] (.clause (.one 32) (.range (.cons (.var 5) .nil)) (.cons (.and (.cons (.cmp (.slc (.idx (.var 10) (.var 13)) (.cst .none) (.var 32) (.cst .none)) .eq (.slc (.slc (.idx (.var 10) (.var 19)) (.cst .none) (.var 32) (.cst .none)) (.cst .none) (.cst .none) (.neg (.cst (.int 1))))) (.cons (.cmp (.slc (.idx (.var 10) (.var 13)) (.var 32) (.cst .none) (.cst .none)) .eq (.slc (.slc (.idx (.var 10) (.var 19)) (.var 32) (.cst .none) (.cst .none)) (.cst .none) (.cst .none) (.neg (.cst (.int 1))))) .nil))) .nil) (.done (.var 32))))) (.cons (.iff (.cmp (.comp [18, 24] (.clause (.one 32) (.range (.cons (.var 5) .nil)) (.cons (.call 11 (.cons (.var 18) (.cons (.slc (.var 24) (.var 32) (.cst .none) (.cst .none)) .nil))) .nil) (.done (.var 32)))) .ne (.var 25)) la_d .nil) .nil)))
noncomputable def la_f : PSs := (.cons (.ret (.cst (.bool false))) .nil)
noncomputable def la_g : PSs := (.cons (.ret (.cst (.bool false))) .nil)
noncomputable def la_h : PSs := (.cons (.ret (.cst (.bool false))) .nil)
noncomputable def la_i : PSs := (.cons (.asg 14 (.comp [] (.clause (.one 28) (.ex (.slc (.var 11) (.bin .mul (.var 5) (.var 13)) (.bin .add (.bin .mul (.var 5) (.var 13)) (.var 5)) (.cst .none))) .nil (.done (.bi .chr (.var 28)))))) (.cons (.asg 15 (.comp [1, 2, 3, 4, 14] (.clause (.one 29) (.range (.cons (.var 5) .nil)) .nil (.done (.call 9 (.cons (.var 2) (.cons (.ite (.cmp (.idx (.var 14) (.var 29)) .isin (.var 3)) (.var 3) (.var 4)) (.cons (.bin .mod (.bin .fdiv (.idx (.var 1) (.cst (.int 1))) (.bin .pow (.cst (.int 10)) (.var 29))) (.cst (.int 10))) .nil)))))))) (.cons (.asg 16 (.bin .add (.bin .add (.bin .mul (.cst (.str [42])) (.bin .add (.cst (.int 1)) (.bin .mod (.bin .mod (.bin .fdiv (.idx (.var 1) (.cst (.int 1))) (.bin .pow (.cst (.int 10)) (.cst (.int 10)))) (.cst (.int 10))) (.cst (.int 3))))) (.meth .join (.cst (.str [])) (.cons (.var 15) .nil))) (.cst (.str [42, 42])))) (.cons (.asg 17 (.call 4 (.cons (.var 16) (.cons (.var 12) (.cons (.cst (.str [46])) .nil))))) (.cons (.iff (.or (.cons (.cmp (.bi .len (.var 17)) .ne (.bin .add (.var 5) (.cst (.int 2)))) (.cons (.cmp (.idx (.var 17) (.cst (.int 0))) .isnot (.var 12)) (.cons (.cmp (.idx (.var 17) (.neg (.cst (.int 1)))) .isnot (.var 12)) .nil)))) la_h .nil) (.cons (.iff (.cmp (.call 2 (.cons (.var 16) .nil)) .ne (.bin .add (.bin .add (.cst (.str [40, 63, 115, 58, 40, 63, 62, 46, 42, 63])) (.meth .join (.cst (.str [])) (.cons (.slc (.var 17) (.cst (.int 1)) (.neg (.cst (.int 1))) (.cst .none)) .nil))) (.cst (.str [41, 46, 42, 41, 92, 90])))) la_g .nil) (.cons (.asg 18 (.comp [] (.clause (.one 30) (.ex (.slc (.var 17) (.cst (.int 1)) (.neg (.cst (.int 1))) (.cst .none))) .nil (.done (.call 10 (.cons (.var 30) .nil)))))) (.cons (.iff (.cmp (.cst .none) .isin (.var 18)) la_f .nil) (.cons (.loop (.one 19) (.range (.cons (.cst (.int 2)) .nil)) la_e .nil) .nil)))))))))
noncomputable def la_j : PSs := (.cons (.loop (.one 13) (.range (.cons (.cst (.int 2)) .nil)) la_i .nil) (.cons (.ret (.cst (.bool true))) .nil))
noncomputable def f_la : Fn := ⟨1, la_c, some (12, la_j)⟩
noncomputable def fnsL : List (Option Fn) := [some f_ms, some f_fi, some f_tl, some f_es, some f_tr, some f_jn, none, some f_ro, some f_rn, some f_wr, some f_rd, some f_be, none]
noncomputable def fns (k : Nat) : Option Fn := (fnsL[k]?).join
noncomputable def xfnsL : List (Option Fn) := [none, none, none, none, none, none, some f_sw, none, none, none, none, none, some f_la]
noncomputable def xfns (k : Nat) : Option Fn := (xfnsL[k]?).join
noncomputable def fname : List Str := ["S_IFMT", "filemode", "translate", "escape", "_translate", "_join_translated_parts", "_byteswap", "_law_row", "_law_ranges", "_law_written", "_law_read", "_law_begins", "law"].map Str.ofString
noncomputable def nm (v : List String) (l : Bool) (p q : Nat × Nat) : Nm := ⟨v.map Str.ofString, fname, ["_filemode_table"], l, p, q⟩
noncomputable def nmsL : List Nm := [
  nm ["mode"] false (0, 0) (0, 0),
  nm ["mode", "perm", "index", "table", "bit", "char"] false (0, 0) (0, 0),
  nm ["pat", "STAR", "parts"] false (0, 0) (0, 0),
  nm ["pattern"] false (0, 0) (0, 0),
  nm ["pat", "STAR", "QUESTION_MARK", "res", "add", "i", "n", "c", "j", "stuff", "chunks", "k", "chunk", "s"] true (103, 39) (102, 37),
  nm ["inp", "STAR", "res", "add", "i", "n", "fixed"] false (0, 0) (0, 0),
  nm ["data", "width", "swapped_data", "i", "j"] false (0, 0) (0, 0),
  nm ["number", "mode", "text", "j", "n", "above"] false (0, 0) (0, 0),
  nm ["column", "some", "runs", "run", "sign"] false (0, 0) (0, 0),
  nm ["column", "let_in", "digit", "barred", "plain", "some", "others", "sign"] false (0, 0) (0, 0),
  nm ["part", "barred", "body", "ranges", "k", "low", "high", "two"] false (0, 0) (0, 0),
  nm ["read", "word", "i", "barred", "ranges", "low", "high"] false (0, 0) (0, 0),
  nm ["script", "cells", "column", "inner", "outer", "size", "first", "rows", "shown", "words", "images", "mirrored", "star", "n", "signs", "items", "pattern", "parts", "read", "other", "j", "sign", "number", "row", "twice", "told", "mode", "text", "octet", "i", "part", "word", "k"] false (0, 0) (0, 0)]
noncomputable def nms (k : Nat) : Nm := (nmsL[k]?).getD (nm [] false (0, 0) (0, 0))
end Mine.L
namespace Mine
open _root_.PySem _root_.PySem.W PyProof.Rows
noncomputable def law0 : Law := ⟨L.fns, L.xfns, L.nms, L.fname, [38, 78, 90, 102, 109, 116, 123, 130, 135, 140, 145, 150, 155], 104, 108, "_translate.<locals>.", (103, 39), (102, 37), 83, 92, .tuple (tabL.map tabRow)⟩
noncomputable def q0 : Program := view _root_.PySem.Challenge.pw_rt0016_02 [41]
noncomputable def loose0 : List Str := ["_sre", "S_IFMT", "S_IFDIR", "S_IFCHR", "S_IFBLK", "S_IFREG", "S_IFIFO", "S_IFLNK", "S_IFSOCK", "S_ISUID", "S_ISGID", "S_ISVTX", "S_IRUSR", "S_IWUSR", "S_IXUSR", "S_IRGRP", "S_IWGRP", "S_IXGRP", "S_IROTH", "S_IWOTH", "S_IXOTH", "_filemode_table", "filemode", "_twin_re_1", "translate", "_special_chars_map", "escape", "_translate", "_join_translated_parts", "_byteswap", "_law_row", "_law_ranges", "_law_written", "_law_read", "_law_begins"].map Str.ofString
noncomputable def testK (K : Addr → Option Obj) : Bool := allB (lawB law0 K) && tabIs (K law0.P)
noncomputable def test0 (s : Shared) : Bool := testK s.heap.get? && Nat.blt 0 s.toks
def Says0 (s : Shared) : Prop := ∃ K : Addr → Option Obj, InF K s.heap ∧ testK K = true ∧ 0 < s.toks
noncomputable def xt0 (s : Shared) : Bool := xlAt q0 [] s && recOk [] s
theorem def0_some : (defOf q0 _root_.PySem.Challenge.rw_rt0016_02.row.name).isSome = true := by decide +kernel
noncomputable def rec0 : DefRec × List (Str × Expr) := (defOf q0 _root_.PySem.Challenge.rw_rt0016_02.row.name).get def0_some
theorem def0 : defOf q0 _root_.PySem.Challenge.rw_rt0016_02.row.name = some (rec0.1, rec0.2) := (Option.some_get def0_some).symm
theorem def0_the : _root_.PySem.Challenge.rw_rt0016_02.row.prog.theDef _root_.PySem.Challenge.rw_rt0016_02.row.name = some (rec0.1.params, rec0.1.body, rec0.1.scope) := by kernel_rfl
theorem def0_kw : kwWritten? rec0.1.params.kwonlyargs rec0.1.params.kw_defaults = some rec0.2 := by kernel_rfl
theorem law0_open (said : _root_.PySem.Challenge.rw_rt0016_02.row.wellSaid = true) (left : LeftO _root_.PySem.Challenge.rw_rt0016_02.row.prog q0 loose0 xt0 test0 (fun _ => true) 4460) (hw : _root_.PySem.Challenge.rw_rt0016_02.row.toRowW.promised)
  (call : Walk0 q0 loose0 (XL q0 []) Says0 _root_.PySem.Challenge.rw_rt0016_02.row.toRowW rec0.1 rec0.2) : _root_.PySem.Challenge.rw_rt0016_02.row.Holds :=
  holds_open0 left (fun s e => ⟨s.heap.get?, fun _ _ e => e, (andE e).1, lq (andE e).2⟩) (fun s s' y k t => y.elim fun K y => ⟨K, fun a o e => k _ _ (y.1 a o e), y.2.1, Nat.lt_of_lt_of_le y.2.2 t⟩)
    (fun s e => xl_of s (andE e).1) XL.keeps def0 def0_the def0_kw (fun s e => recFacts_of (andE e).2) rfl said (by decide +kernel) ⟨rfl, rfl, rfl, rfl, rfl, by decide +kernel⟩ hw call
theorem law0_hw : _root_.PySem.Challenge.rw_rt0016_02.row.toRowW.promised := by w_witness2
theorem law0_said : _root_.PySem.Challenge.rw_rt0016_02.wellSaid = true := by decide +kernel
theorem nms_all {L : Law} {l : List Nm} {d : Nm} (h : (l.all (nmsB L) && nmsB L d) = true) (f : Nat) : nmsB L ((l[f]?).getD d) = true := by
  cases e : l[f]? with
  | none => exact (andE h).2
  | some N => exact List.all_eq_true.mp (andE h).1 N (List.mem_of_getElem? e)
theorem law0_nms : ∀ f, nmsB law0 (law0.nms f) = true := nms_all (by decide +kernel)
theorem law0_end (f : Nat) (h : law0.fname.length ≤ f) : law0.fns f = none ∧ law0.xfns f = none :=
  ⟨(congrArg Option.join (List.getElem?_eq_none h : L.fnsL[f]? = none)), (congrArg Option.join (List.getElem?_eq_none h : L.xfnsL[f]? = none))⟩
theorem law0_at (k : L.i_la < law0.fname.length) (id : Str) (h : L.fname[L.i_la]? = some id) : id = law0.fname.getD L.i_la "" := by
  show id = L.fname.getD L.i_la ""
  rw [List.getD_eq_getElem?_getD, h]; rfl
theorem law0_walk (hplain : ∀ script : List Int, script.length ≤ 63 → runPX L.fns L.xfns law0.Γ lim 7 L.i_la [.list (script.map .int)] = some (.bool true)) : Walk0 q0 loose0 (XL q0 []) Says0 _root_.PySem.Challenge.rw_rt0016_02.row.toRowW rec0.1 rec0.2 := by
  intro w s₀ s₁ mg mb G Y fa hmg hg args vals as hpre hlay hrd hwl hlo
  obtain ⟨K, KX, ht, htk⟩ := Y
  refine Ground.open G ?_
  intro T B D TE TW
  have hfa : mg (Str.ofString "law") = some (.ref fa) := hmg
  clear D TE TW B
  wrow_args hpre hlay hrd hwl hlo
  have k := (andE ht).1
  have hP : s₁.heap.get? law0.P = some (tabObj #[]) := KX _ _ (tabIs_ok (andE ht).2)
  have hX := lib_of (L := law0) (prog := _root_.PySem.Challenge.rw_rt0016_02.row.prog) (w := w) (mg := mg) (mb := mb) KX T.g T.b T.nolimit T.builtins T.bmain hP law0_nms law0_end k
  have hi : mg (law0.fname.getD L.i_la "") = some (.ref (law0.at L.i_la)) := gRef KX T.g (andE (List.all_eq_true.mp (allE k 0) L.i_la (List.mem_range.mpr (by decide +kernel)))).1
  obtain rfl : law0.at L.i_la = fa := by
    injection (someE (hi.symm.trans hfa))
  rename_i script _ _ _ _ _ _ _ l vs _ hL _ w1 _ hI _ hlen _
  exact wpQ_mono (law_end KX k hX ⟨rfl, by decide, by decide⟩ rfl hP hg htk (well_list w1 hL) hI hi (fun id e => law0_at (by decide +kernel) id e) (hplain script (by omega))) fun v s' h =>
    ⟨.inl ⟨.bool true, .bool true, [], by rw [h.1], fun _ => rfl, .bool _, by kernel_rfl, fun _ => ⟨List.nodup_nil, fun _ h => nomatch h⟩⟩, h.2.1, h.2.2.1, h.2.2.2⟩
abbrev Good0 (w : World) : Prop := (openEnds treeTable _root_.PySem.Challenge.rw_rt0016_02.row.prog w 4460).map (fun s => (openSeen q0 loose0 (importedModules _root_.PySem.Challenge.rw_rt0016_02.row.prog.main.body) xt0 true s, test0 s)) = some (openGood q0 loose0, true)
theorem left0a (w : World) : Good0 ((w.withFollow "special-get-raises" false).withFollow "comprehension-iter-twice" false) := by kernel_rfl
theorem left0b (w : World) : Good0 ((w.withFollow "special-get-raises" true).withFollow "comprehension-iter-twice" false) := by kernel_rfl
theorem left0c (w : World) : Good0 ((w.withFollow "special-get-raises" false).withFollow "comprehension-iter-twice" true) := by kernel_rfl
theorem left0d (w : World) : Good0 ((w.withFollow "special-get-raises" true).withFollow "comprehension-iter-twice" true) := by kernel_rfl
theorem left0 : LeftO _root_.PySem.Challenge.rw_rt0016_02.row.prog q0 loose0 xt0 test0 (fun _ => true) 4460 :=
  byRow2 "comprehension-iter-twice" (P := Good0) (byRow2 "special-get-raises" (P := fun w => Good0 (w.withFollow "comprehension-iter-twice" false)) left0a left0b) (byRow2 "special-get-raises" (P := fun w => Good0 (w.withFollow "comprehension-iter-twice" true)) left0c left0d)
theorem law0_done (hplain : ∀ script : List Int, script.length ≤ 63 → runPX L.fns L.xfns law0.Γ lim 7 L.i_la [.list (script.map .int)] = some (.bool true)) : _root_.PySem.Challenge.rw_rt0016_02.Holds :=
  holds_law law0_said fun said => law0_open said left0 law0_hw (law0_walk hplain)
end Mine
namespace Mine.V
theorem bI {α β : Type} {o : Option α} {f : α → Option β} {a : α} {b : Option β} (h : o = some a) (h' : f a = b) : o.bind f = b := by rw [h]; exact h'
theorem mI {α β : Type} {o : Option α} {f : α → β} {a : α} {b : β} (h : o = some a) (h' : f a = b) : o.map f = some b := by rw [h]; exact congrArg some h'
theorem iT {α : Type} {c : Prop} [Decidable c] {a b : α} (h : c) : (if c then a else b) = a := if_pos h
theorem iF {α : Type} {c : Prop} [Decidable c] {a b : α} (h : ¬ c) : (if c then a else b) = b := if_neg h
abbrev Kn := List (Nat × AV)
noncomputable def ov : Kn → Nv → Nv
  | [], ρ => ρ
  | p :: l, ρ => fun k => bif Nat.beq k p.1 then some p.2 else ov l ρ k
noncomputable def fil (k : Nat) : Kn → Kn
  | [] => []
  | p :: l => bif Nat.beq p.1 k then fil k l else p :: fil k l
noncomputable def okV (k : Nat) : AV → Bool
  | .app i => !(Nat.beq i k)
  | _ => true
noncomputable def okB (k : Nat) : Kn → Bool
  | [] => true
  | p :: l => okV k p.2 && okB k l
noncomputable def lk (k : Nat) : Kn → Option AV
  | [] => none
  | p :: l => bif Nat.beq k p.1 then some p.2 else lk k l
def Holds (l : Kn) (ρ : Nv) : Prop := l.map (fun p => ρ p.1) = l.map fun p => some p.2
def In (l' l : Kn) : Prop := l.map (fun p => lk p.1 l') = l.map fun p => some p.2
theorem beqT {a b : Nat} (h : a = b) : Nat.beq a b = true := h ▸ Nat.beq_refl a
theorem beqF {a b : Nat} (h : a ≠ b) : Nat.beq a b = false := by
  cases e : Nat.beq a b with
  | false => rfl
  | true => exact absurd (Nat.eq_of_beq_eq_true e) h
theorem ov_at {p : Nat × AV} {l : Kn} {ρ : Nv} {k : Nat} (h : k = p.1) : ov (p :: l) ρ k = some p.2 := by show (bif _ then _ else _) = _; rw [beqT h]; rfl
theorem ov_no {p : Nat × AV} {l : Kn} {ρ : Nv} {k : Nat} (h : k ≠ p.1) : ov (p :: l) ρ k = ov l ρ k := by show (bif _ then _ else _) = _; rw [beqF h]; rfl
theorem ov_holds : ∀ {l : Kn} {ρ : Nv}, Holds l ρ → ov l ρ = ρ
  | [], _, _ => rfl
  | p :: l, ρ, h => funext fun k => by
    by_cases q : k = p.1
    · rw [ov_at q, q]; exact (List.cons.inj h).1.symm
    · rw [ov_no q, ov_holds (l := l) (List.cons.inj h).2]
theorem unApp_ok {k : Nat} {v : AV} (h : okV k v = true) : unApp k v = some v := by
  cases v with
  | app i => exact if_neg fun e => by rw [okV, beqT e] at h; cases h
  | _ => rfl
theorem fil_at {k j : Nat} (q : j ≠ k) {ρ ρ' : Nv} (e : ρ j = ρ' j) : ∀ (l : Kn), ov l ρ j = ov (fil k l) ρ' j
  | [] => e
  | p :: l => by
    have ih := fil_at q e l
    by_cases h1 : p.1 = k
    · rw [ov_no fun z => q (z.trans h1), fil, beqT h1]; exact ih
    · rw [fil, beqF h1]
      show _ = ov (p :: fil k l) ρ' j
      by_cases h2 : j = p.1
      · rw [ov_at h2, ov_at h2]
      · rw [ov_no h2, ov_no h2]; exact ih
theorem bind_no {ρ : Nv} {k j : Nat} {v : AV} (q : j ≠ k) : (ρ.bind k v) j = (ρ j).bind (unApp k) := if_neg q
theorem ov_bindAt {k j : Nat} (q : j ≠ k) {ρ : Nv} {v : AV} : ∀ {l : Kn}, okB k l = true → (ov l ρ j).bind (unApp k) = ov l (ρ.bind k v) j
  | [], _ => (bind_no q).symm
  | p :: l, h => by
    have h := bE (show (okV k p.2 && okB k l) = true from h)
    by_cases h2 : j = p.1
    · rw [ov_at h2, ov_at h2]; exact unApp_ok h.1
    · rw [ov_no h2, ov_no h2]; exact ov_bindAt q h.2
theorem ov_bind {k : Nat} {v : AV} {l : Kn} {ρ : Nv} (h : okB k l = true) : (ov l ρ).bind k v = ov ((k, v) :: fil k l) (ρ.bind k v) := funext fun j => by
  by_cases q : j = k
  · rw [ov_at q]; exact if_pos q
  · rw [ov_no q, bind_no q, ov_bindAt q h, fil_at q rfl]
theorem ov_set {k : Nat} {v : AV} {l : Kn} {ρ : Nv} : (ov l ρ).set k v = ov ((k, v) :: fil k l) ρ := funext fun j => by
  by_cases q : j = k
  · rw [ov_at q]; exact if_pos q
  · rw [ov_no q, ← fil_at q rfl]; exact if_neg q
noncomputable def frzL : Kn → Kn
  | [] => []
  | p :: l => (p.1, frzV p.2) :: frzL l
theorem ov_frz {ρ : Nv} : ∀ {l : Kn}, (ov l ρ).frz = ov (frzL l) ρ.frz
  | [] => rfl
  | p :: l => funext fun j => by
    show (ov (p :: l) ρ j).map frzV = _
    by_cases q : j = p.1
    · rw [ov_at q, frzL, ov_at (p := (p.1, frzV p.2)) q]; rfl
    · rw [ov_no q, frzL, ov_no (p := (p.1, frzV p.2)) q]; exact congrFun (ov_frz (l := l)) j
theorem lk_ov {k : Nat} {v : AV} {ρ : Nv} : ∀ {l : Kn}, lk k l = some v → ov l ρ k = some v
  | p :: l, h => by
    by_cases q : k = p.1
    · rw [lk, beqT q] at h; rw [ov_at q]; exact h
    · rw [lk, beqF q] at h; rw [ov_no q]; exact lk_ov h
theorem In.holds {l' : Kn} {ρ : Nv} : ∀ {l : Kn}, In l' l → Holds l (ov l' ρ)
  | [], _ => rfl
  | p :: l, h => by
    show ov l' ρ p.1 :: l.map _ = some p.2 :: l.map _
    rw [lk_ov (List.cons.inj h).1]
    exact congrArg _ (In.holds (l := l) (List.cons.inj h).2)
theorem In.ov {l' l : Kn} (h : In l' l) (ρ : Nv) : ov l' ρ = ov l (ov l' ρ) := (ov_holds h.holds).symm
structure Cx where
  Φ : Nat → List AV → Option AV
  Γ : Nat → Option AV
  Ξ : Option (Nat → List AV → Option AV)
section
variable {X : Cx}
def Ev (X : Cx) (e : PE) (l : Kn) (v : AV) : Prop := ∀ ρ, ev X.Φ X.Γ e (ov l ρ) = some v
def EvB (X : Cx) (e : PE) (l : Kn) (v : Bool) : Prop := ∀ ρ, evB X.Φ X.Γ e (ov l ρ) = some v
def Evs (X : Cx) (e : PEs) (l : Kn) (v : List AV) : Prop := ∀ ρ, evs X.Φ X.Γ e (ov l ρ) = some v
def EvAll (X : Cx) (e : PEs) (l : Kn) (v : Bool) : Prop := ∀ ρ, evAll X.Φ X.Γ e (ov l ρ) = some v
def EvAny (X : Cx) (e : PEs) (l : Kn) (v : Bool) : Prop := ∀ ρ, evAny X.Φ X.Γ e (ov l ρ) = some v
def EvL (X : Cx) (e : PI) (l : Kn) (v : List AV) : Prop := ∀ ρ, evL X.Φ X.Γ e (ov l ρ) = some v
def RunS (X : Cx) (s : PS) (l l' : Kn) (f : Fl) : Prop := ∀ ρ, ∃ ρ', ex X.Φ X.Γ X.Ξ lim s (ov l ρ) = some (ov l' ρ', f)
def Run (X : Cx) (b : PSs) (l l' : Kn) (f : Fl) : Prop := ∀ ρ, ∃ ρ', exs X.Φ X.Γ X.Ξ lim b (ov l ρ) = some (ov l' ρ', f)
def Wh (X : Cx) (t : PE) (b : PSs) (n : Nat) (l l' : Kn) : Prop := ∀ m, n ≤ m → ∀ ρ, ∃ ρ', whileL (evB X.Φ X.Γ t) (exs X.Φ X.Γ X.Ξ lim b) m (ov l ρ) = some (ov l' ρ', .next)
def Fo (X : Cx) (b o : PSs) (t : Tgt) (vs : List AV) (l l' : Kn) (f : Fl) : Prop := ∀ ρ, ∃ ρ', forL (exs X.Φ X.Γ X.Ξ lim b) (exs X.Φ X.Γ X.Ξ lim o) t vs (ov l ρ) = some (ov l' ρ', f)
variable {l l1 l' : Kn} {f : Fl} {s : PS} {r a b : PSs} {k j : Nat} {e : PE} {v x y : AV} {t : PE} {n : Nat} {xs ys : List AV}
theorem Run.seq (h : RunS X s l l1 .next) (k : Run X r l1 l' f) : Run X (.cons s r) l l' f := fun ρ => (h ρ).elim fun ρ' h => (k ρ').imp fun ρ2 h2 => bI h h2
theorem Run.one (h : RunS X s l l' f) : Run X (.cons s .nil) l l' f := fun ρ => (h ρ).imp fun ρ' h => bI h (by cases f <;> rfl)
theorem Run.out (h : RunS X s l l' (.ret v)) : Run X (.cons s r) l l' (.ret v) := fun ρ => (h ρ).imp fun ρ' h => bI h rfl
theorem Run.outB (h : RunS X s l l' .brk) : Run X (.cons s r) l l' .brk := fun ρ => (h ρ).imp fun ρ' h => bI h rfl
theorem Run.nil : Run X .nil l l .next := fun ρ => ⟨ρ, rfl⟩
theorem Run.end (h : In l l') : Run X .nil l l' .next := fun ρ => ⟨_, congrArg (fun z => some (z, Fl.next)) (h.ov ρ)⟩
theorem Run.pre (i : In l l1) (h : Run X b l1 l' f) : Run X b l l' f := fun ρ => i.ov ρ ▸ h _
theorem Run.sub (h : Run X b l l1 f) (i : In l1 l') : Run X b l l' f := fun ρ => (h ρ).elim fun ρ' h => ⟨_, i.ov ρ' ▸ h⟩
theorem RunS.sub (h : RunS X s l l1 f) (i : In l1 l') : RunS X s l l' f := fun ρ => (h ρ).elim fun ρ' h => ⟨_, i.ov ρ' ▸ h⟩
theorem fl_eq {ρ ρ' : Nv} {f : Fl} (h : ρ = ρ') : some (ρ, f) = some (ρ', f) := congrArg (fun z => some (z, f)) h
theorem RunS.asg (h : Ev X e l v) (hp : plainV v = true) (ho : okB k l = true) : RunS X (.asg k e) l ((k, v) :: fil k l) .next := fun ρ => ⟨_, bI (h ρ) ((iT hp).trans (fl_eq (ov_bind ho)))⟩
theorem Run.asg (h : Ev X e l v) (hp : plainV v = true) (ho : okB k l = true) (h' : Run X r ((k, v) :: fil k l) l' f) : Run X (.cons (.asg k e) r) l l' f := .seq (RunS.asg h hp ho) h'
theorem RunS.asgL (ho : okB k l = true) : RunS X (.asgL k) l ((k, .own []) :: fil k l) .next := fun ρ => ⟨_, fl_eq (ov_bind ho)⟩
theorem RunS.asgApp (hj : lk j l = some (.own xs)) (hk : k ≠ j) (ho : okB k l = true) : RunS X (.asgApp k j) l ((k, .app j) :: fil k l) .next := fun ρ => ⟨_, bI (bI (lk_ov hj) rfl : ownAt _ j = some xs) ((iT hk).trans (fl_eq (ov_bind ho)))⟩
theorem RunS.asgT {u w : AV} (h : Ev X e l (.tuple [u, w])) (ho : okB k l = true) (ho' : okB j ((k, u) :: fil k l) = true) : RunS X (.asgT k j e) l ((j, w) :: fil j ((k, u) :: fil k l)) .next := fun ρ =>
  ⟨((ρ.bind k u).bind j w), bI (h ρ) (fl_eq ((congrArg (·.bind j w) (ov_bind ho)).trans (ov_bind ho')))⟩
theorem RunS.put {i : PE} {j : Int} (h : Ev X e l v) (hi : Ev X i l (.int j)) (hk : lk k l = some x) (hy : putV x j v = some y) : RunS X (.put k i e) l ((k, y) :: fil k l) .next := fun ρ =>
  ⟨_, bI (h ρ) (bI (hi ρ) (bI rfl (bI (lk_ov hk) (mI hy (congrArg (·, Fl.next) ov_set)))))⟩
theorem RunS.aug (hk : lk k l = some x) (h : Ev X e l v) (hx : isIS x = some ()) (ha : addV x v = some y) (ho : okB k l = true) : RunS X (.aug k e) l ((k, y) :: fil k l) .next := fun ρ =>
  ⟨_, bI (lk_ov hk) (bI (h ρ) (bI hx (mI ha (congrArg (·, Fl.next) (ov_bind ho)))))⟩
theorem RunS.append (h : Ev X e l v) (hk : lk k l = some (.own xs)) (hp : plainV v = true) (hn : xs.length < lim) (hy : xs ++ [v] = ys) : RunS X (.append k e) l ((k, .own ys) :: fil k l) .next := fun ρ =>
  hy ▸ ⟨_, bI (h ρ) (bI (bI (lk_ov hk) rfl : ownAt _ k = some xs) ((iT ⟨hp, hn⟩).trans (fl_eq ov_set)))⟩
theorem RunS.callApp (h : Ev X e l v) (hk : lk k l = some (.app j)) (hj : lk j l = some (.own xs)) (hp : plainV v = true) (hn : xs.length < lim) (hy : xs ++ [v] = ys) : RunS X (.callApp k e) l ((j, .own ys) :: fil j l) .next := fun ρ =>
  hy ▸ ⟨_, bI (h ρ) (bI (bI (lk_ov hk) rfl) (bI (bI (lk_ov hj) rfl : ownAt _ j = some xs) ((iT ⟨hp, hn⟩).trans (fl_eq ov_set))))⟩
theorem RunS.del {i : PE} {j : Int} (hi : Ev X i l (.int j)) (hk : lk k l = some (.own xs)) (hn : pyIdx xs.length j = some n) (hy : xs.eraseIdx n = ys) : RunS X (.del k i) l ((k, .own ys) :: fil k l) .next := fun ρ =>
  hy ▸ ⟨_, bI (hi ρ) (bI rfl (bI (bI (lk_ov hk) rfl : ownAt _ k = some xs) (mI hn (congrArg (·, Fl.next) ov_set))))⟩
theorem RunS.augPut {i : PE} {j : Int} {q : List Nat} (hi : Ev X i l (.int j)) (hk : lk k l = some (.own xs)) (hn : pyIdx xs.length j = some n) (hz : xs[n]? = some (.str q)) (h : Ev X e l v) (ha : addV (.str q) v = some y) (hy : xs.set n y = ys) :
    RunS X (.augPut k i e) l ((k, .own ys) :: fil k l) .next := fun ρ =>
  hy ▸ ⟨_, bI (hi ρ) (bI rfl (bI (bI (lk_ov hk) rfl : ownAt _ k = some xs) (bI hn (bI hz (bI (h ρ) (bI rfl (mI ha (congrArg (·, Fl.next) ov_set))))))))⟩
theorem RunS.ret (h : Ev X e (frzL l) v) (hp : plainV v = true) : RunS X (.ret e) l [] (.ret v) := fun ρ => ⟨ov l ρ, bI (ov_frz ▸ h ρ.frz) (iT hp)⟩
theorem RunS.brk : RunS X .brk l l .brk := fun ρ => ⟨ρ, rfl⟩
theorem RunS.asrt (h : EvB X e l true) : RunS X (.asrt e) l l .next := fun ρ => ⟨ρ, bI (h ρ) (iT rfl)⟩
theorem RunS.iffT (h : EvB X t l true) (ha : Run X a l l' f) : RunS X (.iff t a b) l l' f := fun ρ => (ha ρ).imp fun ρ' ha => bI (h ρ) ((iT rfl).trans ha)
theorem RunS.iffF (h : EvB X t l false) (hb : Run X b l l' f) : RunS X (.iff t a b) l l' f := fun ρ => (hb ρ).imp fun ρ' hb => bI (h ρ) ((iF fnt).trans hb)
theorem RunS.no (h : EvB X t l false) : RunS X (.iff t a .nil) l l .next := .iffF h .nil
theorem RunS.whl (h : Wh X t b n l l') (hn : n ≤ lim) : RunS X (.whl t b) l l' .next := h lim hn
theorem RunS.loop {t : Tgt} {it : PI} {o : PSs} (h : EvL X it l xs) (hf : Fo X b o t xs l l' f) : RunS X (.loop t it b o) l l' f := fun ρ => (hf ρ).imp fun ρ' hf => bI (h ρ) hf
theorem RunS.callX {fn : Nat} {es : PEs} {F : Nat → List AV → Option AV} (hΞ : X.Ξ = some F) (hv : Evs X es l xs) (hq : plains xs = some xs) (hF : F fn xs = some v) (hp : plainV v = true) (ho : okB k l = true) : RunS X (.callX k fn es) l ((k, v) :: fil k l) .next := fun ρ =>
  ⟨_, bI hΞ (bI (bI (bI (hv ρ) hq) hF) ((iT hp).trans (fl_eq (ov_bind ho))))⟩
theorem RunS.newBA {F : Nat → List AV → Option AV} {c : Nat} (hΞ : X.Ξ = some F) (h : Ev X e l (.int (c : Int))) (hc : c ≤ lim) (ho : okB k l = true) : RunS X (.newBA k e) l ((k, .ba (List.replicate c 0)) :: fil k l) .next := fun ρ =>
  ⟨_, bI hΞ (bI (h ρ) (bI rfl ((iT ⟨Int.natCast_nonneg _, Int.ofNat_le.mpr hc⟩).trans (fl_eq (ov_bind ho)))))⟩
theorem Wh.stop (h : EvB X t l false) : Wh X t b (n + 1) l l
  | _ + 1, _, ρ => ⟨ρ, bI (h ρ) (iF fnt)⟩
theorem Wh.step (h : EvB X t l true) (hb : Run X b l l1 .next) (k : Wh X t b n l1 l') : Wh X t b (n + 1) l l'
  | _ + 1, hm, ρ => (hb ρ).elim fun ρ' hb => (k _ (Nat.le_of_succ_le_succ hm) ρ').imp fun ρ2 h2 => bI (h ρ) ((iT rfl).trans (bI hb h2))
theorem Wh.brk (h : EvB X t l true) (hb : Run X b l l' .brk) : Wh X t b (n + 1) l l'
  | _ + 1, _, ρ => (hb ρ).imp fun ρ' hb => bI (h ρ) ((iT rfl).trans (bI hb rfl))
theorem Fo.nil {o : PSs} {t : Tgt} (h : Run X o l l' f) : Fo X b o t [] l l' f := h
theorem Fo.step {o : PSs} (ho : okB j l = true) (hb : Run X b ((j, v) :: fil j l) l1 .next) (k : Fo X b o (.one j) xs l1 l' f) : Fo X b o (.one j) (v :: xs) l l' f := fun ρ =>
  (hb _).elim fun ρ' h => (k ρ').imp fun ρ2 h2 => bI (congrArg some (ov_bind ho)) (bI h h2)
theorem Fo.ret {o : PSs} (ho : okB j l = true) (hb : Run X b ((j, v) :: fil j l) l' (.ret x)) : Fo X b o (.one j) (v :: xs) l l' (.ret x) := fun ρ =>
  (hb _).imp fun ρ' h => bI (congrArg some (ov_bind ho)) (bI h rfl)
theorem two_bind {i : Nat} {u w : AV} {ρ : Nv} (ho : okB j l = true) (ho' : okB i ((j, u) :: fil j l) = true) : bindT (.two j i) (.tuple [u, w]) (ov l ρ) = some (ov ((i, w) :: fil i ((j, u) :: fil j l)) ((ρ.bind j u).bind i w)) :=
  congrArg some ((congrArg (·.bind i w) (ov_bind ho)).trans (ov_bind ho'))
theorem Fo.step2 {o : PSs} {i : Nat} {u w : AV} (ho : okB j l = true) (ho' : okB i ((j, u) :: fil j l) = true) (hb : Run X b ((i, w) :: fil i ((j, u) :: fil j l)) l1 .next) (k : Fo X b o (.two j i) xs l1 l' f) : Fo X b o (.two j i) (.tuple [u, w] :: xs) l l' f := fun ρ =>
  (hb _).elim fun ρ' h => (k ρ').imp fun ρ2 h2 => bI (two_bind ho ho') (bI h h2)
theorem Fo.brk2 {o : PSs} {i : Nat} {u w : AV} (ho : okB j l = true) (ho' : okB i ((j, u) :: fil j l) = true) (hb : Run X b ((i, w) :: fil i ((j, u) :: fil j l)) l' .brk) : Fo X b o (.two j i) (.tuple [u, w] :: xs) l l' .next := fun ρ =>
  (hb _).imp fun ρ' h => bI (two_bind ho ho') (bI h rfl)
theorem Fo.pre {o : PSs} {t : Tgt} (i : In l l1) (h : Fo X b o t xs l1 l' f) : Fo X b o t xs l l' f := fun ρ => i.ov ρ ▸ h _
theorem fn_run {F : Fn} (har : xs.length = F.ar) (h0 : Holds l (argNv xs)) (h : Run X F.body l [] (.ret v)) : runFn X.Φ X.Γ X.Ξ lim F xs = some v :=
  (h (argNv xs)).elim fun ρ' h => (iT har).trans (bI (ov_holds h0 ▸ h) rfl)
end
section
variable {X : Cx} {l : Kn} {a b i t : PE} {x y v : AV} {es r : PEs} {c d : Bool} {n m k : Nat} {s : List Nat} {xs ys : List AV}
theorem vr (h : lk k l = some v) (hn : notApp v = some v) : Ev X (.var k) l v := fun ρ => bI (lk_ov h) hn
theorem cs : Ev X (.cst v) l v := fun _ => rfl
theorem m1 : Ev X (.neg (.cst (.int 1))) l (.int (-1)) := fun _ => rfl
theorem eIdx {j : Int} (ha : Ev X a l x) (hi : Ev X i l (.int j)) (h : idxI x j = some v) : Ev X (.idx a i) l v := fun ρ => bI (ha ρ) (bI (hi ρ) (bI rfl h))
theorem eBin {o : Bop} (ha : Ev X a l x) (hb : Ev X b l y) (h : binV o x y = some v) : Ev X (.bin o a b) l v := fun ρ => bI (ha ρ) (bI (hb ρ) h)
theorem eAdd (ha : Ev X a l (.int (n : Int))) (hb : Ev X b l (.int (m : Int))) : Ev X (.bin .add a b) l (.int ((n + m : Nat) : Int)) := eBin ha hb rfl
theorem bCmp {o : Cop} (ha : Ev X a l x) (hb : Ev X b l y) (h : cmpV o x y = some c) : EvB X (.cmp a o b) l c := fun ρ => bI (ha ρ) (bI (hb ρ) h)
theorem eCmp {o : Cop} (ha : Ev X a l x) (hb : Ev X b l y) (h : cmpV o x y = some c) : Ev X (.cmp a o b) l (.bool c) := fun ρ => bI (ha ρ) (bI (hb ρ) (mI h rfl))
theorem bNot (h : EvB X a l c) : EvB X (.not a) l (!c) := fun ρ => mI (h ρ) rfl
theorem bAnd (h : EvAll X es l c) : EvB X (.and es) l c := h
theorem bOr (h : EvAny X es l c) : EvB X (.or es) l c := h
theorem aN : EvAll X .nil l true := fun _ => rfl
theorem oN : EvAny X .nil l false := fun _ => rfl
theorem aT (h : EvB X a l true) (h' : EvAll X r l c) : EvAll X (.cons a r) l c := fun ρ => bI (h ρ) ((iT rfl).trans (h' ρ))
theorem aF (h : EvB X a l false) : EvAll X (.cons a r) l false := fun ρ => bI (h ρ) (iF fnt)
theorem a1 (h : EvB X a l c) : EvAll X (.cons a .nil) l c := fun ρ => bI (h ρ) (by cases c <;> rfl)
theorem oT (h : EvB X a l true) : EvAny X (.cons a r) l true := fun ρ => bI (h ρ) (iT rfl)
theorem oF (h : EvB X a l false) (h' : EvAny X r l c) : EvAny X (.cons a r) l c := fun ρ => bI (h ρ) ((iF fnt).trans (h' ρ))
theorem eT (h : EvB X t l true) (ha : Ev X a l v) : Ev X (.ite t a b) l v := fun ρ => bI (h ρ) ((iT rfl).trans (ha ρ))
theorem eF (h : EvB X t l false) (hb : Ev X b l v) : Ev X (.ite t a b) l v := fun ρ => bI (h ρ) ((iF fnt).trans (hb ρ))
theorem sN : Evs X .nil l [] := fun _ => rfl
theorem sC (h : Ev X a l x) (h' : Evs X r l xs) : Evs X (.cons a r) l (x :: xs) := fun ρ => bI (h ρ) (mI (h' ρ) rfl)
theorem eCall {f : Nat} (h : Evs X es l xs) (hp : plains xs = some xs) (h' : X.Φ f xs = some v) : Ev X (.call f es) l v := fun ρ => bI (bI (h ρ) hp) h'
theorem bCall {f : Nat} (h : Evs X es l xs) (hp : plains xs = some xs) (h' : X.Φ f xs = some v) (ht : truthV v = some c) : EvB X (.call f es) l c := fun ρ => bI (bI (bI (h ρ) hp) h') ht
theorem bVar (h : Ev X (.var k) l x) (h' : truthV x = some c) : EvB X (.var k) l c := fun ρ => bI (h ρ) h'
theorem eBi {q : Bi} (ha : Ev X a l x) (h : biV q x = some v) : Ev X (.bi q a) l v := fun ρ => bI (ha ρ) h
theorem bBi {q : Bi} (ha : Ev X a l x) (h : biV q x = some v) (h' : truthV v = some c) : EvB X (.bi q a) l c := fun ρ => bI (bI (ha ρ) h) h'
theorem eTup (h : Evs X es l xs) (hp : plains xs = some xs) : Ev X (.tup es) l (.tuple xs) := fun ρ => mI (bI (h ρ) hp) rfl
theorem eLst (h : Evs X es l xs) (hp : plains xs = some xs) : Ev X (.lst es) l (.list xs) := fun ρ => mI (bI (h ρ) hp) rfl
theorem lRange (h : Evs X es l xs) (h' : rangeV xs = some ys) : EvL X (.range es) l ys := fun ρ => bI (h ρ) h'
theorem lEx (h : Ev X a l x) (hp : plainV x = true) (h' : iterV x = some ys) : EvL X (.ex a) l ys := fun ρ => bI (h ρ) ((iT hp).trans h')
theorem pyN (h : n < m) (hm : m ≤ lim) : pyIdx m (n : Int) = some n := (iT hm).trans ((iF (Int.not_lt.mpr (Int.natCast_nonneg n))).trans (iT (Int.ofNat_lt.mpr h)))
theorem pyL (h : 0 < m) (hm : m ≤ lim) : pyIdx m (-1) = some (m - 1) := (iT hm).trans ((iT (by decide)).trans ((iT (by lia)).trans (congrArg some (by lia))))
theorem ltOf {α : Type} {l : List α} {x : α} (h : l[n]? = some x) : n < l.length := (List.getElem?_eq_some_iff.mp h).1
theorem ixS (h : s[n]? = some k) (hl : s.length ≤ lim) : idxI (.str s) (n : Int) = some (.str [k]) := mI (bI (pyN (ltOf h) hl) h) rfl
theorem ixL (h : xs[n]? = some v) (hl : xs.length ≤ lim) : idxI (.list xs) (n : Int) = some v := bI (pyN (ltOf h) hl) h
theorem ixO (h : xs[n]? = some v) (hl : xs.length ≤ lim) : idxI (.own xs) (n : Int) = some v := bI (pyN (ltOf h) hl) h
theorem ixB (h : s[n]? = some k) (hl : s.length ≤ lim) : idxI (.bytes s) (n : Int) = some (.int (k : Int)) := by
  show (if 0 ≤ (n : Int) then ((pyIdx s.length n).bind (s[·]?)).map fun (c : Nat) => AV.int (c : Int) else none) = _
  rw [if_pos (Int.natCast_nonneg n)]
  exact mI (bI (pyN (ltOf h) hl) h) rfl
theorem lastPos {α : Type} {l : List α} {x : α} (h : l.getLast? = some x) : 0 < l.length := by cases l with
  | nil => cases h
  | cons _ _ => exact Nat.succ_pos _
theorem ixSl (h : s.getLast? = some k) (hl : s.length ≤ lim) : idxI (.str s) (-1) = some (.str [k]) := mI (bI (pyL (lastPos h) hl) (List.getLast?_eq_getElem? ▸ h)) rfl
theorem cLtT (h : n < m) : cmpV .lt (.int (n : Int)) (.int (m : Int)) = some true := congrArg some (dT (Int.ofNat_lt.mpr h))
theorem cLtF (h : m ≤ n) : cmpV .lt (.int (n : Int)) (.int (m : Int)) = some false := congrArg some (dF (Int.not_lt.mpr (Int.ofNat_le.mpr h)))
theorem cGeT (h : m ≤ n) : cmpV .ge (.int (n : Int)) (.int (m : Int)) = some true := congrArg some (dT (Int.ofNat_le.mpr h))
theorem cGeF (h : n < m) : cmpV .ge (.int (n : Int)) (.int (m : Int)) = some false := congrArg some (dF (Int.not_le.mpr (Int.ofNat_lt.mpr h)))
theorem cEqI (n m : Nat) : cmpV .eq (.int (n : Int)) (.int (m : Int)) = some (decide (n = m)) := congrArg some (show decide ((n : Int) = (m : Int)) = decide (n = m) from decide_eq_decide.mpr Int.ofNat_inj)
theorem beq1 (n m : Nat) : ([n] == [m]) = decide (n = m) := by
  by_cases h : n = m
  · subst h; rw [dT rfl]; exact beq_self_eq_true _
  · rw [dF h]; exact beq_eq_false_iff_ne.mpr fun e => h (List.cons.inj e).1
theorem cEq1 (n m : Nat) : cmpV .eq (.str [n]) (.str [m]) = some (decide (n = m)) := congrArg some (beq1 n m)
theorem cNe1 (n m : Nat) : cmpV .ne (.str [n]) (.str [m]) = some (!decide (n = m)) := congrArg (fun z => some (!z)) (beq1 n m)
theorem lt1 (n m : Nat) : decide (([n] : List Nat) < [m]) = decide (n < m) := decide_eq_decide.mpr (List.cons_lt_cons_iff.trans ⟨fun h => h.elim id fun h => absurd h.2 (List.lt_irrefl _), .inl⟩)
theorem plainC (v : AV) (h : plainV v = true) : plains [v] = some [v] := iT (by show (plainV v && true && true) = true; rw [h]; rfl)
theorem lS (hl : s.length ≤ lim) : biV .len (.str s) = some (.int s.length) := iT hl
theorem lL (hl : xs.length ≤ lim) : biV .len (.list xs) = some (.int xs.length) := iT hl
theorem lO (hl : xs.length ≤ lim) : biV .len (.own xs) = some (.int xs.length) := iT hl
theorem lB (hl : s.length ≤ lim) : biV .len (.bytes s) = some (.int s.length) := iT hl
theorem adS {u : List Nat} (h : s.length + u.length ≤ lim) : binV .add (.str s) (.str u) = some (.str (s ++ u)) := iT h
theorem bandN (n m : Nat) : binV .band (.int (n : Int)) (.int (m : Int)) = some (.int ((n &&& m : Nat) : Int)) := (if_pos ⟨Int.natCast_nonneg n, Int.natCast_nonneg m⟩ : (if 0 ≤ (n : Int) ∧ 0 ≤ (m : Int) then some (AV.int (((n : Int).toNat &&& (m : Int).toNat : Nat) : Int)) else none) = _)
theorem trS (hl : s.length ≤ lim) : truthV (.str s) = some (!s.isEmpty) := iT hl
theorem trO (hl : xs.length ≤ lim) : truthV (.own xs) = some (!xs.isEmpty) := iT hl
theorem clipN (n m : Nat) : clip0 m (n : Int) = min n m := iF (Int.not_lt.mpr (Int.natCast_nonneg n))
theorem clipL (m : Nat) : clip0 m (-1) = m - 1 := iT (by decide)
theorem cutN {α : Type} (l : List α) (n m : Nat) : cut l (some (n : Int)) (some (m : Int)) = (l.drop n).take (m - n) := by
  show (l.drop (clip0 l.length n)).take (clip0 l.length m - clip0 l.length n) = _
  rw [clipN, clipN]
  by_cases hn : n ≤ l.length
  · rw [Nat.min_eq_left hn]
    by_cases hm : m ≤ l.length
    · rw [Nat.min_eq_left hm]
    · rw [Nat.min_eq_right (Nat.le_of_not_le hm), List.take_of_length_le (by rw [List.length_drop]; exact Nat.le_refl _), List.take_of_length_le (by rw [List.length_drop]; lia)]
  · rw [List.drop_of_length_le (by lia), List.drop_of_length_le (by lia), List.take_nil, List.take_nil]
theorem cutF {α : Type} (l : List α) (n : Nat) : cut l (some (n : Int)) none = l.drop n := by
  show (l.drop (clip0 l.length n)).take (l.length - clip0 l.length n) = _
  rw [List.take_of_length_le (by rw [List.length_drop]; exact Nat.le_refl _), clipN]
  by_cases hn : n ≤ l.length
  · rw [Nat.min_eq_left hn]
  · rw [List.drop_of_length_le (by lia), List.drop_of_length_le (by lia)]
theorem cutT {α : Type} (l : List α) (n : Nat) : cut l none (some (n : Int)) = l.take n := by
  show (l.drop 0).take (clip0 l.length n - 0) = _
  rw [clipN, List.drop_zero]
  by_cases hn : n ≤ l.length
  · rw [Nat.min_eq_left hn]; rfl
  · rw [List.take_of_length_le (by lia), List.take_of_length_le (by lia)]
theorem cutI {α : Type} (l : List α) : cut l none (some (-1)) = l.dropLast := by
  show (l.drop 0).take (clip0 l.length (-1) - 0) = _
  rw [clipL, List.dropLast_eq_take]; rfl
theorem cutM {α : Type} (l : List α) (n : Nat) (h : n < l.length) : cut l (some (n : Int)) (some (-1)) = (l.drop n).dropLast := by
  show (l.drop (clip0 l.length n)).take (clip0 l.length (-1) - clip0 l.length n) = _
  rw [clipN, clipL, List.dropLast_eq_take, List.length_drop, Nat.min_eq_left (Nat.le_of_lt h)]
  congr 1; lia
noncomputable def oI : Option Int → AV
  | none => .none
  | some j => .int j
def smI : Option Int → Prop
  | none => True
  | some j => j.natAbs < 2 ^ 60
theorem part_oI {j : Option Int} (h : smI j) : partV (oI j) = some j := by
  cases j with
  | none => rfl
  | some j => exact iT h
theorem eSlc {lo hi : PE} {j j' : Option Int} (ha : Ev X a l x) (hl : Ev X lo l (oI j)) (hh : Ev X hi l (oI j')) (h1 : smI j) (h2 : smI j') (h : slcV x j j' none = some v) : Ev X (.slc a lo hi (.cst .none)) l v := fun ρ =>
  bI (ha ρ) (bI (hl ρ) (bI (hh ρ) (bI rfl (bI (part_oI h1) (bI (part_oI h2) (bI rfl h))))))
theorem slS {j j' : Option Int} (hl : s.length ≤ lim) : slcV (.str s) j j' none = some (.str (cut s j j')) := iT hl
theorem slL {j j' : Option Int} (hl : xs.length ≤ lim) : slcV (.list xs) j j' none = some (.list (cut xs j j')) := iT hl
theorem slB {j j' : Option Int} (hl : s.length ≤ lim) : slcV (.bytes s) j j' none = some (.bytes (cut s j j')) := iT hl
theorem smN (h : n ≤ lim) : smI (some (n : Int)) := Nat.lt_of_le_of_lt (show n ≤ lim from h) (by decide)
theorem lenMap {α : Type} {z : List α} {f : α → AV} (h : z.length ≤ n) (hn : n ≤ m) : (z.map f).length ≤ m := by rw [List.length_map]; exact lz h hn
theorem putO (h : n < xs.length) (hl : xs.length ≤ lim) (hv : plainV v = true) : putV (.own xs) (n : Int) v = some (.own (xs.set n v)) := (iT hv).trans (mI (pyN h hl) rfl)
theorem smM : smI (some (-1)) := show (-1 : Int).natAbs < 2 ^ 60 by decide
theorem mapSnoc {α β : Type} {f : α → β} {l : List α} {x : α} {y : β} (h : f x = y) : l.map f ++ [y] = (l ++ [x]).map f := by rw [List.map_append, ← h]; rfl
theorem strs_map : ∀ l : List (List Nat), strsOf (l.map AV.str) = some l
  | [] => rfl
  | x :: l => mI (strs_map l) rfl
theorem strs_chr : ∀ l : List Nat, strsOf (l.map fun c => AV.str [c]) = some (l.map fun c => [c])
  | [] => rfl
  | x :: l => mI (strs_chr l) rfl
theorem joinL_flat : ∀ l : List (List Nat), joinL [] l = l.flatten
  | [] => rfl
  | [x] => (List.append_nil x).symm
  | x :: y :: l => (congrArg (x ++ [] ++ ·) (joinL_flat (y :: l))).trans (by rw [List.append_nil]; rfl)
theorem flat_chr : ∀ l : List Nat, (l.map fun c => [c]).flatten = l
  | [] => rfl
  | x :: l => congrArg (x :: ·) (flat_chr l)
theorem joinE {z : List (List Nat)} (hx : asLO x = some xs) (hs : strsOf xs = some z) (hl : z.flatten.length ≤ lim) : methV .join (.str []) [x] = some (.str z.flatten) :=
  bI rfl (bI rfl (bI hx (bI hs ((iT ⟨(joinL_flat z).symm ▸ hl, Nat.zero_le _⟩).trans (by rw [joinL_flat])))))
theorem eMeth {q : Mth} (ha : Ev X a l x) (he : Evs X es l xs) (h : methV q x xs = some v) : Ev X (.meth q a es) l v := fun ρ => bI (ha ρ) (bI (he ρ) h)
theorem bMeth {q : Mth} (ha : Ev X a l x) (he : Evs X es l xs) (h : methV q x xs = some v) (h' : truthV v = some c) : EvB X (.meth q a es) l c := fun ρ => bI (bI (ha ρ) (bI (he ρ) h)) h'
theorem eFstr {z : List (List Nat)} (he : Evs X es l xs) (hs : strsOf xs = some z) (hl : z.flatten.length ≤ lim) : Ev X (.fstr es) l (.str z.flatten) := fun ρ => bI (he ρ) (bI hs (iT hl))
theorem dropGet {α : Type} {l : List α} {c : α} {r : List α} (h : l.drop n = c :: r) : l[n]? = some c := by rw [← List.head?_drop, h]; rfl
theorem dropTail {α : Type} {l : List α} {c : α} {r : List α} (h : l.drop n = c :: r) : l.drop (n + 1) = r := by rw [← List.tail_drop, h]; rfl
theorem dropLen {α : Type} {l : List α} (h : l.drop n = []) : l.length ≤ n := List.drop_eq_nil_iff.mp h
theorem dropSum {α : Type} {l r : List α} (h : l.drop n = r) (hn : n ≤ l.length) : n + r.length = l.length := by rw [← h, List.length_drop]; exact Nat.add_sub_cancel' hn
end
noncomputable def upTo : List Nat → Nat
  | [] => 0
  | c :: r => if c = 93 then 0 else upTo r + 1
noncomputable def hd1 (c : Nat) (l : List Nat) : Nat := if l.head? = some c then 1 else 0
noncomputable def closeJ (r : List Nat) : Nat := hd1 33 r + hd1 93 (r.drop (hd1 33 r)) + upTo (r.drop (hd1 33 r + hd1 93 (r.drop (hd1 33 r))))
noncomputable def chLoop : Nat → List (List Nat) → List Nat → Nat → Option (List (List Nat) × List Nat)
  | 0, _, _, _ => none
  | f + 1, acc, s, k => if acc.length < 900 then (findC 45 (s.drop k)).elim (some (acc, s)) fun p => chLoop f (acc ++ [s.take (k + p)]) (s.drop (k + p + 1)) 2 else none
noncomputable def chFin (acc : List (List Nat)) (s : List Nat) : Option (List (List Nat)) := if s = [] then (acc.getLast?).bind fun l => if l.length ≤ 1000 then some (acc.dropLast ++ [l ++ [45]]) else none else some (acc ++ [s])
noncomputable def mergeC (x : List Nat) : List (List Nat) → Option (List (List Nat))
  | (b :: r) :: t => x.getLast?.bind fun a => if x.length ≤ 1000 ∧ (b :: r).length ≤ 1000 then some (if b < a then (x.dropLast ++ r) :: t else x :: (b :: r) :: t) else none
  | _ => none
noncomputable def mergeF : List (List Nat) → List (List Nat) → Option (List (List Nat))
  | [], t => some t
  | x :: r, t => (mergeF r t).bind (mergeC x)
noncomputable def mergeR (l : List (List Nat)) : Option (List (List Nat)) := l.getLast?.bind fun y => mergeF l.dropLast [y]
noncomputable def stuff1 (s : List Nat) : Option (List Nat) :=
  if s.contains 45 = true then (chLoop (s.length + 1) [] s (hd1 33 s + 1)).bind fun p => (chFin p.1 p.2).bind fun l => (mergeR l).bind fun l => (joinEscV (.str [45]) (.own (l.map .str))).bind asS else (replaceV s [.str [92], .str [92, 92]]).bind asS
noncomputable def capL : List Nat → List Nat
  | [] => []
  | c :: r => if c = 33 then 94 :: r else if c = 94 ∨ c = 91 then 92 :: c :: r else c :: r
noncomputable def wrapB (s : List Nat) : List Nat := if s = [] then [40, 63, 33, 41] else if s = [33] then [46] else 91 :: (capL s ++ [93])
noncomputable def brkPart (s : List Nat) : Option (List Nat) := (stuff1 s).bind fun x => if x.length ≤ 1000 ∧ (subAmp x).length ≤ 5000 ∧ (subAmp x).all (· < 1114112) = true then some (wrapB (subAmp x)) else none
abbrev Pt := Option (List Nat)
noncomputable def nTr : Nat → List Pt → List Nat → Option (List Pt)
  | 0, _, _ => none
  | f + 1, R, t => t.head?.elim (some R) fun c => if c = 42 then nTr f (if R.getLast? = some none then R else R ++ [none]) t.tail
      else if c = 63 then nTr f (R ++ [some [46]]) t.tail
      else if c = 91 then (if closeJ t.tail < t.tail.length then (brkPart (t.tail.take (closeJ t.tail))).bind fun p => nTr f (R ++ [some p]) (t.tail.drop (closeJ t.tail + 1)) else nTr f (R ++ [some [92, 91]]) t.tail)
      else nTr f (R ++ [some (escC c)]) t.tail
noncomputable def partAV (p : Pt) : AV := p.elim .star .str
section
variable {X : Cx} {P : List Nat} {R : List AV} {i j : Nat} {l : Kn} {f : Fl}
noncomputable abbrev kT (P : List Nat) (R : List AV) (i : Nat) : Kn := [(5, .int (i : Int)), (3, .own R), (4, .app 3), (0, .str P), (1, .star), (2, .str [46]), (6, .int (P.length : Int))]
noncomputable abbrev kJ (P : List Nat) (R : List AV) (i j : Nat) : Kn := (8, .int (j : Int)) :: kT P R i
theorem lim9 {n : Nat} (h : n ≤ 900) : n ≤ lim := lz h (by decide)
theorem chr0 {k c : Nat} {x : PE} (hx : Ev X x l (.int (k : Int))) (h0 : lk 0 l = some (.str P)) (hP : P.length ≤ 900) (h : P[k]? = some c) : Ev X (.idx (.var 0) x) l (.str [c]) := eIdx (vr h0 rfl) hx (ixS h (lim9 hP))
theorem up_le {m n k : Nat} (e : m + (n + 1) = k) : m + 1 + n = k := (Nat.add_right_comm m 1 n).trans e
theorem upTo_ne {c : Nat} {t : List Nat} (h : c ≠ 93) : upTo (c :: t) = upTo t + 1 := if_neg h
theorem jT1 (h : j < P.length) : EvB X (.cmp (.var 8) .lt (.var 6)) (kJ P R i j) true := bCmp (vr rfl rfl) (vr rfl rfl) (cLtT h)
theorem jT0 (h : P.length ≤ j) : EvB X (.cmp (.var 8) .lt (.var 6)) (kJ P R i j) false := bCmp (vr rfl rfl) (vr rfl rfl) (cLtF h)
theorem jC {o : Cop} {c k : Nat} {b : Bool} (hP : P.length ≤ 900) (h : P[j]? = some c) (hb : cmpV o (.str [c]) (.str [k]) = some b) : EvB X (.cmp (.idx (.var 0) (.var 8)) o (.cst (.str [k]))) (kJ P R i j) b := bCmp (chr0 (vr rfl rfl) rfl hP h) cs hb
theorem jLoop (hP : P.length ≤ 900) {j' : Nat} : ∀ (t : List Nat) (j : Nat), P.drop j = t → j + upTo t = j' → Wh X (.and (.cons (.cmp (.var 8) .lt (.var 6)) (.cons (.cmp (.idx (.var 0) (.var 8)) .ne (.cst (.str [93]))) .nil))) L.tr_u (t.length + 1) (kJ P R i j) (kJ P R i j')
  | [], j, h, e => e ▸ .stop (bAnd (aF (jT0 (dropLen h))))
  | c :: t, j, h, e => Classical.byCases (fun hc : c = 93 => by subst hc; exact (show j = j' from e) ▸ .stop (bAnd (aT (jT1 (ltOf (dropGet h))) (a1 (jC hP (dropGet h) rfl))))) fun hc =>
    .step (bAnd (aT (jT1 (ltOf (dropGet h))) (a1 (jC hP (dropGet h) ((cNe1 c 93).trans (by rw [dF hc]; rfl)))))) (.asg (v := .int ((j + 1 : Nat) : Int)) (eAdd (vr rfl rfl) cs) rfl rfl .nil) (jLoop hP t (j + 1) (dropTail h) (up_le (upTo_ne hc ▸ e)))
theorem hd1_T {k : Nat} {t : List Nat} : hd1 k (k :: t) = 1 := if_pos rfl
theorem hd1_F {c k : Nat} {t : List Nat} (h : c ≠ k) : hd1 k (c :: t) = 0 := if_neg fun e => h (sIj e)
theorem hdStep {b : PSs} (k : Nat) (hb : b = .cons (.asg 8 (.bin .add (.var 8) (.cst (.int 1)))) .nil) (hP : P.length ≤ 900) : ∀ t, P.drop j = t → RunS X (.iff (.and (.cons (.cmp (.var 8) .lt (.var 6)) (.cons (.cmp (.idx (.var 0) (.var 8)) .eq (.cst (.str [k]))) .nil))) b .nil) (kJ P R i j) (kJ P R i (j + hd1 k t)) .next
  | [], h => .no (bAnd (aF (jT0 (dropLen h))))
  | c :: t, h => Classical.byCases (fun hc : c = k => by
      subst hc; subst hb; rw [hd1_T]
      exact .iffT (bAnd (aT (jT1 (ltOf (dropGet h))) (a1 (jC hP (dropGet h) ((cEq1 c c).trans (by rw [dT rfl])))))) (.asg (v := .int ((j + 1 : Nat) : Int)) (eAdd (vr rfl rfl) cs) rfl rfl .nil))
    fun hc => by
      rw [hd1_F hc]
      exact .no (bAnd (aT (jT1 (ltOf (dropGet h))) (a1 (jC hP (dropGet h) ((cEq1 c k).trans (by rw [dF hc]))))))
theorem wh_lim {t : List Nat} (h : P.drop j = t) (hP : P.length ≤ 900) : t.length + 1 ≤ lim := by rw [← h, List.length_drop]; exact lz (sl2 (lz (Nat.sub_le _ _) hP)) (by decide)
theorem close_eq : i + hd1 33 (P.drop i) + hd1 93 (P.drop (i + hd1 33 (P.drop i))) + upTo (P.drop (i + hd1 33 (P.drop i) + hd1 93 (P.drop (i + hd1 33 (P.drop i))))) = i + closeJ (P.drop i) := by
  have e : ∀ b, P.drop (i + b) = (P.drop i).drop b := fun b => by rw [List.drop_drop]
  rw [e, Nat.add_assoc i, e]; exact (Nat.add_assoc _ _ _)
theorem jRun (hP : P.length ≤ 900) {r : PSs} (h : Run X r (kJ P R i (i + closeJ (P.drop i))) l f) : Run X (.cons (.asg 8 (.var 5)) (.cons (.iff (.and (.cons (.cmp (.var 8) .lt (.var 6)) (.cons (.cmp (.idx (.var 0) (.var 8)) .eq (.cst (.str [33]))) .nil))) L.tr_w .nil) (.cons (.iff (.and (.cons (.cmp (.var 8) .lt (.var 6)) (.cons (.cmp (.idx (.var 0) (.var 8)) .eq (.cst (.str [93]))) .nil))) L.tr_v .nil)
    (.cons (.whl (.and (.cons (.cmp (.var 8) .lt (.var 6)) (.cons (.cmp (.idx (.var 0) (.var 8)) .ne (.cst (.str [93]))) .nil))) L.tr_u) r)))) (kT P R i) l f :=
  .asg (v := .int (i : Int)) (vr rfl rfl) rfl rfl (.seq (hdStep 33 rfl hP _ rfl) (.seq (hdStep 93 rfl hP _ rfl) (.seq (.whl (jLoop hP _ _ rfl close_eq) (wh_lim rfl hP)) h)))
end
end Mine.V
namespace Mine.V
open PySem
section
variable {X : Cx} {P : List Nat} {R : List AV} {i j : Nat} {l : Kn} {f : Fl}
theorem findC_lt {c : Nat} : ∀ {l : List Nat} {p : Nat}, findC c l = some p → p < l.length
  | x :: l, p, h => by
    by_cases e : (x == c) = true
    · exact sIj ((if_pos e).symm.trans h) ▸ Nat.succ_pos _
    · have h := (if_neg e).symm.trans h
      cases q : findC c l with
      | none => rw [q] at h; cases h
      | some p' => rw [q] at h; exact sIj h ▸ Nat.succ_lt_succ (findC_lt q)
theorem find_at {a : Nat} {z : List Nat} (ha : a ≤ lim) (hj : j ≤ P.length) (hP : P.length ≤ 900) (hz : (P.take j).drop a = z) : methV .find3 (.str P) [.str [45], .int (a : Int), .int (j : Int)] = some ((findC 45 z).elim (.int (-1)) fun p => .int ((a + p : Nat) : Int)) := by
  subst hz
  refine bI rfl (bI rfl (bI rfl (bI rfl (bI rfl (bI rfl ((iT ⟨Int.natCast_nonneg _, Int.ofNat_le.mpr ha, Int.natCast_nonneg _, Int.ofNat_le.mpr hj, lim9 hP⟩).trans ?_))))))
  show some (AV.int (match findC 45 ((P.take j).drop a) with | some k => (a : Int) + (k : Int) | none => -1)) = _
  cases findC 45 ((P.take j).drop a) <;> rfl
noncomputable abbrev kC (P : List Nat) (R : List AV) (j i : Nat) (acc : List (List Nat)) : Kn := [(5, .int (i : Int)), (10, .own (acc.map .str)), (8, .int (j : Int)), (3, .own R), (4, .app 3), (0, .str P), (1, .star), (2, .str [46]), (6, .int (P.length : Int))]
noncomputable abbrev kD (P : List Nat) (R : List AV) (j i : Nat) (acc : List (List Nat)) (k : Nat) : Kn := (11, .int (k : Int)) :: kC P R j i acc
theorem ar1 {k m n : Nat} (h : m < n - k) : k + m + 1 ≤ n := Nat.add_lt_of_lt_sub' h
theorem ar2 {c n d q : Nat} (h : c ≤ n) (e : d + q = n - c) : c + d + q = n := by rw [Nat.add_assoc, e, Nat.add_sub_cancel' h]
theorem ar3 {i k m s j : Nat} (hl : i + s = j) (h : k + m + 1 ≤ s) : i + k + m + 1 + (s - (k + m + 1)) = j := by rw [Nat.add_assoc i k m, Nat.add_assoc i, Nat.add_assoc i, Nat.add_sub_cancel' h, hl]
theorem ar4 {i k m s j : Nat} (hl : i + s = j) (h : k + m + 1 ≤ s) (hj : j ≤ 900) : i + k + m ≤ lim := by rw [Nat.add_assoc]; exact lz (hl ▸ Nat.add_le_add_left (Nat.le_of_succ_le h) i) (lim9 hj)
theorem ar5 {i k m s j : Nat} (hl : i + s = j) (h : k + m + 1 ≤ s) : min (k + m) (j - i) = k + m := by rw [← hl, Nat.add_sub_cancel_left]; exact Nat.min_eq_left (Nat.le_of_succ_le h)
theorem ar6 {i s j k : Nat} (hl : i + s = j) (hk : k ≤ 3) (hj : j ≤ 900) : i + k ≤ lim := lz (Nat.add_le_add (lz (hl ▸ Nat.le_add_right i s) hj) hk) (by decide)
theorem cutC {i j k m : Nat} {s : List Nat} (hs : (P.take j).drop i = s) (hl : i + s.length = j) (h : k + m + 1 ≤ s.length) : cut P (some (i : Int)) (some ((i + k + m : Nat) : Int)) = s.take (k + m) := by
  rw [cutN, ← hs, List.drop_take, List.take_take, Nat.add_assoc, Nat.add_sub_cancel_left, ar5 hl h]
theorem ch_some {f k m : Nat} {acc : List (List Nat)} {s : List Nat} {p : List (List Nat) × List Nat} (q : findC 45 (s.drop k) = some m) (h : (findC 45 (s.drop k)).elim (some (acc, s)) (fun p => chLoop f (acc ++ [s.take (k + p)]) (s.drop (k + p + 1)) 2) = some p) : chLoop f (acc ++ [s.take (k + m)]) (s.drop (k + m + 1)) 2 = some p ∧ k + m + 1 ≤ s.length := by
  rw [q] at h
  have hm := findC_lt q
  rw [List.length_drop] at hm
  exact ⟨h, ar1 hm⟩
theorem ch_none {f k : Nat} {acc : List (List Nat)} {s : List Nat} {p : List (List Nat) × List Nat} (q : findC 45 (s.drop k) = none) (h : (findC 45 (s.drop k)).elim (some (acc, s)) (fun p => chLoop f (acc ++ [s.take (k + p)]) (s.drop (k + p + 1)) 2) = some p) : (acc, s) = p := by
  rw [q] at h; exact sIj h
theorem ch_suf : ∀ (f : Nat) (acc : List (List Nat)) (s : List Nat) (k : Nat) (p : List (List Nat) × List Nat), chLoop f acc s k = some p → ∃ d, s.drop d = p.2 ∧ d + p.2.length = s.length
  | 0, _, _, _, _, h => noneE h
  | f + 1, acc, s, k, p, h => iteB h fun ha h => by
    cases q : findC 45 (s.drop k) with
    | none => exact ch_none q h ▸ ⟨0, rfl, Nat.zero_add _⟩
    | some m =>
      have z := ch_some q h
      obtain ⟨d, h1, h2⟩ := ch_suf f _ _ _ _ z.1
      rw [List.length_drop] at h2
      exact ⟨k + m + 1 + d, by rw [← List.drop_drop]; exact h1, ar2 z.2 h2⟩
theorem cBrk {acc : List (List Nat)} {s : List Nat} {k : Nat} (hP : P.length ≤ 900) (hj : j ≤ P.length) (hk : i + k ≤ lim) (hz : (P.take j).drop (i + k) = s) (q : findC 45 s = none) : Run X L.tr_r (kD P R j i acc (i + k)) (kC P R j i acc) .brk :=
  .sub (.asg (eMeth (vr rfl rfl) (sC cs (sC (vr rfl rfl) (sC (vr rfl rfl) sN))) (find_at hk hj hP hz)) (by rw [q]; rfl) rfl (.outB (.iffT (bCmp (vr (by rw [q]; rfl) rfl) cs rfl) (.outB .brk)))) rfl
theorem cTurn {acc : List (List Nat)} {s : List Nat} {k m : Nat} (hP : P.length ≤ 900) (hj : j ≤ P.length) (hk : i + k ≤ lim) (hs : (P.take j).drop i = s) (hl : i + s.length = j) (q : findC 45 (s.drop k) = some m) (hm : k + m + 1 ≤ s.length) (ha : acc.length < 900) : Run X L.tr_r (kD P R j i acc (i + k)) (kD P R j (i + k + m + 1) (acc ++ [s.take (k + m)]) (i + k + m + 1 + 2)) .next :=
  .asg (v := .int ((i + k + m : Nat) : Int)) (eMeth (vr rfl rfl) (sC cs (sC (vr rfl rfl) (sC (vr rfl rfl) sN))) ((find_at hk hj hP (by rw [← List.drop_drop, hs])).trans (by rw [q]; rfl))) rfl rfl (.seq (.no (bCmp (vr rfl rfl) cs (cLtF (m := 0) (Nat.zero_le _))))
    (.seq (.append (eSlc (j := some (i : Int)) (j' := some ((i + k + m : Nat) : Int)) (vr rfl rfl) (vr rfl rfl) (vr rfl rfl) (smN (lz (Nat.le_add_right i k) hk)) (smN (ar4 hl hm (lz hj hP))) ((slS (lim9 hP)).trans (by rw [cutC hs hl hm]))) rfl rfl (by rw [List.length_map]; exact Nat.lt_trans ha (by decide)) (mapSnoc rfl))
    (.asg (v := .int ((i + k + m + 1 : Nat) : Int)) (eAdd (vr rfl rfl) cs) rfl rfl (.asg (v := .int ((i + k + m + 1 + 2 : Nat) : Int)) (eAdd (m := 3) (vr rfl rfl) cs) rfl rfl .nil))))
theorem cLoop (hP : P.length ≤ 900) (hj : j ≤ P.length) {i' : Nat} {p : List (List Nat) × List Nat} (hi' : i' + p.2.length = j) : ∀ (f : Nat) (acc : List (List Nat)) (s : List Nat) (k i : Nat), chLoop f acc s k = some p → (P.take j).drop i = s → i + s.length = j → k ≤ 3 →
    Wh X (.cst (.bool true)) L.tr_r f (kD P R j i acc (i + k)) (kC P R j i' p.1)
  | 0, _, _, _, _, h, _, _, _ => noneE h
  | f + 1, acc, s, k, i, h, hs, hl, hk => iteB h fun ha h => by
    cases q : findC 45 (s.drop k) with
    | none =>
      obtain rfl := ch_none q h
      exact (Nat.add_right_cancel (hl.trans hi'.symm) : i = i') ▸ .brk (fun _ => rfl) (cBrk hP hj (ar6 hl hk (lz hj hP)) (by rw [← List.drop_drop, hs]) q)
    | some m =>
      have z := ch_some q h
      exact .step (fun _ => rfl) (cTurn hP hj (ar6 hl hk (lz hj hP)) hs hl q z.2 ha) (cLoop hP hj hi' f _ _ 2 (i + k + m + 1) z.1 (by rw [← hs, List.drop_drop, Nat.add_assoc, Nat.add_assoc, Nat.add_assoc]) (by rw [List.length_drop]; exact ar3 hl z.2) (by decide))
end
section
variable {X : Cx} {P : List Nat} {R : List AV} {i j : Nat} {l : Kn} {f : Fl}
theorem mergeF_snoc {x : List Nat} : ∀ {A t : List (List Nat)}, mergeF (A ++ [x]) t = (mergeC x t).bind (mergeF A)
  | [], t => by show (some t).bind (mergeC x) = (mergeC x t).bind some; rw [Option.bind_some, Option.bind_fun_some]
  | a :: A, t => by show (mergeF (A ++ [x]) t).bind (mergeC a) = _; rw [mergeF_snoc, Option.bind_assoc]; rfl
noncomputable def down : Nat → List AV
  | 0 => []
  | n + 1 => .int ((n + 1 : Nat) : Int) :: down n
theorem mid0 {α β : Type} {g : α → β} {x y : α} {t : List α} : ∀ A : List α, ((A ++ x :: y :: t).map g)[A.length]? = some (g x)
  | [] => rfl
  | _ :: A => mid0 A
theorem mid1 {α β : Type} {g : α → β} {x y : α} {t : List α} : ∀ A : List α, ((A ++ x :: y :: t).map g)[A.length + 1]? = some (g y)
  | [] => rfl
  | _ :: A => mid1 A
theorem mid2 {α β : Type} {g : α → β} {x y z : α} {t : List α} : ∀ A : List α, (((A ++ x :: y :: t).map g).set A.length (g z)).eraseIdx (A.length + 1) = (A ++ z :: t).map g
  | [] => rfl
  | a :: A => congrArg (g a :: ·) (mid2 A)
noncomputable abbrev kM (P : List Nat) (R : List AV) (j i : Nat) (m : List (List Nat)) : Kn := [(10, .own (m.map .str)), (5, .int (i : Int)), (8, .int (j : Int)), (3, .own R), (4, .app 3), (0, .str P), (1, .star), (2, .str [46]), (6, .int (P.length : Int))]
noncomputable abbrev kN (P : List Nat) (R : List AV) (j i : Nat) (m : List (List Nat)) (n : Nat) : Kn := (11, .int (n : Int)) :: kM P R j i m
section
variable {A t : List (List Nat)} {x r : List Nat} {a b : Nat}
theorem sub1 (n : Nat) : binV .sub (.int ((n + 1 : Nat) : Int)) (.int 1) = some (.int (n : Int)) := congrArg (fun z => some (AV.int z)) (Int.add_sub_cancel (n : Int) 1)
theorem iSub {n : Nat} : Ev X (.bin .sub (.var 11) (.cst (.int 1))) (kN P R j i (A ++ x :: (b :: r) :: t) (n + 1)) (.int (n : Int)) := eBin (vr rfl rfl) cs (sub1 n)
theorem iX (hl : (A ++ x :: (b :: r) :: t).length ≤ 1000) : Ev X (.idx (.var 10) (.bin .sub (.var 11) (.cst (.int 1)))) (kN P R j i (A ++ x :: (b :: r) :: t) (A.length + 1)) (.str x) := eIdx (vr rfl rfl) iSub (ixO (mid0 A) (lenMap hl (by decide)))
theorem iY (hl : (A ++ x :: (b :: r) :: t).length ≤ 1000) : Ev X (.idx (.var 10) (.var 11)) (kN P R j i (A ++ x :: (b :: r) :: t) (A.length + 1)) (.str (b :: r)) := eIdx (vr rfl rfl) (vr rfl rfl) (ixO (mid1 A) (lenMap hl (by decide)))
theorem lim1k {n : Nat} (h : n ≤ 1000) : n ≤ lim := lz h (by decide)
theorem mTest (hl : (A ++ x :: (b :: r) :: t).length ≤ 1000) (ha : x.getLast? = some a) (hx : x.length ≤ 1000) (hy : (b :: r).length ≤ 1000) : EvB X (.cmp (.idx (.idx (.var 10) (.bin .sub (.var 11) (.cst (.int 1)))) (.neg (.cst (.int 1)))) .gt (.idx (.idx (.var 10) (.var 11)) (.cst (.int 0)))) (kN P R j i (A ++ x :: (b :: r) :: t) (A.length + 1)) (decide (b < a)) :=
  bCmp (eIdx (iX hl) m1 (ixSl ha (lim1k hx))) (eIdx (iY hl) cs (ixS (n := 0) rfl (lim1k hy))) (congrArg some (lt1 b a))
theorem mPut (hl : (A ++ x :: (b :: r) :: t).length ≤ 1000) (hx : x.length ≤ 1000) (hy : (b :: r).length ≤ 1000) : Run X L.tr_m (kN P R j i (A ++ x :: (b :: r) :: t) (A.length + 1)) (kM P R j i (A ++ (x.dropLast ++ r) :: t)) .next :=
  have hn : A.length + 1 < ((A ++ x :: (b :: r) :: t).map AV.str).length := ltOf (mid1 A)
  have hm : ((A ++ x :: (b :: r) :: t).map AV.str).length ≤ lim := lenMap hl (by decide)
  .seq (.put (eBin (eSlc (j := none) (j' := some (-1)) (iX hl) cs m1 trivial smM ((slS (lim1k hx)).trans (by rw [cutI]))) (eSlc (j := some (1 : Nat)) (j' := none) (iY hl) cs cs (smN (by decide)) trivial ((slS (lim1k hy)).trans (by rw [cutF]; rfl)))
      (adS (lz (Nat.add_le_add (by rw [List.length_dropLast]; exact lz (Nat.sub_le _ _) hx) (Nat.le_of_succ_le hy)) (by decide)))) iSub rfl (putO (Nat.lt_of_succ_lt hn) hm rfl))
    (.seq (.del (vr rfl rfl) rfl (pyN (by rw [List.length_set]; exact hn) (by rw [List.length_set]; exact hm)) (mid2 (z := x.dropLast ++ r) A)) (.end rfl))
end
theorem mTurn {A : List (List Nat)} {x : List Nat} : ∀ {t T : List (List Nat)}, mergeC x t = some T → (A ++ x :: t).length ≤ 1000 → Run X L.tr_n (kN P R j i (A ++ x :: t) (A.length + 1)) (kM P R j i (A ++ T)) .next ∧ T ≠ [] ∧ (A ++ T).length ≤ 1000
  | (b :: r) :: t, T, h, hl => bindE h fun a ha h => iteE h fun hx e => Classical.byCases
    (fun q : b < a => ((if_pos q).symm.trans e) ▸ ⟨.one (.iffT (dT q ▸ mTest hl ha hx.1 hx.2) (mPut hl hx.1 hx.2)), nofun, by rw [lnA] at hl ⊢; exact lz (Nat.le_succ _) hl⟩)
    fun q => ((if_neg q).symm.trans e) ▸ ⟨.one (.iffF (dF q ▸ mTest hl ha hx.1 hx.2) (.end rfl)), nofun, hl⟩
  | [], T, h, _ => noneE h
  | [] :: _, T, h, _ => noneE h
theorem mLoop {M : List (List Nat)} : ∀ (n : Nat) (A T : List (List Nat)), A.length = n → T ≠ [] → mergeF A T = some M → (A ++ T).length ≤ 1000 → Fo X L.tr_n .nil (.one 11) (down n) (kM P R j i (A ++ T)) (kM P R j i M) .next
  | 0, A, T, hA, _, h, _ => by
    obtain rfl := List.length_eq_zero_iff.mp hA
    exact (sIj h : T = M) ▸ .nil .nil
  | n + 1, A, T, hA, hT, h, hl => by
    obtain ⟨A, x, rfl⟩ := (List.eq_nil_or_concat A).resolve_left fun e => by rw [e] at hA; cases hA
    rw [List.length_concat] at hA
    have hA := Nat.succ.inj hA
    rw [List.concat_eq_append] at h hl ⊢
    rw [mergeF_snoc] at h
    rw [List.append_assoc] at hl ⊢
    refine bindE h fun T' h1 h2 => ?_
    have z := mTurn (X := X) (P := P) (R := R) (i := i) (j := j) h1 hl
    rw [hA] at z
    exact .step rfl z.1 (mLoop n A T' hA z.2.1 h2 z.2.2)
theorem fits {m : Nat} (hm : m ≤ lim) : Builtin.Range.rangeFitsLong (m : Int) = true := bM ⟨dT (Int.le_trans (by decide) (Int.natCast_nonneg m)), dT (Int.ofNat_lt.mpr (Nat.lt_of_le_of_lt hm (by decide)))⟩
theorem down_eq (m : Nat) : ((List.range m).map fun (i : Nat) => (m : Int) + (i : Int) * -1).map AV.int = down m := by
  induction m with
  | zero => rfl
  | succ m ih =>
    rw [List.range_succ_eq_map, List.map_cons, List.map_map, List.map_cons, down, ← ih]
    refine congr (congrArg _ (congrArg AV.int (by lia))) (congrArg _ (List.map_congr_left fun a _ => ?_))
    show ((m + 1 : Nat) : Int) + ((a + 1 : Nat) : Int) * -1 = _
    lia
theorem size_down {m : Nat} : Builtin.Range.rangeSize (m : Int) 0 (-1) = (m : Int) := by
  unfold Builtin.Range.rangeSize
  rw [if_neg (by decide)]
  cases m with
  | zero => rfl
  | succ m => rw [if_pos (show ((m + 1 : Nat) : Int) > 0 from Int.ofNat_lt.mpr (Nat.succ_pos m))]; show (((m + 1 : Nat) : Int) - 0 - 1) / 1 + 1 = _; lia
theorem ok_down {m : Nat} (hm : m ≤ lim) : rangeOk (m : Int) 0 (-1) := by
  refine ⟨?_, ?_, ?_, ?_⟩
  · unfold Builtin.Range.small
    rw [size_down, fits hm]
    cases ((m : Int) == 0) <;> decide +kernel
  · rw [size_down]; exact Int.natCast_nonneg _
  · decide
  · decide +kernel
theorem rangeV3 (a b c : AV) : rangeV [a, b, c] = range3V (a, b, c) := rfl
theorem range3I {a b c : Int} (h : rangeOk a b c) : range3V (.int a, .int b, .int c) = some ((rangeL a b c).map AV.int) := if_pos h
theorem range_down {m : Nat} (hm : m ≤ lim) : rangeV [.int (m : Int), .int 0, .int (-1)] = some (down m) := by
  rw [rangeV3, range3I (ok_down hm), ← down_eq, rangeL, size_down]; rfl
end
theorem hasSub_one (c : Nat) : ∀ s : List Nat, hasSub [c] s = s.contains c
  | [] => rfl
  | x :: r => by
    show (([c].isPrefixOf (x :: r)) || hasSub [c] r) = ((c == x) || r.contains c)
    rw [hasSub_one c r]
    show ((c == x) && true || _) = _
    rw [Bool.and_true]
section
variable {α β : Type} {g : α → β} {x y : α}
theorem end0 : ∀ A : List α, ((A ++ [x]).map g)[A.length]? = some (g x)
  | [] => rfl
  | _ :: A => end0 A
theorem end1 : ∀ A : List α, ((A ++ [x]).map g).set A.length (g y) = (A ++ [y]).map g
  | [] => rfl
  | a :: A => congrArg (g a :: ·) (end1 A)
theorem end2 (A : List α) : ((A ++ [x]).map g).length = A.length + 1 := by rw [List.length_map, lnA]; rfl
theorem pyEnd {A : List α} (h : (A ++ [x]).length ≤ lim) : pyIdx ((A ++ [x]).map g).length (-1) = some A.length := by rw [pyL (by rw [end2]; exact Nat.succ_pos _) (by rw [List.length_map]; exact h), end2]; rfl
theorem lastE {l : List α} (h : l.getLast? = some x) : l = l.dropLast ++ [x] := by
  obtain ⟨ys, rfl⟩ := List.getLast?_eq_some_iff.mp h
  rw [List.dropLast_concat]
end
section
variable {X : Cx} {P : List Nat} {R : List AV} {i j : Nat} {l : Kn} {f : Fl}
theorem hd1_le (c : Nat) (l : List Nat) : hd1 c l ≤ 1 := by
  unfold hd1; split
  · exact Nat.le_refl _
  · exact Nat.zero_le _
theorem finNil {A : List (List Nat)} {q : List Nat} (hl : q.length ≤ 1000) (ha : (A ++ [q]).length < lim) : Run X L.tr_p ((12, .str []) :: kC P R j i (A ++ [q])) (kM P R j i (A ++ [q ++ [45]])) .next :=
  .sub (.one (.augPut (xs := (A ++ [q]).map AV.str) m1 rfl (pyEnd (Nat.le_of_lt ha)) (end0 A) cs (show addV (.str q) (.str [45]) = some (.str (q ++ [45])) from iT (lz (sl2 hl) (by decide))) (end1 A))) rfl
theorem finRun {acc O : List (List Nat)} {s : List Nat} (h : chFin acc s = some O) (hs : s.length ≤ lim) (ha : acc.length < lim) : RunS X (.iff (.var 12) L.tr_o L.tr_p) ((12, .str s) :: kC P R j i acc) (kM P R j i O) .next := by
  cases s with
  | nil =>
    refine bindE h fun q hq h => iteE h fun hl e => e ▸ .iffF (bVar (vr rfl rfl) rfl) ?_
    have z := lastE hq
    generalize acc.dropLast = A at z
    exact z ▸ finNil hl (z ▸ ha)
  | cons c s => exact sIj h ▸ .iffT (bVar (vr rfl rfl) (trS hs)) (.sub (.one (.append (vr rfl rfl) rfl rfl (by rw [List.length_map]; exact ha) (mapSnoc rfl))) rfl)
noncomputable abbrev kSt (P : List Nat) (R : List AV) (j i : Nat) (s : List Nat) : Kn := (9, .str s) :: kJ P R i j
noncomputable abbrev kU (P : List Nat) (R : List AV) (j : Nat) (u : List Nat) : Kn := [(9, .str u), (8, .int (j : Int)), (3, .own R), (4, .app 3), (0, .str P), (1, .star), (2, .str [46]), (6, .int (P.length : Int))]
theorem kStart {c : Nat} {r : List Nat} (hP : P.length ≤ 900) (hg : P[i]? = some c) (h0 : lk 0 l = some (.str P)) (h5 : lk 5 l = some (.int (i : Int))) : Ev X (.ite (.cmp (.idx (.var 0) (.var 5)) .eq (.cst (.str [33]))) (.bin .add (.var 5) (.cst (.int 2))) (.bin .add (.var 5) (.cst (.int 1)))) l (.int ((i + (hd1 33 (c :: r) + 1) : Nat) : Int)) := by
  have t := bCmp (X := X) (o := .eq) (chr0 (vr h5 rfl) h0 hP hg) cs (cEq1 c 33)
  by_cases hc : c = 33
  · subst hc; exact eT t (eAdd (m := 2) (vr h5 rfl) cs)
  · rw [dF hc] at t
    rw [hd1_F hc]
    exact eF t (eAdd (m := 1) (vr h5 rfl) cs)
theorem eJoinEsc {o : PE} {k : Nat} {x y v : AV} (ho : Ev X o l x) (hk : lk k l = some y) (h : joinEscV x y = some v) : Ev X (.joinEsc o k) l v := fun ρ => bI (ho ρ) (bI (lk_ov hk) h)
theorem mergeAll {O M : List (List Nat)} (h : mergeR O = some M) (hl : O.length ≤ 1000) : RunS X (.loop (.one 11) (.range (.cons (.bin .sub (.bi .len (.var 10)) (.cst (.int 1))) (.cons (.cst (.int 0)) (.cons (.neg (.cst (.int 1))) .nil)))) L.tr_n .nil) (kM P R j i O) (kM P R j i M) .next :=
  bindE h fun y hy hm => by
    have z := lastE hy
    generalize O.dropLast = A at z hm
    subst z
    have e := mLoop (X := X) (P := P) (R := R) (i := i) (j := j) A.length A [y] rfl nofun hm hl
    rw [lnA] at hl
    exact .loop (lRange (sC (eBin (eBi (vr rfl rfl) (lO (by rw [end2]; exact lz hl (by decide)))) cs (by rw [end2]; exact sub1 _)) (sC cs (sC m1 sN))) (range_down (lz (Nat.le_of_succ_le hl) (by decide)))) e
theorem chFin_len {acc O : List (List Nat)} {s : List Nat} (h : chFin acc s = some O) : O.length ≤ acc.length + 1 := by
  cases s with
  | nil => exact bindE h fun q hq h => iteE h fun hl e => e ▸ (by rw [lnA, List.length_dropLast]; exact sl2 (Nat.sub_le _ _))
  | cons c s => exact sIj h ▸ (by rw [lnA]; exact Nat.le_refl _)
theorem chLoop_len : ∀ (f : Nat) (acc : List (List Nat)) (s : List Nat) (k : Nat) (p : List (List Nat) × List Nat), chLoop f acc s k = some p → p.1.length < 900
  | 0, _, _, _, _, h => noneE h
  | f + 1, acc, s, k, p, h => iteB h fun ha h => by
    cases q : findC 45 (s.drop k) with
    | none => exact ch_none q h ▸ ha
    | some m => exact chLoop_len f _ _ _ _ (ch_some q h).1
theorem sHead {c : Nat} {r : List Nat} (hs : (P.take j).drop i = c :: r) : P[i]? = some c := by
  have h := dropGet hs
  rw [List.getElem?_take] at h
  split at h
  · exact h
  · cases h
theorem chunkRun {s u : List Nat} (hP : P.length ≤ 900) (hj : j ≤ P.length) (hs : (P.take j).drop i = s) (hl : i + s.length = j) (hc : s.contains 45 = true) (hu : stuff1 s = some u) : Run X L.tr_s (kSt P R j i s) (kU P R j u) .next := by
  rw [stuff1, if_pos hc] at hu
  refine bindE hu fun p hp hu => bindE hu fun O hO hu => bindE hu fun M hM hu => bindE hu fun z hz hu => ?_
  obtain rfl := asSE hu
  obtain ⟨d, e1, e2⟩ := ch_suf _ _ _ _ _ hp
  have hpl := chLoop_len _ _ _ _ _ hp
  have hi' : i + d + p.2.length = j := by rw [Nat.add_assoc, e2, hl]
  have hsl : p.2.length ≤ 900 := lz (e2 ▸ Nat.le_add_left _ d) (lz (hl ▸ Nat.le_add_left _ i) (lz hj hP))
  have hd' : (P.take j).drop (i + d) = p.2 := by rw [← List.drop_drop, hs, e1]
  have hcut : cut P (some ((i + d : Nat) : Int)) (some (j : Int)) = p.2 := by rw [cutN, ← List.drop_take, hd']
  have hOl := lz (chFin_len hO) (lz hpl (by decide : 900 ≤ 1000))
  cases s with
  | nil => cases hc
  | cons c r =>
    exact .seq (.asgL rfl) (.asg (kStart hP (sHead hs) rfl rfl) rfl rfl (.pre (l1 := kD P R j i [] (i + (hd1 33 (c :: r) + 1))) rfl (.seq (.whl (cLoop hP hj hi' _ _ _ _ _ hp hs hl (sl2 (lz (hd1_le _ _) (by decide)))) (lz (sl2 (lz (hl ▸ Nat.le_add_left _ i) (lz hj hP))) (by decide)))
      (.asg (v := .str p.2) (eSlc (j := some ((i + d : Nat) : Int)) (j' := some (j : Int)) (vr rfl rfl) (vr rfl rfl) (vr rfl rfl) (smN (lz (hi' ▸ Nat.le_add_right _ _) (lim9 (lz hj hP)))) (smN (lim9 (lz hj hP))) ((slS (lim9 hP)).trans (by rw [hcut]))) rfl rfl
      (.seq (finRun hO (lim9 hsl) (Nat.lt_trans hpl (by decide))) (.seq (mergeAll hM hOl) (.asg (eJoinEsc cs rfl hz) rfl rfl (.end rfl))))))))
theorem stuffRun {s u : List Nat} (hP : P.length ≤ 900) (hj : j ≤ P.length) (hs : (P.take j).drop i = s) (hl : i + s.length = j) (hu : stuff1 s = some u) : RunS X (.iff (.cmp (.cst (.str [45])) .notin (.var 9)) L.tr_l L.tr_s) (kSt P R j i s) (kU P R j u) .next := by
  have t : EvB X (.cmp (.cst (.str [45])) .notin (.var 9)) (kSt P R j i s) (!(s.contains 45)) := bCmp cs (vr rfl rfl) (congrArg (fun z => some (!z)) (hasSub_one 45 s))
  cases hc : s.contains 45 with
  | true => rw [hc] at t; exact .iffF t (chunkRun hP hj hs hl hc hu)
  | false =>
    rw [hc] at t
    rw [stuff1, if_neg (by rw [hc]; decide)] at hu
    exact bindE hu fun z hz hu => .iffT t (.asg (v := .str u) (eMeth (vr rfl rfl) (sC cs (sC cs sN)) (asSE hu ▸ hz)) rfl rfl (.end rfl))
end
theorem str_beq (a b : List Nat) : ((⟨a.toArray⟩ : Str) == ⟨b.toArray⟩) = (a == b) := by
  by_cases h : a = b
  · subst h; rw [beq_self_eq_true, beq_self_eq_true]
  · rw [beq_eq_false_iff_ne.mpr h, beq_eq_false_iff_ne.mpr fun e => h (congrArg (fun s : Str => s.cps.toList) e)]
theorem eqv_str (a b : List Nat) : PyData.eqv (toP (.str a)) (toP (.str b)) = (a == b) := (by show PyData.eqv (.str ⟨a.toArray⟩) (.str ⟨b.toArray⟩) = _; simp only [PyData.eqv] : _ = ((⟨a.toArray⟩ : Str) == ⟨b.toArray⟩)).trans (str_beq a b)
theorem okEs_strs {n : Nat} : ∀ {l : List (List Nat)}, (l.all fun x => x.all (· < 1114112)) = true → okEs (l.map AV.str) n = true
  | [], _ => rfl
  | x :: r, h => have h := bE h; bM ⟨h.1, okEs_strs h.2⟩
theorem any_strs {a : List Nat} : ∀ (l : List (List Nat)), ((toPs (l.map AV.str)).any fun y => PyData.eqv y (toP (.str a))) = l.any fun y => y == a
  | [] => rfl
  | x :: r => by show (PyData.eqv (toP (.str x)) (toP (.str a)) || _) = _; rw [eqv_str, any_strs r]; rfl
theorem in_strs {a : List Nat} {l : List (List Nat)} (ha : a.all (· < 1114112) = true) (hl : (l.all fun x => x.all (· < 1114112)) = true) : inV (.str a) (l.map AV.str) = some (l.any fun y => y == a) := (iT (bM ⟨ha, okEs_strs hl⟩)).trans (congrArg some (any_strs l))
section
variable {X : Cx} {P : List Nat} {R : List AV} {i j : Nat} {l : Kn} {f : Fl}
noncomputable abbrev kW (P : List Nat) (R : List AV) (i j : Nat) (v : List Nat) : Kn := [(9, .str v), (5, .int (i : Int)), (8, .int (j : Int)), (3, .own R), (4, .app 3), (0, .str P), (1, .star), (2, .str [46]), (6, .int (P.length : Int))]
theorem v9 {v : List Nat} : Ev X (.var 9) (kW P R i j v) (.str v) := vr rfl rfl
theorem adR {e : PE} {v : List Nat} {s : AV} (h : Ev X e (kW P R i j v) s) (hp : plainV s = true) (hn : R.length < lim) : Run X (.cons (.callApp 4 e) .nil) (kW P R i j v) (kT P (R ++ [s]) i) .next := .sub (.one (.callApp h rfl rfl hp hn rfl)) rfl
theorem capRun {c : Nat} {r : List Nat} (hl : (c :: r).length ≤ 5000) (hc : (c :: r).all (· < 1114112) = true) : RunS X (.iff (.cmp (.idx (.var 9) (.cst (.int 0))) .eq (.cst (.str [33]))) L.tr_g L.tr_i) (kW P R i j (c :: r)) (kW P R i j (capL (c :: r))) .next := by
  have hlim : (c :: r).length ≤ lim := lz hl (by decide)
  have h0 : Ev X (.idx (.var 9) (.cst (.int 0))) (kW P R i j (c :: r)) (.str [c]) := eIdx v9 cs (ixS (n := 0) rfl hlim)
  have t := bCmp (o := .eq) h0 (cs (v := .str [33])) (cEq1 c 33)
  have hc1 : [c].all (· < 1114112) = true := bM ⟨(bE hc).1, rfl⟩
  have t2 : EvB X (.cmp (.idx (.var 9) (.cst (.int 0))) .isin (.tup (.cons (.cst (.str [94])) (.cons (.cst (.str [91])) .nil)))) (kW P R i j (c :: r)) _ := bCmp h0 (eTup (sC cs (sC cs sN)) rfl) (in_strs (l := [[94], [91]]) hc1 rfl)
  by_cases h33 : c = 33
  · subst h33
    exact .iffT t (.asg (v := .str (94 :: r)) (eBin cs (eSlc (j := some (1 : Nat)) (j' := none) v9 cs cs (smN (by decide)) trivial ((slS hlim).trans (by rw [cutF]; rfl))) (adS (s := [94]) (u := r) (by rw [Nat.add_comm]; exact hlim))) rfl rfl .nil)
  · rw [dF h33] at t
    refine .iffF t (.one ?_)
    have e33 : capL (c :: r) = if c = 94 ∨ c = 91 then 92 :: c :: r else c :: r := if_neg h33
    rw [e33]
    have ad : Ev X (.bin .add (.cst (.str [92])) (.var 9)) (kW P R i j (c :: r)) (.str (92 :: c :: r)) := eBin cs v9 (adS (s := [92]) (u := c :: r) (by rw [Nat.add_comm]; exact lz (sl2 hl) (by decide)))
    by_cases h94 : c = 94 ∨ c = 91
    · rw [if_pos h94]
      exact .iffT (show EvB X _ _ true from (by rcases h94 with rfl | rfl <;> rfl : ([[94], [91]].any fun y => y == [c]) = true) ▸ t2) (.asg ad rfl rfl .nil)
    · rw [if_neg h94]
      have e : ([[94], [91]].any fun y => y == [c]) = false := by
        show (([94] == [c]) || (([91] == [c]) || false)) = false
        rw [beq1, beq1, dF fun e => h94 (.inl e.symm), dF fun e => h94 (.inr e.symm)]; rfl
      exact .no (e ▸ t2)
theorem capL_len : ∀ s : List Nat, (capL s).length ≤ s.length + 1
  | [] => Nat.zero_le _
  | c :: r => by
    show (if c = 33 then 94 :: r else if c = 94 ∨ c = 91 then 92 :: c :: r else c :: r).length ≤ _
    split
    · exact Nat.le_succ _
    · split
      · exact Nat.le_refl _
      · exact Nat.le_succ _
theorem wrapRun {v : List Nat} (hl : v.length ≤ 5000) (hc : v.all (· < 1114112) = true) (hn : R.length < lim) : RunS X (.iff (.not (.var 9)) L.tr_e L.tr_k) (kW P R i j v) (kT P (R ++ [.str (wrapB v)]) i) .next := by
  cases v with
  | nil => exact .iffT (bNot (c := false) (bVar v9 rfl)) (adR cs rfl hn)
  | cons c r =>
    refine .iffF (bNot (c := true) (bVar v9 (trS (lz hl (by decide))))) (.one ?_)
    have t : EvB X (.cmp (.var 9) .eq (.cst (.str [33]))) (kW P R i j (c :: r)) (c :: r == [33]) := bCmp v9 cs rfl
    by_cases h : c :: r = [33]
    · rw [h] at t ⊢
      exact .iffT t (adR cs rfl hn)
    · rw [beq_eq_false_iff_ne.mpr h] at t
      have e : wrapB (c :: r) = [[91], capL (c :: r), [93]].flatten := (if_neg nofun).trans ((if_neg h).trans rfl)
      rw [e]
      exact .iffF t (.seq (capRun hl hc) (adR (eFstr (sC cs (sC v9 (sC cs sN))) rfl (by
        show (91 :: (capL (c :: r) ++ [93])).length ≤ lim
        rw [List.length_cons, lnA]
        exact lz (sl2 (sl2 (lz (capL_len _) (sl2 hl)))) (by decide))) rfl hn))
theorem brRun {p : List Nat} {m : Nat} {R' : List AV} (hy : R ++ [.str p] = R') (hP : P.length ≤ 900) (hi : i ≤ P.length) (hn : R.length < lim) (h : (closeJ (P.drop i) < (P.drop i).length ∧ brkPart ((P.drop i).take (closeJ (P.drop i))) = some p ∧ m = i + closeJ (P.drop i) + 1) ∨ (¬ closeJ (P.drop i) < (P.drop i).length ∧ p = [92, 91] ∧ m = i)) :
    Run X L.tr_x (kT P R i) (kT P R' m) .next := by
  subst hy
  refine jRun hP (.one ?_)
  rw [List.length_drop] at h
  rcases h with ⟨h1, h2, rfl⟩ | ⟨h1, rfl, rfl⟩
  · have hj : i + closeJ (P.drop i) < P.length := by rw [Nat.add_comm]; exact Nat.add_lt_of_lt_sub h1
    refine .iffF (bCmp (vr rfl rfl) (vr rfl rfl) (cGeF hj)) ?_
    have hs : (P.drop i).take (closeJ (P.drop i)) = (P.take (i + closeJ (P.drop i))).drop i := by rw [List.drop_take, Nat.add_sub_cancel_left]
    have hij : i ≤ i + closeJ (P.drop i) := Nat.le_add_right _ _
    generalize i + closeJ (P.drop i) = j at *
    rw [hs] at h2
    refine bindE h2 fun u hu h2 => iteE h2 fun hg e => e ▸ ?_
    exact .asg (v := .str ((P.take j).drop i)) (eSlc (j := some (i : Int)) (j' := some (j : Int)) (vr rfl rfl) (vr rfl rfl) (vr rfl rfl) (smN (lim9 (lz hi hP))) (smN (lim9 (lz (Nat.le_of_lt hj) hP))) ((slS (lim9 hP)).trans (by rw [cutN, List.drop_take]))) rfl rfl
      (.seq (stuffRun hP (Nat.le_of_lt hj) rfl (by rw [List.length_drop, List.length_take, Nat.min_eq_left (Nat.le_of_lt hj), Nat.add_sub_cancel' hij]) hu) (.asg (v := .str (subAmp u)) (eMeth (vr rfl rfl) sN (iT hg.1)) rfl rfl (.asg (v := .int ((j + 1 : Nat) : Int)) (eAdd (vr rfl rfl) cs) rfl rfl (.pre (l1 := kW P R (j + 1) j (subAmp u)) rfl (.one (wrapRun hg.2.1 hg.2.2 hn))))))
  · exact .iffT (bCmp (vr rfl rfl) (vr rfl rfl) (cGeT (Nat.sub_le_iff_le_add'.mp (Nat.le_of_not_lt h1)))) (.sub (.one (.callApp cs rfl rfl rfl hn rfl)) rfl)
end
end Mine.V
namespace Mine.V
section
variable {X : Cx} {P : List Nat} {R : List AV} {i j : Nat} {l : Kn} {f : Fl}
noncomputable abbrev kR (P : List Nat) (R : List Pt) (i c : Nat) : Kn := [(5, .int (i : Int)), (7, .str [c]), (3, .own (R.map partAV)), (4, .app 3), (0, .str P), (1, .star), (2, .str [46]), (6, .int (P.length : Int))]
noncomputable abbrev kP (P : List Nat) (R : List Pt) (i : Nat) : Kn := kT P (R.map partAV) i
theorem cAt {c k i : Nat} {R : List Pt} (b : Bool) (h : decide (c = k) = b) : EvB X (.cmp (.var 7) .eq (.cst (.str [k]))) (kR P R i c) b := h ▸ bCmp (vr rfl rfl) cs (cEq1 c k)
theorem addP {e : PE} {R : List Pt} {p : Pt} {c : Nat} (h : Ev X e (kR P R i c) (partAV p)) (hn : R.length < lim) : Run X (.cons (.callApp 4 e) .nil) (kR P R i c) (kP P (R ++ [p]) i) .next :=
  .sub (.one (.callApp h rfl rfl (by cases p <;> rfl) (by rw [List.length_map]; exact hn) (mapSnoc rfl))) rfl
theorem isStar (p : Pt) : cmpV .isnot (partAV p) .star = some (!p.isNone) := by cases p <;> rfl
theorem starRun {R : List Pt} {c : Nat} (hn : R.length < lim) : Run X L.tr_b (kR P R i c) (kP P (if R.getLast? = some none then R else R ++ [none]) i) .next := by
  have e0 : EvB X (.not (.var 3)) (kR P R i c) (!(!(R.map partAV).isEmpty)) := bNot (bVar (vr rfl rfl) (trO (lenMap (Nat.le_of_lt hn) (Nat.le_refl _))))
  have add : Run X L.tr_a (kR P R i c) (kP P (R ++ [none]) i) .next := addP (vr rfl rfl) hn
  cases hg : R.getLast? with
  | none =>
    obtain rfl := List.getLast?_eq_none_iff.mp hg
    exact .one (.iffT (bOr (oT e0)) add)
  | some p =>
    have z := lastE hg
    generalize R.dropLast = A at z
    subst z
    have e0' : EvB X (.not (.var 3)) (kR P (A ++ [p]) i c) false := by cases A <;> exact e0
    have e1 : EvB X (.cmp (.idx (.var 3) (.neg (.cst (.int 1)))) .isnot (.var 1)) (kR P (A ++ [p]) i c) (!p.isNone) := bCmp (eIdx (vr rfl rfl) m1 (bI (pyEnd (Nat.le_of_lt hn)) (end0 A))) (vr rfl rfl) (isStar p)
    cases p with
    | none => exact .one (.iffF (bOr (oF e0' (oF e1 oN))) (.end rfl))
    | some u => exact .one (.iffT (bOr (oF e0' (oT e1))) add)
theorem nTr_some {f c : Nat} {t : List Nat} {R parts : List Pt} (h : nTr (f + 1) R (c :: t) = some parts) : ∃ R' m, (∀ {P : List Nat} {i : Nat} {X : Cx}, P.length ≤ 900 → (∀ c ∈ P, c < 128) → R.length < lim → P.drop i = c :: t → i ≤ P.length → (∀ c : Nat, c < 128 → X.Φ L.i_es [.str [c]] = some (.str (escC c))) → Run X (.cons (.iff (.cmp (.var 7) .eq (.cst (.str [42]))) L.tr_b L.tr_z26) .nil) (kR P R (i + 1) c) (kP P R' (i + 1 + m)) .next) ∧ nTr f R' (t.drop m) = some parts ∧ R'.length ≤ R.length + 1 ∧ m ≤ t.length := by
  have h : (if c = 42 then nTr f (if R.getLast? = some none then R else R ++ [none]) t else if c = 63 then nTr f (R ++ [some [46]]) t else if c = 91 then (if closeJ t < t.length then (brkPart (t.take (closeJ t))).bind fun p => nTr f (R ++ [some p]) (t.drop (closeJ t + 1)) else nTr f (R ++ [some [92, 91]]) t)
      else nTr f (R ++ [some (escC c)]) t) = some parts := h
  have l1 : ∀ p : Pt, (R ++ [p]).length ≤ R.length + 1 := fun p => by rw [lnA]; exact Nat.le_refl _
  by_cases h42 : c = 42
  · rw [if_pos h42] at h
    exact ⟨_, 0, fun _ _ hn _ _ _ => .one (.iffT (cAt true (dT h42)) (starRun hn)), h, by split; exact Nat.le_succ _; exact l1 _, Nat.zero_le _⟩
  rw [if_neg h42] at h
  by_cases h63 : c = 63
  · rw [if_pos h63] at h
    exact ⟨_, 0, fun _ _ hn _ _ _ => .one (.iffF (cAt false (dF h42)) (.one (.iffT (cAt true (dT h63)) (addP (p := some [46]) (vr rfl rfl) hn)))), h, l1 _, Nat.zero_le _⟩
  rw [if_neg h63] at h
  by_cases h91 : c = 91
  · rw [if_pos h91] at h
    have go : ∀ (p : List Nat) (m : Nat), ((closeJ t < t.length ∧ brkPart (t.take (closeJ t)) = some p ∧ m = closeJ t + 1) ∨ (¬ closeJ t < t.length ∧ p = [92, 91] ∧ m = 0)) → ∀ {P : List Nat} {i : Nat} {X : Cx}, P.length ≤ 900 → R.length < lim → P.drop i = c :: t → i ≤ P.length → Run X (.cons (.iff (.cmp (.var 7) .eq (.cst (.str [42]))) L.tr_b L.tr_z26) .nil) (kR P R (i + 1) c) (kP P (R ++ [some p]) (i + 1 + m)) .next :=
      fun p m hm P i X hP hn hd hi => .one (.iffF (cAt false (dF h42)) (.one (.iffF (cAt false (dF h63)) (.one (.iffT (cAt true (dT h91)) (.pre (l1 := kT P (R.map partAV) (i + 1)) rfl (brRun (mapSnoc (f := partAV) (x := some p) rfl) hP (ltOf (dropGet hd)) (by rw [List.length_map]; exact hn) (by
        rw [dropTail hd]
        exact hm.imp (fun z => ⟨z.1, z.2.1, by rw [z.2.2]; rfl⟩) fun z => ⟨z.1, z.2.1, by rw [z.2.2]⟩))))))))
    by_cases hc : (closeJ t < t.length)
    · rw [if_pos hc] at h
      exact bindE h fun p hp h => ⟨_, _, fun hP _ hn hd hi _ => go p _ (.inl ⟨hc, hp, rfl⟩) hP hn hd hi, h, l1 _, hc⟩
    · rw [if_neg hc] at h
      exact ⟨_, 0, fun hP _ hn hd hi _ => go [92, 91] 0 (.inr ⟨hc, rfl, rfl⟩) hP hn hd hi, h, l1 _, Nat.zero_le _⟩
  · rw [if_neg h91] at h
    exact ⟨_, 0, fun hP hc hn hd _ hΦ => .one (.iffF (cAt false (dF h42)) (.one (.iffF (cAt false (dF h63)) (.one (.iffF (cAt false (dF h91)) (addP (p := some (escC c)) (eCall (sC (vr rfl rfl) sN) rfl (hΦ c (hc c (List.mem_of_getElem? (dropGet hd))))) hn)))))), h, l1 _, Nat.zero_le _⟩
theorem mainLoop (hΦ : ∀ c : Nat, c < 128 → X.Φ L.i_es [.str [c]] = some (.str (escC c))) (hP : P.length ≤ 900) (hc : ∀ c ∈ P, c < 128) {parts : List Pt} : ∀ (f : Nat) (R : List Pt) (i : Nat), nTr f R (P.drop i) = some parts → i ≤ P.length → R.length + f ≤ 5000 → Wh X (.cmp (.var 5) .lt (.var 6)) L.tr_z27 f (kP P R i) (kP P parts P.length)
  | 0, _, _, h, _, _ => noneE h
  | f + 1, R, i, h, hi, hR => by
    cases hd : P.drop i with
    | nil =>
      rw [hd] at h
      obtain rfl : R = parts := sIj h
      obtain rfl : i = P.length := Nat.le_antisymm hi (dropLen hd)
      exact .stop (bCmp (vr rfl rfl) (vr rfl rfl) (cLtF (Nat.le_refl _)))
    | cons c t =>
      rw [hd] at h
      obtain ⟨R', m, h1, h2, h3, h4⟩ := nTr_some h
      have hn : R.length < lim := Nat.lt_of_lt_of_le (Nat.lt_of_lt_of_le (Nat.lt_add_of_pos_right (Nat.succ_pos f)) hR) (by decide)
      have hs := dropSum hd hi
      refine .step (bCmp (vr rfl rfl) (vr rfl rfl) (cLtT (ltOf (dropGet hd)))) (.asg (chr0 (vr rfl rfl) rfl hP (dropGet hd)) rfl rfl (.asg (v := .int ((i + 1 : Nat) : Int)) (eAdd (vr rfl rfl) cs) rfl rfl (h1 hP hc hn hd hi hΦ))) (mainLoop hΦ hP hc f R' (i + 1 + m) ?_ ?_ ?_)
      · rw [← List.drop_drop, dropTail hd]; exact h2
      · rw [List.length_cons] at hs; lia
      · lia
theorem tr_run (hΦ : ∀ c : Nat, c < 128 → X.Φ L.i_es [.str [c]] = some (.str (escC c))) (hP : P.length ≤ 900) (hc : ∀ c ∈ P, c < 128) {parts : List Pt} (h : nTr 1000 [] P = some parts) : runFn X.Φ X.Γ X.Ξ lim L.f_tr [.str P, .star, .str [46]] = some (.list (parts.map partAV)) :=
  fn_run (l := [(0, .str P), (1, .star), (2, .str [46])]) rfl rfl (.seq (.asgL rfl) (.seq (.asgApp rfl (by decide) rfl) (.seq (.asgT (u := .int (0 : Nat)) (w := .int (P.length : Int)) (eTup (sC cs (sC (eBi (vr rfl rfl) (lS (lim9 hP))) sN)) rfl) rfl rfl)
    (.pre (l1 := kP P [] 0) rfl (.seq (.whl (mainLoop hΦ hP hc 1000 [] 0 h (Nat.zero_le _) (by decide)) (by decide)) (.seq (.asrt (bCmp (vr rfl rfl) (vr rfl rfl) ((cEqI _ _).trans (by rw [dT rfl])))) (.out (.ret (vr rfl rfl) rfl))))))))
end
section
variable {X : Cx} {R : List (List Nat)} {i j : Nat} {l : Kn} {f : Fl} {ps : List Pt}
theorem es_run {c : Nat} (hc : c < 128) : runFn X.Φ X.Γ X.Ξ lim L.f_es [.str [c]] = some (.str (escC c)) :=
  fn_run (l := [(0, .str [c])]) rfl rfl (.out (.iffT (bBi (vr rfl rfl) rfl rfl) (.out (.ret (eMeth (vr rfl rfl) sN (bI rfl (bI rfl (iT hc)))) rfl))))
theorem ms_run (m : Nat) : runFn X.Φ X.Γ X.Ξ lim L.f_ms [.int (m : Int)] = some (.int ((m &&& 61440 : Nat) : Int)) :=
  fn_run (l := [(0, .int (m : Int))]) rfl rfl (.out (.ret (eBin (vr rfl rfl) (cs (v := .int ((61440 : Nat) : Int))) (bandN m 61440)) rfl))
theorem fn_star {F : Fn} {xs : List AV} {k : Nat} {post : PSs} {v : AV} {l1 l' : Kn} (hF : F.star = some (k, post)) (har : xs.length = F.ar) (h0 : Holds l (argNv xs)) (h : Run X F.body l l1 .next) (hs : xs.all starArg = true) (ho : okB k l1 = true) (hp : Run X post ((k, .star) :: fil k l1) l' (.ret v)) (hv : starless v = true) : runFn X.Φ X.Γ X.Ξ lim F xs = some v :=
  (h (argNv xs)).elim fun ρ' h => (iT har).trans (bI (a := (ov l1 ρ', Fl.next)) (ov_holds h0 ▸ h) (show starTail X.Φ X.Γ X.Ξ lim (xs.all starArg) F.star (ov l1 ρ') = some v from (if_pos hs).trans (bI hF ((hp (ρ'.bind k .star)).elim fun ρ2 h2 => bI (a := (ov l' ρ2, Fl.ret v)) (ov_bind ho ▸ h2) (bI (a := v) rfl (if_pos hv))))))
theorem tl_run {P t : List Nat} {A : List AV} (h1 : X.Φ L.i_tr [.str P, .star, .str [46]] = some (.list A)) (h2 : X.Φ L.i_jn [.list A, .star] = some (.str t)) : runFn X.Φ X.Γ X.Ξ lim L.f_tl [.str P] = some (.str t) :=
  fn_star (l := [(0, .str P)]) rfl rfl rfl .nil rfl rfl (.asg (v := .list A) (eCall (sC (vr rfl rfl) (sC (vr rfl rfl) (sC cs sN))) rfl h1) rfl rfl (.out (.ret (eCall (sC (vr rfl rfl) (sC (vr rfl rfl) sN)) rfl h2) rfl))) rfl
noncomputable abbrev kX (ps : List Pt) (i : Nat) (R : List (List Nat)) : Kn := [(4, .int (i : Int)), (2, .own (R.map .str)), (3, .app 2), (0, .list (ps.map partAV)), (1, .star), (5, .int (ps.length : Int))]
noncomputable abbrev kY (ps : List Pt) (i : Nat) (R Q : List (List Nat)) : Kn := [(4, .int (i : Int)), (6, .own (Q.map .str)), (2, .own (R.map .str)), (3, .app 2), (0, .list (ps.map partAV)), (1, .star), (5, .int (ps.length : Int))]
noncomputable abbrev kY' (ps : List Pt) (i : Nat) (R : List (List Nat)) (q : List Nat) : Kn := [(6, .str q), (4, .int (i : Int)), (2, .own (R.map .str)), (3, .app 2), (0, .list (ps.map partAV)), (1, .star), (5, .int (ps.length : Int))]
theorem at0 {p : Pt} (hl : ps.length ≤ 900) (h0 : lk 0 l = some (.list (ps.map partAV))) (h4 : lk 4 l = some (.int (i : Int))) (h : ps[i]? = some p) : Ev X (.idx (.var 0) (.var 4)) l (partAV p) := eIdx (vr h0 rfl) (vr h4 rfl) (ixL (by rw [List.getElem?_map, h]; rfl) (lenMap hl (by decide)))
theorem goT {s : List Nat} (hl : ps.length ≤ 900) (h0 : lk 0 l = some (.list (ps.map partAV))) (h1 : lk 1 l = some .star) (h4 : lk 4 l = some (.int (i : Int))) (h5 : lk 5 l = some (.int (ps.length : Int))) (h : ps[i]? = some (some s)) : EvB X (.and (.cons (.cmp (.var 4) .lt (.var 5)) (.cons (.cmp (.idx (.var 0) (.var 4)) .isnot (.var 1)) .nil))) l true :=
  bAnd (aT (bCmp (vr h4 rfl) (vr h5 rfl) (cLtT (ltOf h))) (a1 (bCmp (at0 hl h0 h4 h) (vr h1 rfl) (isStar (some s)))))
theorem goF (hl : ps.length ≤ 900) (h0 : lk 0 l = some (.list (ps.map partAV))) (h1 : lk 1 l = some .star) (h4 : lk 4 l = some (.int (i : Int))) (h5 : lk 5 l = some (.int (ps.length : Int))) (h : ps[i]? = some none) : EvB X (.and (.cons (.cmp (.var 4) .lt (.var 5)) (.cons (.cmp (.idx (.var 0) (.var 4)) .isnot (.var 1)) .nil))) l false :=
  bAnd (aT (bCmp (vr h4 rfl) (vr h5 rfl) (cLtT (ltOf h))) (a1 (bCmp (at0 hl h0 h4 h) (vr h1 rfl) (isStar none))))
theorem inc4 {e : Kn} (h4 : lk 4 l = some (.int (i : Int))) (ho : okB 4 l = true) (he : In ((4, .int ((i + 1 : Nat) : Int)) :: fil 4 l) e) : RunS X (.aug 4 (.cst (.int 1))) l e .next := .sub (.aug (y := .int ((i + 1 : Nat) : Int)) h4 cs rfl rfl ho) he
theorem cp1 (hl : ps.length ≤ 900) : ∀ (ss : List (List Nat)) (R : List (List Nat)) (i : Nat) (r : List Pt), ps.drop i = ss.map some ++ none :: r → R.length + ss.length ≤ 5000 → Wh X (.and (.cons (.cmp (.var 4) .lt (.var 5)) (.cons (.cmp (.idx (.var 0) (.var 4)) .isnot (.var 1)) .nil))) L.jn_f (ss.length + 1) (kX ps i R) (kX ps (i + ss.length) (R ++ ss))
  | [], R, i, r, h, _ => by rw [List.append_nil]; exact .stop (goF hl rfl rfl rfl rfl (dropGet h))
  | s :: ss, R, i, r, h, hn => by
    rw [show R ++ s :: ss = (R ++ [s]) ++ ss by rw [List.append_assoc]; rfl, show i + (s :: ss).length = (i + 1) + ss.length from (Nat.add_assoc _ _ _).symm ▸ (Nat.add_comm 1 ss.length ▸ rfl)]
    exact .step (l1 := kX ps (i + 1) (R ++ [s])) (goT hl rfl rfl rfl rfl (dropGet h)) (.seq (.callApp (at0 hl rfl rfl (dropGet h)) rfl rfl rfl (by rw [List.length_map]; exact Nat.lt_of_le_of_lt (lz (Nat.le_add_right _ _) hn) (by decide)) (mapSnoc rfl)) (.one (inc4 rfl rfl rfl))) (cp1 hl ss (R ++ [s]) (i + 1) r (dropTail h) (by rw [lnA]; exact (Nat.add_assoc _ _ _).symm ▸ (Nat.add_comm 1 ss.length ▸ hn)))
theorem cp2 (hl : ps.length ≤ 900) : ∀ (ss : List (List Nat)) (Q : List (List Nat)) (i : Nat) (r : List Pt), ps.drop i = ss.map some ++ none :: r → Q.length + ss.length ≤ 5000 → Wh X (.and (.cons (.cmp (.var 4) .lt (.var 5)) (.cons (.cmp (.idx (.var 0) (.var 4)) .isnot (.var 1)) .nil))) L.jn_c (ss.length + 1) (kY ps i R Q) (kY ps (i + ss.length) R (Q ++ ss))
  | [], Q, i, r, h, _ => by rw [List.append_nil]; exact .stop (goF hl rfl rfl rfl rfl (dropGet h))
  | s :: ss, Q, i, r, h, hn => by
    rw [show Q ++ s :: ss = (Q ++ [s]) ++ ss by rw [List.append_assoc]; rfl, show i + (s :: ss).length = (i + 1) + ss.length from (Nat.add_assoc _ _ _).symm ▸ (Nat.add_comm 1 ss.length ▸ rfl)]
    exact .step (l1 := kY ps (i + 1) R (Q ++ [s])) (goT hl rfl rfl rfl rfl (dropGet h)) (.seq (.append (at0 hl rfl rfl (dropGet h)) rfl rfl (by rw [List.length_map]; exact Nat.lt_of_le_of_lt (lz (Nat.le_add_right _ _) hn) (by decide)) (mapSnoc rfl)) (.one (inc4 rfl rfl rfl))) (cp2 hl ss (Q ++ [s]) (i + 1) r (dropTail h) (by rw [lnA]; exact (Nat.add_assoc _ _ _).symm ▸ (Nat.add_comm 1 ss.length ▸ hn)))
theorem addX {e : PE} {s : List Nat} {r : PSs} {l' : Kn} (h : Ev X e (kX ps i R) (.str s)) (hn : R.length ≤ 900) (k : Run X r (kX ps i (R ++ [s])) l' f) : Run X (.cons (.callApp 3 e) r) (kX ps i R) l' f := .seq (l1 := kX ps i (R ++ [s])) (.sub (.callApp h rfl rfl rfl (by rw [List.length_map]; exact Nat.lt_of_le_of_lt hn (by decide)) (mapSnoc rfl)) rfl) k
theorem cLtE (h : i < ps.length) : EvB X (.cmp (.var 4) .lt (.var 5)) (kX ps i R) true := bCmp (vr rfl rfl) (vr rfl rfl) (cLtT h)
theorem cEqE (b : Bool) (h : decide (i = ps.length) = b) : EvB X (.cmp (.var 4) .eq (.var 5)) (kX ps i R) b := h ▸ bCmp (vr rfl rfl) (vr rfl rfl) (cEqI _ _)
theorem isX (hl : ps.length ≤ 900) (h : ps[i]? = some none) : EvB X (.cmp (.idx (.var 0) (.var 4)) .is (.var 1)) (kX ps i R) true := bCmp (at0 hl rfl rfl h) (vr rfl rfl) rfl
theorem secEnd (hl : ps.length ≤ 900) (hn : R.length ≤ 900) (h : ps.drop i = [none]) {n : Nat} : Wh X (.cmp (.var 4) .lt (.var 5)) L.jn_e (n + 1) (kX ps i R) (kX ps ps.length (R ++ [[46, 42]])) :=
  have hi : i + 1 = ps.length := dropSum h (Nat.le_of_lt (ltOf (dropGet h)))
  .brk (cLtE (ltOf (dropGet h))) (.seq (.asrt (isX hl (dropGet h))) (.seq (l1 := kX ps (i + 1) R) (inc4 rfl rfl rfl) (.outB (.iffT (cEqE true (dT hi)) (addX cs hn (.outB (hi ▸ .brk)))))))
theorem secMid {s : List Nat} {ss : List (List Nat)} (hl : ps.length ≤ 900) (hn : R.length ≤ 900) (h : ps.drop i = none :: ((s :: ss).map some ++ [none])) (hz : (s :: ss).flatten.length ≤ 500000) : Run X L.jn_e (kX ps i R) (kX ps (i + 1 + (s :: ss).length) (R ++ [[40, 63, 62, 46, 42, 63] ++ (s :: ss).flatten ++ [41]])) .next := by
  have h1 := dropTail h
  have hsum := dropSum h (Nat.le_of_lt (ltOf (dropGet h)))
  have hlen : i + 1 + (s :: ss).length + 1 = ps.length := by
    rw [← hsum, List.length_cons (as := _ ++ _), lnA, List.length_map]
    show _ = i + ((s :: ss).length + 1 + 1)
    rw [← Nat.add_assoc, ← Nat.add_assoc, Nat.add_right_comm i 1]
  have ne : ∀ k, k < ps.length → decide (k = ps.length) = false := fun k hk => dF (Nat.ne_of_lt hk)
  have a1 : (s :: ss).length ≤ 5000 := lz (lz (lz (Nat.le_add_left _ (i + 1)) (Nat.le_succ _)) (hlen ▸ hl)) (by decide)
  have a2 : (s :: ss).length + 1 ≤ lim := lz (sl2 (Nat.le_add_left _ (i + 1))) (show i + 1 + (s :: ss).length + 1 ≤ lim from hlen ▸ lim9 hl)
  have ap : Run X L.jn_b (kY' ps (i + 1 + (s :: ss).length) R (s :: ss).flatten) (kX ps (i + 1 + (s :: ss).length) (R ++ [[40, 63, 62, 46, 42, 63] ++ (s :: ss).flatten ++ [41]])) .next := .sub (.one (.callApp (eFstr (sC cs (sC (vr rfl rfl) (sC cs sN))) rfl (by
      show ([40, 63, 62, 46, 42, 63] ++ ((s :: ss).flatten ++ [41])).length ≤ lim
      rw [lnA, lnA]; exact lz (Nat.add_le_add_left (Nat.add_le_add_right hz 1) 6) (by decide))) rfl rfl rfl (by rw [List.length_map]; exact Nat.lt_of_le_of_lt hn (by decide)) (mapSnoc (by rw [List.append_assoc]; rfl)))) rfl
  have w := RunS.whl (cp2 (X := X) (R := R) hl (s :: ss) [] (i + 1) [] h1 (by rw [List.length_nil, Nat.zero_add]; exact a1)) a2
  have e2 : EvB X (.cmp (.var 4) .eq (.var 5)) (kY' ps (i + 1 + (s :: ss).length) R (s :: ss).flatten) false := bCmp (vr rfl rfl) (vr rfl rfl) ((cEqI _ _).trans (by rw [ne _ (hlen ▸ Nat.lt_succ_self _)]))
  exact .seq (.asrt (isX hl (dropGet h))) (.seq (l1 := kX ps (i + 1) R) (inc4 rfl rfl rfl) (.seq (.no (cEqE false (ne _ (ltOf (dropGet h1))))) (.seq (.asrt (bCmp (at0 hl rfl rfl (dropGet h1)) (vr rfl rfl) (isStar (some s)))) (.seq (.asgL rfl) (.pre (l1 := kY ps (i + 1) R []) rfl
    (.seq w (.asg (v := .str (s :: ss).flatten) (eMeth cs (sC (vr rfl rfl) sN) (joinE (z := s :: ss) rfl (strs_map _) (lz hz (by decide)))) rfl rfl (.one (.iffF e2 ap)))))))))
theorem jnEnd (hz : R.flatten.length ≤ 900000) : Run X (.cons (.asrt (.cmp (.var 4) .eq (.var 5))) (.cons (.asg 2 (.meth .join (.cst (.str [])) (.cons (.var 2) .nil))) (.cons (.ret (.fstr (.cons (.cst (.str [40, 63, 115, 58])) (.cons (.var 2) (.cons (.cst (.str [41, 92, 90])) .nil))))) .nil))) (kX ps ps.length R) [] (.ret (.str ([40, 63, 115, 58] ++ R.flatten ++ [41, 92, 90]))) :=
  .seq (.asrt (cEqE true (dT rfl))) (.pre (l1 := [(2, .own (R.map .str))]) rfl (.asg (v := .str R.flatten) (eMeth cs (sC (vr rfl rfl) sN) (joinE (z := R) rfl (strs_map _) (lz hz (by decide)))) rfl rfl (.out (.ret (by
    rw [List.append_assoc]
    exact eFstr (z := [[40, 63, 115, 58], R.flatten, [41, 92, 90]]) (sC cs (sC (vr rfl rfl) (sC cs sN))) rfl (by
      show ([40, 63, 115, 58] ++ (R.flatten ++ [41, 92, 90])).length ≤ lim
      rw [lnA, lnA]; exact lz (Nat.add_le_add_left (Nat.add_le_add_right hz 3) 4) (by decide))) rfl))))
theorem jnStart {r : PSs} {l' : Kn} (hl : ps.length ≤ 900) (k : Run X r (kX ps 0 []) l' f) : Run X (.cons (.asgL 2) (.cons (.asgApp 3 2) (.cons (.asgT 4 5 (.tup (.cons (.cst (.int 0)) (.cons (.bi .len (.var 0)) .nil)))) r))) [(0, .list (ps.map partAV)), (1, .star)] l' f :=
  .seq (.asgL rfl) (.seq (.asgApp rfl (by decide) rfl) (.seq (.asgT (u := .int (0 : Nat)) (w := .int (ps.length : Int)) (eTup (sC cs (sC (eBi (vr rfl rfl) ((lL (lenMap hl (by decide))).trans (by rw [List.length_map]))) sN)) rfl) rfl rfl) (.pre (l1 := kX ps 0 []) rfl k)))
theorem jn_run2 {s : List Nat} {ss : List (List Nat)} (hs : (s :: ss).length ≤ 800) (hz : (s :: ss).flatten.length ≤ 500000) : runFn X.Φ X.Γ X.Ξ lim L.f_jn [.list ((none :: ((s :: ss).map some ++ [none])).map partAV), .star] = some (.str ([40, 63, 115, 58] ++ [[40, 63, 62, 46, 42, 63] ++ (s :: ss).flatten ++ [41], [46, 42]].flatten ++ [41, 92, 90])) := by
  have hl : (none :: ((s :: ss).map some ++ [none]) : List Pt).length ≤ 900 := by rw [List.length_cons, lnA, List.length_map]; exact lz (sl2 (sl2 hs)) (by decide)
  refine fn_run (l := [(0, .list ((none :: ((s :: ss).map some ++ [none]) : List Pt).map partAV)), (1, .star)]) rfl rfl (jnStart hl (.seq (.whl (cp1 hl [] [] 0 _ rfl (by decide)) (by decide)) (.seq (.whl (.step (n := 5) (cLtE (Nat.succ_pos _)) (secMid hl (by decide) rfl hz) (secEnd hl (lq rfl) ?_)) (by decide)) (jnEnd ?_))))
  · show List.drop ((0 + 1) + _) (none :: _) = _
    rw [Nat.zero_add, Nat.add_comm, List.drop_succ_cons]; exact List.drop_left' (List.length_map _)
  · show (([40, 63, 62, 46, 42, 63] ++ (s :: ss).flatten ++ [41]) ++ [46, 42]).length ≤ _
    rw [lnA, lnA, lnA]; exact lz (Nat.add_le_add_right (Nat.add_le_add_right (Nat.add_le_add_left hz 6) 1) 2) (by decide)
end
section
variable {X : Cx} {i j : Nat} {l : Kn} {f : Fl} {a b : PE} {n m k : Nat} {x : Int}
noncomputable def md (x : Int) (m : Nat) : Nat := (x.fmod (m : Int)).toNat
theorem md_lt (h : 0 < m) : md x m < m := (Int.toNat_lt' h).mpr (Int.fmod_lt_of_pos x (Int.ofNat_lt.mpr h))
theorem eMod (ha : Ev X a l (.int x)) (hb : Ev X b l (.int (m : Int))) (h0 : 0 < m) (h : (m : Int) < 2 ^ 60) : Ev X (.bin .mod a b) l (.int (md x m : Int)) := eBin ha hb (bI rfl (bI rfl ((if_pos ⟨Int.ofNat_lt.mpr h0, h⟩).trans (congrArg (fun z => some (AV.int z)) (Int.toNat_of_nonneg (Int.fmod_nonneg_of_pos x (Int.ofNat_lt.mpr h0))).symm))))
theorem eDiv (ha : Ev X a l (.int x)) (hb : Ev X b l (.int (m : Int))) (h0 : 0 < m) (h : (m : Int) < 2 ^ 60) : Ev X (.bin .fdiv a b) l (.int (x.fdiv m)) := eBin ha hb (bI rfl (bI rfl (if_pos ⟨Int.ofNat_lt.mpr h0, h⟩)))
theorem eDivN (ha : Ev X a l (.int (n : Int))) (hb : Ev X b l (.int (m : Int))) (h0 : 0 < m) (h : (m : Int) < 2 ^ 60) : Ev X (.bin .fdiv a b) l (.int ((n / m : Nat) : Int)) := by
  have := eDiv ha hb h0 h
  rwa [← Int.ofNat_fdiv] at this
theorem md_nat : md (n : Int) m = n % m := by rw [md, ← Int.ofNat_fmod]; rfl
theorem eModN (ha : Ev X a l (.int (n : Int))) (hb : Ev X b l (.int (m : Int))) (h0 : 0 < m) (h : (m : Int) < 2 ^ 60) : Ev X (.bin .mod a b) l (.int ((n % m : Nat) : Int)) := md_nat (n := n) (m := m) ▸ eMod ha hb h0 h
theorem adV {s u : List Nat} (h : s.length + u.length ≤ lim) : addV (.str s) (.str u) = some (.str (s ++ u)) := iT h
theorem eMul (ha : Ev X a l (.int (n : Int))) (hb : Ev X b l (.int (m : Int))) (hn : n ≤ lim) (hm : m ≤ lim) : Ev X (.bin .mul a b) l (.int ((n * m : Nat) : Int)) := eBin ha hb ((if_pos ⟨Nat.lt_of_le_of_lt hn (by decide), Nat.lt_of_le_of_lt hm (by decide)⟩).trans (congrArg (fun z => some (AV.int z)) (Int.natCast_mul n m).symm))
theorem getS {s : List Nat} (h : k < s.length) : s[k]? = some (s.getD k 0) := by rw [List.getElem?_eq_getElem h, List.getD_eq_getElem?_getD, List.getElem?_eq_getElem h]; rfl
theorem eGet {s : List Nat} (ha : Ev X a l (.str s)) (hb : Ev X b l (.int (k : Int))) (h : k < s.length) (hl : s.length ≤ lim) : Ev X (.idx a b) l (.str [s.getD k 0]) := eIdx ha hb (ixS (getS h) hl)
noncomputable def xS (j : Nat) : List Nat := if 0 < j then [45, 120, 83, 115] else [45, 120, 84, 116]
noncomputable def tri (j n a : Nat) : List Nat := [[45, 114].getD (n / 4) 0, [45, 119].getD (n / 2 % 2) 0, (xS j).getD (n % 2 + 2 * a) 0]
noncomputable abbrev kRow (x : Int) (m : Nat) (t : List Nat) : Kn := [(2, .str t), (1, .int (m : Int)), (0, .int x)]
theorem rowTurn {x : Int} {p8 p10 p2 p9 : Nat} {t : List Nat} (h10 : binV .pow (.int 10) (.int (j : Int)) = some (.int (p10 : Int))) (h8 : binV .pow (.int 8) (.int (j : Int)) = some (.int (p8 : Int))) (h2 : binV .pow (.int 2) (.int (j : Int)) = some (.int (p2 : Int))) (h9 : binV .pow (.int 2) (.int ((9 + j : Nat) : Int)) = some (.int (p9 : Int)))
    (q10 : 0 < p10 ∧ (p10 : Int) < 2 ^ 60) (q2 : 0 < p2 ∧ (p2 : Int) < 2 ^ 60) (q8 : p8 ≤ lim) (q9 : p9 ≤ lim) (ht : t.length ≤ 100) : ∃ n a, n < 8 ∧ a < 2 ∧ Run X L.ro_a ((3, .int (j : Int)) :: kRow x m t) (kRow x (m + (n * p8 + a * p9)) (t ++ tri j n a)) .next := by
  refine ⟨md (md (x.fdiv p10) 10) 8, md ((md (x.fdiv 1000) 10 : Int).fdiv p2) 2, md_lt (by decide), md_lt (by decide), ?_⟩
  have hn : md (md (x.fdiv p10) 10) 8 < 8 := md_lt (by decide)
  have ha : md ((md (x.fdiv 1000) 10 : Int).fdiv p2) 2 < 2 := md_lt (by decide)
  refine .asg (eMod (eMod (eDiv (vr rfl rfl) (eBin cs (vr rfl rfl) h10) q10.1 q10.2) (cs (v := .int ((10 : Nat) : Int))) (by decide) (by decide)) (cs (v := .int ((8 : Nat) : Int))) (by decide) (by decide)) rfl rfl
    (.asg (eMod (eDiv (eMod (eDiv (vr rfl rfl) (cs (v := .int ((1000 : Nat) : Int))) (by decide) (by decide)) (cs (v := .int ((10 : Nat) : Int))) (by decide) (by decide)) (eBin cs (vr rfl rfl) h2) q2.1 q2.2) (cs (v := .int ((2 : Nat) : Int))) (by decide) (by decide)) rfl rfl ?_)
  generalize md (md (x.fdiv p10) 10) 8 = n at hn ⊢
  generalize md ((md (x.fdiv 1000) 10 : Int).fdiv p2) 2 = a at ha ⊢
  refine .seq (.aug (y := .int ((m + (n * p8 + a * p9) : Nat) : Int)) rfl (eAdd (eMul (vr rfl rfl) (eBin cs (vr rfl rfl) h8) (lz (Nat.le_of_lt hn) (by decide)) q8) (eMul (vr rfl rfl) (eBin cs (eAdd (n := 9) cs (vr rfl rfl)) h9) (lz (Nat.le_of_lt ha) (by decide)) q9)) rfl rfl rfl) ?_
  have e3 : ∀ l, lk 3 l = some (.int (j : Int)) → Ev X (.ite (.cmp (.var 3) .gt (.cst (.int 0))) (.cst (.str [45, 120, 83, 115])) (.cst (.str [45, 120, 84, 116]))) l (.str (xS j)) := fun l h3 => by
    unfold xS
    by_cases hj : 0 < j
    · rw [if_pos hj]; exact eT (bCmp (vr h3 rfl) cs (cLtT (n := 0) hj)) cs
    · rw [if_neg hj]; exact eF (bCmp (vr h3 rfl) cs (cLtF (m := j) (n := 0) (Nat.le_of_not_lt hj))) cs
  have l4 : (xS j).length = 4 := by unfold xS; split <;> rfl
  exact .sub (.one (.aug (y := .str (t ++ tri j n a)) rfl (eBin (eBin (eGet cs (eDivN (vr rfl rfl) (cs (v := .int ((4 : Nat) : Int))) (by decide) (by decide)) (Nat.div_lt_of_lt_mul hn) (by decide)) (eGet cs (eModN (eDivN (vr rfl rfl) (cs (v := .int ((2 : Nat) : Int))) (by decide) (by decide)) (cs (v := .int ((2 : Nat) : Int))) (by decide) (by decide)) (Nat.mod_lt _ (by decide)) (by decide)) (adS (lq rfl)))
    (eGet (e3 _ rfl) (eAdd (eModN (vr rfl rfl) (cs (v := .int ((2 : Nat) : Int))) (by decide) (by decide)) (eMul (cs (v := .int ((2 : Nat) : Int))) (vr rfl rfl) (by decide) (lz (Nat.le_of_lt ha) (by decide)))) (by rw [l4]; exact Nat.lt_of_lt_of_le (Nat.add_lt_add_of_lt_of_le (Nat.mod_lt n (by decide : 2 > 0)) (Nat.mul_le_mul_left 2 (Nat.le_of_lt_succ ha))) (by decide)) (by rw [l4]; decide)) (adS (lq rfl))) rfl
    (adV (lz (Nat.add_le_add_right ht 3) (by decide))) rfl)) rfl
noncomputable def typS : List Nat := [63, 112, 99, 63, 100, 63, 98, 63, 45, 63, 108, 63, 115, 63, 63, 63]
noncomputable def rowMode (t h n2 a2 n1 a1 n0 a0 : Nat) : Nat := t * 4096 + h * 65536 + (n2 * 64 + a2 * 2048) + (n1 * 8 + a1 * 1024) + (n0 * 1 + a0 * 512)
noncomputable def rowText (t n2 a2 n1 a1 n0 a0 : Nat) : List Nat := [typS.getD t 0] ++ tri 2 n2 a2 ++ tri 1 n1 a1 ++ tri 0 n0 a0
theorem ro_run (x : Int) : ∃ t h n2 a2 n1 a1 n0 a0, t < 16 ∧ h < 10 ∧ n2 < 8 ∧ a2 < 2 ∧ n1 < 8 ∧ a1 < 2 ∧ n0 < 8 ∧ a0 < 2 ∧ runFn X.Φ X.Γ X.Ξ lim L.f_ro [.int x] = some (.tuple [.int (rowMode t h n2 a2 n1 a1 n0 a0 : Nat), .str (rowText t n2 a2 n1 a1 n0 a0)]) := by
  have ht : md (md (x.fdiv (10000 : Nat)) 100) 16 < 16 := md_lt (by decide)
  have hh : md (x.fdiv (1000000 : Nat)) 10 < 10 := md_lt (by decide)
  obtain ⟨n2, a2, h1, h2, r2⟩ := rowTurn (X := X) (x := x) (j := 2) (m := md (md (x.fdiv (10000 : Nat)) 100) 16 * 4096 + md (x.fdiv (1000000 : Nat)) 10 * 65536) (t := [typS.getD (md (md (x.fdiv (10000 : Nat)) 100) 16) 0]) (p10 := 100) (p8 := 64) (p2 := 4) (p9 := 2048) rfl rfl rfl rfl (by decide) (by decide) (by decide) (by decide) (lq rfl)
  obtain ⟨n1, a1, h3, h4, r1⟩ := rowTurn (X := X) (x := x) (j := 1) (m := md (md (x.fdiv (10000 : Nat)) 100) 16 * 4096 + md (x.fdiv (1000000 : Nat)) 10 * 65536 + (n2 * 64 + a2 * 2048)) (t := [typS.getD (md (md (x.fdiv (10000 : Nat)) 100) 16) 0] ++ tri 2 n2 a2) (p10 := 10) (p8 := 8) (p2 := 2) (p9 := 1024) rfl rfl rfl rfl (by decide) (by decide) (by decide) (by decide) (lq rfl)
  obtain ⟨n0, a0, h5, h6, r0⟩ := rowTurn (X := X) (x := x) (j := 0) (m := md (md (x.fdiv (10000 : Nat)) 100) 16 * 4096 + md (x.fdiv (1000000 : Nat)) 10 * 65536 + (n2 * 64 + a2 * 2048) + (n1 * 8 + a1 * 1024)) (t := [typS.getD (md (md (x.fdiv (10000 : Nat)) 100) 16) 0] ++ tri 2 n2 a2 ++ tri 1 n1 a1) (p10 := 1) (p8 := 1) (p2 := 1) (p9 := 512) rfl rfl rfl rfl (by decide) (by decide) (by decide) (by decide) (lq rfl)
  refine ⟨_, _, n2, a2, n1, a1, n0, a0, ht, hh, h1, h2, h3, h4, h5, h6, fn_run (l := [(0, .int x)]) rfl rfl ?_⟩
  refine .asg (eMul (eMod (eMod (eDiv (m := 10000) (vr rfl rfl) (fun _ => rfl) (by decide) (by decide)) (cs (v := .int ((100 : Nat) : Int))) (by decide) (by decide)) (cs (v := .int ((16 : Nat) : Int))) (by decide) (by decide)) (cs (v := .int ((4096 : Nat) : Int))) (lz (Nat.le_of_lt ht) (by decide)) (by decide)) rfl rfl ?_
  generalize md (md (x.fdiv (10000 : Nat)) 100) 16 = t at ht r2 r1 r0 ⊢
  refine .asg (v := .str [typS.getD t 0]) (eGet cs (eDivN (n := t * 4096) (vr rfl rfl) (cs (v := .int ((4096 : Nat) : Int))) (by decide) (by decide)) (by rw [Nat.mul_div_cancel _ (by decide)]; exact ht) (by decide) |> fun h => by rw [Nat.mul_div_cancel _ (by decide)] at h; exact h) rfl rfl ?_
  refine .seq (.aug (y := .int ((t * 4096 + md (x.fdiv (1000000 : Nat)) 10 * 65536 : Nat) : Int)) rfl (eMul (eMod (eDiv (m := 1000000) (vr rfl rfl) (fun _ => rfl) (by decide) (by decide)) (cs (v := .int ((10 : Nat) : Int))) (by decide) (by decide)) (cs (v := .int ((65536 : Nat) : Int))) (lz (Nat.le_of_lt hh) (by decide)) (by decide)) rfl rfl rfl) ?_
  generalize md (x.fdiv (1000000 : Nat)) 10 = h at hh r2 r1 r0 ⊢
  exact .seq (.loop (lEx (eTup (sC (cs (v := .int ((2 : Nat) : Int))) (sC (cs (v := .int ((1 : Nat) : Int))) (sC (cs (v := .int ((0 : Nat) : Int))) sN))) rfl) rfl rfl) (.pre (l1 := kRow x (t * 4096 + h * 65536) [typS.getD t 0]) rfl (.step rfl r2 (.step rfl r1 (.step rfl r0 (.nil .nil)))))) (.out (.ret (eTup (sC (vr rfl rfl) (sC (vr rfl rfl) sN)) rfl) rfl))
end
section
variable {X : Cx} {i j m k : Nat} {l : Kn} {f : Fl} {Ls : List (List (Nat × Nat))} {ps : List Nat}
noncomputable def tst (k m b : Nat) : Nat := if k = 0 then m &&& 61440 else m &&& b
noncomputable def pick (k m : Nat) : List (Nat × Nat) → Nat
  | [] => if k = 0 then 63 else 45
  | p :: r => if tst k m p.1 = p.1 then p.2 else pick k m r
noncomputable def picks (m : Nat) : Nat → List (List (Nat × Nat)) → List Nat
  | _, [] => []
  | k, L :: r => pick k m L :: picks m (k + 1) r
noncomputable abbrev chr (s : List Nat) : List AV := s.map fun c => .str [c]
noncomputable abbrev kI (m k : Nat) (ps : List Nat) : Kn := [(1, .own (chr ps)), (2, .int (k : Int)), (0, .int (m : Int))]
noncomputable abbrev kI2 (m k : Nat) (ps : List Nat) (p : Nat × Nat) : Kn := (5, .str [p.2]) :: (4, .int (p.1 : Int)) :: kI m k ps
theorem apI {c : Nat} {e : PE} {r : PSs} {l' : Kn} (hk : lk 1 l = some (.own (chr ps))) (h : Ev X e l (.str [c])) (hn : ps.length ≤ 900) (k : Run X r ((1, .own (chr (ps ++ [c]))) :: fil 1 l) l' f) : Run X (.cons (.append 1 e) r) l l' f := .seq (.append h hk rfl (by rw [List.length_map]; exact Nat.lt_of_le_of_lt hn (by decide)) (mapSnoc rfl)) k
theorem eq0 (h2 : lk 2 l = some (.int (k : Int))) (b : Bool) (h : decide (k = 0) = b) : EvB X (.cmp (.var 2) .eq (.cst (.int 0))) l b := h ▸ bCmp (vr h2 rfl) cs (cEqI k 0)
theorem iTurn (hΦ : ∀ m : Nat, X.Φ L.i_ms [.int (m : Int)] = some (.int ((m &&& 61440 : Nat) : Int))) {p : Nat × Nat} (hn : ps.length ≤ 900) :
    (tst k m p.1 = p.1 → Run X L.fi_e (kI2 m k ps p) (kI m k (ps ++ [p.2])) .brk) ∧ (tst k m p.1 ≠ p.1 → Run X L.fi_e (kI2 m k ps p) (kI m k ps) .next) := by
  have ap : ∀ {r : PSs}, r = .cons (.append 1 (.var 5)) (.cons .brk .nil) → Run X r (kI2 m k ps p) (kI m k (ps ++ [p.2])) .brk := fun e => e ▸ .sub (apI rfl (vr rfl rfl) hn (.outB .brk)) rfl
  unfold tst
  by_cases hk : k = 0
  · rw [if_pos hk]
    have t := bCmp (X := X) (o := .eq) (l := kI2 m k ps p) (eCall (sC (a := .var 0) (vr rfl rfl) sN) rfl (hΦ m)) (vr (k := 4) rfl rfl) (cEqI _ p.1)
    exact ⟨fun h => .one (.iffT (eq0 rfl true (dT hk)) (.one (.iffT (dT h ▸ t) (ap rfl)))), fun h => .one (.iffT (eq0 rfl true (dT hk)) (.one (.iffF (dF h ▸ t) (.end rfl))))⟩
  · rw [if_neg hk]
    have t := bCmp (X := X) (o := .eq) (l := kI2 m k ps p) (eBin (a := .var 0) (b := .var 4) (vr rfl rfl) (vr rfl rfl) (bandN m p.1)) (vr (k := 4) rfl rfl) (cEqI _ p.1)
    exact ⟨fun h => .one (.iffF (eq0 rfl false (dF hk)) (.one (.iffT (dT h ▸ t) (ap rfl)))), fun h => .one (.iffF (eq0 rfl false (dF hk)) (.one (.iffF (dF h ▸ t) (.end rfl))))⟩
theorem iLoop (hΦ : ∀ m : Nat, X.Φ L.i_ms [.int (m : Int)] = some (.int ((m &&& 61440 : Nat) : Int))) (hn : ps.length ≤ 900) : ∀ A : List (Nat × Nat), Fo X L.fi_e L.fi_h (.two 4 5) (A.map rowAV) (kI m k ps) (kI m k (ps ++ [pick k m A])) .next
  | [] => by
    unfold pick
    by_cases hk : k = 0
    · rw [if_pos hk]; exact .nil (.one (.iffT (eq0 rfl true (dT hk)) (apI rfl cs hn (.end rfl))))
    · rw [if_neg hk]; exact .nil (.one (.iffF (eq0 rfl false (dF hk)) (apI rfl cs hn (.end rfl))))
  | p :: A => by
    have z := iTurn (X := X) (k := k) (m := m) (p := p) hΦ hn
    by_cases h : tst k m p.1 = p.1
    · rw [show pick k m (p :: A) = p.2 from if_pos h]; exact .brk2 rfl rfl (z.1 h)
    · rw [show pick k m (p :: A) = pick k m A from if_neg h]; exact .step2 rfl rfl (z.2 h) (iLoop hΦ hn A)
noncomputable abbrev kO (m : Nat) (ps : List Nat) : Kn := [(1, .own (chr ps)), (0, .int (m : Int))]
theorem oLoop (hΦ : ∀ m : Nat, X.Φ L.i_ms [.int (m : Int)] = some (.int ((m &&& 61440 : Nat) : Int))) : ∀ (Ls : List (List (Nat × Nat))) (k : Nat) (ps : List Nat), ps.length + Ls.length ≤ 900 → Fo X L.fi_i .nil (.two 2 3) (enumV k (Ls.map tabRow)) (kO m ps) (kO m (ps ++ picks m k Ls)) .next
  | [], _, ps, _ => .nil (by rw [show picks m _ [] = [] from rfl, List.append_nil]; exact .nil)
  | A :: Ls, k, ps, hn => by
    rw [show ps ++ picks m k (A :: Ls) = (ps ++ [pick k m A]) ++ picks m (k + 1) Ls by rw [List.append_assoc]; rfl]
    exact .step2 (l1 := kO m (ps ++ [pick k m A])) rfl rfl (.one (.sub (.loop (lEx (vr rfl rfl) rfl rfl) (.pre (l1 := kI m k ps) rfl (iLoop hΦ (lz (Nat.le_add_right _ _) hn) A))) rfl)) (oLoop hΦ Ls (k + 1) (ps ++ [pick k m A]) (by rw [lnA]; exact (Nat.add_assoc _ _ _).symm ▸ (Nat.add_comm 1 Ls.length ▸ hn)))
theorem picks_len : ∀ (Ls : List (List (Nat × Nat))) (k : Nat), (picks m k Ls).length = Ls.length
  | [], _ => rfl
  | _ :: r, k => congrArg (· + 1) (picks_len r (k + 1))
theorem fi_run (hΦ : ∀ m : Nat, X.Φ L.i_ms [.int (m : Int)] = some (.int ((m &&& 61440 : Nat) : Int))) (hΓ : X.Γ 0 = some (.tuple (Ls.map tabRow))) (hn : Ls.length ≤ 800) : runFn X.Φ X.Γ X.Ξ lim L.f_fi [.int (m : Int)] = some (.str (picks m 0 Ls)) :=
  have h : Fo X L.fi_i .nil (.two 2 3) (enumV 0 (Ls.map tabRow)) (kO m []) (kO m (picks m 0 Ls)) .next := oLoop hΦ Ls 0 [] (by rw [List.length_nil, Nat.zero_add]; exact lz hn (by decide))
  fn_run (l := [(0, .int (m : Int))]) rfl rfl (.seq (.asgL rfl) (.seq (.loop (fun _ => bI hΓ (mI rfl rfl)) h) (.out (.ret (eMeth cs (sC (vr rfl rfl) sN) ((joinE rfl (strs_chr _) (by rw [flat_chr, picks_len]; exact lz hn (by decide))).trans (by rw [flat_chr]))) rfl))))
theorem and_low {m b : Nat} (k : Nat) (hb : b < 2 ^ k) : m &&& b = (m % 2 ^ k) &&& b := by
  rw [← Nat.mod_eq_of_lt (Nat.lt_of_le_of_lt Nat.and_le_right hb : m &&& b < 2 ^ k), Nat.and_mod_two_pow, Nat.mod_eq_of_lt hb]
theorem pick_eq {m n k : Nat} : ∀ A : List (Nat × Nat), (∀ p ∈ A, tst k m p.1 = tst k n p.1) → pick k m A = pick k n A
  | [], _ => rfl
  | p :: A, h => by
    show (if tst k m p.1 = p.1 then p.2 else pick k m A) = if tst k n p.1 = p.1 then p.2 else pick k n A
    rw [h p (.head _), pick_eq A fun q hq => h q (.tail _ hq)]
theorem pick_mask {m n M k : Nat} (h : m &&& M = n) {A : List (Nat × Nat)} (ha : (A.all fun p => M &&& p.1 == p.1) = true) : pick (k + 1) m A = pick (k + 1) n A := pick_eq A fun p hp => by
  show m &&& p.1 = n &&& p.1
  rw [← h, Nat.and_assoc, eq_of_beq (List.all_eq_true.mp ha p hp)]
noncomputable def gr (m k : Nat) (A B C : List (Nat × Nat)) : List Nat := [pick k m A, pick (k + 1) m B, pick (k + 2) m C]
theorem gr_mask {m n M k : Nat} (h : m &&& M = n) {A B C : List (Nat × Nat)} (ha : ((A ++ B ++ C).all fun p => M &&& p.1 == p.1) = true) : gr m (k + 1) A B C = gr n (k + 1) A B C := by
  rw [List.all_append, List.all_append] at ha
  have z := bE ha
  have y := bE z.1
  unfold gr
  rw [pick_mask h y.1, pick_mask h y.2, pick_mask h z.2]
noncomputable def lo (n2 a2 n1 a1 n0 a0 : Nat) : Nat := n2 * 64 + a2 * 2048 + (n1 * 8 + a1 * 1024) + (n0 * 1 + a0 * 512)
theorem lo_all : ∀ n2 : Fin 8, ∀ a2 : Fin 2, ∀ n1 : Fin 8, ∀ a1 : Fin 2, ∀ n0 : Fin 8, ∀ a0 : Fin 2, (Nat.beq (lo n2 a2 n1 a1 n0 a0 &&& 2496) (n2 * 64 + a2 * 2048) && (Nat.beq (lo n2 a2 n1 a1 n0 a0 &&& 1080) (n1 * 8 + a1 * 1024) && (Nat.beq (lo n2 a2 n1 a1 n0 a0 &&& 519) (n0 * 1 + a0 * 512) && Nat.blt (lo n2 a2 n1 a1 n0 a0) 4096))) = true := by decide +kernel
theorem tri_all : ∀ n : Fin 8, ∀ a : Fin 2, gr (n * 64 + a * 2048) 1 [(256, 114)] [(128, 119)] [(2112, 115), (2048, 83), (64, 120)] = tri 2 n a ∧ gr (n * 8 + a * 1024) 4 [(32, 114)] [(16, 119)] [(1032, 115), (1024, 83), (8, 120)] = tri 1 n a ∧ gr (n * 1 + a * 512) 7 [(4, 114)] [(2, 119)] [(513, 116), (512, 84), (1, 120)] = tri 0 n a := by decide +kernel
theorem add3 (x a b c : Nat) : x + a + b + c = x + (a + b + c) := by rw [Nat.add_assoc, Nat.add_assoc, Nat.add_assoc]
theorem typ_all : ∀ t : Fin 16, t.val * 4096 &&& 61440 = t.val * 4096 ∧ pick 0 (t.val * 4096) [(40960, 108), (49152, 115), (32768, 45), (24576, 98), (16384, 100), (8192, 99), (4096, 112)] = typS.getD t.val 0 := by decide +kernel
theorem typ_and {t h lo : Nat} (ht : t < 16) (hl : lo < 4096) : (t * 4096 + h * 65536 + lo) &&& 61440 = t * 4096 := by
  have e : (t * 4096 + h * 65536 + lo) % 2 ^ 16 = t <<< 12 + lo := by rw [Nat.shiftLeft_eq]; lia
  rw [and_low 16 (show 61440 < 2 ^ 16 by decide), e, Nat.shiftLeft_add_eq_or_of_lt hl, Nat.and_or_distrib_right, Nat.and_comm lo, and_low 12 hl, Nat.zero_and, Nat.or_zero, Nat.shiftLeft_eq]
  exact (typ_all ⟨t, ht⟩).1
theorem row_mode {t h n2 a2 n1 a1 n0 a0 : Nat} (ht : t < 16) (h2 : n2 < 8) (g2 : a2 < 2) (h1 : n1 < 8) (g1 : a1 < 2) (h0 : n0 < 8) (g0 : a0 < 2) : picks (rowMode t h n2 a2 n1 a1 n0 a0) 0 tabL = rowText t n2 a2 n1 a1 n0 a0 := by
  have z := lo_all ⟨n2, h2⟩ ⟨a2, g2⟩ ⟨n1, h1⟩ ⟨a1, g1⟩ ⟨n0, h0⟩ ⟨a0, g0⟩
  have e : rowMode t h n2 a2 n1 a1 n0 a0 = t * 4096 + h * 65536 + lo n2 a2 n1 a1 n0 a0 := add3 _ _ _ _
  rw [e]
  have z2 := bE (bE z).2
  have z3 := bE z2.2
  have hl : lo n2 a2 n1 a1 n0 a0 < 4096 := lq z3.2
  have em : ∀ M, M < 2 ^ 12 → (t * 4096 + h * 65536 + lo n2 a2 n1 a1 n0 a0) &&& M = lo n2 a2 n1 a1 n0 a0 &&& M := fun M hM => by
    rw [and_low 12 hM]
    congr 1
    lia
  have m2 := (em 2496 (by decide)).trans (Nat.eq_of_beq_eq_true (bE z).1)
  have m1 := (em 1080 (by decide)).trans (Nat.eq_of_beq_eq_true z2.1)
  have m0 := (em 519 (by decide)).trans (Nat.eq_of_beq_eq_true z3.1)
  have mt := typ_and (h := h) ht hl
  generalize t * 4096 + h * 65536 + lo n2 a2 n1 a1 n0 a0 = m at m2 m1 m0 mt
  refine Eq.trans (show _ = [pick 0 m [(40960, 108), (49152, 115), (32768, 45), (24576, 98), (16384, 100), (8192, 99), (4096, 112)]] ++ gr m 1 [(256, 114)] [(128, 119)] [(2112, 115), (2048, 83), (64, 120)] ++ gr m 4 [(32, 114)] [(16, 119)] [(1032, 115), (1024, 83), (8, 120)] ++ gr m 7 [(4, 114)] [(2, 119)] [(513, 116), (512, 84), (1, 120)] from rfl) ?_
  rw [gr_mask m2 rfl, gr_mask m1 rfl, gr_mask m0 rfl, pick_eq (m := m) (n := t * 4096) (k := 0) _ fun p _ => (mt.trans (typ_all ⟨t, ht⟩).1.symm : tst 0 m p.1 = tst 0 (t * 4096) p.1), (typ_all ⟨t, ht⟩).2, (tri_all ⟨n2, h2⟩ ⟨a2, g2⟩).1, (tri_all ⟨n1, h1⟩ ⟨a1, g1⟩).2.1, (tri_all ⟨n0, h0⟩ ⟨a0, g0⟩).2.2]
  rfl
end
noncomputable def lowD : List Nat → Option Nat
  | [] => none
  | c :: r => if c = 92 then r.head?.bind fun d => if d < 128 ∧ alnumC d = false then some 1 else none else some 0
noncomputable def highD (t : List Nat) : Nat := if (t.drop 1).take 1 = [45] ∧ 2 < t.length then (if (t.drop 2).head? = some 92 then 3 else 2) else 0
noncomputable def rdN : Nat → List Nat → Option (List (Nat × Nat))
  | 0, _ => none
  | f + 1, t => if t = [] then some [] else (lowD t).bind fun a => ((t.drop a).head?).bind fun l => ((t.drop (a + highD (t.drop a))).head?).bind fun h => if l ≤ h then (rdN f (t.drop (a + highD (t.drop a) + 1))).map ((l, h) :: ·) else none
noncomputable def rgAV (p : Nat × Nat) : AV := .tuple [.str [p.1], .str [p.2]]
noncomputable def readAV (p : Bool × List (Nat × Nat)) : AV := .tuple [.bool p.1, .list (p.2.map rgAV)]
section
variable {X : Cx} {B : List Nat} {b c : Bool} {R : List AV} {k a n x y : Nat} {l : Kn} {f : Fl} {t : List Nat}
noncomputable abbrev kB (B : List Nat) (b : Bool) (R : List AV) (k : Nat) : Kn := [(4, .int (k : Int)), (3, .own R), (2, .str B), (1, .bool b)]
noncomputable abbrev kH (B : List Nat) (b : Bool) (R : List AV) (k x y : Nat) : Kn := [(6, .str [y]), (5, .str [x]), (4, .int (k : Int)), (3, .own R), (2, .str B), (1, .bool b)]
theorem hdAt (h : B.drop k = t) (hc : (t.drop a).head? = some x) : B[k + a]? = some x := by rw [← hc, ← h, List.drop_drop, List.head?_drop]
theorem getB (hB : B.length ≤ 900) (h2 : lk 2 l = some (.str B)) (h4 : lk 4 l = some (.int (k : Int))) (h : B[k]? = some x) : Ev X (.idx (.var 2) (.var 4)) l (.str [x]) := eIdx (vr h2 rfl) (vr h4 rfl) (ixS h (lim9 hB))
theorem incB {e : PE} {l' : Kn} (h4 : lk 4 l = some (.int (k : Int))) (he : Ev X e l (.int (n : Int))) (ho : okB 4 l = true) (hi : In ((4, .int ((k + n : Nat) : Int)) :: fil 4 l) l') : RunS X (.aug 4 e) l l' .next := .sub (.aug (y := .int ((k + n : Nat) : Int)) h4 he rfl rfl ho) hi
theorem eqC {e : PE} {d : Nat} (he : Ev X e l (.str [x])) (b : Bool) (h : decide (x = d) = b) : EvB X (.cmp e .eq (.cst (.str [d]))) l b := h ▸ bCmp he cs (cEq1 x d)
theorem lowRun (hB : B.length ≤ 900) : ∀ {t : List Nat}, B.drop k = t → lowD t = some a → RunS X (.iff (.cmp (.idx (.var 2) (.var 4)) .eq (.cst (.str [92]))) L.rd_d .nil) (kB B b R k) (kB B b R (k + a)) .next
  | [], _, hl => noneE hl
  | c :: r, h, hl => Classical.byCases (fun hc : c = 92 => bindE ((if_pos hc).symm.trans hl) fun d hd hl => iteE hl fun q e => e ▸ .iffT (eqC (getB hB rfl rfl (dropGet h)) true (dT hc)) (.seq (incB (l' := kB B b R (k + 1)) (n := 1) rfl cs rfl rfl) (.one (.no (bMeth (getB hB rfl rfl (hdAt (a := 1) h hd)) sN (bI rfl (bI rfl (if_pos ⟨rfl, q.1⟩))) (congrArg some q.2))))))
    fun hc => sIj ((if_neg hc).symm.trans hl) ▸ .no (eqC (getB hB rfl rfl (dropGet h)) false (dF hc))
theorem sl1 (h : B.drop k = t) : cut B (some ((k + 1 : Nat) : Int)) (some ((k + 2 : Nat) : Int)) = (t.drop 1).take 1 := by rw [cutN, ← h, List.drop_drop]; congr 1; exact Nat.add_sub_cancel_left (k + 1) 1
theorem hiTest (hB : B.length ≤ 900) (h : B.drop k = t) (hk : k ≤ B.length) : EvB X (.and (.cons (.cmp (.slc (.var 2) (.bin .add (.var 4) (.cst (.int 1))) (.bin .add (.var 4) (.cst (.int 2))) (.cst .none)) .eq (.cst (.str [45]))) (.cons (.cmp (.bin .add (.var 4) (.cst (.int 2))) .lt (.bi .len (.var 2))) .nil))) (kH B b R k x y) (decide ((t.drop 1).take 1 = [45] ∧ 2 < t.length)) := by
  have t1 : EvB X (.cmp (.slc (.var 2) (.bin .add (.var 4) (.cst (.int 1))) (.bin .add (.var 4) (.cst (.int 2))) (.cst .none)) .eq (.cst (.str [45]))) (kH B b R k x y) ((t.drop 1).take 1 == [45]) :=
    bCmp (eSlc (j := some ((k + 1 : Nat) : Int)) (j' := some ((k + 2 : Nat) : Int)) (vr rfl rfl) (eAdd (vr rfl rfl) cs) (eAdd (m := 2) (vr rfl rfl) cs) (smN (lz (Nat.add_le_add_right (lz hk hB) 1) (by decide))) (smN (lz (Nat.add_le_add_right (lz hk hB) 2) (by decide))) ((slS (lim9 hB)).trans (by rw [sl1 h]))) cs rfl
  have hs := dropSum h hk
  by_cases q : (t.drop 1).take 1 = [45]
  · rw [beq_iff_eq.mpr q] at t1
    have e2 : EvB X (.cmp (.bin .add (.var 4) (.cst (.int 2))) .lt (.bi .len (.var 2))) (kH B b R k x y) (decide (2 < t.length)) := bCmp (eAdd (m := 2) (vr rfl rfl) cs) (eBi (vr rfl rfl) (lS (lim9 hB))) (congrArg some (decide_eq_decide.mpr (by rw [← hs]; exact ⟨fun h => Nat.lt_of_add_lt_add_left (Int.ofNat_lt.mp h), fun h => Int.ofNat_lt.mpr (Nat.add_lt_add_left h k)⟩)))
    rw [show decide ((t.drop 1).take 1 = [45] ∧ 2 < t.length) = decide (2 < t.length) from decide_eq_decide.mpr ⟨fun h => h.2, fun h => ⟨q, h⟩⟩]
    exact bAnd (aT t1 (a1 e2))
  · rw [beq_eq_false_iff_ne.mpr q] at t1
    rw [dF fun h => q h.1]
    exact bAnd (aF t1)
theorem hiRun (hB : B.length ≤ 900) (h : B.drop k = t) (hk : k ≤ B.length) (hx : t.head? = some x) (hh : (t.drop (highD t)).head? = some y) : RunS X (.iff (.and (.cons (.cmp (.slc (.var 2) (.bin .add (.var 4) (.cst (.int 1))) (.bin .add (.var 4) (.cst (.int 2))) (.cst .none)) .eq (.cst (.str [45]))) (.cons (.cmp (.bin .add (.var 4) (.cst (.int 2))) .lt (.bi .len (.var 2))) .nil))) L.rd_b .nil) (kH B b R k x x) (kH B b R (k + highD t) x y) .next := by
  have ht := hiTest (X := X) (b := b) (R := R) (x := x) (y := x) hB h hk
  unfold highD at *
  by_cases q : (t.drop 1).take 1 = [45] ∧ 2 < t.length
  · rw [dT q] at ht
    rw [if_pos q] at hh ⊢
    have hz : (t.drop 2).head? = some t[2] := by rw [List.head?_drop]; exact List.getElem?_eq_getElem q.2
    have z2 : Ev X (.idx (.var 2) (.bin .add (.var 4) (.cst (.int 2)))) (kH B b R k x x) (.str [t[2]]) := eIdx (vr rfl rfl) (eAdd (m := 2) (vr rfl rfl) cs) (ixS (hdAt h hz) (lim9 hB))
    have fin : ∀ n, (t.drop n).head? = some y → Ev X (.ite (.cmp (.idx (.var 2) (.bin .add (.var 4) (.cst (.int 2)))) .eq (.cst (.str [92]))) (.cst (.int 3)) (.cst (.int 2))) (kH B b R k x x) (.int (n : Int)) → Run X L.rd_b (kH B b R k x x) (kH B b R (k + n) x y) .next :=
      fun n hn e => .seq (l1 := kH B b R (k + n) x x) (incB rfl e rfl rfl) (.asg (getB hB rfl rfl (hdAt h hn)) rfl rfl (.end rfl))
    rw [hz] at hh ⊢
    by_cases q2 : t[2] = 92
    · rw [if_pos (congrArg some q2)] at hh ⊢
      exact .iffT ht (fin 3 hh (eT (eqC z2 true (dT q2)) cs))
    · rw [if_neg fun e => q2 (sIj e)] at hh ⊢
      exact .iffT ht (fin 2 hh (eF (eqC z2 false (dF q2)) cs))
  · rw [dF q] at ht
    rw [if_neg q] at hh ⊢
    exact sIj (hx.symm.trans hh) ▸ .no ht
theorem ar7 {k t a n : Nat} (h : k + t = n) (ha : a < t) : k + a ≤ n := by rw [← h]; exact Nat.add_le_add_left (Nat.le_of_lt ha) k
theorem headLt {a : Nat} (h : (t.drop a).head? = some x) : a < t.length := Nat.lt_of_not_le fun q => by rw [List.drop_eq_nil_iff.mpr q] at h; cases h
theorem ltTF {x y : Nat} (h : x ≤ y) : EvB X (.cmp (.var 6) .lt (.var 5)) (kH B b R k x y) false := bCmp (vr rfl rfl) (vr rfl rfl) (congrArg some ((lt1 y x).trans (dF (Nat.not_lt.mpr h))))
theorem ar8 {k d n : Nat} (h : d < n - k) : k + (d + 1) ≤ n := Nat.add_lt_of_lt_sub' h
theorem ar9 {k d n R m : Nat} (h : d < n - k) (hR : R + (n - k) ≤ m) : R + 1 + (n - (k + (d + 1))) ≤ m := by
  rw [← Nat.sub_sub, Nat.add_assoc]
  exact lz (Nat.add_le_add_left (by rw [Nat.add_comm]; exact Nat.succ_le_of_lt (Nat.sub_lt (Nat.lt_of_le_of_lt (Nat.zero_le d) h) (Nat.succ_pos d))) R) hR
theorem rdTurn {p q : Nat} (hB : B.length ≤ 900) (h : B.drop k = t) (hk : k ≤ B.length) (hl : lowD t = some a) (hx : (t.drop a).head? = some x) (hy : (t.drop (a + highD (t.drop a))).head? = some y) (hxy : x ≤ y) (hn : R.length < lim) :
    Run X L.rd_e (kB B b R k) (kB B b (R ++ [rgAV (x, y)]) (k + (a + highD (t.drop a) + 1))) .next := by
  have ha := headLt hx
  have hs := dropSum h hk
  have hd : B.drop (k + a) = t.drop a := by rw [← List.drop_drop, h]
  rw [show k + (a + highD (t.drop a) + 1) = k + a + highD (t.drop a) + 1 by rw [← Nat.add_assoc, ← Nat.add_assoc]]
  rw [← List.drop_drop] at hy
  exact .seq (lowRun hB h hl) (.asg (getB hB rfl rfl (hdAt h hx)) rfl rfl (.asg (v := .str [x]) (vr rfl rfl) rfl rfl (.pre (l1 := kH B b R (k + a) x x) rfl (.seq (hiRun hB hd (ar7 hs ha) hx hy) (.seq (.no (ltTF hxy))
    (.seq (.append (eTup (sC (vr rfl rfl) (sC (vr rfl rfl) sN)) rfl) rfl rfl hn rfl) (.one (incB (n := 1) rfl cs rfl rfl))))))))
theorem rdLoop (hB : B.length ≤ 900) : ∀ (f : Nat) (R : List AV) (k : Nat) (rs : List (Nat × Nat)), rdN f (B.drop k) = some rs → k ≤ B.length → R.length + (B.length - k) ≤ 5000 → Wh X (.cmp (.var 4) .lt (.bi .len (.var 2))) L.rd_e f (kB B b R k) (kB B b (R ++ rs.map rgAV) B.length)
  | 0, _, _, _, h, _, _ => noneE h
  | f + 1, R, k, rs, h, hk, hR => by
    have lT : ∀ b', decide (k < B.length) = b' → EvB X (.cmp (.var 4) .lt (.bi .len (.var 2))) (kB B b R k) b' := fun b' e => e ▸ bCmp (vr rfl rfl) (eBi (vr rfl rfl) (lS (lim9 hB))) (congrArg some (decide_eq_decide.mpr Int.ofNat_lt))
    rcases Nat.lt_or_eq_of_le hk with hlt | rfl
    · have hne : B.drop k ≠ [] := fun e => Nat.not_le.mpr hlt (List.drop_eq_nil_iff.mp e)
      refine bindE ((if_neg hne).symm.trans h) fun a ha h => bindE h fun x hx h => bindE h fun y hy h => iteB h fun hxy h => mapE h fun rs' hr e => e ▸ ?_
      have hs := dropSum rfl hk
      have hyl := headLt hy
      rw [List.drop_drop] at hr
      rw [List.length_drop] at hyl
      exact .step (lT true (dT hlt)) (rdTurn (p := 0) (q := 0) hB rfl hk ha hx hy hxy (Nat.lt_of_le_of_lt (lz (Nat.le_add_right _ _) hR) (by decide)))
        ((List.append_assoc R [rgAV (x, y)] (rs'.map rgAV)) ▸ rdLoop hB f (R ++ [rgAV (x, y)]) _ rs' hr (ar8 hyl) (by rw [lnA]; exact ar9 hyl hR))
    · have e : rs = [] := (sIj ((if_pos (List.drop_eq_nil_iff.mpr (Nat.le_refl _))).symm.trans h)).symm
      rw [e, List.map_nil, List.append_nil]
      exact .stop (lT false (dF (Nat.lt_irrefl _)))
end
noncomputable def nilN : Nv := fun _ => none
noncomputable def onlyL (ks : List Nat) : Kn → Kn
  | [] => []
  | p :: l => bif ks.contains p.1 then p :: onlyL ks l else onlyL ks l
noncomputable def capB (ks : List Nat) (l : Kn) : Bool := ks.all fun k => (lk k l).elim false fun v => (noAB v).isSome
theorem noAB_ok {v : AV} (h : (noAB v).isSome = true) : noAB v = some v := by cases v <;> first | rfl | cases h
theorem lk_only {ks : List Nat} {k : Nat} : ∀ {l : Kn}, ks.contains k = true → lk k (onlyL ks l) = lk k l
  | [], _ => rfl
  | p :: l, h => by
    by_cases q : k = p.1
    · rw [onlyL, ← q, h]; show lk k (p :: _) = lk k (p :: l); rw [lk, lk, beqT q]; rfl
    · rw [lk, beqF q, onlyL]
      cases ks.contains p.1
      · exact lk_only h
      · show lk k (p :: _) = _; rw [lk, beqF q]; exact lk_only h
theorem lk_onlyNo {ks : List Nat} {k : Nat} (h : ks.contains k = false) : ∀ {l : Kn}, lk k (onlyL ks l) = none
  | [] => rfl
  | p :: l => by
    rw [onlyL]
    cases hp : ks.contains p.1
    · exact lk_onlyNo h
    · show lk k (p :: _) = none; rw [lk, beqF fun q => by rw [q, hp] at h; cases h]; exact lk_onlyNo h
theorem ov_nil {k : Nat} : ∀ {l : Kn}, ov l nilN k = lk k l
  | [] => rfl
  | p :: l => by
    by_cases q : k = p.1
    · rw [ov_at q, lk, beqT q]; rfl
    · rw [ov_no q, lk, beqF q]; exact ov_nil
theorem only_eq {ks : List Nat} {l : Kn} {ρ : Nv} (h : capB ks l = true) : (ov l ρ).only ks = ov (onlyL ks l) nilN := funext fun k => by
  rw [ov_nil]
  show (if ks.contains k = true then (ov l ρ k).bind noAB else none) = _
  cases hk : ks.contains k with
  | false => rw [lk_onlyNo hk]; rfl
  | true =>
    have z := List.all_eq_true.mp h k (List.contains_iff_mem.mp hk)
    cases hv : lk k l with
    | none => rw [hv] at z; cases z
    | some v => rw [hv] at z; rw [lk_only hk, hv, if_pos rfl, lk_ov hv]; exact noAB_ok z
theorem ov_congr {ρ ρ' : Nv} {k : Nat} (h : ρ k = ρ' k) : ∀ {l : Kn}, ov l ρ k = ov l ρ' k
  | [] => h
  | p :: l => by
    by_cases q : k = p.1
    · rw [ov_at q, ov_at q]
    · rw [ov_no q, ov_no q]; exact ov_congr h
theorem bind_nil {t : Nat} {v : AV} {l : Kn} (ho : okB t l = true) : (ov l nilN).bind t v = ov ((t, v) :: l) nilN := funext fun k => by
  by_cases q : k = t
  · rw [ov_at q]; exact if_pos q
  · rw [ov_no q, bind_no q, ov_bindAt (v := v) q ho]; exact ov_congr ((bind_no q).trans rfl)
theorem flatM_map {β : Type} {f : AV → Option (List AV)} {g : β → AV} {h : β → List AV} : ∀ {xs : List β}, (∀ x ∈ xs, f (g x) = some (h x)) → flatM f (xs.map g) = some (xs.map h).flatten
  | [], _ => rfl
  | x :: xs, hx => bI (hx x (.head _)) (mI (flatM_map fun y hy => hx y (.tail _ hy)) rfl)
section
variable {X : Cx} {l l' : Kn} {t t2 : Nat} {caps : List Nat} {it : PI} {ifs : PEs} {rest : PC} {e : PE} {v : AV} {xs ys : List AV} {β : Type} {B : List β} {g : β → AV} {p : β → Bool} {h : β → List AV}
def EvI (X : Cx) (e : PI) (l : Kn) (v : List AV) : Prop := ∀ ρ, evI X.Φ X.Γ e (ov l ρ) = some v
def EvP (X : Cx) (e : PI) (l : Kn) (v : List AV) : Prop := ∀ ρ, evP X.Φ X.Γ e (ov l ρ) = some v
def EvC (X : Cx) (cls : PC) (l : Kn) (v : List AV) : Prop := ∀ ρ, evC X.Φ X.Γ false cls ρ (ov l nilN) = some v
theorem iEx (h : Ev X e l v) (h' : iterV v = some ys) : EvI X (.ex e) l ys := fun ρ => bI (h ρ) h'
theorem iRange {es : PEs} (h : Evs X es l xs) (h' : rangeV xs = some ys) : EvI X (.range es) l ys := fun ρ => bI (h ρ) h'
theorem pEx (h : Ev X e l v) (hp : plainV v = true) (h' : iterV v = some ys) : EvP X (.ex e) l ys := fun ρ => bI (h ρ) ((if_pos hp).trans h')
theorem cDone (h : Ev X e l v) (hp : plainV v = true) : EvC X (.done e) l [v] := fun ρ => bI (h _) (plainC v hp)
theorem turn1 {x : AV} {c : Bool} {ρ₀ : Nv} (hn : lk t l = none) (ho : okB t l = true) (hi : EvAll X ifs ((t, x) :: l) c) (hr : c = true → EvC X rest ((t, x) :: l) ys) : ((bindC (.one t) x (ov l nilN)).bind fun ρ' => (evAll X.Φ X.Γ ifs ρ').bind fun b => if b = true then evC X.Φ X.Γ false rest ρ₀ ρ' else some []) = some (if c = true then ys else []) :=
  bI ((if_pos (show newT (.one t) (ov l nilN) = true by show (ov l nilN t).isNone = true; rw [ov_nil, hn]; rfl)).trans (congrArg some (bind_nil ho))) (bI (hi nilN) (by
    cases c with
    | true => exact (if_pos rfl).trans (hr rfl ρ₀)
    | false => rfl))
theorem turn2 {x y : AV} {c : Bool} {ρ₀ : Nv} (hn : lk t l = none) (hn2 : lk t2 l = none) (ht : t ≠ t2) (ho : okB t l = true) (ho2 : okB t2 ((t, x) :: l) = true) (hi : EvAll X ifs ((t2, y) :: (t, x) :: l) c) (hr : c = true → EvC X rest ((t2, y) :: (t, x) :: l) ys) : ((bindC (.two t t2) (.tuple [x, y]) (ov l nilN)).bind fun ρ' => (evAll X.Φ X.Γ ifs ρ').bind fun b => if b = true then evC X.Φ X.Γ false rest ρ₀ ρ' else some []) = some (if c = true then ys else []) :=
  bI ((if_pos (show newT (.two t t2) (ov l nilN) = true by show ((ov l nilN t).isNone && (ov l nilN t2).isNone && t != t2) = true; rw [ov_nil, hn, ov_nil, hn2, bne_iff_ne.mpr ht]; rfl)).trans (congrArg some ((congrArg (fun z => Nv.bind z t2 y) (bind_nil ho)).trans (bind_nil ho2)))) (bI (hi nilN) (by
    cases c with
    | true => exact (if_pos rfl).trans (hr rfl ρ₀)
    | false => rfl))
noncomputable def filF (p : β → Bool) (h : β → List AV) (x : β) : List AV := if p x = true then h x else []
theorem cClause (hit : EvP X it l (B.map g)) (hn : lk t l = none) (ho : okB t l = true) (hx : ∀ x ∈ B, EvAll X ifs ((t, g x) :: l) (p x) ∧ (p x = true → EvC X rest ((t, g x) :: l) (h x))) : EvC X (.clause (.one t) it ifs rest) l (B.map (filF p h)).flatten := fun ρ => bI (hit nilN) (flatM_map (h := filF p h) fun x hxB => turn1 hn ho (hx x hxB).1 (hx x hxB).2)
theorem eComp (hit : EvI X it l (B.map g)) (hc : capB caps l = true) (hn : lk t (onlyL caps l) = none) (ho : okB t (onlyL caps l) = true) (hx : ∀ x ∈ B, EvAll X ifs ((t, g x) :: onlyL caps l) (p x) ∧ (p x = true → EvC X rest ((t, g x) :: onlyL caps l) (h x))) (hl : (B.map (filF p h)).flatten.length ≤ lim) : Ev X (.comp caps (.clause (.one t) it ifs rest)) l (.list (B.map (filF p h)).flatten) := fun ρ =>
  bI (only_eq (ρ := ρ) hc ▸ bI (hit ρ) (flatM_map (h := filF p h) fun x hxB => turn1 hn ho (hx x hxB).1 (hx x hxB).2)) (if_pos hl)
theorem flat_one {k : β → AV} : ∀ B : List β, (B.map (filF (fun _ => true) fun x => [k x])).flatten = B.map k
  | [] => rfl
  | x :: B => congrArg (k x :: ·) (flat_one B)
theorem flat_fil {k : β → AV} {p : β → Bool} : ∀ B : List β, (B.map (filF p fun x => [k x])).flatten = (B.filter p).map k
  | [] => rfl
  | x :: B => by
    show filF p _ x ++ (B.map _).flatten = _
    rw [flat_fil B, List.filter_cons, filF]
    cases p x <;> rfl
theorem eMap {k : β → AV} (hit : EvI X it l (B.map g)) (hc : capB caps l = true) (hn : lk t (onlyL caps l) = none) (ho : okB t (onlyL caps l) = true) (hx : ∀ x ∈ B, Ev X e ((t, g x) :: onlyL caps l) (k x) ∧ plainV (k x) = true) (hl : B.length ≤ lim) : Ev X (.comp caps (.clause (.one t) it .nil (.done e))) l (.list (B.map k)) :=
  flat_one B ▸ eComp (p := fun _ => true) (h := fun x => [k x]) hit hc hn ho (fun x hxB => ⟨aN, fun _ => cDone (hx x hxB).1 (hx x hxB).2⟩) (by rw [flat_one, List.length_map]; exact hl)
theorem eFil {k : β → AV} (hit : EvI X it l (B.map g)) (hc : capB caps l = true) (hn : lk t (onlyL caps l) = none) (ho : okB t (onlyL caps l) = true) (hx : ∀ x ∈ B, EvAll X ifs ((t, g x) :: onlyL caps l) (p x) ∧ (p x = true → Ev X e ((t, g x) :: onlyL caps l) (k x)) ∧ plainV (k x) = true) (hl : B.length ≤ lim) : Ev X (.comp caps (.clause (.one t) it ifs (.done e))) l (.list ((B.filter p).map k)) :=
  flat_fil (p := p) B ▸ eComp (h := fun x => [k x]) hit hc hn ho (fun x hxB => ⟨(hx x hxB).1, fun q => cDone ((hx x hxB).2.1 q) (hx x hxB).2.2⟩) (by rw [flat_fil, List.length_map]; exact lz (List.length_filter_le _ _) hl)
theorem eFil2 {k : β → AV} {g1 g2 : β → AV} (hit : EvI X it l (B.map fun x => .tuple [g1 x, g2 x])) (hc : capB caps l = true) (hn : lk t (onlyL caps l) = none) (hn2 : lk t2 (onlyL caps l) = none) (ht : t ≠ t2) (ho : okB t (onlyL caps l) = true) (ho2 : ∀ x ∈ B, okB t2 ((t, g1 x) :: onlyL caps l) = true) (hx : ∀ x ∈ B, EvAll X ifs ((t2, g2 x) :: (t, g1 x) :: onlyL caps l) (p x) ∧ (p x = true → Ev X e ((t2, g2 x) :: (t, g1 x) :: onlyL caps l) (k x)) ∧ plainV (k x) = true) (hl : B.length ≤ lim) : Ev X (.comp caps (.clause (.two t t2) it ifs (.done e))) l (.list ((B.filter p).map k)) := fun ρ =>
  bI (a := (B.filter p).map k) (by rw [only_eq hc]; exact bI (hit ρ) ((flatM_map (h := filF p fun x => [k x]) fun x hxB => turn2 hn hn2 ht ho (ho2 x hxB) (hx x hxB).1 fun q => cDone ((hx x hxB).2.1 q) (hx x hxB).2.2).trans (congrArg some (flat_fil B)))) (if_pos (by rw [List.length_map]; exact lz (List.length_filter_le _ _) hl))
theorem filter_all {B : List β} : B.filter (fun _ => true) = B := List.filter_eq_self.mpr fun _ _ => rfl
end
end Mine.V
namespace Mine.V
open PySem
section
variable {X : Cx} {B p : List Nat} {b : Bool} {l : Kn} {f : Fl} {c : Nat}
theorem rdFin {rs : List (Nat × Nat)} {r : PSs} (hB : B.length ≤ 900) (h : rdN (B.length + 1) B = some rs) (h1 : lk 1 l = some (.bool b)) (h2 : lk 2 l = some (.str B)) (ho : okB 3 l = true) (ho' : okB 4 ((3, .own []) :: fil 3 l) = true) (hi : In ((4, .int (0 : Nat)) :: fil 4 ((3, .own []) :: fil 3 l)) (kB B b [] 0)) :
    Run X (.cons (.asgL 3) (.cons (.asg 4 (.cst (.int 0))) (.cons (.whl (.cmp (.var 4) .lt (.bi .len (.var 2))) L.rd_e) (.cons (.ret (.tup (.cons (.var 1) (.cons (.var 3) .nil)))) r)))) l [] (.ret (readAV (b, rs))) :=
  .seq (.asgL ho) (.asg (v := .int (0 : Nat)) cs rfl ho' (.pre hi (.seq (.whl (rdLoop hB (B.length + 1) [] 0 rs h (Nat.zero_le _) (by rw [List.length_nil, Nat.zero_add]; exact lz hB (by decide))) (lz (sl2 hB) (by decide))) (.out (.ret (eTup (sC (vr rfl rfl) (sC (vr rfl rfl) sN)) rfl) rfl)))))
noncomputable def bodyN (c : Nat) (r : List Nat) : List Nat := (if c = 94 then r else c :: r).dropLast
noncomputable def bodyB (p B : List Nat) : Bool := decide (p.getLast? = some 93) && (decide (p.length ≤ 900) && (decide (2 < p.length) && (p.all (· < 1114112) && (B.head?.elim false (fun d => d != 91 && d < 1114112) && (!((B.drop 1).contains 93) && (!(hasSub [38, 38] B) && (!(hasSub [126, 126] B) && !(hasSub [124, 124] B))))))))
noncomputable def nSet (c : Nat) (r : List Nat) : Option (Bool × List (Nat × Nat)) := if bodyB (91 :: c :: r) (bodyN c r) = true then (rdN ((bodyN c r).length + 1) (bodyN c r)).map fun rs => (decide (c = 94), rs) else none
noncomputable def nRead : List Nat → Option (Bool × List (Nat × Nat))
  | [] => none
  | a :: t => if a = 91 then t.head?.bind fun c => nSet c t.tail else if a :: t = [46] then some (true, []) else if a :: t = [40, 63, 33, 41] then some (false, []) else if a :: t = [92, 45] then some (false, [(45, 45)]) else if t = [] ∧ a < 128 ∧ alnumC a = true then some (false, [(a, a)]) else none
theorem dotT (hp : p.all (· < 1114112) = true) (h : (p == [46] || p == [40, 63, 33, 41]) = b) : EvB X (.cmp (.var 0) .isin (.tup (.cons (.cst (.str [46])) (.cons (.cst (.str [40, 63, 33, 41])) .nil)))) [(0, .str p)] b :=
  bCmp (vr rfl rfl) (eTup (sC cs (sC cs sN)) rfl) ((in_strs (l := [[46], [40, 63, 33, 41]]) hp rfl).trans (congrArg some ((show (([46] == p) || (([40, 63, 33, 41] == p) || false)) = _ by rw [Bool.or_false, BEq.comm, BEq.comm (a := [40, 63, 33, 41])]; exact h))))
theorem rd_dot (h : (p = [46] ∧ b = true) ∨ (p = [40, 63, 33, 41] ∧ b = false)) : runFn X.Φ X.Γ X.Ξ lim L.f_rd [.str p] = some (readAV (b, [])) := by
  rcases h with ⟨rfl, rfl⟩ | ⟨rfl, rfl⟩ <;> exact fn_run (l := [(0, .str _)]) rfl rfl (.out (.iffT (dotT rfl rfl) (.out (.ret (eTup (sC (eCmp (vr rfl rfl) cs rfl) (sC (eLst sN rfl) sN)) rfl) rfl))))
theorem firstB {d : Nat} {t : List Nat} {b : Bool} (h : (!decide (d = 91)) = b) (hl : (d :: t).length ≤ lim) : EvB X (.cmp (.slc (.var 0) (.cst .none) (.cst (.int 1)) (.cst .none)) .ne (.cst (.str [91]))) [(0, .str (d :: t))] b :=
  bCmp (eSlc (j := none) (j' := some (1 : Nat)) (vr rfl rfl) cs cs trivial (smN (by decide)) ((slS hl).trans (by rw [cutT]; rfl))) cs (h ▸ cNe1 d 91)
theorem rd_one (h : (p = [c] ∧ c < 128 ∧ alnumC c = true) ∨ (p = [92, 45] ∧ c = 45)) : runFn X.Φ X.Γ X.Ξ lim L.f_rd [.str p] = some (readAV (false, [(c, c)])) := by
  have fin : ∀ {p : List Nat}, p.length ≤ lim → p.getLast? = some c → Ev X (.tup (.cons (.cst (.bool false)) (.cons (.lst (.cons (.tup (.cons (.idx (.var 0) (.neg (.cst (.int 1)))) (.cons (.idx (.var 0) (.neg (.cst (.int 1)))) .nil))) .nil)) .nil))) [(0, .str p)] (readAV (false, [(c, c)])) := fun hl hc =>
    have z := eIdx (X := X) (l := [(0, .str _)]) (vr rfl rfl) m1 (ixSl hc hl)
    eTup (sC cs (sC (eLst (sC (eTup (sC z (sC z sN)) rfl) sN) rfl) sN)) rfl
  rcases h with ⟨rfl, hc, ha⟩ | ⟨rfl, rfl⟩
  · have ne : ∀ d, alnumC d = false → c ≠ d := fun d hd e => by rw [e, hd] at ha; cases ha
    have h46 : ([c] == [46] || [c] == [40, 63, 33, 41]) = false := by rw [beq1, dF (ne 46 rfl)]; exact Bool.and_false (c == 40)
    refine fn_run (l := [(0, .str [c])]) rfl rfl (.seq (.no (dotT (by show (decide (c < 1114112) && true) = true; rw [dT (Nat.lt_trans hc (by decide))]; rfl) h46)) (.out (.iffT (firstB (by rw [dF (ne 91 rfl)]; rfl) (lq rfl)) (.out (.ret (eT (bOr (oF ?_ (oT (bAnd (aT (bCmp (eBi (vr rfl rfl) (lS (lq rfl))) cs rfl) (a1 (bMeth (vr rfl rfl) sN (bI rfl (bI rfl (if_pos ⟨rfl, hc⟩))) (congrArg some ha)))))))) (fin (lq rfl) rfl)) rfl)))))
    exact bCmp (vr rfl rfl) cs (congrArg some (show ((c == 92) && ([] == [45])) = false from Bool.and_false _))
  · exact fn_run (l := [(0, .str [92, 45])]) rfl rfl (.seq (.no (dotT rfl rfl)) (.out (.iffT (firstB rfl (by decide)) (.out (.ret (eT (bOr (oT (bCmp (vr rfl rfl) cs rfl))) (fin (by decide) rfl)) rfl)))))
theorem eq_nilL : eqV (.list []) (.list []) = some true := rfl
theorem twoB (h0 : lk 2 l = some (.str B)) (hc : capB [2] l = true) (h1 : hasSub [38, 38] B = false) (h2 : hasSub [126, 126] B = false) (h3 : hasSub [124, 124] B = false) (ho : onlyL [2] l = [(2, .str B)]) : EvB X (.cmp (.comp [2] (.clause (.one 7) (.ex (.tup (.cons (.cst (.str [38, 38])) (.cons (.cst (.str [126, 126])) (.cons (.cst (.str [124, 124])) .nil))))) (.cons (.cmp (.var 7) .isin (.var 2)) .nil) (.done (.var 7)))) .ne (.lst .nil)) l false := by
  have z := eFil (X := X) (l := l) (caps := [2]) (t := 7) (it := .ex (.tup (.cons (.cst (.str [38, 38])) (.cons (.cst (.str [126, 126])) (.cons (.cst (.str [124, 124])) .nil))))) (ifs := .cons (.cmp (.var 7) .isin (.var 2)) .nil) (e := .var 7) (B := [[38, 38], [126, 126], [124, 124]]) (g := .str) (p := fun _ => false) (k := .str)
    (iEx (eTup (sC cs (sC cs (sC cs sN))) rfl) rfl) hc (by rw [ho]; rfl) (by rw [ho]; rfl) (fun x hx => ⟨a1 (bCmp (vr rfl rfl) (vr (v := .str B) (by rw [ho]; rfl) rfl) (congrArg some ?_)), (fun h => nomatch h), rfl⟩) (by decide)
  · exact bCmp z (eLst sN rfl) rfl
  · rcases mCo hx with rfl | hx
    · exact h1
    · rcases mCo hx with rfl | hx
      · exact h2
      · obtain rfl := mSg hx; exact h3
theorem rd_set {r : List Nat} {q : Bool × List (Nat × Nat)} (h : nSet c r = some q) : runFn X.Φ X.Γ X.Ξ lim L.f_rd [.str (91 :: c :: r)] = some (readAV q) := iteB h fun hb h => mapE h fun rs hr e => by
  subst e
  have k1 := bE hb
  have k2 := bE k1.2
  have k3 := bE k2.2
  have k4 := bE k3.2
  have k5 := bE k4.2
  have k6 := bE k5.2
  have k7 := bE k6.2
  have k8 := bE k7.2
  have hl9 := of_decide_eq_true k2.1
  have hl := lim9 hl9
  have h2 := of_decide_eq_true k3.1
  have hBl : (bodyN c r).length ≤ 900 := by
    unfold bodyN
    rw [List.length_dropLast]
    refine lz (Nat.sub_le _ _) (lz ?_ hl9)
    split
    · exact lz (Nat.le_succ _) (Nat.le_succ _)
    · exact Nat.le_succ _
  have hbody : Ev X (.ite (.var 1) (.slc (.var 0) (.cst (.int 2)) (.neg (.cst (.int 1))) (.cst .none)) (.slc (.var 0) (.cst (.int 1)) (.neg (.cst (.int 1))) (.cst .none))) [(1, .bool (decide (c = 94))), (0, .str (91 :: c :: r))] (.str (bodyN c r)) := by
    unfold bodyN
    by_cases q : c = 94
    · rw [dT q, if_pos q]
      exact eT (bVar (vr rfl rfl) rfl) (eSlc (j := some (2 : Nat)) (j' := some (-1)) (vr rfl rfl) cs m1 (smN (by decide)) smM ((slS hl).trans (by rw [cutM _ 2 h2]; rfl)))
    · rw [dF q, if_neg q]
      exact eF (bVar (vr rfl rfl) rfl) (eSlc (j := some (1 : Nat)) (j' := some (-1)) (vr rfl rfl) cs m1 (smN (by decide)) smM ((slS hl).trans (by rw [cutM _ 1 (Nat.lt_trans (by decide) h2)]; rfl)))
  generalize bodyN c r = B at *
  cases B with
  | nil => cases k5.1
  | cons d t =>
    have k5' := bE (show (d != 91 && decide (d < 1114112)) = true from k5.1)
    have hd : ([d] == [91]) = false := by rw [beq1, dF (bne_iff_ne.mp k5'.1)]
    have e2 : EvB X (.cmp (.slc (.var 2) (.cst .none) (.cst (.int 1)) (.cst .none)) .isin (.tup (.cons (.cst (.str [])) (.cons (.cst (.str [91])) .nil)))) [(2, .str (d :: t)), (1, .bool (decide (c = 94))), (0, .str (91 :: c :: r))] false :=
      bCmp (eSlc (j := none) (j' := some (1 : Nat)) (vr rfl rfl) cs cs trivial (smN (by decide)) ((slS (lim9 hBl)).trans (by rw [cutT]; rfl))) (eTup (sC cs (sC cs sN)) rfl) ((in_strs (a := [d]) (l := [[], [91]]) (by show (decide (d < 1114112) && true) = true; rw [k5'.2]; rfl) rfl).trans (congrArg some (show (([] == [d]) || (([91] == [d]) || false)) = false by rw [BEq.comm (a := [91]), hd]; rfl)))
    have e3 : EvB X (.cmp (.cst (.str [93])) .isin (.slc (.var 2) (.cst (.int 1)) (.cst .none) (.cst .none))) [(2, .str (d :: t)), (1, .bool (decide (c = 94))), (0, .str (91 :: c :: r))] false :=
      bCmp (y := .str ((d :: t).drop 1)) cs (eSlc (j := some (1 : Nat)) (j' := none) (vr rfl rfl) cs cs (smN (by decide)) trivial ((slS (lim9 hBl)).trans (by rw [cutF]))) (congrArg some ((hasSub_one 93 _).trans (notE k6.1)))
    exact fn_run (l := [(0, .str (91 :: c :: r))]) rfl rfl (.seq (.no (dotT k4.1 rfl)) (.seq (.no (firstB rfl hl)) (.asg (v := .bool (decide (c = 94))) (eCmp (eIdx (vr rfl rfl) cs (ixS (n := 1) rfl hl)) cs (cEq1 c 94)) rfl rfl (.asg (v := .str (d :: t)) hbody rfl rfl
      (.seq (.no (bOr (oF (bCmp (eIdx (vr rfl rfl) m1 (ixSl (of_decide_eq_true k1.1) hl)) cs rfl) (oF e2 (oF e3 oN))))) (.seq (.no (twoB rfl rfl (notE k7.1) (notE k8.1) (notE k8.2) rfl)) (rdFin hBl hr rfl rfl rfl rfl rfl)))))))
theorem rd_run {q : Bool × List (Nat × Nat)} (h : nRead p = some q) : runFn X.Φ X.Γ X.Ξ lim L.f_rd [.str p] = some (readAV q) := by
  cases p with
  | nil => cases h
  | cons a t =>
    have h : (if a = 91 then t.head?.bind fun c => nSet c t.tail else if a :: t = [46] then some (true, []) else if a :: t = [40, 63, 33, 41] then some (false, []) else if a :: t = [92, 45] then some (false, [(45, 45)]) else if t = [] ∧ a < 128 ∧ alnumC a = true then some (false, [(a, a)]) else none) = some q := h
    by_cases h91 : a = 91
    · subst h91
      cases t with
      | nil => exact noneE ((if_pos rfl).symm.trans h)
      | cons c r => exact rd_set ((if_pos rfl).symm.trans h)
    rw [if_neg h91] at h
    by_cases h1 : a :: t = [46]
    · rw [if_pos h1] at h; exact sIj h ▸ rd_dot (.inl ⟨h1, rfl⟩)
    rw [if_neg h1] at h
    by_cases h2 : a :: t = [40, 63, 33, 41]
    · rw [if_pos h2] at h; exact sIj h ▸ rd_dot (.inr ⟨h2, rfl⟩)
    rw [if_neg h2] at h
    by_cases h3 : a :: t = [92, 45]
    · rw [if_pos h3] at h; exact sIj h ▸ rd_one (.inr ⟨h3, rfl⟩)
    rw [if_neg h3] at h
    exact iteE h fun z e => e ▸ rd_one (.inl ⟨by rw [z.1], z.2⟩)
end
noncomputable def ups : Nat → Nat → List AV
  | _, 0 => []
  | i, n + 1 => .int (i : Int) :: ups (i + 1) n
theorem ups_eq : ∀ (n i : Nat), (List.range' i n).map (fun (k : Nat) => AV.int (k : Int)) = ups i n
  | 0, _ => rfl
  | n + 1, i => congrArg (AV.int (i : Int) :: ·) (ups_eq n (i + 1))
theorem size_up {n w : Nat} (hw : 0 < w) : Builtin.Range.rangeSize 0 ((n * w : Nat) : Int) (w : Int) = (n : Int) := by
  unfold Builtin.Range.rangeSize
  rw [if_pos (show (w : Int) > 0 from Int.ofNat_lt.mpr hw)]
  cases n with
  | zero => rw [Nat.zero_mul]; rfl
  | succ n =>
    have h1 : (((n + 1) * w : Nat) : Int) - 0 - 1 = ((w - 1 + n * w : Nat) : Int) := by rw [Nat.succ_mul]; lia
    rw [if_pos (show (0 : Int) < (((n + 1) * w : Nat) : Int) from Int.ofNat_lt.mpr (Nat.mul_pos (Nat.succ_pos n) hw)), h1]
    show (((w - 1 + n * w) / w : Nat) : Int) + 1 = _
    rw [Nat.add_mul_div_right _ _ hw, Nat.div_eq_of_lt (Nat.sub_lt hw (by decide)), Nat.zero_add]; rfl
theorem ok_up {n w : Nat} (hw : 0 < w) (hw' : w ≤ 1000) (hn : n * w ≤ lim) : rangeOk 0 ((n * w : Nat) : Int) (w : Int) := by
  refine ⟨?_, ?_, ?_, ?_⟩
  · unfold Builtin.Range.small
    have h1 : n ≤ lim := lz (Nat.le_mul_of_pos_right n hw) hn
    have h2 : ((n * w : Nat) : Int) + ((w : Int) - 1) = ((n * w + (w - 1) : Nat) : Int) := by lia
    have h3 : Builtin.Range.rangeFitsLong ((n * w + (w - 1) : Nat) : Int) = true := bM ⟨dT (Int.le_trans (by decide) (Int.natCast_nonneg _)), dT (Int.ofNat_lt.mpr (Nat.lt_of_le_of_lt (Nat.add_le_add hn (lz (Nat.sub_le _ _) hw')) (by decide)))⟩
    rw [size_up hw, fits hn, fits (lz hw' (by decide)), fits h1, if_pos (show (w : Int) > 0 from Int.ofNat_lt.mpr hw), h2, h3]
    cases ((n : Int) == 0) <;> decide +kernel
  · rw [size_up hw]; exact Int.natCast_nonneg _
  · exact fun e => Nat.ne_of_gt hw (Int.ofNat_inj.mp e)
  · exact Nat.lt_of_le_of_lt hw' (by decide +kernel)
theorem range_step {n w : Nat} (hw : 0 < w) (hw' : w ≤ 1000) (hn : n * w ≤ lim) : range3V (.int 0, .int ((n * w : Nat) : Int), .int (w : Int)) = some ((List.range' 0 n).map fun (k : Nat) => AV.int ((k * w : Nat) : Int)) := by
  rw [range3I (ok_up hw hw' hn), rangeL, size_up hw, List.map_map, ← List.range_eq_range']
  exact congrArg some (List.map_congr_left fun k _ => congrArg AV.int ((Int.zero_add _).trans (Int.natCast_mul k w).symm))
theorem range_up {n : Nat} (hn : n ≤ lim) : rangeV [.int (n : Int)] = some (ups 0 n) := by
  have h := range_step (n := n) (w := 1) (by decide) (by decide) (by rw [Nat.mul_one]; exact hn)
  rw [Nat.mul_one] at h
  exact h.trans (congrArg some ((List.map_congr_left fun k _ => by rw [Nat.mul_one]).trans (ups_eq n 0)))
noncomputable def inR (u : List Nat) (p : Nat × Nat) : Bool := !decide (u < [p.1]) && !decide ([p.2] < u)
noncomputable def inRg (rs : List (Nat × Nat)) (w : List Nat) : Bool := rs.any (inR (w.take 1))
noncomputable def nBegins : List (Bool × List (Nat × Nat)) → List Nat → Bool
  | [], _ => true
  | q :: r, w => if inRg q.2 w = q.1 then false else nBegins r w.tail
theorem inR_one (c : Nat) (p : Nat × Nat) : inR [c] p = (decide (p.1 ≤ c) && decide (c ≤ p.2)) := by
  unfold inR
  rw [lt1, lt1]
  exact congr (congrArg and ((decide_eq_decide.mpr Nat.not_lt.symm).trans (decide_not ..)).symm) ((decide_eq_decide.mpr Nat.not_lt.symm).trans (decide_not ..)).symm
theorem eqv_nil (xs : List AV) : PyData.eqv (toP (.list xs)) (toP (.list [])) = xs.isEmpty := by cases xs <;> rfl
theorem eq_nilOf {xs : List AV} (h : okEs xs 7 = true) : eqV (.list xs) (.list []) = some xs.isEmpty := (if_pos (show (okEs xs 7 && true) = true by rw [h]; rfl)).trans (congrArg some (eqv_nil xs))
section
variable {X : Cx} {i : Nat} {b : Bool} {l : Kn} {f : Fl} {w : List Nat} {rds : List (Bool × List (Nat × Nat))}
theorem bChain {a e c : PE} {o o' : Cop} {x y z : AV} {p q : Bool} (ha : Ev X a l x) (he : Ev X e l y) (hc : Ev X c l z) (h : cmpV o x y = some p) (h' : cmpV o' y z = some q) : EvB X (.chain a o e o' c) l (p && q) := fun ρ => bI (ha ρ) (bI (he ρ) (bI h (by
  cases p with
  | true => exact (if_pos rfl).trans (bI (hc ρ) h')
  | false => rfl)))
noncomputable abbrev kG (rds : List (Bool × List (Nat × Nat))) (w : List Nat) (i : Nat) (b : Bool) (rs : List (Nat × Nat)) : Kn := [(4, .list (rs.map rgAV)), (3, .bool b), (2, .int (i : Int)), (0, .list (rds.map readAV)), (1, .str w)]
theorem begTest {rs : List (Nat × Nat)} (hw : w.length ≤ 900) (hi : i ≤ 900) (hr : rs.length ≤ 1000) (hok : ∀ p ∈ rs, p.1 < 128) : EvB X (.cmp (.cmp (.comp [1, 2] (.clause (.two 5 6) (.ex (.var 4)) (.cons (.chain (.var 5) .le (.slc (.var 1) (.var 2) (.bin .add (.var 2) (.cst (.int 1))) (.cst .none)) .le (.var 6)) .nil) (.done (.var 5)))) .ne (.lst .nil)) .eq (.var 3)) (kG rds w i b rs) (inRg rs (w.drop i) == b) := by
  have sl : ∀ l, lk 1 l = some (.str w) → lk 2 l = some (.int (i : Int)) → Ev X (.slc (.var 1) (.var 2) (.bin .add (.var 2) (.cst (.int 1))) (.cst .none)) l (.str ((w.drop i).take 1)) := fun l h1 h2 =>
    eSlc (j := some (i : Int)) (j' := some ((i + 1 : Nat) : Int)) (vr h1 rfl) (vr h2 rfl) (eAdd (vr h2 rfl) cs) (smN (lim9 hi)) (smN (lz (sl2 hi) (by decide))) ((slS (lim9 hw)).trans (by rw [cutN, Nat.add_sub_cancel_left]))
  have z := eFil2 (X := X) (l := kG rds w i b rs) (caps := [1, 2]) (t := 5) (t2 := 6) (it := .ex (.var 4)) (ifs := .cons (.chain (.var 5) .le (.slc (.var 1) (.var 2) (.bin .add (.var 2) (.cst (.int 1))) (.cst .none)) .le (.var 6)) .nil) (e := .var 5) (B := rs) (g1 := fun p => .str [p.1]) (g2 := fun p => .str [p.2]) (p := inR ((w.drop i).take 1)) (k := fun p => .str [p.1])
    (iEx (vr rfl rfl) rfl) rfl rfl rfl (by decide) rfl (fun _ _ => rfl) (fun p hp => ⟨a1 (bChain (vr rfl rfl) (sl _ rfl rfl) (vr rfl rfl) rfl rfl), (fun _ => vr rfl rfl), rfl⟩) (lz hr (by decide))
  have hn : cmpV .ne (.list ((rs.filter (inR ((w.drop i).take 1))).map fun p => .str [p.1])) (.list []) = some (inRg rs (w.drop i)) := by
    have e := eq_nilOf (xs := (rs.filter (inR ((w.drop i).take 1))).map fun p => AV.str [p.1]) (by
      rw [show (rs.filter (inR ((w.drop i).take 1))).map (fun p => AV.str [p.1]) = ((rs.filter (inR ((w.drop i).take 1))).map fun p => [p.1]).map AV.str by rw [List.map_map]; rfl]
      exact okEs_strs (List.all_eq_true.mpr fun x hx => (List.mem_map.mp hx).elim fun p hp => by
        rw [← hp.2]
        show (decide (p.1 < 1114112) && true) = true
        rw [dT (Nat.lt_trans (hok p (List.mem_filter.mp hp.1).1) (by decide))]; rfl))
    show (eqV _ _).map not = _
    rw [e]
    refine congrArg some ?_
    unfold inRg
    clear e z sl hr hok
    induction rs with
    | nil => rfl
    | cons p rs ih =>
      rw [List.filter_cons, List.any_cons]
      cases inR ((w.drop i).take 1) p
      · exact ih
      · rfl
  exact bCmp (eCmp z (eLst sN rfl) hn) (vr rfl rfl) rfl
theorem begLoop (hw : w.length ≤ 900) (hn : rds.length ≤ 900) (hr : ∀ q ∈ rds, q.2.length ≤ 1000 ∧ ∀ p ∈ q.2, p.1 < 128) : ∀ (r : List (Bool × List (Nat × Nat))) (i : Nat), rds.drop i = r → i ≤ rds.length →
    (nBegins r (w.drop i) = true → Fo X L.be_b .nil (.one 2) (ups i r.length) [(0, .list (rds.map readAV)), (1, .str w)] [] .next) ∧ (nBegins r (w.drop i) = false → Fo X L.be_b .nil (.one 2) (ups i r.length) [(0, .list (rds.map readAV)), (1, .str w)] [] (.ret (.bool false)))
  | [], i, h, _ => ⟨fun _ => .nil (.end rfl), fun h => nomatch h⟩
  | q :: r, i, h, hi => by
    have hg := dropGet h
    have hq := hr q (List.mem_of_getElem? hg)
    have hi' : i ≤ 900 := lz hi hn
    have t := begTest (X := X) (rds := rds) (b := q.1) hw hi' hq.1 hq.2
    have st : RunS X (.asgT 3 4 (.idx (.var 0) (.var 2))) ((2, .int (i : Int)) :: fil 2 [(0, .list (rds.map readAV)), (1, .str w)]) (kG rds w i q.1 q.2) .next := .asgT (eIdx (vr rfl rfl) (vr rfl rfl) (ixL (by rw [List.getElem?_map, hg]; rfl) (lenMap hn (by decide)))) rfl rfl
    have ih := begLoop hw hn hr r (i + 1) (dropTail h) (ltOf hg)
    rw [← List.tail_drop] at ih
    have e : nBegins (q :: r) (w.drop i) = if inRg q.2 (w.drop i) = q.1 then false else nBegins r (w.drop i).tail := rfl
    by_cases hh : inRg q.2 (w.drop i) = q.1
    · rw [beq_iff_eq.mpr hh] at t
      rw [e, if_pos hh]
      exact ⟨(fun h => nomatch h), fun _ => .ret rfl (.seq st (.out (.iffT t (.out (.ret cs rfl)))))⟩
    · rw [beq_eq_false_iff_ne.mpr hh] at t
      rw [e, if_neg hh]
      have turn : Run X L.be_b ((2, .int (i : Int)) :: fil 2 [(0, .list (rds.map readAV)), (1, .str w)]) [(0, .list (rds.map readAV)), (1, .str w)] .next := .seq st (.sub (.one (.no t)) rfl)
      exact ⟨fun h => .step rfl turn (ih.1 h), fun h => .step rfl turn (ih.2 h)⟩
theorem be_run (hw : w.length ≤ 900) (hn : rds.length ≤ 900) (hr : ∀ q ∈ rds, q.2.length ≤ 1000 ∧ ∀ p ∈ q.2, p.1 < 128) : runFn X.Φ X.Γ X.Ξ lim L.f_be [.list (rds.map readAV), .str w] = some (.bool (nBegins rds w)) := by
  have z := begLoop (X := X) hw hn hr rds 0 rfl (Nat.zero_le _)
  have hl : EvL X (.range (.cons (.bi .len (.var 0)) .nil)) [(0, .list (rds.map readAV)), (1, .str w)] (ups 0 rds.length) := lRange (sC (eBi (vr rfl rfl) ((lL (lenMap hn (by decide))).trans (by rw [List.length_map]))) sN) (range_up (lim9 hn))
  rw [List.drop_zero] at z
  refine fn_run (l := [(0, .list (rds.map readAV)), (1, .str w)]) rfl rfl ?_
  cases h : nBegins rds w with
  | true => exact .seq (.loop hl (z.1 h)) (.out (.ret cs rfl))
  | false => exact .out (.loop hl (z.2 h))
end
end Mine.V
namespace Mine.V
noncomputable abbrev chrL (S : List Nat) : AV := .list (S.map fun c => .str [c])
noncomputable def spaced (col S : List Nat) : List Nat := col.map fun c => if S.contains c = true then c else 32
noncomputable def rangesN (col S : List Nat) : List Nat := ((wordsAt 32 [] (spaced col S)).map fun w => [w.headD 0, 45, w.getLastD 0]).flatten
theorem chrs_eq (S : List Nat) : S.map (fun c => AV.str [c]) = (S.map fun c => [c]).map AV.str := (List.map_map ..).symm
theorem ok128 {S : List Nat} (hS : ∀ x ∈ S, x < 128) : ((S.map fun c => [c]).all fun x => x.all (· < 1114112)) = true := List.all_eq_true.mpr fun x hx => (List.mem_map.mp hx).elim fun c hc => hc.2 ▸ (by
  show (decide (c < 1114112) && true) = true
  rw [dT (Nat.lt_trans (hS c hc.1) (by decide))]; rfl)
theorem any_chr (c : Nat) : ∀ S : List Nat, ((S.map fun x => [x]).any fun y => y == [c]) = S.contains c
  | [] => rfl
  | x :: S => by
    rw [List.map_cons, List.any_cons, any_chr c S, List.contains_cons, BEq.comm, beq1]; rfl
theorem in_chr {c : Nat} {S : List Nat} (hc : c < 128) (hS : ∀ x ∈ S, x < 128) : cmpV .isin (.str [c]) (chrL S) = some (S.contains c) :=
  (congrArg (inV (.str [c])) (chrs_eq S)).trans ((in_strs (ok128 (S := [c]) (fun x hx => mSg hx ▸ hc) |> fun h => (Bool.and_true _).symm.trans h) (ok128 hS)).trans (congrArg some (any_chr c S)))
theorem chr_nil {S : List Nat} (hS : ∀ x ∈ S, x < 128) : cmpV .eq (chrL S) (.list []) = some S.isEmpty := by
  refine (eq_nilOf (by rw [chrs_eq]; exact okEs_strs (ok128 hS))).trans ?_
  cases S <;> rfl
theorem joinChr {T : List Nat} (hl : T.length ≤ lim) : methV .join (.str []) [chrL T] = some (.str T) := (joinE rfl (strs_chr T) (by rw [flat_chr]; exact hl)).trans (by rw [flat_chr])
theorem words_ok : ∀ (s cur : List Nat), (∀ w ∈ wordsAt 32 cur s, w ≠ [] ∧ w.length ≤ cur.length + s.length) ∧ (wordsAt 32 cur s).length ≤ cur.length + s.length
  | [], [] => ⟨(fun _ h => nomatch h), Nat.le_refl _⟩
  | [], c :: r => ⟨(fun w h => by cases mSg h; exact ⟨List.cons_ne_nil _ _, Nat.le_refl _⟩), Nat.le_add_left 1 _⟩
  | x :: s, cur => by
    rw [show wordsAt 32 cur (x :: s) = if x == 32 then (if cur.isEmpty then wordsAt 32 [] s else cur :: wordsAt 32 [] s) else wordsAt 32 (cur ++ [x]) s from rfl]
    have h0 := words_ok s []
    have h1 := words_ok s (cur ++ [x])
    rw [lnA, Nat.add_assoc, Nat.add_comm [x].length] at h1
    rw [List.length_nil, Nat.zero_add] at h0
    rw [List.length_cons]
    have zz : s.length ≤ cur.length + (s.length + 1) := lz (Nat.le_succ _) (Nat.le_add_left _ _)
    by_cases h : (x == 32) = true
    · rw [if_pos h]
      cases cur with
      | nil => exact ⟨fun w hw => ⟨(h0.1 w hw).1, lz (h0.1 w hw).2 zz⟩, lz h0.2 zz⟩
      | cons c r =>
        exact ⟨fun w hw => (mCo hw).elim (fun e => by cases e; exact ⟨List.cons_ne_nil _ _, Nat.le_add_right _ _⟩) fun hw => ⟨(h0.1 w hw).1, lz (h0.1 w hw).2 zz⟩, lz (sl2 h0.2) (Nat.le_add_left _ _)⟩
    · rw [if_neg h]; exact h1
theorem flat3 : ∀ l : List (List Nat), ((l.map fun w => [w.headD 0, 45, w.getLastD 0]).flatten).length = 3 * l.length
  | [] => rfl
  | x :: r => (congrArg (· + 1 + 1 + 1) (flat3 r) : _ = 3 * r.length + 3)
section
variable {X : Cx} {l : Kn} {k : Nat} {col S : List Nat} {d : Nat}
theorem ranges_len (hl : col.length ≤ 100) : (rangesN col S).length ≤ 300 := by
  unfold rangesN
  rw [flat3]
  exact Nat.mul_le_mul_left 3 (lz (words_ok (spaced col S) []).2 (by rw [spaced, List.length_map, List.length_nil, Nat.zero_add]; exact hl))
theorem rn_run (hcol : ∀ c ∈ col, 32 < c ∧ c < 127) (hS : ∀ x ∈ S, x < 128) (hl : col.length ≤ 100) : runFn X.Φ X.Γ X.Ξ lim L.f_rn [.str col, chrL S] = some (.str (rangesN col S)) := by
  have hc : ∀ c ∈ col, c < 128 := fun c h => Nat.lt_trans (hcol c h).2 (by decide)
  have hlc : (spaced col S).length = col.length := List.length_map ..
  have hw := words_ok (spaced col S) []
  rw [hlc, List.length_nil, Nat.zero_add] at hw
  have c1 := eMap (X := X) (l := [(0, .str col), (1, chrL S)]) (caps := [1]) (t := 4) (it := .ex (.var 0)) (e := .ite (.cmp (.var 4) .isin (.var 1)) (.var 4) (.cst (.str [32]))) (B := col) (g := fun c => .str [c]) (k := fun c => .str [if S.contains c = true then c else 32])
    (iEx (vr rfl rfl) (if_pos (List.all_eq_true.mpr fun c h => dT (hc c h)))) rfl rfl rfl (fun c h => ⟨by
      have z : EvB X (.cmp (.var 4) .isin (.var 1)) ((4, .str [c]) :: onlyL [1] [(0, .str col), (1, chrL S)]) (S.contains c) := bCmp (vr rfl rfl) (vr rfl rfl) (in_chr (hc c h) hS)
      cases hs : S.contains c with
      | true => exact eT (hs ▸ z) (vr rfl rfl)
      | false => exact eF (hs ▸ z) cs, rfl⟩) (lz hl (by decide))
  rw [show col.map (fun c => AV.str [if S.contains c = true then c else 32]) = (spaced col S).map fun c => .str [c] from (List.map_map (l := col) (f := fun c => if S.contains c = true then c else 32) (g := fun c => AV.str [c])).symm] at c1
  have s1 : (spaced col S).all (fun c => 32 ≤ c && c < 127) = true := List.all_eq_true.mpr fun x hx => (List.mem_map.mp hx).elim fun c h => h.2 ▸ by
    have := hcol c h.1
    by_cases q : S.contains c = true
    · rw [if_pos q, dT (Nat.le_of_lt this.1), dT this.2]; rfl
    · rw [if_neg q]; rfl
  have c2 := eMap (X := X) (l := [(2, .list ((wordsAt 32 [] (spaced col S)).map .str)), (0, .str col), (1, chrL S)]) (caps := []) (t := 3) (it := .ex (.var 2)) (e := .bin .add (.bin .add (.idx (.var 3) (.cst (.int 0))) (.cst (.str [45]))) (.idx (.var 3) (.neg (.cst (.int 1))))) (B := wordsAt 32 [] (spaced col S)) (g := .str) (k := fun w => .str [w.headD 0, 45, w.getLastD 0])
    (iEx (vr rfl rfl) rfl) rfl rfl rfl (fun w h => ⟨by
      have z := hw.1 w h
      cases w with
      | nil => exact absurd rfl z.1
      | cons a r =>
        have zl := lz z.2 (lz hl (by decide : 100 ≤ lim))
        exact eBin (eBin (eIdx (vr rfl rfl) cs (ixS (n := 0) rfl zl)) cs (adS (lq rfl))) (eIdx (vr rfl rfl) m1 (ixSl (k := (a :: r).getLastD 0) (by rw [List.getLastD_eq_getLast?, List.getLast?_cons]; rfl) zl)) (adS (lq rfl)), rfl⟩) (lz hw.2 (lz hl (by decide)))
  exact fn_run (l := [(0, .str col), (1, chrL S)]) rfl rfl (.asg (eMeth (eMeth cs (sC c1 sN) (joinChr (by rw [hlc]; exact lz hl (by decide)))) sN (if_pos ⟨rfl, s1, by rw [hlc]; exact lz hl (by decide)⟩)) rfl rfl
    (.out (.ret (eMeth cs (sC c2 sN) (joinE (z := (wordsAt 32 [] (spaced col S)).map fun w => [w.headD 0, 45, w.getLastD 0]) rfl ((congrArg strsOf (List.map_map (l := wordsAt 32 [] (spaced col S)) (f := fun w => [w.headD 0, 45, w.getLastD 0]) (g := AV.str)).symm).trans (strs_map _)) (lz (ranges_len (S := S) hl) (by decide)))) rfl)))
end
noncomputable def barN (col S : List Nat) : List Nat := col.filter fun c => !S.contains c
noncomputable def someN (T : List Nat) : List Nat := repC 45 [] T ++ if T.contains 45 = true then [45] else []
noncomputable def fullN (col : List Nat) : List (List Nat) := [[63], [91, 33, 98, 45, 97, 93], [91] ++ [col.headD 0] ++ [45] ++ [col.getLastD 0] ++ [93], [91, 98, 45, 97, 33, 93], [91] ++ col ++ [93]]
noncomputable def voidN (col : List Nat) : List (List Nat) := [[91, 98, 45, 97, 93], [91, 33] ++ col ++ [93], [91, 98, 45, 97, 100, 45, 99, 93]]
noncomputable def setN (col S : List Nat) : List (List Nat) := [S, [33] ++ rangesN col (barN col S), rangesN col S, S ++ [98, 45, 97], [98, 45, 97, 33] ++ someN (barN col S), [93] ++ someN S, [33, 93] ++ someN (barN col S), [94] ++ someN S, [91] ++ someN S, [38, 38, 126, 126, 124, 124, 92] ++ someN S]
noncomputable def restN (col S : List Nat) (d : Nat) : List Nat := [91] ++ (setN col S).getD d [] ++ [93]
theorem repLen (c : Nat) : ∀ l : List Nat, (repC c [] l).length ≤ l.length
  | [] => Nat.le_refl _
  | x :: r => by
    show (if x == c then [] ++ repC c [] r else x :: repC c [] r).length ≤ _
    by_cases h : (x == c) = true
    · rw [if_pos h]; exact Nat.le_succ_of_le (repLen c r)
    · rw [if_neg h]; exact sl2 (repLen c r)
theorem hyLen (T : List Nat) : (if T.contains 45 = true then [45] else []).length ≤ 1 := by split <;> decide
theorem someLen {T : List Nat} (h : T.length ≤ 100) : (someN T).length ≤ 101 := by
  unfold someN
  rw [lnA]
  exact Nat.add_le_add (lz (repLen 45 T) h) (hyLen T)
theorem apLen {a b : List Nat} {n m : Nat} (h : b.length ≤ n) (hn : a.length + n ≤ m) : (a ++ b).length ≤ m := lnA ▸ lz (Nat.add_le_add_left h _) hn
theorem pbLen {a b : List Nat} {n m : Nat} (h : a.length ≤ n) (hn : n + b.length ≤ m) : (a ++ b).length ≤ m := lnA ▸ lz (Nat.add_le_add_right h _) hn
section
variable {X : Cx} {l : Kn} {a b t : PE} {k n : Nat} {col S T x y : List Nat} {d : Nat} {c : Bool}
theorem ixM {z : List (List Nat)} (h : n < z.length) (hl : z.length ≤ 100) : idxI (.list (z.map .str)) (n : Int) = some (.str (z.getD n [])) := ixL (by rw [List.getElem?_map, List.getElem?_eq_getElem h, List.getD_eq_getElem?_getD, List.getElem?_eq_getElem h]; rfl) (lenMap hl (by decide))
theorem eIf (h : EvB X t l c) (ha : Ev X a l (.str x)) (hb : Ev X b l (.str y)) : Ev X (.ite t a b) l (.str (if c = true then x else y)) := by
  cases c with
  | true => exact eT h ha
  | false => exact eF h hb
theorem eApp (ha : Ev X a l (.str x)) (hb : Ev X b l (.str y)) (h : x.length + y.length ≤ 1000) : Ev X (.bin .add a b) l (.str (x ++ y)) := eBin ha hb (adS (lz h (by decide)))
theorem nilB (h : lk k l = some (chrL T)) (hT : ∀ x ∈ T, x < 128) : EvB X (.cmp (.var k) .eq (.lst .nil)) l T.isEmpty := bCmp (vr h rfl) (eLst sN rfl) (chr_nil hT)
theorem eSome (ha : Ev X a l (.str T)) (h : lk k l = some (chrL T)) (hT : ∀ x ∈ T, x < 128) (hl : T.length ≤ 100) : Ev X (.bin .add (.meth .replace a (.cons (.cst (.str [45])) (.cons (.cst (.str [])) .nil))) (.ite (.cmp (.cst (.str [45])) .isin (.var k)) (.cst (.str [45])) (.cst (.str [])))) l (.str (someN T)) :=
  eApp (eMeth ha (sC cs (sC cs sN)) (bI rfl (bI rfl (bI rfl (bI rfl (if_pos ⟨lz hl (by decide), by decide⟩)))))) (eIf (bCmp cs (vr h rfl) (in_chr (by decide) hT)) cs cs) (lz (Nat.add_le_add (lz (repLen 45 T) hl) (hyLen T)) (by decide))
theorem fullE (hne : col ≠ []) (hl : col.length ≤ 100) (h0 : lk 0 l = some (.str col)) (h2 : lk 2 l = some (.int (d : Int))) : Ev X (.idx (.lst (.cons (.cst (.str [63])) (.cons (.cst (.str [91, 33, 98, 45, 97, 93])) (.cons (.bin .add (.bin .add (.bin .add (.bin .add (.cst (.str [91])) (.idx (.var 0) (.cst (.int 0)))) (.cst (.str [45]))) (.idx (.var 0) (.neg (.cst (.int 1))))) (.cst (.str [93]))) (.cons (.cst (.str [91, 98, 45, 97, 33, 93])) (.cons (.bin .add (.bin .add (.cst (.str [91])) (.var 0)) (.cst (.str [93]))) .nil)))))) (.bin .mod (.var 2) (.cst (.int 5)))) l (.str ((fullN col).getD (d % 5) [])) := by
  have hll : col.length ≤ lim := lz hl (by decide)
  refine eIdx (eLst (xs := (fullN col).map .str) (sC cs (sC cs (sC ?_ (sC cs (sC (eApp (eApp cs (vr h0 rfl) ?_) cs ?_) sN))))) rfl) (eModN (vr h2 rfl) (cs (v := .int ((5 : Nat) : Int))) (by decide) (by decide)) (ixM (Nat.mod_lt _ (Nat.succ_pos 4)) (lq rfl))
  · cases col with
    | nil => exact absurd rfl hne
    | cons a r => exact eApp (eApp (eApp (eApp cs (eIdx (vr h0 rfl) cs (ixS (n := 0) rfl hll)) (lq rfl)) cs (lq rfl)) (eIdx (vr h0 rfl) m1 (ixSl (k := (a :: r).getLastD 0) (by rw [List.getLastD_eq_getLast?, List.getLast?_cons]; rfl) hll)) (lq rfl)) cs (lq rfl)
  · exact lz (Nat.add_le_add_left hl _) (by decide)
  · exact lz (Nat.add_le_add_right (apLen (m := 101) hl (by decide)) _) (by decide)
noncomputable abbrev kWr (col S : List Nat) (d : Nat) : Kn := [(3, chrL (barN col S)), (0, .str col), (1, chrL S), (2, .int (d : Int))]
noncomputable abbrev kUr (col S : List Nat) (d : Nat) : Kn := (6, .str (someN (barN col S))) :: (5, .str (someN S)) :: (4, .str S) :: kWr col S d
theorem wbar {r : PSs} {f : Fl} {l' : Kn} (hcol : ∀ c ∈ col, c < 128) (hS : ∀ x ∈ S, x < 128) (hl : col.length ≤ 100) (h : Run X r (kWr col S d) l' f) : Run X (.cons (.asg 3 (.comp [1] (.clause (.one 7) (.ex (.var 0)) (.cons (.cmp (.var 7) .notin (.var 1)) .nil) (.done (.var 7))))) r) [(0, .str col), (1, chrL S), (2, .int (d : Int))] l' f :=
  .asg (eFil (l := [(0, .str col), (1, chrL S), (2, .int (d : Int))]) (caps := [1]) (t := 7) (B := col) (g := fun c => .str [c]) (k := fun c => .str [c]) (p := fun c => !S.contains c) (iEx (vr rfl rfl) (if_pos (List.all_eq_true.mpr fun c h => dT (hcol c h)))) rfl rfl rfl
    (fun c h => ⟨a1 (bCmp (vr rfl rfl) (vr rfl rfl) (congrArg (Option.map not) (in_chr (hcol c h) hS))), (fun _ => vr rfl rfl), rfl⟩) (lz hl (by decide))) rfl rfl h
theorem setLen (hlc : col.length ≤ 100) (hlS : S.length ≤ 100) (hlT : (barN col S).length ≤ 100) : ∀ x ∈ setN col S, x.length ≤ 400 :=
  fMc ⟨lz hlS (by decide), fMc ⟨apLen (ranges_len hlc) (by decide), fMc ⟨lz (ranges_len hlc) (by decide), fMc ⟨pbLen hlS (by decide), fMc ⟨apLen (someLen hlT) (by decide), fMc ⟨apLen (someLen hlS) (by decide),
    fMc ⟨apLen (someLen hlT) (by decide), fMc ⟨apLen (someLen hlS) (by decide), fMc ⟨apLen (someLen hlS) (by decide), fMc ⟨apLen (someLen hlS) (by decide), fun _ h => nomatch h⟩⟩⟩⟩⟩⟩⟩⟩⟩⟩
theorem getLe {z : List (List Nat)} {m : Nat} (h : ∀ x ∈ z, x.length ≤ m) : ∀ n, (z.getD n []).length ≤ m := fun n => by
  rw [List.getD_eq_getElem?_getD]
  cases e : z[n]? with
  | none => exact Nat.zero_le _
  | some x => exact h x (List.mem_of_getElem? e)
theorem setE (hlc : col.length ≤ 100) (hlS : S.length ≤ 100) (hlT : (barN col S).length ≤ 100) (hd : d < 10) (h1 : X.Φ L.i_rn [.str col, chrL S] = some (.str (rangesN col S))) (h2 : X.Φ L.i_rn [.str col, chrL (barN col S)] = some (.str (rangesN col (barN col S)))) :
    Ev X (.bin .add (.bin .add (.cst (.str [91])) (.idx (.lst (.cons (.var 4) (.cons (.bin .add (.cst (.str [33])) (.call L.i_rn (.cons (.var 0) (.cons (.var 3) .nil)))) (.cons (.call L.i_rn (.cons (.var 0) (.cons (.var 1) .nil))) (.cons (.bin .add (.var 4) (.cst (.str [98, 45, 97]))) (.cons (.bin .add (.cst (.str [98, 45, 97, 33])) (.var 6)) (.cons (.bin .add (.cst (.str [93])) (.var 5)) (.cons (.bin .add (.cst (.str [33, 93])) (.var 6)) (.cons (.bin .add (.cst (.str [94])) (.var 5)) (.cons (.bin .add (.cst (.str [91])) (.var 5)) (.cons (.bin .add (.cst (.str [38, 38, 126, 126, 124, 124, 92])) (.var 5)) .nil))))))))))) (.var 2))) (.cst (.str [93]))) (kUr col S d) (.str (restN col S d)) := by
  have pp : ∀ T, plains [.str col, chrL T] = some [.str col, chrL T] := fun T => rfl
  have w : ∀ {p q : List Nat} {n : Nat}, q.length ≤ n → p.length + n ≤ 1000 → p.length + q.length ≤ 1000 := fun h h' => lz (Nat.add_le_add_left h _) h'
  exact eApp (eApp cs (eIdx (eLst (xs := (setN col S).map .str) (sC (vr rfl rfl) (sC (eApp cs (eCall (sC (vr rfl rfl) (sC (vr rfl rfl) sN)) (pp _) h2) (w (ranges_len hlc) (by decide))) (sC (eCall (sC (vr rfl rfl) (sC (vr rfl rfl) sN)) (pp _) h1)
    (sC (eApp (vr rfl rfl) cs (Nat.add_le_add (lz hlS (by decide : 100 ≤ 900)) (by decide : 3 ≤ 100))) (sC (eApp cs (vr rfl rfl) (w (someLen hlT) (by decide))) (sC (eApp cs (vr rfl rfl) (w (someLen hlS) (by decide))) (sC (eApp cs (vr rfl rfl) (w (someLen hlT) (by decide))) (sC (eApp cs (vr rfl rfl) (w (someLen hlS) (by decide)))
    (sC (eApp cs (vr rfl rfl) (w (someLen hlS) (by decide))) (sC (eApp cs (vr rfl rfl) (w (someLen hlS) (by decide))) sN)))))))))) rfl) (vr rfl rfl) (ixM hd (lq rfl))) (w (getLe (setLen hlc hlS hlT) d) (by decide))) cs (lz (Nat.add_le_add_right (apLen (getLe (setLen hlc hlS hlT) d) (by decide : _ ≤ 401)) _) (by decide))
end
noncomputable def partN (w : List Nat) : Option (List Nat) := w.head?.bind fun c => if c = 63 then (if w = [63] then some [46] else none) else if c = 91 then (if w.getLast? = some 93 ∧ hd1 33 w.tail.dropLast < w.tail.dropLast.length ∧ (w.tail.dropLast.drop (hd1 33 w.tail.dropLast + 1)).contains 93 = false then brkPart w.tail.dropLast else none)
  else if c = 42 then none else if w.tail = [] then some (escC c) else none
noncomputable def readC (col S : List Nat) (q : Bool × List (Nat × Nat)) : Bool := decide (q.2.length ≤ 1000) && ((q.2.all fun p => decide (p.1 < 128 ∧ p.2 < 128)) && col.all fun c => (inRg q.2 [c] != q.1) == S.contains c)
noncomputable def itemC (col S w : List Nat) : Bool := decide (w.length ≤ 60) && (w.all (fun c => decide (c < 128)) && (partN w).elim false fun p => decide (p.length ≤ 140) && (nRead p).elim false (readC col S))
structure Ltr (col S w p : List Nat) (q : Bool × List (Nat × Nat)) : Prop where
  wl : w.length ≤ 60
  wc : ∀ c ∈ w, c < 128
  pt : partN w = some p
  pl : p.length ≤ 140
  rd : nRead p = some q
  ql : q.2.length ≤ 1000
  qc : ∀ r ∈ q.2, r.1 < 128 ∧ r.2 < 128
  sem : ∀ c ∈ col, (inRg q.2 [c] != q.1) = S.contains c
theorem all_of {α : Type} {l : List α} {p : α → Prop} [DecidablePred p] (h : (l.all fun x => decide (p x)) = true) : ∀ x ∈ l, p x := fun x hx => of_decide_eq_true (List.all_eq_true.mp h x hx)
theorem ltr_of {col S w : List Nat} (h : itemC col S w = true) : ∃ p q, Ltr col S w p q := by
  have h1 := bE h
  have h2 := bE h1.2
  cases hp : partN w with
  | none => rw [hp] at h2; cases h2.2
  | some p =>
    rw [hp] at h2
    have h3 := bE h2.2
    cases hq : nRead p with
    | none => rw [hq] at h3; cases h3.2
    | some q =>
      rw [hq] at h3
      have h4 := bE (show readC col S q = true from h3.2)
      have h5 := bE h4.2
      exact ⟨p, q, of_decide_eq_true h1.1, all_of h2.1, hp, of_decide_eq_true h3.1, hq, of_decide_eq_true h4.1, all_of h5.1, fun c hc => eq_of_beq (List.all_eq_true.mp h5.2 c hc)⟩
theorem upTo_at : ∀ {l : List Nat} (r : List Nat), l.contains 93 = false → upTo (l ++ 93 :: r) = l.length
  | [], _, _ => if_pos rfl
  | c :: l, r, h => by
    rw [List.contains_cons] at h
    have h := Bool.or_eq_false_iff.mp h
    have h1 : c ≠ 93 := fun e => by rw [e] at h; exact absurd h.1 (by decide)
    exact (upTo_ne h1).trans (congrArg (· + 1) (upTo_at r h.2))
theorem close_at {s r : List Nat} (hl : hd1 33 s < s.length) (h : (s.drop (hd1 33 s + 1)).contains 93 = false) : closeJ (s ++ 93 :: r) = s.length := by
  have ha : hd1 33 (s ++ 93 :: r) = hd1 33 s := by
    cases s with
    | nil => cases hl
    | cons c t => rfl
  unfold closeJ
  rw [ha, List.drop_append_of_le_length (Nat.le_of_lt hl)]
  generalize hd1 33 s = a at hl h
  cases e : s.drop a with
  | nil => exact absurd (List.drop_eq_nil_iff.mp e) (Nat.not_le.mpr hl)
  | cons c t =>
    have ht := dropTail e
    have hs := dropSum e (Nat.le_of_lt hl)
    rw [ht] at h
    by_cases hc : c = 93
    · subst hc
      rw [show hd1 93 (93 :: t ++ 93 :: r) = 1 from hd1_T, ← List.drop_drop, List.drop_append_of_le_length (Nat.le_of_lt hl), e]
      show a + 1 + upTo (t ++ 93 :: r) = _
      rw [upTo_at r h, Nat.add_right_comm, ← hs]; rfl
    · rw [show hd1 93 (c :: t ++ 93 :: r) = 0 from hd1_F hc, Nat.add_zero, List.drop_append_of_le_length (Nat.le_of_lt hl), e]
      show a + upTo (c :: (t ++ 93 :: r)) = _
      rw [upTo_ne hc, upTo_at r h, ← hs]; rfl
theorem nTr_cons (f : Nat) (R : List Pt) (c : Nat) (t : List Nat) : nTr (f + 1) R (c :: t) = if c = 42 then nTr f (if R.getLast? = some none then R else R ++ [none]) t
      else if c = 63 then nTr f (R ++ [some [46]]) t
      else if c = 91 then (if closeJ t < t.length then (brkPart (t.take (closeJ t))).bind fun p => nTr f (R ++ [some p]) (t.drop (closeJ t + 1)) else nTr f (R ++ [some [92, 91]]) t)
      else nTr f (R ++ [some (escC c)]) t := rfl
theorem part_tr {w p : List Nat} (h : partN w = some p) (f : Nat) (R : List Pt) (rest : List Nat) : nTr (f + 1) R (w ++ rest) = nTr f (R ++ [some p]) rest := by
  cases w with
  | nil => cases h
  | cons c t =>
    have h : (if c = 63 then (if c :: t = [63] then some [46] else none) else if c = 91 then (if (c :: t).getLast? = some 93 ∧ hd1 33 t.dropLast < t.dropLast.length ∧ (t.dropLast.drop (hd1 33 t.dropLast + 1)).contains 93 = false then brkPart t.dropLast else none) else if c = 42 then none else if t = [] then some (escC c) else none) = some p := h
    rw [List.cons_append, nTr_cons]
    by_cases h63 : c = 63
    · rw [if_pos h63] at h
      refine iteE h fun e1 e2 => ?_
      rw [if_neg (by rw [h63]; decide), if_pos h63, (List.cons.inj e1).2, ← e2]; rfl
    rw [if_neg h63] at h
    by_cases h91 : c = 91
    · rw [if_pos h91] at h
      refine iteB h fun e h => ?_
      rw [if_neg (by rw [h91]; decide), if_neg h63, if_pos h91]
      have ht : t ++ rest = t.dropLast ++ 93 :: rest := by
        cases t with
        | nil => cases e.2.1
        | cons x y =>
          obtain ⟨z, hz⟩ := List.getLast?_eq_some_iff.mp (show (x :: y).getLast? = some 93 from e.1)
          rw [hz, List.dropLast_concat, List.append_assoc]; rfl
      rw [ht, close_at e.2.1 e.2.2, if_pos (by rw [lnA]; exact Nat.lt_add_of_pos_right (Nat.succ_pos _)), List.take_left, h]
      refine congrArg (nTr f _) ?_
      rw [← List.drop_drop, List.drop_left]; rfl
    rw [if_neg h91] at h
    by_cases h42 : c = 42
    · rw [if_pos h42] at h; exact noneE h
    rw [if_neg h42] at h
    refine iteE h fun e1 e2 => ?_
    rw [if_neg h42, if_neg h63, if_neg h91, e1, ← e2]; rfl
section
variable {β : Type} {wf pf : β → List Nat}
theorem items_tr : ∀ (fr : List β), (∀ u ∈ fr, partN (wf u) = some (pf u)) → ∀ (f : Nat) (R : List Pt) (rest : List Nat), nTr (f + fr.length) R ((fr.map wf).flatten ++ rest) = nTr f (R ++ fr.map fun u => some (pf u)) rest
  | [], _, f, R, rest => congrArg (nTr f · rest) (List.append_nil R).symm
  | u :: fr, h, f, R, rest => by
    have e : ((u :: fr).map wf).flatten ++ rest = wf u ++ ((fr.map wf).flatten ++ rest) := List.append_assoc ..
    rw [e]
    refine (part_tr (h u (.head _)) (f + fr.length) R _).trans ((items_tr fr (fun v hv => h v (.tail _ hv)) f _ rest).trans ?_)
    rw [List.append_assoc]; rfl
theorem stars_tr {rest : List Nat} : ∀ (m f : Nat) (R : List Pt), nTr (f + m) (R ++ [none]) (List.replicate m 42 ++ rest) = nTr f (R ++ [none]) rest
  | 0, _, _ => rfl
  | m + 1, f, R => by
    refine (nTr_cons (f + m) (R ++ [none]) 42 (List.replicate m 42 ++ rest)).trans ?_
    rw [if_pos rfl, if_pos List.getLast?_concat]
    exact stars_tr m f R
theorem star_tr {R : List Pt} (hR : R.getLast? ≠ some none) (f : Nat) (t : List Nat) : nTr (f + 1) R (42 :: t) = nTr f (R ++ [none]) t := by
  rw [nTr_cons, if_pos rfl, if_neg hR]
theorem pat_tr {fr : List β} (h : ∀ u ∈ fr, partN (wf u) = some (pf u)) (hne : fr ≠ []) {m : Nat} (hl : fr.length + m ≤ 990) : nTr 1000 [] (List.replicate (m + 1) 42 ++ ((fr.map wf).flatten ++ [42, 42])) = some ([none] ++ fr.map (fun u => some (pf u)) ++ [none]) := by
  have e : 1000 = (990 - (fr.length + m) + 9 + fr.length + m) + 1 := by rw [Nat.add_assoc _ fr.length m, Nat.add_right_comm (990 - _) 9, Nat.sub_add_cancel hl]
  rw [e]
  refine (star_tr (R := []) (fun q => absurd (show (none : Option Pt) = some none from q) nofun) _ _).trans ((stars_tr m _ []).trans ((items_tr fr h _ _ _).trans ((star_tr (fun q => ?_) _ _).trans ?_)))
  · rw [List.getLast?_append, List.getLast?_map, List.getLast?_eq_some_getLast hne] at q; cases q
  · exact stars_tr (rest := []) 1 _ _
noncomputable def takesB : List Bool → List Bool → Bool
  | [], _ => true
  | _ :: _, [] => false
  | u :: l, b :: w => (u == b) && takesB l w
theorem begins_takes {col S : List Nat} {qf : β → Bool × List (Nat × Nat)} {bf : β → Bool} : ∀ (fr : List β) (w : List Nat), (∀ u ∈ fr, ∀ c ∈ col, (inRg (qf u).2 [c] != (qf u).1) = (bf u == S.contains c)) → (∀ c ∈ w, c ∈ col) → fr.length ≤ w.length → nBegins (fr.map qf) w = takesB (fr.map bf) (w.map S.contains)
  | [], _, _, _, _ => rfl
  | u :: fr, [], _, _, h => absurd h (Nat.not_succ_le_zero _)
  | u :: fr, c :: w, h, hw, hl => by
    have ih := begins_takes fr w (fun v hv => h v (.tail _ hv)) (fun x hx => hw x (.tail _ hx)) (Nat.le_of_succ_le_succ hl)
    show (if inRg (qf u).2 [c] = (qf u).1 then false else nBegins (fr.map qf) w) = ((bf u == S.contains c) && takesB (fr.map bf) (w.map S.contains))
    rw [ih, ← h u (.head _) c (hw c (.head _))]
    cases inRg (qf u).2 [c] <;> cases (qf u).1 <;> rfl
end
end Mine.V
namespace Mine.V
open PySem
def Rf (n : Nat) (v : AV) : Prop := okE v n = true ∧ PyData.eqv (toP v) (toP v) = true
def Rfs (n : Nat) (xs : List AV) : Prop := okEs xs n = true ∧ PyData.eqvAll (toPs xs) (toPs xs) = true
theorem rf_str {n : Nat} {s : List Nat} (h : ∀ c ∈ s, c < 128) : Rf n (.str s) := ⟨List.all_eq_true.mpr fun c hc => dT (Nat.lt_trans (h c hc) (lq rfl)), (eqv_str s s).trans (beq_self_eq_true s)⟩
theorem rf_int {n : Nat} {i : Int} : Rf n (.int i) := ⟨rfl, beq_self_eq_true i⟩
theorem rfs_of {n : Nat} : ∀ {xs : List AV}, (∀ x ∈ xs, Rf n x) → Rfs n xs
  | [], _ => ⟨rfl, rfl⟩
  | x :: xs, h => ⟨bM ⟨(h x (.head _)).1, (rfs_of fun y hy => h y (.tail _ hy)).1⟩, bM ⟨(h x (.head _)).2, (rfs_of fun y hy => h y (.tail _ hy)).2⟩⟩
theorem rf_list {n : Nat} {xs : List AV} (h : ∀ x ∈ xs, Rf n x) : Rf (n + 1) (.list xs) := ⟨(rfs_of h).1, (rfs_of h).2⟩
theorem rf_map {α : Type} {n : Nat} {f : α → AV} {l : List α} (h : ∀ x ∈ l, Rf n (f x)) : Rf (n + 1) (.list (l.map f)) := rf_list fun x hx => (List.mem_map.mp hx).elim fun a ha => ha.2 ▸ h a ha.1
theorem eq_self {xs : List AV} (h : Rf 8 (.list xs)) : eqV (.list xs) (.list xs) = some true := (if_pos (bM ⟨h.1, h.1⟩)).trans (congrArg some h.2)
theorem ne_self {xs : List AV} (h : Rf 8 (.list xs)) : cmpV .ne (.list xs) (.list xs) = some false := congrArg (Option.map not) (eq_self h)
section
variable {X : Cx} {l : Kn} {a b i e e1 e2 : PE} {k n m : Nat} {xs : List AV} {caps : List Nat}
theorem ePow (hb : Ev X b l (.int (k : Int))) (hk : k ≤ 100) : Ev X (.bin .pow (.cst (.int 10)) b) l (.int ((10 ^ k : Nat) : Int)) := eBin cs hb (bI rfl (bI rfl ((if_pos ⟨Int.natCast_nonneg k, Int.ofNat_le.mpr hk, by decide, by decide⟩).trans (congrArg (fun z => some (AV.int z)) (Int.natCast_pow 10 k).symm))))
theorem ix1 {α : Type} {z : List α} {g : α → AV} {x : α} (h : z[n]? = some x) (hl : z.length ≤ 900) : idxI (.list (z.map g)) (n : Int) = some (g x) := ixL (by rw [List.getElem?_map, h]; rfl) (lenMap hl (lq rfl))
theorem eAddI {x y : Int} (ha : Ev X a l (.int x)) (hb : Ev X b l (.int y)) : Ev X (.bin .add a b) l (.int (x + y)) := eBin ha hb rfl
end
noncomputable def writN (col S : List Nat) (d : Nat) : List Nat := if barN col S = [] then (fullN col).getD (d % 5) [] else if d = 0 ∧ S.length = 1 ∧ S ≠ [63] then S else restN col S d
theorem one63 {c : Nat} (hc : c < 128) : cmpV .ne (chrL [c]) (.list [.str [63]]) = some (!decide (c = 63)) := by
  have h : PyData.eqv (toP (chrL [c])) (toP (.list [.str [63]])) = decide (c = 63) := by
    show (PyData.eqv (toP (.str [c])) (toP (.str [63])) && true) = _
    rw [eqv_str, beq1, Bool.and_true]
  have k : okE (chrL [c]) 8 = true := (rf_map (n := 7) (l := [c]) (f := fun c => .str [c]) fun x hx => rf_str fun d hd => mSg hd ▸ mSg hx ▸ hc).1
  exact congrArg (Option.map not) ((if_pos (bM ⟨k, rfl⟩)).trans (congrArg some h))
section
variable {X : Cx} {col S : List Nat} {d : Nat}
theorem emF {T : List Nat} (h : T ≠ []) : T.isEmpty = false := by
  cases T with
  | nil => exact absurd rfl h
  | cons _ _ => rfl
theorem lone_test {c : Bool} (hS : ∀ x ∈ S, x < 128) (hlS : S.length ≤ 100) (h : decide (d = 0 ∧ S.length = 1 ∧ S ≠ [63]) = c) : EvB X (.and (.cons (.cmp (.var 2) .eq (.cst (.int 0))) (.cons (.cmp (.bi .len (.var 1)) .eq (.cst (.int 1))) (.cons (.cmp (.var 1) .ne (.lst (.cons (.cst (.str [63])) .nil))) .nil)))) (kWr col S d) c := by
  have t2 : EvB X (.cmp (.var 2) .eq (.cst (.int 0))) (kWr col S d) (decide (d = 0)) := bCmp (vr rfl rfl) cs (cEqI d 0)
  have t4 : EvB X (.cmp (.bi .len (.var 1)) .eq (.cst (.int 1))) (kWr col S d) (decide (S.length = 1)) := bCmp (eBi (vr rfl rfl) ((lL (lenMap hlS (by decide))).trans (by rw [List.length_map]))) cs (cEqI _ 1)
  by_cases h0 : d = 0
  · rw [dT h0] at t2
    by_cases h1 : S.length = 1
    · rw [dT h1] at t4
      have ⟨a, ha⟩ := List.length_eq_one_iff.mp h1
      cases ha
      · have e : (!decide (a = 63)) = c := by
          rw [← h, ← decide_not]
          exact decide_eq_decide.mpr ⟨fun q => ⟨h0, rfl, fun e => q (List.cons.inj e).1⟩, fun q e => q.2.2 (e ▸ rfl)⟩
        exact bAnd (aT t2 (aT t4 (a1 (e ▸ bCmp (vr rfl rfl) (eLst (sC cs sN) rfl) (one63 (hS a (.head _)))))))
    · rw [dF h1] at t4
      exact (dF (fun q : d = 0 ∧ S.length = 1 ∧ S ≠ [63] => h1 q.2.1)).symm.trans h ▸ bAnd (aT t2 (aF t4))
  · rw [dF h0] at t2
    exact (dF (fun q : d = 0 ∧ S.length = 1 ∧ S ≠ [63] => h0 q.1)).symm.trans h ▸ bAnd (aF t2)
theorem wr_run (hcol : ∀ c ∈ col, c < 128) (hne : col ≠ []) (hS : ∀ x ∈ S, x < 128) (hlc : col.length ≤ 100) (hlS : S.length ≤ 100) (hd : d < 10) (hΦ : ∀ T, (∀ x ∈ T, x < 128) → X.Φ L.i_rn [.str col, chrL T] = some (.str (rangesN col T))) :
    runFn X.Φ X.Γ X.Ξ lim L.f_wr [.str col, chrL S, .int (d : Int)] = some (.str (writN col S d)) := by
  have hT : ∀ x ∈ barN col S, x < 128 := fun x hx => hcol x (List.mem_filter.mp hx).1
  have hlT : (barN col S).length ≤ 100 := lz (List.length_filter_le ..) hlc
  have t3 : EvB X (.cmp (.var 3) .eq (.lst .nil)) (kWr col S d) (barN col S).isEmpty := nilB rfl hT
  refine fn_run (l := [(0, .str col), (1, chrL S), (2, .int (d : Int))]) rfl rfl (wbar hcol hS hlc ?_)
  unfold writN
  by_cases hb : barN col S = []
  · rw [if_pos hb]
    rw [hb] at t3
    exact .out (.iffT t3 (.out (.ret (fullE (l := kWr col S d) hne hlc rfl rfl) rfl)))
  rw [if_neg hb]
  rw [emF hb] at t3
  refine .seq (.no t3) ?_
  by_cases h1 : d = 0 ∧ S.length = 1 ∧ S ≠ [63]
  · rw [if_pos h1]
    refine .out (.iffT (lone_test hS hlS (dT h1)) (.out (.ret (eIdx (vr rfl rfl) cs (ixL (n := 0) ?_ (lenMap hlS (by decide)))) rfl)))
    exact (List.length_eq_one_iff.mp h1.2.1).elim fun c e => e ▸ rfl
  rw [if_neg h1]
  exact .seq (.no (lone_test hS hlS (dF h1))) (.asg (eMeth cs (sC (vr rfl rfl) sN) (joinChr (lz hlS (by decide)))) rfl rfl (.asg (eSome (vr rfl rfl) rfl hS hlS) rfl rfl (.asg (eSome (eMeth cs (sC (vr rfl rfl) sN) (joinChr (lz hlT (by decide)))) rfl hT hlT) rfl rfl
    (.out (.ret (setE hlc hlS hlT hd (hΦ S hS) (hΦ _ hT)) rfl)))))
end
end Mine.V
namespace Mine.V
noncomputable def encS (s : List Nat) : List Nat := subAmp (escP s)
noncomputable def enc (c : Nat) : List Nat := encS [c]
theorem rep_app {k : Nat} {n : List Nat} : ∀ {x y : List Nat}, repC k n (x ++ y) = repC k n x ++ repC k n y
  | [], _ => rfl
  | c :: x, y => by
    show (if (c == k) = true then n ++ repC k n (x ++ y) else c :: repC k n (x ++ y)) = (if (c == k) = true then n ++ repC k n x else c :: repC k n x) ++ _
    rw [rep_app]
    cases c == k
    · rfl
    · exact (List.append_assoc ..).symm
theorem sub_app : ∀ {x y : List Nat}, subAmp (x ++ y) = subAmp x ++ subAmp y
  | [], _ => rfl
  | c :: x, y => by
    show (if (c == 38 || c == 126 || c == 124) = true then 92 :: c :: subAmp (x ++ y) else c :: subAmp (x ++ y)) = (if (c == 38 || c == 126 || c == 124) = true then 92 :: c :: subAmp x else c :: subAmp x) ++ _
    rw [sub_app]
    cases (c == 38 || c == 126 || c == 124) <;> rfl
theorem enc_cons {c : Nat} {r : List Nat} : encS (c :: r) = enc c ++ encS r := by
  show subAmp (escP ([c] ++ r)) = _
  rw [escP, rep_app, rep_app, sub_app]; rfl
theorem enc_all : ∀ c : Fin 128, (enc c = [c.val] ∧ c.val ≠ 92 ∧ c.val ≠ 45 ∧ c.val ≠ 38 ∧ c.val ≠ 126 ∧ c.val ≠ 124) ∨ (enc c = [92, c.val] ∧ alnumC c = false ∧ c.val ≠ 93 ∧ c.val ≠ 94 ∧ c.val ≠ 91) := by decide +kernel
theorem pl_all : ∀ c : Fin 128, c.val ≠ 45 → subAmp (repC 92 [92, 92] [c.val]) = enc c := by decide +kernel
theorem pl_eq : ∀ {s : List Nat}, (∀ c ∈ s, c < 128) → 45 ∉ s → subAmp (repC 92 [92, 92] s) = encS s
  | [], _, _ => rfl
  | c :: r, h, h' => by
    rw [enc_cons, ← pl_all ⟨c, h c (.head _)⟩ fun e => h' (e ▸ .head _), ← pl_eq (fun x hx => h x (.tail _ hx)) fun hx => h' (.tail _ hx), ← sub_app, ← rep_app]; rfl
theorem join_enc : ∀ l : List (List Nat), subAmp (joinL [45] (l.map escP)) = joinL [45] (l.map encS)
  | [] => rfl
  | [x] => rfl
  | x :: y :: l => by
    show subAmp (escP x ++ [45] ++ joinL [45] ((y :: l).map escP)) = encS x ++ [45] ++ joinL [45] ((y :: l).map encS)
    rw [sub_app, sub_app, join_enc (y :: l)]; rfl
theorem rep_len {k : Nat} {n : List Nat} (hn : n.length ≤ 2) : ∀ s : List Nat, (repC k n s).length ≤ 2 * s.length
  | [] => Nat.le_refl _
  | c :: r => by
    show (if (c == k) = true then n ++ repC k n r else c :: repC k n r).length ≤ 2 * r.length + 2
    cases c == k
    · exact lz (sl2 (rep_len hn r)) (Nat.le_succ _)
    · show (n ++ repC k n r).length ≤ _
      rw [lnA, Nat.add_comm]; exact Nat.add_le_add (rep_len hn r) hn
theorem sub_len : ∀ s : List Nat, (subAmp s).length ≤ 2 * s.length
  | [] => Nat.le_refl _
  | c :: r => by
    show (if (c == 38 || c == 126 || c == 124) = true then 92 :: c :: subAmp r else c :: subAmp r).length ≤ 2 * r.length + 2
    cases (c == 38 || c == 126 || c == 124)
    · exact lz (sl2 (sub_len r)) (Nat.le_succ _)
    · exact sl2 (sl2 (sub_len r))
theorem esc_len (s : List Nat) : (escP s).length ≤ 4 * s.length := lz (rep_len (n := [92, 45]) (Nat.le_refl 2) _) (lz (Nat.mul_le_mul_left 2 (rep_len (n := [92, 92]) (Nat.le_refl 2) s)) (Nat.le_of_eq (Nat.mul_assoc 2 2 _).symm))
noncomputable def wt : List (List Nat) → Nat
  | [] => 0
  | x :: l => x.length + 1 + wt l
theorem join_len : ∀ l : List (List Nat), (joinL [45] (l.map escP)).length ≤ 4 * wt l
  | [] => Nat.le_refl _
  | [x] => lz (esc_len x) (Nat.mul_le_mul_left 4 (Nat.le_succ _))
  | x :: y :: l => by
    show (escP x ++ [45] ++ joinL [45] ((y :: l).map escP)).length ≤ 4 * (x.length + 1 + wt (y :: l))
    rw [lnA, lnA, Nat.mul_add, Nat.mul_add]
    exact Nat.add_le_add (Nat.add_le_add (esc_len x) (lq rfl)) (join_len (y :: l))
theorem wt_mem {x : List Nat} : ∀ {l : List (List Nat)}, x ∈ l → x.length ≤ wt l
  | y :: l, h => (mCo h).elim (fun e => e ▸ lz (Nat.le_succ _) (Nat.le_add_right _ _)) fun h => lz (wt_mem h) (Nat.le_add_left _ _)
theorem wt_len : ∀ l : List (List Nat), l.length ≤ wt l
  | [] => Nat.le_refl _
  | x :: l => lz (sl2 (wt_len l)) (show wt l + 1 ≤ x.length + 1 + wt l by rw [Nat.add_comm (x.length + 1)]; exact Nat.add_le_add_left (Nat.le_add_left 1 _) _)
theorem mem_enc {c x : Nat} (hc : c < 128) (h : x ∈ enc c) : x = c ∨ x = 92 := (enc_all ⟨c, hc⟩).elim (fun e => .inl (mSg (e.1 ▸ h))) fun e => (mCo (e.1 ▸ h : x ∈ [92, c])).elim .inr fun h => .inl (mSg h)
theorem mem_encS {x : Nat} : ∀ {s : List Nat}, (∀ c ∈ s, c < 128) → x ∈ encS s → x ∈ s ∨ x = 92
  | [], _, h => nomatch h
  | c :: r, hs, h => by
    rw [enc_cons] at h
    exact (mAp h).elim (fun h => (mem_enc (hs c (.head _)) h).elim (fun e => .inl (e ▸ .head _)) .inr) fun h => (mem_encS (fun y hy => hs y (.tail _ hy)) h).imp_left (.tail _)
theorem mem_join {x : Nat} : ∀ {l : List (List Nat)}, x ∈ joinL [45] l → x = 45 ∨ ∃ y ∈ l, x ∈ y
  | [], h => nomatch h
  | [y], h => .inr ⟨y, .head _, h⟩
  | y :: z :: l, h => (mAp (show x ∈ y ++ [45] ++ joinL [45] (z :: l) from h)).elim (fun h => (mAp h).elim (fun h => .inr ⟨y, .head _, h⟩) fun h => .inl (mSg h)) fun h => (mem_join h).imp_right fun ⟨w, h1, h2⟩ => ⟨w, .tail _ h1, h2⟩
def Fc (t : List Nat) (cs : List (List Nat)) : Prop := (45 ∉ t ∧ cs = [t]) ∨ (45 ∈ t ∧ ∃ p l, chLoop (t.length + 1) [] t (hd1 33 t + 1) = some p ∧ chFin p.1 p.2 = some l ∧ mergeR l = some cs)
theorem brk_of {t : List Nat} {cs : List (List Nat)} (h : Fc t cs) (hc : ∀ x ∈ cs, ∀ c ∈ x, c < 128) (hw : wt cs ≤ 60) : brkPart t = some (wrapB (joinL [45] (cs.map encS))) := by
  obtain ⟨x, h1, h2, h3⟩ : ∃ x, stuff1 t = some x ∧ x.length ≤ 240 ∧ subAmp x = joinL [45] (cs.map encS) := by
    have L1 : ∀ {u : Nat}, u ≤ 240 → u ≤ 1000 := fun h => lz h (lq rfl)
    have w6 : ∀ {u : Nat}, u ≤ 60 → u ≤ 1000 := fun h => lz h (lq rfl)
    rcases h with ⟨h, rfl⟩ | ⟨h, p, l, e1, e2, e3⟩
    · have ht : t.length ≤ 60 := lz (wt_mem (.head _)) hw
      exact ⟨_, (if_neg fun q => h (List.contains_iff_mem.mp q)).trans (bI (a := .str (repC 92 [92, 92] t)) (bI rfl (bI rfl (bI rfl (bI rfl (if_pos ⟨w6 ht, lq rfl⟩))))) rfl), lz (rep_len (n := [92, 92]) (Nat.le_refl 2) t) (lz (Nat.mul_le_mul_left 2 ht) (lq rfl)), pl_eq (hc t (.head _)) h⟩
    · have hj : (joinL [45] (cs.map escP)).length ≤ 240 := lz (join_len cs) (Nat.mul_le_mul_left 4 hw)
      exact ⟨_, (if_pos (List.contains_iff_mem.mpr h)).trans (bI e1 (bI e2 (bI e3 (bI (a := .str (joinL [45] (cs.map escP))) (bI rfl (bI rfl (bI (strs_map cs) (if_pos ⟨w6 (lz (wt_len cs) hw), fun y hy => w6 (lz (wt_mem hy) hw), lz hj (lq rfl), lq rfl⟩)))) rfl)))), hj, join_enc cs⟩
  refine bI h1 ((if_pos ⟨lz h2 (lq rfl), lz (sub_len x) (lz (Nat.mul_le_mul_left 2 h2) (lq rfl)), ?_⟩).trans (by rw [h3]))
  rw [h3]
  refine List.all_eq_true.mpr fun c h => dT ?_
  have : c < 128 := (mem_join h).elim (fun e => e ▸ lq rfl) fun ⟨y, hy, h⟩ => (List.mem_map.mp hy).elim fun z hz => (mem_encS (hc z hz.1) (hz.2 ▸ h)).elim (hc z hz.1 c) fun e => e ▸ lq rfl
  exact Nat.lt_trans this (lq rfl)
theorem find_no : ∀ {l : List Nat}, 45 ∉ l → findC 45 l = none
  | [], _ => rfl
  | c :: l, h => (if_neg fun e => h ((eq_of_beq e : c = 45) ▸ .head _)).trans (congrArg (Option.map (· + 1)) (find_no fun q => h (.tail _ q)))
theorem find_at' {r : List Nat} : ∀ {l : List Nat}, 45 ∉ l → findC 45 (l ++ 45 :: r) = some l.length
  | [], _ => rfl
  | c :: l, h => (if_neg fun e => h ((eq_of_beq e : c = 45) ▸ .head _)).trans (congrArg (Option.map (· + 1)) (find_at' (l := l) fun q => h (.tail _ q)))
noncomputable def joinC : List (List Nat) → List Nat → List Nat
  | [], y => y
  | x :: xs, y => x ++ 45 :: joinC xs y
def okC : Nat → List (List Nat) → List Nat → Prop
  | k, [], y => 45 ∉ y.drop k
  | k, x :: xs, y => k ≤ x.length ∧ 45 ∉ x.drop k ∧ okC 2 xs y
theorem ch_split {y : List Nat} : ∀ (xs : List (List Nat)) (k : Nat) (acc : List (List Nat)) (f : Nat), okC k xs y → xs.length < f → acc.length + xs.length < 900 → chLoop f acc (joinC xs y) k = some (acc ++ xs, y)
  | _, _, _, 0, _, h, _ => absurd h (Nat.not_lt_zero _)
  | [], k, acc, f + 1, h, _, ha => (if_pos ha).trans ((congrArg (Option.elim · _ _) (find_no h)).trans (by rw [List.append_nil]; rfl))
  | x :: xs, k, acc, f + 1, h, hf, ha => by
    have e : (joinC (x :: xs) y).drop k = x.drop k ++ 45 :: joinC xs y := List.drop_append_of_le_length h.1
    have hk : k + (x.drop k).length = x.length := by rw [List.length_drop]; exact Nat.add_sub_cancel' h.1
    refine (if_pos (Nat.lt_of_le_of_lt (Nat.le_add_right _ _) ha)).trans ((congrArg (Option.elim · _ _) (e ▸ find_at' h.2.1)).trans ?_)
    show chLoop f (acc ++ [(x ++ 45 :: joinC xs y).take (k + (x.drop k).length)]) ((x ++ 45 :: joinC xs y).drop (k + (x.drop k).length + 1)) 2 = _
    rw [hk, List.take_left, ← List.drop_drop, List.drop_left]
    refine (ch_split xs 2 (acc ++ [x]) f h.2.2 (Nat.lt_of_succ_lt_succ hf) ?_).trans (by rw [List.append_assoc]; rfl)
    rw [lnA]; exact Nat.add_right_comm acc.length 1 xs.length ▸ ha
theorem fc_of {xs cs l : List (List Nat)} {y t : List Nat} (ht : joinC xs y = t) (h45 : 45 ∈ t) (ho : okC (hd1 33 t + 1) xs y) (hx : xs.length ≤ 99) (hl : xs.length ≤ t.length) (hf : chFin xs y = some l) (hm : mergeR l = some cs) : Fc t cs :=
  .inr ⟨h45, (xs, y), l, ht ▸ ch_split xs _ [] _ (ht ▸ ho) (Nat.lt_succ_of_le (ht.symm ▸ hl)) (by rw [List.length_nil, Nat.zero_add]; exact Nat.lt_of_le_of_lt hx (lq rfl)), hf, hm⟩
def LoU (u : List Nat) (x : Nat) : Prop := (u = [x] ∧ x ≠ 92) ∨ (u = [92, x] ∧ x < 128 ∧ alnumC x = false ∧ x ≠ 93)
abbrev Un := Nat × Option Nat
noncomputable def tlU (o : Option Nat) : List Nat := o.elim [] fun y => 45 :: enc y
noncomputable def rngU (u : Un) : Nat × Nat := (u.1, u.2.getD u.1)
noncomputable def encU : List Un → List Nat
  | [] => []
  | u :: us => enc u.1 ++ (tlU u.2 ++ encU us)
def okU (u : Un) : Prop := u.1 < 128 ∧ ∀ y, u.2 = some y → u.1 ≤ y ∧ y < 128
theorem enc_lo {x : Nat} (h : x < 128) : LoU (enc x) x := (enc_all ⟨x, h⟩).imp (fun e => ⟨e.1, e.2.1⟩) fun e => ⟨e.1, h, e.2.1, e.2.2.1⟩
theorem rd_is {t r : List Nat} {a x m h f : Nat} (hl : lowD t = some a) (ht : t.drop a = x :: r) (hm : highD (x :: r) = m) (hh : ((x :: r).drop m).head? = some h) (hle : x ≤ h) : rdN (f + 1) t = (rdN f ((x :: r).drop (m + 1))).map ((x, h) :: ·) := by
  have hne : ¬ t = [] := fun e => by rw [e] at hl; cases hl
  refine (if_neg hne).trans (bI hl (bI (a := x) (by rw [ht]; rfl) (bI (a := h) (by rw [ht, hm, ← List.drop_drop, ht]; exact hh) ((if_pos hle).trans ?_))))
  rw [ht, hm, Nat.add_assoc, ← List.drop_drop, ht]
theorem un_step {u r : List Nat} {x f : Nat} {o : Option Nat} (h : LoU u x) (ho : ∀ y, o = some y → x ≤ y ∧ y < 128) (hr : r.head? ≠ some 45) : rdN (f + 1) (u ++ (tlU o ++ r)) = (rdN f r).map ((x, o.getD x) :: ·) := by
  obtain ⟨a, h1, h2⟩ : ∃ a, lowD (u ++ (tlU o ++ r)) = some a ∧ (u ++ (tlU o ++ r)).drop a = x :: (tlU o ++ r) := by
    rcases h with ⟨rfl, h⟩ | ⟨rfl, h1, h2, _⟩
    · exact ⟨0, if_neg h, rfl⟩
    · exact ⟨1, (show lowD (92 :: x :: (tlU o ++ r)) = if x < 128 ∧ alnumC x = false then some 1 else none from rfl).trans (if_pos ⟨h1, h2⟩), rfl⟩
  cases o with
  | none =>
    refine rd_is (m := 0) h1 h2 (if_neg fun q => hr ?_) rfl (Nat.le_refl x)
    cases r with
    | nil => cases q.1
    | cons y r => exact congrArg some (List.cons.inj q.1).1
  | some y =>
    have hy := ho y rfl
    have q : ∀ {z : List Nat}, z ≠ [] → ((x :: 45 :: (z ++ r)).drop 1).take 1 = [45] ∧ 2 < (x :: 45 :: (z ++ r)).length := fun {z} h => by
      cases z with
      | nil => exact absurd rfl h
      | cons c z => exact ⟨rfl, sl2 (sl2 (sl2 (Nat.zero_le _)))⟩
    have w : tlU (some y) = 45 :: enc y := rfl
    rw [w] at h1 h2 ⊢
    rcases enc_all ⟨y, hy.2⟩ with e | e <;> rw [show enc y = _ from e.1] at h1 h2 ⊢
    · exact rd_is (m := 2) (h := y) h1 h2 ((if_pos (q (List.cons_ne_nil y []))).trans (if_neg fun q => e.2.1 (sIj q))) rfl hy.1
    · exact rd_is (m := 3) (h := y) h1 h2 ((if_pos (q (List.cons_ne_nil 92 [y]))).trans (if_pos rfl)) rfl hy.1
theorem enc_hd {x : Nat} {r : List Nat} (h : x < 128) : (enc x ++ r).head? ≠ some 45 := by
  rcases enc_all ⟨x, h⟩ with e | e <;> rw [show enc x = _ from e.1]
  · exact fun q => e.2.2.1 (sIj q)
  · exact fun q => nomatch (sIj q)
theorem us_hd {us : List Un} (h : ∀ u ∈ us, okU u) : (encU us).head? ≠ some 45 := by
  cases us with
  | nil => exact fun q => nomatch q
  | cons u us => exact enc_hd (h u (.head _)).1
theorem rd_us : ∀ {us : List Un} {f : Nat}, (∀ u ∈ us, okU u) → us.length < f → rdN f (encU us) = some (us.map rngU)
  | _, 0, _, h => absurd h (Nat.not_lt_zero _)
  | [], f + 1, _, _ => rfl
  | u :: us, f + 1, h, hf => (un_step (enc_lo (h u (.head _)).1) (h u (.head _)).2 (us_hd fun v hv => h v (.tail _ hv))).trans (by rw [rd_us (fun v hv => h v (.tail _ hv)) (Nat.lt_of_succ_lt_succ hf)]; rfl)
theorem enc_pos {x : Nat} (h : x < 128) : 1 ≤ (enc x).length := by rcases enc_all ⟨x, h⟩ with e | e <;> rw [show enc x = _ from e.1] <;> exact sl2 (Nat.zero_le _)
theorem us_len : ∀ {us : List Un}, (∀ u ∈ us, okU u) → us.length ≤ (encU us).length
  | [], _ => Nat.le_refl _
  | u :: us, h => by
    show us.length + 1 ≤ (enc u.1 ++ (tlU u.2 ++ encU us)).length
    rw [lnA, lnA, Nat.add_comm]
    exact Nat.add_le_add (enc_pos (h u (.head _)).1) (lz (us_len fun v hv => h v (.tail _ hv)) (Nat.le_add_left ..))
theorem us_all {P : Nat → Prop} (h92 : P 92) (h45 : P 45) : ∀ {us : List Un}, (∀ u ∈ us, okU u ∧ P u.1 ∧ ∀ y, u.2 = some y → P y) → ∀ c ∈ encU us, P c
  | [], _, _, h => nomatch h
  | u :: us, hu, c, h => by
    have k : ∀ {x}, x < 128 → P x → c ∈ enc x → P c := fun hx hp h => (mem_enc hx h).elim (fun e => e ▸ hp) fun e => e ▸ h92
    have u0 := hu u (.head _)
    refine (mAp h).elim (k u0.1.1 u0.2.1) fun h => (mAp h).elim (fun h => ?_) (us_all h92 h45 (fun v hv => hu v (.tail _ hv)) c)
    cases e : u.2 with
    | none => rw [e] at h; exact nomatch h
    | some y => rw [e] at h; exact (mCo h).elim (fun e => e ▸ h45) (k (u0.1.2 y e).2 (u0.2.2 y e))
def PX (x : Nat) (L : List Nat) : Prop := hasSub [x, x] L = false ∧ L.head? ≠ some x
theorem px_any {x c : Nat} {L : List Nat} (h : PX x L) : hasSub [x, x] (c :: L) = false := by
  refine Bool.or_eq_false_iff.mpr ⟨Bool.and_eq_false_imp.mpr fun _ => ?_, h.1⟩
  cases L with
  | nil => rfl
  | cons y L => exact Bool.and_eq_false_imp.mpr fun e => absurd (congrArg some (eq_of_beq e).symm) h.2
theorem px_cons {x c : Nat} {L : List Nat} (n : c ≠ x) (h : hasSub [x, x] L = false) : PX x (c :: L) := ⟨Bool.or_eq_false_iff.mpr ⟨Bool.and_eq_false_imp.mpr fun e => absurd (eq_of_beq e : x = c).symm n, h⟩, fun e => n (sIj e)⟩
section
variable {x : Nat} (hx : x = 38 ∨ x = 126 ∨ x = 124)
include hx
theorem px_enc {c : Nat} {L : List Nat} (hc : c < 128) (h : PX x L) : PX x (enc c ++ L) := by
  rcases enc_all ⟨c, hc⟩ with e | e <;> rw [show enc c = _ from e.1]
  · exact px_cons (by rcases hx with rfl | rfl | rfl; exact e.2.2.2.1; exact e.2.2.2.2.1; exact e.2.2.2.2.2) h.1
  · exact px_cons (by rcases hx with rfl | rfl | rfl <;> decide) (px_any h)
theorem px_tl {o : Option Nat} {L : List Nat} (ho : ∀ y, o = some y → y < 128) (h : PX x L) : PX x (tlU o ++ L) := by
  cases o with
  | none => exact h
  | some y => exact px_cons (by rcases hx with rfl | rfl | rfl <;> decide) (px_enc hx (ho y rfl) h).1
theorem px_us : ∀ {us : List Un}, (∀ u ∈ us, okU u) → PX x (encU us)
  | [], _ => ⟨rfl, fun e => nomatch e⟩
  | u :: us, h => px_enc hx (h u (.head _)).1 (px_tl hx (fun y e => ((h u (.head _)).2 y e).2) (px_us fun v hv => h v (.tail _ hv)))
theorem px_lo {c : Nat} {u L : List Nat} (hu : LoU u c) (h : PX x L) : hasSub [x, x] (u ++ L) = false := by
  rcases hu with ⟨rfl, _⟩ | ⟨rfl, _⟩
  · exact px_any h
  · exact (px_cons (by rcases hx with rfl | rfl | rfl <;> decide) (px_any h)).1
end
structure Bd (U : List Nat) : Prop where
  hd : ∃ d, U.head? = some d ∧ d ≠ 91
  no : 93 ∉ U.drop 1
  lt : ∀ c ∈ U, c < 128
  db : ∀ x, (x = 38 ∨ x = 126 ∨ x = 124) → hasSub [x, x] U = false
  ln : U.length ≤ 800
theorem body_ok {U q : List Nat} (h : Bd U) (hq : q = [] ∨ q = [94]) : bodyB (91 :: (q ++ U ++ [93])) U = true := by
  obtain ⟨d, h1, h2⟩ := h.hd
  have qc : ∀ c ∈ q, c < 128 := by rcases hq with rfl | rfl; exact fun _ h => nomatch h; exact fun c h => mSg h ▸ lq rfl
  have ql : q.length ≤ 1 := by rcases hq with rfl | rfl <;> decide
  have up : 1 ≤ U.length := by
    cases U with
    | nil => cases h1
    | cons _ _ => exact sl2 (Nat.zero_le _)
  have n : ∀ {b : Bool}, b = false → (!b) = true := fun e => e ▸ rfl
  have A : ∀ {a b : Bool}, a = true → b = true → (a && b) = true := fun h h' => bM ⟨h, h'⟩
  refine A (dT (show (91 :: (q ++ U) ++ [93]).getLast? = some 93 from List.getLast?_concat)) (A (dT ?_) (A (dT ?_) (A (List.all_eq_true.mpr fun c hc => dT (Nat.lt_trans ((mCo hc).elim (fun e => e ▸ lq rfl) fun hc => (mAp hc).elim (fun hc => (mAp hc).elim (qc c) (h.lt c)) fun hc => mSg hc ▸ lq rfl : c < 128) (lq rfl))) (A ?_ (A (n ?_) (A (n (h.db _ (.inl rfl))) (A (n (h.db _ (.inr (.inl rfl)))) (n (h.db _ (.inr (.inr rfl)))))))))))
  · rw [List.length_cons, lnA, lnA]; exact lz (sl2 (sl2 (Nat.add_le_add ql h.ln))) (lq rfl)
  · rw [List.length_cons, lnA, lnA]; exact sl2 (sl2 (lz up (Nat.le_add_left ..)))
  · rw [h1]; exact A (bne_iff_ne.mpr h2) (dT (Nat.lt_trans (h.lt d (List.mem_of_mem_head? h1)) (lq rfl)))
  · exact Bool.eq_false_iff.mpr fun e => h.no (List.contains_iff_mem.mp e)
theorem read_of {U : List Nat} {b : Bool} {rs : List (Nat × Nat)} (h : Bd U) (hr : rdN (U.length + 1) U = some rs) (h94 : b = false → U.head? ≠ some 94) : nRead (91 :: ((bif b then [94] else []) ++ U ++ [93])) = some (b, rs) := by
  show ((bif b then [94] else []) ++ U ++ [93]).head?.bind (fun c => nSet c ((bif b then [94] else []) ++ U ++ [93]).tail) = _
  cases b with
  | true =>
    have e : bodyN 94 (U ++ [93]) = U := (congrArg List.dropLast (if_pos rfl)).trans List.dropLast_concat
    exact bI (a := 94) rfl ((if_pos (e.symm ▸ body_ok h (.inr rfl) : bodyB (91 :: 94 :: (U ++ [93])) (bodyN 94 (U ++ [93])) = true)).trans (mI (e.symm ▸ hr) rfl))
  | false =>
    cases U with
    | nil => exact h.hd.elim fun d hd => nomatch hd.1
    | cons c t =>
      have hc : c ≠ 94 := fun e => h94 rfl (congrArg some e)
      have e : bodyN c (t ++ [93]) = c :: t := (congrArg List.dropLast (if_neg hc)).trans (List.dropLast_concat (l₁ := c :: t))
      exact bI (a := c) rfl ((if_pos (e.symm ▸ body_ok h (.inl rfl) : bodyB (91 :: c :: (t ++ [93])) (bodyN c (t ++ [93])) = true)).trans (mI (e.symm ▸ hr) (by rw [dF hc])))
noncomputable def encH (x : Nat) : List Nat := if x = 94 ∨ x = 91 then [92, x] else enc x
theorem encH_lo {x : Nat} (h : x < 128) : LoU (encH x) x ∧ ∃ d r, encH x = d :: r ∧ d ≠ 91 ∧ d ≠ 94 := by
  unfold encH
  by_cases q : x = 94 ∨ x = 91
  · rw [if_pos q]
    exact ⟨.inr ⟨rfl, h, by rcases q with rfl | rfl <;> decide⟩, 92, [x], rfl, by decide, by decide⟩
  · rw [if_neg q]
    refine ⟨enc_lo h, ?_⟩
    rcases enc_all ⟨x, h⟩ with e | e
    · exact ⟨x, [], e.1, fun e => q (.inr e), fun e => q (.inl e)⟩
    · exact ⟨92, [x], e.1, by decide, by decide⟩
theorem wrap_pos {x : Nat} {r : List Nat} (h : x < 128) (n : x ≠ 33) : wrapB (enc x ++ r) = 91 :: (encH x ++ r ++ [93]) := by
  have w : ∀ {c : Nat} {l : List Nat}, c ≠ 33 → wrapB (c :: l) = 91 :: ((if c = 94 ∨ c = 91 then 92 :: c :: l else c :: l) ++ [93]) := fun h => ((if_neg (List.cons_ne_nil _ _)).trans (if_neg fun e => h (List.cons.inj e).1)).trans (congrArg (fun z => 91 :: (z ++ [93])) (if_neg h))
  unfold encH
  rcases enc_all ⟨x, h⟩ with e | e
  · rw [show enc x = [x] from e.1]
    refine (w n).trans ?_
    by_cases q : x = 94 ∨ x = 91
    · rw [if_pos q, if_pos q]; rfl
    · rw [if_neg q, if_neg q]; rfl
  · rw [show enc x = [92, x] from e.1, if_neg fun q => q.elim e.2.2.2.1 e.2.2.2.2]
    exact w (by decide)
theorem wrap_neg {v : List Nat} (h : v ≠ []) : wrapB (33 :: v) = 91 :: (94 :: v ++ [93]) := (if_neg (List.cons_ne_nil _ _)).trans (if_neg fun e => h (List.cons.inj e).2)
theorem enc_len {x : Nat} (h : x < 128) : (enc x).length ≤ 2 := by rcases enc_all ⟨x, h⟩ with e | e <;> rw [show enc x = _ from e.1] <;> exact lq rfl
theorem lo_len {u : List Nat} {x : Nat} (h : LoU u x) : 1 ≤ u.length ∧ u.length ≤ 2 := by rcases h with ⟨rfl, _⟩ | ⟨rfl, _⟩ <;> exact ⟨lq rfl, lq rfl⟩
theorem tl_len {o : Option Nat} (h : ∀ y, o = some y → y < 128) : (tlU o).length ≤ 3 := by
  cases o with
  | none => exact Nat.zero_le _
  | some y => exact sl2 (enc_len (h y rfl))
theorem us_le : ∀ {us : List Un}, (∀ u ∈ us, okU u) → (encU us).length ≤ 5 * us.length
  | [], _ => Nat.le_refl _
  | u :: us, h => by
    show (enc u.1 ++ (tlU u.2 ++ encU us)).length ≤ 5 * us.length + 5
    rw [lnA, lnA, ← Nat.add_assoc, Nat.add_comm]
    exact Nat.add_le_add (us_le fun v hv => h v (.tail _ hv)) (Nat.add_le_add (enc_len (h u (.head _)).1) (tl_len fun y e => ((h u (.head _)).2 y e).2))
theorem part_us {t : List Nat} {cs : List (List Nat)} {b : Bool} {x : Nat} {o : Option Nat} {us : List Un} (hf : Fc t cs) (hc : ∀ z ∈ cs, ∀ c ∈ z, c < 128) (hw : wt cs ≤ 60) (hj : joinL [45] (cs.map encS) = (bif b then [33] else []) ++ (enc x ++ (tlU o ++ encU us)))
    (h0 : okU (x, o)) (hu : ∀ u ∈ us, okU u) (h93 : ∀ u ∈ us, u.1 ≠ 93 ∧ ∀ y, u.2 = some y → y ≠ 93) (ho93 : ∀ y, o = some y → y ≠ 93) (hl : us.length ≤ 24) (h33 : b = false → x ≠ 33) (h91 : b = true → x ≠ 91) :
    ∃ p, brkPart t = some p ∧ p.length ≤ 140 ∧ nRead p = some (b, rngU (x, o) :: us.map rngU) := by
  obtain ⟨u, hlo, hw2, hd⟩ : ∃ u, LoU u x ∧ wrapB ((bif b then [33] else []) ++ (enc x ++ (tlU o ++ encU us))) = 91 :: ((bif b then [94] else []) ++ (u ++ (tlU o ++ encU us)) ++ [93]) ∧ ∃ d r, u = d :: r ∧ d ≠ 91 ∧ (b = false → d ≠ 94) := by
    cases b with
    | true =>
      refine ⟨enc x, enc_lo h0.1, wrap_neg fun e => ?_, ?_⟩
      · have q : 1 ≤ (enc x).length := enc_pos h0.1
        rw [(List.append_eq_nil_iff.mp (show enc x ++ (tlU o ++ encU us) = [] from e)).1] at q; exact absurd q (Nat.not_succ_le_zero 0)
      · rcases enc_all ⟨x, h0.1⟩ with e | e
        · exact ⟨x, [], e.1, h91 rfl, fun e => nomatch e⟩
        · exact ⟨92, [x], e.1, by decide, fun e => nomatch e⟩
    | false =>
      obtain ⟨h1, d, r, h2, h3, h4⟩ := encH_lo h0.1
      exact ⟨encH x, h1, wrap_pos h0.1 (h33 rfl), d, r, h2, h3, fun _ => h4⟩
  have hoy : ∀ y, o = some y → y < 128 := fun y e => (h0.2 y e).2
  have hR : ∀ c ∈ tlU o ++ encU us, c < 128 ∧ c ≠ 93 := fun c h => us_all (P := fun c => c < 128 ∧ c ≠ 93) (by decide) (by decide) (us := (0, o) :: us) (fMc ⟨⟨⟨lq rfl, fun y e => ⟨Nat.zero_le y, hoy y e⟩⟩, ⟨lq rfl, fun e => nomatch (show 0 = 93 from e)⟩, fun y e => ⟨hoy y e, ho93 y e⟩⟩, fun v hv => ⟨hu v hv, ⟨(hu v hv).1, (h93 v hv).1⟩, fun y e => ⟨((hu v hv).2 y e).2, (h93 v hv).2 y e⟩⟩⟩) c (List.mem_append_right _ h)
  have hRl : (tlU o ++ encU us).length ≤ 123 := by
    rw [lnA]; exact lz (Nat.add_le_add (tl_len hoy) (lz (us_le hu) (Nat.mul_le_mul_left 5 hl))) (lq rfl)
  have hUl : (u ++ (tlU o ++ encU us)).length ≤ 125 := by
    rw [lnA]; exact lz (Nat.add_le_add (lo_len hlo).2 hRl) (lq rfl)
  have hb : Bd (u ++ (tlU o ++ encU us)) := ⟨by obtain ⟨d, r, e, h1, _⟩ := hd; exact ⟨d, by rw [e]; rfl, h1⟩, by
      rcases hlo with ⟨rfl, _⟩ | ⟨rfl, _, _, h⟩
      · exact fun q => (hR 93 q).2 rfl
      · exact fun q => (mCo q).elim (fun e => h e.symm) fun q => (hR 93 q).2 rfl, fun c hc => (mAp hc).elim (fun hc => by
      rcases hlo with ⟨rfl, _⟩ | ⟨rfl, h, _⟩
      · exact mSg hc ▸ h0.1
      · exact (mCo hc).elim (fun e => e ▸ lq rfl) fun hc => mSg hc ▸ h) fun hc => (hR c hc).1, fun y hy => px_lo hy hlo (px_tl hy hoy (px_us hy hu)), lz hUl (lq rfl)⟩
  have hr : rdN ((u ++ (tlU o ++ encU us)).length + 1) (u ++ (tlU o ++ encU us)) = some (rngU (x, o) :: us.map rngU) := by
    refine (un_step hlo h0.2 (us_hd hu)).trans (mI (rd_us hu ?_) rfl)
    rw [lnA, lnA, Nat.add_comm]
    exact Nat.lt_of_lt_of_le (Nat.lt_succ_of_le (lz (us_len hu) (Nat.le_add_left _ (tlU o).length))) (Nat.add_le_add_left (lo_len hlo).1 _)
  refine ⟨_, (brk_of hf hc hw).trans (by rw [hj, hw2]), ?_, read_of hb hr fun e => by obtain ⟨d, r, e1, _, h2⟩ := hd; rw [e1]; exact fun q => h2 e (sIj q)⟩
  have bl : (bif b then [94] else []).length ≤ 1 := by cases b <;> decide
  rw [List.length_cons, lnA, lnA]
  exact lz (sl2 (sl2 (Nat.add_le_add bl hUl))) (lq rfl)
theorem item_us {col S t : List Nat} {p : List Nat} {b : Bool} {rs : List (Nat × Nat)} (hp : brkPart t = some p) (hpl : p.length ≤ 140) (hr : nRead p = some (b, rs)) (hl : hd1 33 t < t.length) (h93 : 93 ∉ t.drop (hd1 33 t + 1)) (ht : ∀ c ∈ t, c < 128) (htl : t.length ≤ 58) (hrl : rs.length ≤ 1000) (hrc : ∀ r ∈ rs, r.1 < 128 ∧ r.2 < 128)
    (hs : ∀ c ∈ col, (inRg rs [c] != b) = S.contains c) : ∃ p q, Ltr col S (91 :: (t ++ [93])) p q := by
  refine ⟨p, (b, rs), ?_, fun c hc => (mCo hc).elim (fun e => e ▸ lq rfl) fun hc => (mAp hc).elim (ht c) fun hc => mSg hc ▸ lq rfl, ?_, hpl, hr, hrl, hrc, hs⟩
  · rw [List.length_cons, lnA]; exact sl2 (sl2 htl)
  · have e : (t ++ [93]).dropLast = t := List.dropLast_concat
    show (if (91 :: t ++ [93]).getLast? = some 93 ∧ hd1 33 (t ++ [93]).dropLast < (t ++ [93]).dropLast.length ∧ ((t ++ [93]).dropLast.drop (hd1 33 (t ++ [93]).dropLast + 1)).contains 93 = false then brkPart (t ++ [93]).dropLast else none) = some p
    rw [e]
    exact (if_pos ⟨List.getLast?_concat, hl, Bool.eq_false_iff.mpr fun e => h93 (List.contains_iff_mem.mp e)⟩).trans hp
noncomputable def lsU (r : List Nat) : List Un := r.map fun x => (x, none)
theorem encU_ls : ∀ r : List Nat, encU (lsU r) = encS r
  | [] => rfl
  | c :: r => (congrArg (enc c ++ ·) (encU_ls r)).trans enc_cons.symm
theorem inRg_ls (c : Nat) : ∀ r : List Nat, inRg ((lsU r).map rngU) [c] = r.contains c
  | [] => rfl
  | x :: r => by
    rw [List.contains_cons]
    show (inR [c] (x, x) || inRg ((lsU r).map rngU) [c]) = _
    rw [inRg_ls c r, inR_one]
    refine congrArg (· || _) ?_
    by_cases h : c = x
    · subst h; rw [beq_self_eq_true, dT (Nat.le_refl c)]; rfl
    · rw [beq_eq_false_iff_ne.mpr h]
      exact Bool.and_eq_false_imp.mpr fun q => dF fun q2 => h (Nat.le_antisymm q2 (of_decide_eq_true q))
theorem item_ls {col S t r : List Nat} {x : Nat} {b : Bool} (hf : Fc t [(bif b then [33] else []) ++ x :: r]) (hc : ∀ c ∈ x :: r, c < 128) (h93 : 93 ∉ r) (hrl : r.length ≤ 24) (h33 : b = false → x ≠ 33) (h91 : b = true → x ≠ 91)
    (hl : hd1 33 t < t.length) (ht93 : 93 ∉ t.drop (hd1 33 t + 1)) (ht : ∀ c ∈ t, c < 128) (htl : t.length ≤ 58) (hs : ∀ c ∈ col, ((x :: r).contains c != b) = S.contains c) : ∃ p q, Ltr col S (91 :: (t ++ [93])) p q := by
  have hu : ∀ u ∈ lsU r, okU u ∧ u.1 ≠ 93 ∧ ∀ y, u.2 = some y → y ≠ 93 := fun u hu => (List.mem_map.mp hu).elim fun c h => h.2 ▸ ⟨⟨hc c (.tail _ h.1), fun _ e => nomatch e⟩, fun e => h93 (e ▸ h.1), fun _ e => nomatch e⟩
  have hb : ∀ c ∈ (bif b then [33] else []), c < 128 := by cases b; exact fun _ h => nomatch h; exact fun c h => mSg h ▸ lq rfl
  have hbl : (bif b then [33] else []).length ≤ 1 := by cases b <;> decide
  obtain ⟨p, h1, h2, h3⟩ := part_us (b := b) (x := x) (o := none) (us := lsU r) hf (fun z hz c h => (mAp (mSg hz ▸ h)).elim (hb c) (hc c))
    (by
      show ((bif b then [33] else []) ++ x :: r).length + 1 + 0 ≤ 60
      rw [lnA]; exact lz (sl2 (Nat.add_le_add hbl (sl2 hrl))) (lq rfl))
    (by
      show encS ((bif b then [33] else []) ++ x :: r) = (bif b then [33] else []) ++ (enc x ++ encU (lsU r))
      rw [encU_ls, ← enc_cons]
      cases b
      · rfl
      · exact enc_cons) ⟨hc x (.head _), fun _ e => nomatch e⟩ (fun u h => (hu u h).1) (fun u h => (hu u h).2) (fun _ e => nomatch e) (by rw [lsU, List.length_map]; exact hrl) h33 h91
  have e : rngU (x, none) :: (lsU r).map rngU = (lsU (x :: r)).map rngU := rfl
  rw [e] at h3
  refine item_us h1 h2 h3 hl ht93 ht htl ?_ (fun q hq => ?_) fun c h => inRg_ls c (x :: r) ▸ hs c h
  · rw [List.length_map, lsU, List.length_map]; exact lz (sl2 hrl) (lq rfl)
  · obtain ⟨u, hu, rfl⟩ := List.mem_map.mp hq
    obtain ⟨c, h, rfl⟩ := List.mem_map.mp hu
    exact ⟨hc c h, hc c h⟩
abbrev hy (h : Bool) : List Nat := bif h then [45] else []
theorem fc_end {T : List Nat} {h : Bool} (h45 : 45 ∉ T) (hk : ∀ r, hd1 33 (T ++ r) + 1 ≤ T.length) (hl : T.length ≤ 100) : Fc (T ++ hy h) [T ++ hy h] := by
  cases h with
  | false =>
    have e : T ++ hy false = T := List.append_nil T
    rw [e]; exact .inl ⟨h45, rfl⟩
  | true => exact fc_of (xs := [T]) (y := []) rfl (List.mem_append_right _ (.head _)) ⟨hk _, fun q => h45 (List.mem_of_mem_drop q), fun q => nomatch q⟩ (lq rfl) (by rw [lnA]; exact Nat.le_add_left 1 _) ((if_pos rfl).trans (bI (a := T) rfl (if_pos (lz hl (lq rfl))))) rfl
theorem fc_hd {L : List Nat} {h : Bool} (h45 : 45 ∉ L) : Fc (hy h ++ L) [hy h ++ L] := by
  cases h with
  | false => exact .inl ⟨h45, rfl⟩
  | true => exact fc_of (xs := []) (y := 45 :: L) rfl (.head _) h45 (Nat.zero_le _) (Nat.zero_le _) (if_neg (List.cons_ne_nil _ _)) rfl
theorem mg_yes {x r : List Nat} {a b : Nat} {t : List (List Nat)} (hg : x.getLast? = some a) (hx : x.length ≤ 1000) (hr : (b :: r).length ≤ 1000) (h : b < a) : mergeC x ((b :: r) :: t) = some ((x.dropLast ++ r) :: t) := bI hg ((if_pos ⟨hx, hr⟩).trans (congrArg some (if_pos h)))
theorem mg_no {x r : List Nat} {a b : Nat} {t : List (List Nat)} (hg : x.getLast? = some a) (hx : x.length ≤ 1000) (hr : (b :: r).length ≤ 1000) (h : a ≤ b) : mergeC x ((b :: r) :: t) = some (x :: (b :: r) :: t) := bI hg ((if_pos ⟨hx, hr⟩).trans (congrArg some (if_neg (Nat.not_lt.mpr h))))
theorem fc_ba {z : Nat} {T : List Nat} (h45 : 45 ∉ T) (hz : z ≠ 33) (hl : T.length ≤ 100) : Fc (z :: T ++ [98, 45, 97]) [z :: T] := by
  have e1 : hd1 33 (z :: T ++ [98, 45, 97]) = 0 := hd1_F hz
  refine fc_of (xs := [z :: T ++ [98]]) (y := [97]) (l := [z :: T ++ [98], [97]]) (List.append_assoc ..) (List.mem_append_right _ (.tail _ (.head _))) ?_ (lq rfl) (sl2 (Nat.zero_le _)) (if_neg (List.cons_ne_nil _ _)) ?_
  · rw [e1]; exact ⟨sl2 (Nat.zero_le _), fun q => (mAp (show 45 ∈ T ++ [98] from q)).elim h45 (fun q => nomatch mSg q), (fun q => nomatch q)⟩
  · refine bI (a := [97]) rfl (bI (a := [[97]]) rfl ((mg_yes (a := 98) List.getLast?_concat ?_ (lq rfl) (by decide)).trans (by rw [List.dropLast_concat, List.append_nil])))
    rw [lnA]; exact lz (sl2 (sl2 hl)) (lq rfl)
theorem merge_ba {X : List Nat} (hl : X.length ≤ 200) : mergeR [[98], 97 :: 33 :: X] = some [33 :: X] :=
  bI (a := 97 :: 33 :: X) rfl (bI (a := [97 :: 33 :: X]) rfl (mg_yes (a := 98) rfl (lq rfl) (lz (sl2 (sl2 hl)) (lq rfl)) (by decide)))
theorem fc_pre {L : List Nat} {h : Bool} (h45 : 45 ∉ L) (hl : L.length ≤ 100) : Fc ([98, 45, 97, 33] ++ (L ++ hy h)) [33 :: (L ++ hy h)] := by
  cases h with
  | false =>
    have e : L ++ hy false = L := List.append_nil L
    rw [e]
    exact fc_of (xs := [[98]]) (y := 97 :: 33 :: L) rfl (.tail _ (.head _)) ⟨Nat.le_refl 1, (fun q => nomatch q), h45⟩ (lq rfl) (sl2 (Nat.zero_le _)) (if_neg (List.cons_ne_nil _ _)) (merge_ba (lz hl (lq rfl)))
  | true =>
    exact fc_of (xs := [[98], 97 :: 33 :: L]) (y := []) (l := [[98], 97 :: 33 :: (L ++ [45])]) rfl (.tail _ (.head _)) ⟨Nat.le_refl 1, (fun q => nomatch q), lq rfl, h45, fun q => nomatch q⟩ (lq rfl) (sl2 (sl2 (Nat.zero_le _)))
      ((if_pos rfl).trans (bI (a := 97 :: 33 :: L) rfl (if_pos (lz (sl2 (sl2 hl)) (lq rfl))))) (merge_ba (by rw [lnA]; exact lz (sl2 hl) (lq rfl)))
noncomputable def covW (w : List Nat) (x : Nat) : Bool := w.head?.elim false fun a => decide (a ≤ x) && decide (x ≤ w.getLastD 0)
noncomputable def cov (W : List (List Nat)) (x : Nat) : Bool := W.any fun w => covW w x
theorem last_mem {a : Nat} {l : List Nat} : (a :: l).getLastD 0 ∈ a :: l := by
  rw [List.getLastD_eq_getLast?, List.getLast?_eq_some_getLast (List.cons_ne_nil _ _)]; exact List.getLast_mem _
theorem covW_no {x : Nat} {w : List Nat} (h : ∀ y ∈ w, y < x) : covW w x = false := by
  cases w with
  | nil => rfl
  | cons a l => exact Bool.and_eq_false_imp.mpr fun _ => dF (Nat.not_le.mpr (h _ last_mem))
theorem covW_lo {x : Nat} {w : List Nat} (h : ∀ y ∈ w, x < y) : covW w x = false := by
  cases w with
  | nil => rfl
  | cons a l => exact Bool.and_eq_false_imp.mpr fun e => absurd (of_decide_eq_true e) (Nat.not_le.mpr (h a (.head _)))
theorem last_snoc {w : List Nat} {c : Nat} : (w ++ [c]).getLastD 0 = c := by rw [List.getLastD_eq_getLast?, List.getLast?_concat]; rfl
theorem covW_snoc {x c : Nat} {w : List Nat} (h : ∀ y ∈ w, y < c) (k : covW w x = true) : covW (w ++ [c]) x = true := by
  cases w with
  | nil => cases k
  | cons a l =>
    have k := bE k
    refine bM ⟨k.1, dT ?_⟩
    rw [last_snoc]
    exact lz (of_decide_eq_true k.2) (Nat.le_of_lt (h _ last_mem))
theorem covW_at {c : Nat} {w : List Nat} (h : ∀ y ∈ w, y < c) : covW (w ++ [c]) c = true := by
  cases w with
  | nil => exact bM ⟨dT (Nat.le_refl c), dT (Nat.le_refl c)⟩
  | cons a l =>
    refine bM ⟨dT (Nat.le_of_lt (h a (.head _))), dT ?_⟩
    rw [last_snoc]; exact Nat.le_refl c
section
variable {S : List Nat}
theorem wa_in {c : Nat} {r cur : List Nat} (h : S.contains c = true) (hc : c ≠ 32) : wordsAt 32 cur (spaced (c :: r) S) = wordsAt 32 (cur ++ [c]) (spaced r S) := by
  show wordsAt 32 cur ((if S.contains c = true then c else 32) :: spaced r S) = _
  rw [if_pos h]
  exact if_neg fun e => hc (eq_of_beq e)
theorem wa_out {c : Nat} {r cur : List Nat} (h : S.contains c = false) : wordsAt 32 cur (spaced (c :: r) S) = if cur.isEmpty then wordsAt 32 [] (spaced r S) else cur :: wordsAt 32 [] (spaced r S) := by
  show wordsAt 32 cur ((if S.contains c = true then c else 32) :: spaced r S) = _
  rw [if_neg (by rw [h]; decide)]; rfl
theorem cov_out {cur : List Nat} {W : List (List Nat)} {x : Nat} : cov (if cur.isEmpty = true then W else cur :: W) x = (covW cur x || cov W x) := by cases cur <;> rfl
theorem cov_ok : ∀ (col cur : List Nat), (cur ++ col).Pairwise (· < ·) → 32 ∉ col →
    (∀ x ∈ col, cov (wordsAt 32 cur (spaced col S)) x = S.contains x) ∧ (∀ x, covW cur x = true → cov (wordsAt 32 cur (spaced col S)) x = true) ∧ ∀ x, (∀ y ∈ cur ++ col, x < y) → cov (wordsAt 32 cur (spaced col S)) x = false
  | [], cur, _, _ => by
    have e : ∀ x, cov (wordsAt 32 cur []) x = covW cur x := fun x => by cases cur with
      | nil => rfl
      | cons a l => exact Bool.or_false _
    exact ⟨(fun _ h => nomatch h), fun x h => (e x).trans h, fun x h => (e x).trans (covW_lo fun y hy => h y (List.mem_append_left _ hy))⟩
  | c :: r, cur, hp, h => by
    have hc : c ≠ 32 := fun e => h (e ▸ .head _)
    have hr : 32 ∉ r := fun q => h (.tail _ q)
    obtain ⟨p1, p2, p3⟩ := List.pairwise_append.mp hp
    obtain ⟨q1, q2⟩ := List.pairwise_cons.mp p2
    have lt1 : ∀ y ∈ cur, y < c := fun y hy => p3 y hy c (.head _)
    cases hS : S.contains c with
    | true =>
      rw [wa_in hS hc]
      have ih := cov_ok r (cur ++ [c]) (by rw [List.append_assoc]; exact hp) hr
      exact ⟨fun x hx => (mCo hx).elim (fun e => by rw [e, hS]; exact ih.2.1 c (covW_at lt1)) (ih.1 x), fun x h => ih.2.1 x (covW_snoc lt1 h), fun x h => ih.2.2 x (by rw [List.append_assoc]; exact h)⟩
    | false =>
      rw [wa_out hS]
      have ih := cov_ok r [] q2 hr
      refine ⟨fun x hx => ?_, fun x h => ?_, fun x h => ?_⟩ <;> rw [cov_out]
      · rw [covW_no fun y hy => p3 y hy x hx, Bool.false_or]
        exact (mCo hx).elim (fun e => by rw [e, hS]; exact ih.2.2 c q1) (ih.1 x)
      · rw [h]; rfl
      · rw [covW_lo fun y hy => h y (List.mem_append_left _ hy), Bool.false_or]
        exact ih.2.2 x fun y hy => h y (List.mem_append_right _ (.tail _ hy))
theorem words_sub {w : List Nat} : ∀ {col cur : List Nat}, 32 ∉ col → w ∈ wordsAt 32 cur (spaced col S) → w.Sublist (cur ++ col)
  | [], cur, _, h => by
    cases cur with
    | nil => exact nomatch h
    | cons a l => rw [mSg (show w ∈ [a :: l] from h), List.append_nil]; exact List.Sublist.refl _
  | c :: r, cur, h32, h => by
    have hr : 32 ∉ r := fun q => h32 (.tail _ q)
    cases hS : S.contains c with
    | true =>
      rw [wa_in hS fun e => h32 (e ▸ .head _)] at h
      have z := words_sub hr h
      rw [List.append_assoc] at z; exact z
    | false =>
      rw [wa_out hS] at h
      have k : ∀ {u : List Nat}, w ∈ wordsAt 32 [] (spaced r S) → w.Sublist (u ++ c :: r) := fun h => (words_sub hr h).trans ((List.sublist_cons_self c r).trans (List.sublist_append_right _ _))
      cases cur with
      | nil => exact k h
      | cons a l => exact (mCo h).elim (fun e => e ▸ List.sublist_append_left _ _) k
noncomputable def runs (S col : List Nat) : List (Nat × Nat) := (wordsAt 32 [] (spaced col S)).map fun w => (w.headD 0, w.getLastD 0)
theorem runs_ok {col : List Nat} (hp : col.Pairwise (· < ·)) (h32 : 32 ∉ col) : (∀ q ∈ runs S col, q.1 ∈ col ∧ q.2 ∈ col ∧ q.1 ≤ q.2) ∧ (∀ c ∈ col, inRg (runs S col) [c] = S.contains c) ∧ (runs S col).length ≤ col.length := by
  have ne := words_ok (spaced col S) []
  refine ⟨fun q hq => ?_, fun c hc => ?_, ?_⟩
  · obtain ⟨w, hw, rfl⟩ := List.mem_map.mp hq
    have hs : w.Sublist col := words_sub (cur := []) h32 hw
    cases w with
    | nil => exact absurd rfl (ne.1 _ hw).1
    | cons a l =>
      refine ⟨hs.mem (.head _), hs.mem last_mem, ?_⟩
      exact (mCo (last_mem (a := a) (l := l))).elim (fun e => Nat.le_of_eq e.symm) fun h => Nat.le_of_lt ((List.pairwise_cons.mp (hp.sublist hs)).1 _ h)
  · rw [← (cov_ok (S := S) col [] hp h32).1 c hc]
    have k : ∀ W : List (List Nat), (∀ w ∈ W, w ≠ []) → inRg (W.map fun w => (w.headD 0, w.getLastD 0)) [c] = cov W c := fun W => by
      induction W with
      | nil => exact fun _ => rfl
      | cons w W ih =>
        intro h
        show (inR [c] _ || inRg (W.map _) [c]) = (covW w c || cov W c)
        rw [ih fun v hv => h v (.tail _ hv), inR_one]
        cases w with
        | nil => exact absurd rfl (h [] (.head _))
        | cons a l => rfl
    exact k _ fun w hw => (ne.1 w hw).1
  · rw [runs, List.length_map]
    refine lz ne.2 ?_
    rw [List.length_nil, Nat.zero_add, spaced, List.length_map]; exact Nat.le_refl _
end
abbrev Rg := Nat × Nat
noncomputable def tris : List Rg → List Nat
  | [] => []
  | p :: r => p.1 :: 45 :: p.2 :: tris r
noncomputable def chX : Nat → List Rg → List (List Nat)
  | _, [] => []
  | b, p :: r => [b, p.1] :: chX p.2 r
noncomputable def chY : Nat → List Rg → Nat
  | b, [] => b
  | _, p :: r => chY p.2 r
noncomputable def rgU (r : List Rg) : List Un := r.map fun p => (p.1, some p.2)
theorem tris_eq : ∀ r : List Rg, (r.map fun p => [p.1, 45, p.2]).flatten = tris r
  | [] => rfl
  | p :: r => congrArg (p.1 :: 45 :: p.2 :: ·) (tris_eq r)
theorem ranges_eq {col S : List Nat} : rangesN col S = tris (runs S col) := by
  rw [← tris_eq, runs, List.map_map]; rfl
theorem join_ch : ∀ (r : List Rg) (b : Nat), joinC (chX b r) [chY b r] = b :: tris r
  | [], _ => rfl
  | p :: r, b => congrArg (b :: p.1 :: 45 :: ·) (join_ch r p.2)
theorem ok_ch : ∀ (r : List Rg) (b : Nat), okC 2 (chX b r) [chY b r]
  | [], _ => fun q => nomatch q
  | p :: r, b => ⟨Nat.le_refl 2, (fun q => nomatch q), ok_ch r p.2⟩
theorem ch_len : ∀ (r : List Rg) (b : Nat), (chX b r).length = r.length
  | [], _ => rfl
  | p :: r, b => congrArg (· + 1) (ch_len r p.2)
theorem tri_len : ∀ r : List Rg, (tris r).length = 3 * r.length
  | [] => rfl
  | p :: r => congrArg (· + 3) (tri_len r)
theorem ch_head : ∀ (r : List Rg) (b : Nat), ∃ z t, chX b r ++ [[chY b r]] = (b :: z) :: t ∧ (b :: z).length ≤ 1000
  | [], b => ⟨[], [], rfl, lq rfl⟩
  | p :: r, b => ⟨[p.1], _, rfl, lq rfl⟩
theorem mg_ch : ∀ (r : List Rg) (b : Nat), (∀ p ∈ r, p.1 ≤ p.2) → mergeF (chX b r) [[chY b r]] = some (chX b r ++ [[chY b r]])
  | [], _, _ => rfl
  | p :: r, b, h => by
    obtain ⟨z, t, e, hz⟩ := ch_head r p.2
    refine bI (mg_ch r p.2 fun q hq => h q (.tail _ hq)) ?_
    show mergeC [b, p.1] (chX p.2 r ++ [[chY p.2 r]]) = some ([b, p.1] :: (chX p.2 r ++ [[chY p.2 r]]))
    rw [e]
    exact mg_no (a := p.1) rfl (lq rfl) hz (h p (.head _))
theorem enc_ch : ∀ (r : List Rg) (b : Nat), joinL [45] ((chX b r ++ [[chY b r]]).map encS) = enc b ++ encU (rgU r)
  | [], b => (List.append_nil _).symm
  | p :: r, b => by
    obtain ⟨z, t, e, _⟩ := ch_head r p.2
    have ih := enc_ch r p.2
    show joinL [45] (encS [b, p.1] :: (chX p.2 r ++ [[chY p.2 r]]).map encS) = enc b ++ (enc p.1 ++ (45 :: enc p.2 ++ encU (rgU r)))
    rw [e] at ih ⊢
    show encS [b, p.1] ++ [45] ++ joinL [45] (((p.2 :: z) :: t).map encS) = _
    rw [ih, enc_cons, List.append_assoc, List.append_assoc]; rfl
theorem wt_ch : ∀ (r : List Rg) (b : Nat), wt (chX b r ++ [[chY b r]]) = 3 * r.length + 2
  | [], _ => rfl
  | p :: r, b => (congrArg (3 + ·) (wt_ch r p.2)).trans (Nat.add_left_comm _ _ _ |>.trans (by rw [← Nat.add_assoc, Nat.add_right_comm]; rfl))
theorem lt_ch : ∀ (r : List Rg) (b : Nat), b < 128 → (∀ p ∈ r, p.1 < 128 ∧ p.2 < 128) → ∀ z ∈ chX b r ++ [[chY b r]], ∀ c ∈ z, c < 128
  | [], b, h, _ => fun z hz c hc => mSg (mSg hz ▸ hc) ▸ h
  | p :: r, b, h, hr => fMc ⟨fMc ⟨h, fMc ⟨(hr p (.head _)).1, fun _ h => nomatch h⟩⟩, lt_ch r p.2 (hr p (.head _)).2 fun q hq => hr q (.tail _ hq)⟩
theorem tri_mem {P : Nat → Prop} (h45 : P 45) : ∀ {r : List Rg}, (∀ p ∈ r, P p.1 ∧ P p.2) → ∀ c ∈ tris r, P c
  | [], _, _, h => nomatch h
  | p :: r, hr, c, h => (mCo h).elim (fun e => e ▸ (hr p (.head _)).1) fun h => (mCo h).elim (fun e => e ▸ h45) fun h => (mCo h).elim (fun e => e ▸ (hr p (.head _)).2) (tri_mem h45 (fun q hq => hr q (.tail _ hq)) c)
abbrev bang (b : Bool) : List Nat := bif b then [33] else []
theorem hd_bang {b : Bool} {a : Nat} {r : List Nat} (ha : a ≠ 33) : hd1 33 (bang b ++ a :: r) = (bang b).length := by
  cases b with
  | true => rfl
  | false => exact hd1_F ha
theorem item_rg {col S : List Nat} {b : Bool} {R : List Rg} (hne : R ≠ []) (hR : ∀ p ∈ R, (p.1 < 128 ∧ p.1 ≠ 33 ∧ p.1 ≠ 91 ∧ p.1 ≠ 93) ∧ (p.2 < 128 ∧ p.2 ≠ 93) ∧ p.1 ≤ p.2) (hl : R.length ≤ 14) (hs : ∀ c ∈ col, (inRg R [c] != b) = S.contains c) : ∃ p q, Ltr col S (91 :: ((bang b ++ tris R) ++ [93])) p q := by
  cases R with
  | nil => exact absurd rfl hne
  | cons p r =>
    have h0 := hR p (.head _)
    have hr := fun q hq => hR q (.tail p hq)
    have hlr : r.length ≤ 13 := Nat.le_of_succ_le_succ hl
    have bl : (bang b).length ≤ 1 := by cases b <;> decide
    have bn : ∀ c ∈ bang b, c < 128 ∧ c ≠ 93 ∧ c ≠ 45 := by cases b; exact fun _ h => nomatch h; exact fun c h => mSg h ▸ by decide
    obtain ⟨z, t, e, hz⟩ := ch_head r p.2
    have xl : (bang b ++ [p.1]).length ≤ 2 := by rw [lnA]; exact sl2 bl
    have k1 : (bang b ++ p.1 :: 45 :: p.2 :: tris r) = (bang b ++ [p.1]) ++ 45 :: p.2 :: tris r := (List.append_assoc (bang b) [p.1] _).symm
    have hk : hd1 33 (bang b ++ p.1 :: 45 :: p.2 :: tris r) = (bang b).length := hd_bang h0.1.2.1
    have dn : (bang b ++ [p.1]).drop ((bang b).length + 1) = [] := List.drop_of_length_le (by rw [lnA]; exact Nat.le_refl _)
    have hf : Fc (bang b ++ tris (p :: r)) ((bang b ++ [p.1]) :: (chX p.2 r ++ [[chY p.2 r]])) := by
      refine fc_of (xs := (bang b ++ [p.1]) :: chX p.2 r) (y := [chY p.2 r]) (l := (bang b ++ [p.1]) :: (chX p.2 r ++ [[chY p.2 r]])) ?_ (List.mem_append_right _ (.tail _ (.head _))) ?_ (by rw [List.length_cons, ch_len]; exact lz (sl2 hlr) (lq rfl)) ?_ (if_neg (List.cons_ne_nil _ _)) ?_
      · show (bang b ++ [p.1]) ++ 45 :: joinC (chX p.2 r) [chY p.2 r] = _
        rw [join_ch]; exact k1.symm
      · show okC (hd1 33 (bang b ++ p.1 :: 45 :: p.2 :: tris r) + 1) _ _
        rw [hk]
        exact ⟨by rw [lnA]; exact Nat.le_refl _, by rw [dn]; exact List.not_mem_nil, ok_ch r p.2⟩
      · rw [List.length_cons, ch_len, lnA, tri_len]
        exact lz (Nat.le_mul_of_pos_left _ (Nat.succ_pos 2)) (Nat.le_add_left _ _)
      · refine bI (a := [chY p.2 r]) (List.getLast?_concat (l := (bang b ++ [p.1]) :: chX p.2 r)) ?_
        rw [show ((bang b ++ [p.1]) :: (chX p.2 r ++ [[chY p.2 r]])).dropLast = (bang b ++ [p.1]) :: chX p.2 r from List.dropLast_concat (l₁ := (bang b ++ [p.1]) :: chX p.2 r)]
        refine bI (mg_ch r p.2 fun q hq => (hr q hq).2.2) ?_
        rw [e]
        exact mg_no (a := p.1) List.getLast?_concat (lz xl (lq rfl)) hz h0.2.2
    have eb : encS (bang b ++ [p.1]) = bang b ++ enc p.1 := by
      cases b
      · rfl
      · exact enc_cons
    have hj : joinL [45] (((bang b ++ [p.1]) :: (chX p.2 r ++ [[chY p.2 r]])).map encS) = bang b ++ (enc p.1 ++ (tlU (some p.2) ++ encU (rgU r))) := by
      have q := enc_ch r p.2
      rw [e] at q ⊢
      show encS (bang b ++ [p.1]) ++ [45] ++ joinL [45] (((p.2 :: z) :: t).map encS) = _
      rw [q, eb, List.append_assoc, List.append_assoc]; rfl
    have hu : ∀ u ∈ rgU r, okU u ∧ u.1 ≠ 93 ∧ ∀ y, u.2 = some y → y ≠ 93 := fun u hu => (List.mem_map.mp hu).elim fun q h => h.2 ▸ ⟨⟨(hr q h.1).1.1, fun y ey => sIj ey ▸ ⟨(hr q h.1).2.2, (hr q h.1).2.1.1⟩⟩, (hr q h.1).1.2.2.2, fun y ey => sIj ey ▸ (hr q h.1).2.1.2⟩
    obtain ⟨P, h1, h2, h3⟩ := part_us (b := b) (x := p.1) (o := some p.2) (us := rgU r) hf (fMc ⟨fun c hc => (mAp hc).elim (fun hc => (bn c hc).1) fun hc => mSg hc ▸ h0.1.1, lt_ch r p.2 h0.2.1.1 fun q hq => ⟨(hr q hq).1.1, (hr q hq).2.1.1⟩⟩)
      (by
        show (bang b ++ [p.1]).length + 1 + wt (chX p.2 r ++ [[chY p.2 r]]) ≤ 60
        rw [wt_ch]
        exact lz (Nat.add_le_add (sl2 xl) (Nat.add_le_add_right (Nat.mul_le_mul_left 3 hlr) 2)) (lq rfl)) hj
      ⟨h0.1.1, fun y ey => sIj ey ▸ ⟨h0.2.2, h0.2.1.1⟩⟩ (fun u h => (hu u h).1) (fun u h => (hu u h).2) (fun y ey => sIj ey ▸ h0.2.1.2) (by rw [rgU, List.length_map]; exact lz hlr (lq rfl)) (fun _ => h0.1.2.1) (fun _ => h0.1.2.2.1)
    have er : rngU (p.1, some p.2) :: (rgU r).map rngU = p :: r := by
      rw [rgU, List.map_map]
      exact congrArg (p :: ·) ((List.map_congr_left fun q _ => rfl).trans (List.map_id r))
    rw [er] at h3
    have tm : ∀ c ∈ tris (p :: r), c < 128 ∧ c ≠ 93 := tri_mem (P := fun c => c < 128 ∧ c ≠ 93) (by decide) fun q hq => ⟨⟨(hR q hq).1.1, (hR q hq).1.2.2.2⟩, (hR q hq).2.1⟩
    refine item_us h1 h2 h3 ?_ (fun q => ?_) (fun c hc => (mAp hc).elim (fun hc => (bn c hc).1) fun hc => (tm c hc).1) ?_ (lz hl (lq rfl)) (fun q hq => ⟨(hR q hq).1.1, (hR q hq).2.1.1⟩) hs
    · show hd1 33 (bang b ++ p.1 :: 45 :: p.2 :: tris r) < _
      rw [hk, lnA]; exact Nat.lt_add_of_pos_right (Nat.succ_pos _)
    · exact (mAp (List.mem_of_mem_drop q)).elim (fun h => (bn 93 h).2.1 rfl) fun h => (tm 93 h).2 rfl
    · rw [lnA, tri_len]
      exact lz (Nat.add_le_add bl (Nat.mul_le_mul_left 3 hl)) (lq rfl)
noncomputable def col2 : List Nat := [45, 63, 83, 84, 98, 99, 100, 108, 112, 114, 115, 116, 119, 120]
theorem col2_f : ∀ c ∈ col2, (32 < c ∧ c < 127) ∧ c ≠ 33 ∧ c ≠ 91 ∧ c ≠ 93 ∧ c ∉ [93] ∧ c ∉ [94] ∧ c ∉ [91] ∧ c ∉ [38, 38, 126, 126, 124, 124, 92] := by decide +kernel
theorem col2_lt : ∀ c ∈ col2, c < 128 := fun c h => Nat.lt_trans (col2_f c h).1.2 (by decide)
theorem col2_sort : col2.Pairwise (· < ·) := by decide +kernel
theorem col2_32 : 32 ∉ col2 := by decide +kernel
structure Sg (S : List Nat) (h : Bool) (L : List Nat) : Prop where
  eq : S = hy h ++ L
  no : 45 ∉ L
  col : ∀ x ∈ S, x ∈ col2
  len : S.length ≤ 14
theorem sg_ex (g : Nat → Bool) : ∃ h L, Sg (col2.filter g) h L := ⟨g 45, [63, 83, 84, 98, 99, 100, 108, 112, 114, 115, 116, 119, 120].filter g, by
  rw [col2, List.filter_cons]
  cases g 45 <;> rfl, fun q => absurd (List.mem_filter.mp q).1 (by decide), fun x hx => (List.mem_filter.mp hx).1, List.length_filter_le ..⟩
theorem rep_id {n : List Nat} : ∀ {l : List Nat}, 45 ∉ l → repC 45 n l = l
  | [], _ => rfl
  | c :: l, h => (if_neg fun e => h ((eq_of_beq e : c = 45) ▸ .head _)).trans (congrArg (c :: ·) (rep_id fun q => h (.tail _ q)))
section
variable {S L O M : List Nat} {h k : Bool} {c : Nat}
theorem some_eq (s : Sg S h L) : someN S = L ++ hy h := by
  rw [someN, s.eq]
  cases h with
  | false =>
    show repC 45 [] L ++ (if L.contains 45 = true then [45] else []) = _
    rw [rep_id s.no, if_neg fun e => s.no (List.contains_iff_mem.mp e)]; rfl
  | true =>
    show repC 45 [] L ++ [45] = L ++ [45]
    rw [rep_id s.no]
theorem some_mem (s : Sg S h L) : c ∈ someN S ↔ c ∈ S := by
  rw [some_eq s, s.eq, List.mem_append, List.mem_append]; exact Or.comm
theorem some_len (s : Sg S h L) : (someN S).length = S.length := by
  rw [some_eq s, s.eq, lnA, lnA, Nat.add_comm]
theorem tail_no {x : Nat} {r : List Nat} (s : Sg (x :: r) h L) : 45 ∉ r := by
  have e := s.eq
  cases h with
  | false => exact fun q => s.no ((show x :: r = L from e) ▸ .tail _ q)
  | true => exact (List.cons.inj e).2 ▸ s.no
theorem pos_sem {A : List Nat} (h : c ∈ A ↔ c ∈ S) : (A.contains c != false) = S.contains c := by
  rw [Bool.bne_false, Bool.eq_iff_iff, List.contains_iff_mem, List.contains_iff_mem]; exact h
theorem neg_sem {A : List Nat} (h : c ∈ A ↔ ¬ c ∈ S) : (A.contains c != true) = S.contains c := by
  cases e : S.contains c with
  | true => rw [Bool.eq_false_iff.mpr fun q => h.mp (List.contains_iff_mem.mp q) (List.contains_iff_mem.mp e)]; rfl
  | false => rw [List.contains_iff_mem.mpr (h.mpr fun q => Bool.eq_false_iff.mp e (List.contains_iff_mem.mpr q))]; rfl
theorem item_0 {x : Nat} {r B : List Nat} (s : Sg (x :: r) h L) (hB : (∀ c ∈ B, c < 128 ∧ c ≠ 93) ∧ B.length ≤ 3) (hf : Fc (x :: r ++ B) [x :: r]) : ∃ p q, Ltr col2 (x :: r) (91 :: ((x :: r ++ B) ++ [93])) p q := by
  have f := fun c hc => col2_f c (s.col c hc)
  have hx := f x (.head _)
  have lt := fun c hc => col2_lt c (s.col c hc)
  have n93 : 93 ∉ r := fun q => (f 93 (.tail _ q)).2.2.2.1 rfl
  have e1 : hd1 33 (x :: r ++ B) = 0 := hd1_F hx.2.1
  refine item_ls (b := false) hf lt n93 (lz (Nat.le_of_succ_le s.len) (lq rfl)) (fun _ => hx.2.1) (fun e => nomatch e) (e1 ▸ Nat.succ_pos _) (by rw [e1]; exact fun q => (mAp (show 93 ∈ r ++ B from q)).elim n93 fun q => (hB.1 93 q).2 rfl) (fun c hc => (mAp hc).elim (lt c) fun hc => (hB.1 c hc).1) ?_ fun c _ => pos_sem Iff.rfl
  rw [lnA]; exact lz (Nat.add_le_add s.len hB.2) (lq rfl)
theorem item_pre {x : Nat} {Q : List Nat} (s : Sg S h L) (hQ : 45 ∉ x :: Q) (h93 : 93 ∉ Q) (h33 : x ≠ 33) (lt : ∀ c ∈ x :: Q, c < 128) (hl : Q.length ≤ 10) (hcol : ∀ c ∈ col2, c ∉ x :: Q) : ∃ p q, Ltr col2 S (91 :: ((x :: Q ++ someN S) ++ [93])) p q := by
  have f := fun c hc => col2_f c (s.col c hc)
  have e1 : ∀ r, hd1 33 (x :: r) = 0 := fun r => hd1_F h33
  have sl := some_len s
  have all : ∀ c ∈ x :: (Q ++ someN S), c < 128 := fun c hc => (mAp (show c ∈ (x :: Q) ++ someN S from hc)).elim (lt c) fun hc => col2_lt c (s.col c ((some_mem s).mp hc))
  have n93 : 93 ∉ Q ++ someN S := fun q => (mAp q).elim h93 fun q => (f 93 ((some_mem s).mp q)).2.2.2.1 rfl
  have ql : (Q ++ someN S).length ≤ 24 := by rw [lnA, sl]; exact Nat.add_le_add hl s.len
  have hf : Fc (x :: Q ++ someN S) [x :: Q ++ someN S] := by
    rw [some_eq s, ← List.append_assoc]
    refine fc_end (fun q => (mAp q).elim hQ s.no) (fun r => ?_) ?_
    · rw [show hd1 33 (x :: Q ++ L ++ r) = 0 from e1 _]; exact sl2 (Nat.zero_le _)
    · rw [lnA]
      refine lz (Nat.add_le_add (sl2 hl) (?_ : L.length ≤ 14)) (lq rfl)
      exact lz (by rw [s.eq, lnA]; exact Nat.le_add_left _ _) s.len
  exact item_ls (b := false) hf all n93 (lz ql (lq rfl)) (fun _ => h33) (fun e => nomatch e) (by rw [show hd1 33 (x :: Q ++ someN S) = 0 from e1 _]; exact Nat.succ_pos _) (by rw [show hd1 33 (x :: Q ++ someN S) = 0 from e1 _]; exact n93) all (lz (sl2 ql) (lq rfl))
    fun c hc => pos_sem ⟨fun q => (mAp (show c ∈ (x :: Q) ++ someN S from q)).elim (fun q => absurd q (hcol c hc)) (some_mem s).mp, fun q => List.mem_append_right (x :: Q) ((some_mem s).mpr q)⟩
theorem item_4 (s : Sg O k M) (hne : O ≠ []) (hb : ∀ c ∈ col2, c ∈ O ↔ ¬ c ∈ S) : ∃ p q, Ltr col2 S (91 :: (([98, 45, 97, 33] ++ someN O) ++ [93])) p q := by
  have f := fun c hc => col2_f c (s.col c ((some_mem s).mp hc))
  have lt := fun c hc => col2_lt c (s.col c ((some_mem s).mp hc))
  have n93 : 93 ∉ someN O := fun q => (f 93 q).2.2.2.1 rfl
  have sl : (someN O).length ≤ 14 := some_len s ▸ s.len
  have ml : M.length ≤ 100 := lz (by rw [s.eq, lnA]; exact Nat.le_add_left _ _ : M.length ≤ O.length) (lz s.len (lq rfl))
  have hf := fc_pre (h := k) s.no ml
  rw [← some_eq s] at hf
  have mem : ∀ c, c ∈ someN O ↔ c ∈ O := fun c => some_mem s
  cases e : someN O with
  | nil => exact absurd (List.length_eq_zero_iff.mp ((some_len s).symm.trans (e ▸ rfl))) hne
  | cons x r =>
    rw [e] at f lt n93 sl hf mem
    refine item_ls (b := true) (x := x) (r := r) (t := [98, 45, 97, 33] ++ x :: r) hf lt (fun q => n93 (.tail _ q)) (lz (Nat.le_of_succ_le sl) (lq rfl)) (fun e => nomatch e) (fun _ => (f x (.head _)).2.2.1) (Nat.succ_pos _) (fun q => (mAp (show 93 ∈ [45, 97, 33] ++ x :: r from q)).elim (by decide) n93) (fun c hc => (mAp hc).elim (fun hc => ?_) (lt c)) ?_ fun c hc => neg_sem ((mem c).trans (hb c hc))
    · exact all_of (p := (· < 128)) (l := [98, 45, 97, 33]) rfl c hc
    · rw [lnA]; exact lz (Nat.add_le_add_left sl 4) (lq rfl)
theorem item_6 (s : Sg O k M) (hb : ∀ c ∈ col2, c ∈ O ↔ ¬ c ∈ S) : ∃ p q, Ltr col2 S (91 :: (([33, 93] ++ someN O) ++ [93])) p q := by
  have f := fun c hc => col2_f c (s.col c ((some_mem s).mp hc))
  have lt : ∀ c ∈ 93 :: someN O, c < 128 := fMc ⟨by decide, fun c hc => col2_lt c (s.col c ((some_mem s).mp hc))⟩
  have n93 : 93 ∉ someN O := fun q => (f 93 q).2.2.2.1 rfl
  have sl : (someN O).length ≤ 14 := some_len s ▸ s.len
  have ml : M.length ≤ 14 := lz (by rw [s.eq, lnA]; exact Nat.le_add_left _ _ : M.length ≤ O.length) s.len
  have hf : Fc ([33, 93] ++ someN O) [33 :: 93 :: someN O] := by
    rw [some_eq s]
    exact fc_end (T := 33 :: 93 :: M) (fun q => (mAp (show 45 ∈ [33, 93] ++ M from q)).elim (by decide) s.no) (fun r => sl2 (sl2 (Nat.zero_le _))) (sl2 (sl2 (lz ml (lq rfl))))
  exact item_ls (b := true) (x := 93) (r := someN O) hf lt n93 (lz sl (lq rfl)) (fun e => nomatch e) (fun _ => by decide) (sl2 (sl2 (Nat.zero_le _))) n93 (fMc ⟨by decide, lt⟩) (sl2 (sl2 (lz sl (lq rfl))))
    fun c hc => neg_sem ⟨fun q => (mCo q).elim (fun e => absurd e (col2_f c hc).2.2.2.1) fun q => (hb c hc).mp ((some_mem s).mp q), fun q => .tail _ ((some_mem s).mpr ((hb c hc).mpr q))⟩
theorem item_r {U : List Nat} (b : Bool) (hU : ∃ c ∈ col2, c ∈ U) (hs : ∀ c ∈ col2, (U.contains c != b) = S.contains c) : ∃ p q, Ltr col2 S (91 :: ((bang b ++ rangesN col2 U) ++ [93])) p q := by
  obtain ⟨i1, i2, i3⟩ := runs_ok (S := U) col2_sort col2_32
  rw [ranges_eq]
  refine item_rg (fun e => ?_) (fun p hp => ?_) i3 fun c hc => by rw [i2 c hc]; exact hs c hc
  · obtain ⟨c, hc, h⟩ := hU
    have := i2 c hc
    rw [e, List.contains_iff_mem.mpr h] at this; cases this
  · obtain ⟨h1, h2, h3⟩ := i1 p hp
    have f1 := col2_f _ h1
    exact ⟨⟨col2_lt _ h1, f1.2.1, f1.2.2.1, f1.2.2.2.1⟩, ⟨col2_lt _ h2, (col2_f _ h2).2.2.2.1⟩, h3⟩
end
theorem full2 : ((List.range 5).all fun d => itemC col2 col2 ((fullN col2).getD d [])) = true := by kernel_rfl
theorem lone2 : (col2.all fun c => c == 63 || itemC col2 [c] [c]) = true := by kernel_rfl
theorem bar_mem {col S : List Nat} : ∀ c ∈ col, c ∈ barN col S ↔ ¬ c ∈ S := fun c hc => by
  have e : (!S.contains c) = true ↔ ¬ c ∈ S := (Bool.not_eq_true' _).to_iff.trans (Bool.eq_false_iff.trans (not_congr List.contains_iff_mem))
  exact List.mem_filter.trans ⟨fun h => e.mp h.2, fun h => ⟨hc, e.mpr h⟩⟩
theorem rest2 {S O L M : List Nat} {h k : Bool} (s : Sg S h L) (o : Sg O k M) (hS : S ≠ []) (hO : O ≠ []) (hb : ∀ c ∈ col2, c ∈ O ↔ ¬ c ∈ S) (e : barN col2 S = O) : ∀ {d : Nat}, d < 10 → ∃ p q, Ltr col2 S (restN col2 S d) p q := by
  have ex : ∀ {T : List Nat} {h : Bool} {L : List Nat}, Sg T h L → T ≠ [] → ∃ c ∈ col2, c ∈ T := fun s h => (List.exists_mem_of_ne_nil _ h).imp fun c q => ⟨s.col c q, q⟩
  have z0 : ∀ B : List Nat, ((∀ c ∈ B, c < 128 ∧ c ≠ 93) ∧ B.length ≤ 3) → (∀ x r, S = x :: r → Fc (x :: r ++ B) [x :: r]) → ∃ p q, Ltr col2 S (91 :: ((S ++ B) ++ [93])) p q := fun B hB hf => by
    cases S with
    | nil => exact absurd rfl hS
    | cons x r => exact item_0 s hB (hf x r rfl)
  have cF := fun c hc => col2_f c hc
  unfold restN setN
  rw [e]
  intro d hd
  match d, hd with
  | 0, _ =>
    have q := z0 [] ⟨(fun _ h => nomatch h), Nat.zero_le _⟩ fun x r ex => by rw [List.append_nil, ← ex, s.eq]; exact fc_hd s.no
    rwa [List.append_nil] at q
  | 1, _ => exact item_r true (ex o hO) fun c hc => neg_sem (hb c hc)
  | 2, _ => exact item_r false (ex s hS) fun c hc => pos_sem Iff.rfl
  | 3, _ => exact z0 [98, 45, 97] ⟨by decide, Nat.le_refl 3⟩ fun x r ex => fc_ba (tail_no (ex ▸ s)) (cF x (s.col x (ex ▸ .head _))).2.1 (lz (Nat.le_of_succ_le (ex ▸ s.len : (x :: r).length ≤ 14)) (lq rfl))
  | 4, _ => exact item_4 o hO hb
  | 5, _ => exact item_pre (x := 93) (Q := []) s (by decide) (by decide) (by decide) (by decide) (by decide) fun c hc => (cF c hc).2.2.2.2.1
  | 6, _ => exact item_6 o hb
  | 7, _ => exact item_pre (x := 94) (Q := []) s (by decide) (by decide) (by decide) (by decide) (by decide) fun c hc => (cF c hc).2.2.2.2.2.1
  | 8, _ => exact item_pre (x := 91) (Q := []) s (by decide) (by decide) (by decide) (by decide) (by decide) fun c hc => (cF c hc).2.2.2.2.2.2.1
  | 9, _ => exact item_pre (x := 38) (Q := [38, 126, 126, 124, 124, 92]) s (by decide) (by decide) (by decide) (by decide) (by decide) fun c hc => (cF c hc).2.2.2.2.2.2.2
  | d + 10, h => exact absurd h (Nat.not_lt.mpr (Nat.le_add_left 10 d))
theorem item2 {g : Nat → Bool} (hne : col2.filter g ≠ []) {d : Nat} (hd : d < 10) : ∃ p q, Ltr col2 (col2.filter g) (writN col2 (col2.filter g) d) p q := by
  obtain ⟨h, L, s⟩ := sg_ex g
  obtain ⟨k, M, o⟩ := sg_ex fun c => !(col2.filter g).contains c
  have hb := bar_mem (col := col2) (S := col2.filter g)
  unfold writN
  by_cases hO : barN col2 (col2.filter g) = []
  · rw [if_pos hO]
    have e : col2.filter g = col2 := List.filter_eq_self.mpr fun c hc => by
      cases q : g c with
      | true => rfl
      | false => exact absurd ((hb c hc).mpr fun m => by rw [(List.mem_filter.mp m).2] at q; cases q) (by rw [hO]; exact List.not_mem_nil)
    rw [e]
    exact ltr_of (List.all_eq_true.mp full2 (d % 5) (List.mem_range.mpr (Nat.mod_lt d (Nat.succ_pos 4))))
  · rw [if_neg hO]
    by_cases h1 : d = 0 ∧ (col2.filter g).length = 1 ∧ col2.filter g ≠ [63]
    · rw [if_pos h1]
      obtain ⟨c, e⟩ := List.length_eq_one_iff.mp h1.2.1
      have n : c ≠ 63 := fun q => h1.2.2 (q ▸ e)
      have q := List.all_eq_true.mp lone2 c (s.col c (e ▸ .head _))
      rw [beq_eq_false_iff_ne.mpr n] at q
      rw [e]
      exact ltr_of q
    · rw [if_neg h1]
      exact rest2 s o hne hO hb rfl hd
noncomputable def swIn (D : List Nat) (o w : Nat) : Nat → Nat → List Nat → List Nat
  | _, 0, B => B
  | j, n + 1, B => swIn D o w (j + 1) n (B.set (o + w - 1 - j) (D.getD (o + j) 0))
noncomputable def swOut (D : List Nat) (w : Nat) : Nat → Nat → List Nat → List Nat
  | _, 0, B => B
  | i, n + 1, B => swOut D w (i + 1) n (swIn D (i * w) w 0 w B)
theorem swIn_len {D : List Nat} {o w : Nat} : ∀ (n j : Nat) (B : List Nat), (swIn D o w j n B).length = B.length
  | 0, _, _ => rfl
  | n + 1, j, B => (swIn_len n (j + 1) _).trans (List.length_set ..)
theorem swOut_len {D : List Nat} {w : Nat} : ∀ (n i : Nat) (B : List Nat), (swOut D w i n B).length = B.length
  | 0, _, _ => rfl
  | n + 1, i, B => (swOut_len n (i + 1) _).trans (swIn_len ..)
section
variable {X : Cx} {l : Kn} {a b : PE} {n m k w o : Nat} {D B : List Nat}
theorem eSub (ha : Ev X a l (.int (n : Int))) (hb : Ev X b l (.int (m : Int))) (h : m ≤ n) : Ev X (.bin .sub a b) l (.int ((n - m : Nat) : Int)) := eBin ha hb (congrArg (fun z => some (AV.int z)) (Int.ofNat_sub h).symm)
theorem bytesB (h : B.length ≤ lim) : biV .bytesOf (.ba B) = some (.bytes B) := iT h
theorem putBA {c p : Nat} (hp : p < B.length) (hl : B.length ≤ lim) (hc : c < 256) : putV (.ba B) (p : Int) (.int (c : Int)) = some (.ba (B.set p c)) := bI rfl ((iT ⟨Int.natCast_nonneg c, Int.ofNat_lt.mpr hc⟩).trans (mI (pyN hp hl) rfl))
noncomputable abbrev kSi (D : List Nat) (w o : Nat) (B : List Nat) : Kn := [(2, .ba B), (3, .int (o : Int)), (1, .int (w : Int)), (0, .bytes D)]
theorem swInner (hD : D.length ≤ 900) (hc : ∀ c ∈ D, c < 256) (ho : o + w ≤ D.length) : ∀ (n j : Nat) (B : List Nat), j + n = w → B.length = D.length → Fo X L.sw_a .nil (.one 4) (ups j n) (kSi D w o B) (kSi D w o (swIn D o w j n B)) .next
  | 0, _, _, _, _ => .nil .nil
  | n + 1, j, B, hj, hB => by
    have h1 : j + 1 ≤ w := hj ▸ Nat.add_le_add_left (sl2 (Nat.zero_le n)) j
    have h2 : o + j < D.length := Nat.lt_of_lt_of_le (Nat.add_lt_add_left h1 o) ho
    have h3 : 1 ≤ o + w := lz (lz (Nat.le_add_left 1 j) h1) (Nat.le_add_left w o)
    have h4 : j ≤ o + w - 1 := Nat.le_sub_of_add_le (lz h1 (Nat.le_add_left w o))
    have h5 : o + w - 1 - j < B.length := hB ▸ Nat.lt_of_le_of_lt (Nat.sub_le _ _) (Nat.lt_of_lt_of_le (Nat.sub_lt h3 (by decide)) ho)
    have h6 : D.getD (o + j) 0 < 256 := hc _ (List.mem_of_getElem? (getS h2))
    have ih := swInner hD hc ho n (j + 1) (B.set (o + w - 1 - j) (D.getD (o + j) 0)) ((Nat.add_right_comm j 1 n).trans hj) ((List.length_set ..).trans hB)
    exact .step (l1 := kSi D w o (B.set (o + w - 1 - j) (D.getD (o + j) 0))) rfl (.sub (.one (.put (eIdx (vr rfl rfl) (eAdd (vr rfl rfl) (vr rfl rfl)) (ixB (getS h2) (lim9 hD))) (eSub (eSub (eAdd (vr rfl rfl) (vr rfl rfl)) (cs (v := .int ((1 : Nat) : Int))) h3) (vr rfl rfl) h4) rfl (putBA h5 (hB ▸ lim9 hD) h6))) rfl) ih
noncomputable abbrev kSo (D : List Nat) (w : Nat) (B : List Nat) : Kn := [(2, .ba B), (1, .int (w : Int)), (0, .bytes D)]
theorem swOuter {N : Nat} (hD : D.length ≤ 900) (hc : ∀ c ∈ D, c < 256) (hw : w ≤ 900) (hN : D.length = N * w) : ∀ (n i : Nat) (B : List Nat), i + n = N → B.length = D.length → Fo X L.sw_b .nil (.one 3) ((List.range' i n).map fun (k : Nat) => .int ((k * w : Nat) : Int)) (kSo D w B) (kSo D w (swOut D w i n B)) .next
  | 0, _, _, _, _ => .nil .nil
  | n + 1, i, B, hi, hB => by
    have h1 : i * w + w ≤ D.length := by
      rw [hN, ← Nat.succ_mul]; exact Nat.mul_le_mul_right w (hi ▸ Nat.add_le_add_left (sl2 (Nat.zero_le n)) i)
    have z := swInner (X := X) hD hc h1 w 0 B (Nat.zero_add w) hB
    exact .step (l1 := kSo D w (swIn D (i * w) w 0 w B)) rfl (.sub (.one (.loop (lRange (sC (vr rfl rfl) sN) (range_up (lim9 hw))) (.pre (l1 := kSi D w (i * w) B) rfl z))) rfl) (swOuter hD hc hw hN n (i + 1) _ ((Nat.add_right_comm i 1 n).trans hi) ((swIn_len ..).trans hB))
theorem sw_gen {N : Nat} {F : Nat → List AV → Option AV} (hX : X.Ξ = some F) (hw : 0 < w) (hD : D.length ≤ 900) (hc : ∀ c ∈ D, c < 256) (hw' : w ≤ 900) (hN : D.length = N * w) : runFn X.Φ X.Γ X.Ξ lim L.f_sw [.bytes D, .int (w : Int)] = some (.bytes (swOut D w 0 N (List.replicate D.length 0))) := by
  have hlen : biV .len (.bytes D) = some (.int (D.length : Int)) := lB (lim9 hD)
  have hr : rangeV [.int 0, .int (D.length : Int), .int (w : Int)] = some ((List.range' 0 N).map fun (k : Nat) => AV.int ((k * w : Nat) : Int)) := by
    rw [rangeV3, hN]; exact range_step hw (lz hw' (by decide)) (hN ▸ lim9 hD)
  exact fn_run (l := [(1, .int (w : Int)), (0, .bytes D)]) rfl rfl (.seq (.newBA hX (eBi (vr rfl rfl) hlen) (lim9 hD) rfl) (.seq (.loop (lRange (sC cs (sC (eBi (vr rfl rfl) hlen) (sC (vr rfl rfl) sN))) hr) (swOuter hD hc hw' hN N 0 _ (Nat.zero_add N) (List.length_replicate ..)))
    (.out (.ret (eBi (vr rfl rfl) (bytesB (by rw [swOut_len, List.length_replicate]; exact lim9 hD))) rfl))))
end
noncomputable def AllL {α : Type} : Nat → (List α → Prop) → Prop
  | 0, P => P []
  | n + 1, P => ∀ x, AllL n fun l => P (x :: l)
theorem allL {α : Type} : ∀ {n : Nat} {P : List α → Prop}, AllL n P → ∀ {l : List α}, l.length = n → P l
  | 0, _, h, [], _ => h
  | n + 1, P, h, x :: l, e => allL (P := fun l => P (x :: l)) (h x) (Nat.succ.inj e)
theorem lt7 {P : Nat → Prop} (h0 : P 0) (h1 : P 1) (h2 : P 2) (h3 : P 3) (h4 : P 4) (h5 : P 5) (h6 : P 6) : ∀ {n : Nat}, n < 7 → P n
  | 0, _ => h0
  | 1, _ => h1
  | 2, _ => h2
  | 3, _ => h3
  | 4, _ => h4
  | 5, _ => h5
  | 6, _ => h6
  | n + 7, h => absurd h (Nat.not_lt.mpr (Nat.le_add_left 7 n))
theorem swap2 {w : Nat} (h : w < 7) : AllL w fun a : List Nat => AllL w fun b : List Nat => swOut (a ++ b) w 0 2 (List.replicate (w + w) 0) = a.reverse ++ b.reverse :=
  lt7 (P := fun w => AllL w fun a : List Nat => AllL w fun b : List Nat => swOut (a ++ b) w 0 2 (List.replicate (w + w) 0) = a.reverse ++ b.reverse) rfl (fun _ _ => rfl) (fun _ _ _ _ => rfl) (fun _ _ _ _ _ _ => rfl) (fun _ _ _ _ _ _ _ _ => rfl) (fun _ _ _ _ _ _ _ _ _ _ => rfl) (fun _ _ _ _ _ _ _ _ _ _ _ _ => rfl) h
section
variable {X : Cx} {a b : List Nat} {w : Nat}
theorem sw_run {F : Nat → List AV → Option AV} (hX : X.Ξ = some F) (ha : a.length = w) (hb : b.length = w) (h0 : 0 < w) (h7 : w < 7) (hc : ∀ c ∈ a ++ b, c < 256) : runFn X.Φ X.Γ X.Ξ lim L.f_sw [.bytes (a ++ b), .int (w : Int)] = some (.bytes (a.reverse ++ b.reverse)) := by
  have hl : (a ++ b).length = w + w := by rw [lnA, ha, hb]
  have z := sw_gen (N := 2) hX h0 (hl ▸ lz (Nat.add_le_add (Nat.le_of_lt h7) (Nat.le_of_lt h7)) (lq rfl)) hc (lz (Nat.le_of_lt h7) (lq rfl)) (hl.trans (Nat.two_mul w).symm)
  rw [hl] at z
  exact z.trans (congrArg (fun q => some (AV.bytes q)) (allL (allL (swap2 h7) ha) hb))
end
noncomputable def dfl2 : List Int := [1010010101010, 12075431869, 14, 3080650, 20320]
theorem five {α : Type} {l : List α} (h : l.length = 5) : ∃ a b c d e, l = [a, b, c, d, e] := allL (n := 5) (P := fun l => ∃ a b c d e, l = [a, b, c, d, e]) (fun a b c d e => ⟨a, b, c, d, e, rfl⟩) h
theorem ints_of : ∀ l : List Nat, intsOf (l.map fun (c : Nat) => AV.int (c : Int)) = some (l.map fun (c : Nat) => (c : Int))
  | [] => rfl
  | x :: l => mI (ints_of l) rfl
theorem toNats : ∀ l : List Nat, (l.map fun (c : Nat) => (c : Int)).map Int.toNat = l
  | [] => rfl
  | x :: l => congrArg (x :: ·) (toNats l)
theorem bytesL {l : List Nat} (h : ∀ c ∈ l, c < 256) (hl : l.length ≤ lim) : biV .bytesOf (.list (l.map fun (c : Nat) => .int (c : Int))) = some (.bytes l) :=
  bI (ints_of l) ((if_pos (bM ⟨List.all_eq_true.mpr fun i hi => (List.mem_map.mp hi).elim fun c hc => hc.2 ▸ bM ⟨dT (Int.natCast_nonneg c), dT (Int.ofNat_lt.mpr (h c hc.1))⟩, dT (by rw [List.length_map]; exact hl)⟩)).trans (by rw [toNats]))
theorem chrC {c : Nat} (h : c < 256) : biV .chr (.int (c : Int)) = some (.str [c]) := bI rfl (if_pos ⟨Int.natCast_nonneg c, Int.ofNat_lt.mpr h⟩)
theorem iterS {s : List Nat} (h : ∀ c ∈ s, c < 128) : iterV (.str s) = some (s.map fun c => .str [c]) := if_pos (List.all_eq_true.mpr fun c hc => dT (h c hc))
theorem neI {u v : Nat} (h : u = v) : cmpV .ne (.int (u : Int)) (.int (v : Int)) = some false := by subst h; exact congrArg (fun z => some (!z)) (beq_self_eq_true (u : Int))
theorem neS {s t : List Nat} (h : s = t) : cmpV .ne (.str s) (.str t) = some false := by subst h; exact congrArg (fun z => some (!z)) (beq_self_eq_true s)
theorem rngN {n : Nat} (h : n ≤ lim) : rangeV [.int (n : Int)] = some ((List.range n).map fun (k : Nat) => .int (k : Int)) := (range_up h).trans (congrArg some (by rw [List.range_eq_range']; exact (ups_eq n 0).symm))
section
variable {X : Cx} {l : Kn} {S : List Nat} {x0 x1 x2 x3 x4 : Int} {n fi j k : Nat} {a b e i : PE}
noncomputable abbrev celL (x0 x1 x2 x3 x4 : Int) : AV := .list [.int x0, .int x1, .int x2, .int x3, .int x4]
theorem cellsE {script : List Int} (hs : script.length ≤ 63) (h0 : lk 0 l = some (.list (script.map .int))) : Ev X (.bin .add (.slc (.var 0) (.cst .none) (.cst (.int 5)) (.cst .none)) (.slc (.lst (.cons (.cst (.int 1010010101010)) (.cons (.cst (.int 12075431869)) (.cons (.cst (.int 14)) (.cons (.cst (.int 3080650)) (.cons (.cst (.int 20320)) .nil)))))) (.bi .len (.var 0)) (.cst .none) (.cst .none))) l (.list ((script.take 5 ++ dfl2.drop script.length).map .int)) := by
  have hl : (script.map AV.int).length ≤ lim := lenMap hs (lq rfl)
  have e1 := eSlc (X := X) (l := l) (j := none) (j' := some ((5 : Nat) : Int)) (vr h0 rfl) cs (cs (v := .int ((5 : Nat) : Int))) trivial (smN (lq rfl)) ((slL hl).trans (by rw [cutT, ← List.map_take]))
  have e2 := eSlc (X := X) (l := l) (j := some (script.length : Int)) (j' := none) (eLst (xs := dfl2.map .int) (sC cs (sC cs (sC cs (sC cs (sC cs sN))))) rfl) (eBi (vr h0 rfl) ((lL hl).trans (by rw [List.length_map]; rfl))) cs (smN (lz hs (lq rfl))) trivial ((slL (lq rfl)).trans (by rw [cutF, ← List.map_drop]))
  exact eBin e1 e2 (bI rfl ((if_pos (by rw [List.length_map, List.length_map, List.length_take, List.length_drop]; exact lz (Nat.add_le_add (Nat.min_le_left ..) (Nat.sub_le ..)) (lq rfl))).trans (by rw [List.map_append])))
theorem cells5 (script : List Int) : (script.take 5 ++ dfl2.drop script.length).length = 5 := by
  rw [lnA, List.length_take, List.length_drop, Nat.add_comm]; exact Nat.sub_add_min_cancel 5 _
noncomputable def digB (x : Int) (j : Nat) : Bool := decide (md (x.fdiv ((10 ^ j : Nat) : Int) + (j : Int)) 2 = 1)
noncomputable def setB (x : Int) : List Nat := ((List.range 14).filter (digB x)).map fun j => col2.getD j 0
theorem at_inj : ∀ i : Fin 14, (col2.findIdx? (· == col2.getD i 0)) = some i.val := by decide +kernel
theorem setB_filter (x : Int) : ∃ g, setB x = col2.filter g := by
  refine ⟨fun c => (col2.findIdx? (· == c)).elim false (digB x), ?_⟩
  have h : ∀ l : List Nat, (∀ j ∈ l, j < 14) → (l.filter (digB x)).map (fun j => col2.getD j 0) = (l.map fun j => col2.getD j 0).filter fun c => (col2.findIdx? (· == c)).elim false (digB x) := fun l => by
    induction l with
    | nil => exact fun _ => rfl
    | cons j l ih =>
      intro hj
      rw [List.map_cons, List.filter_cons, List.filter_cons, at_inj ⟨j, hj j (.head _)⟩]
      show _ = if digB x j = true then _ else _
      rw [← ih fun k hk => hj k (.tail _ hk)]
      cases digB x j <;> rfl
  exact h (List.range 14) fun j hj => List.mem_range.mp hj
theorem pow14 {k : Nat} (hk : k ≤ 14) : ((10 ^ k : Nat) : Int) < 2 ^ 60 := Int.ofNat_lt.mpr (Nat.lt_of_le_of_lt (Nat.pow_le_pow_right (lq rfl) hk : 10 ^ k ≤ 10 ^ 14) (lq rfl))
theorem innerE (h1 : lk 1 l = some (celL x0 x1 x2 x3 x4)) (h2 : lk 2 l = some (.str col2)) (hc : onlyL [1, 2] l = [(2, .str col2), (1, celL x0 x1 x2 x3 x4)]) (hb : capB [1, 2] l = true) : Ev X (.comp [1, 2] (.clause (.one 20) (.range (.cons (.cst (.int 14)) .nil)) (.cons (.cmp (.bin .mod (.bin .add (.bin .fdiv (.idx (.var 1) (.cst (.int 0))) (.bin .pow (.cst (.int 10)) (.var 20))) (.var 20)) (.cst (.int 2))) .eq (.cst (.int 1))) .nil) (.done (.idx (.var 2) (.var 20))))) l (chrL (setB x0)) := by
  have z := eFil (X := X) (l := l) (caps := [1, 2]) (t := 20) (it := .range (.cons (.cst (.int 14)) .nil)) (ifs := .cons (.cmp (.bin .mod (.bin .add (.bin .fdiv (.idx (.var 1) (.cst (.int 0))) (.bin .pow (.cst (.int 10)) (.var 20))) (.var 20)) (.cst (.int 2))) .eq (.cst (.int 1))) .nil) (e := .idx (.var 2) (.var 20)) (B := List.range 14) (g := fun (j : Nat) => .int (j : Int)) (p := digB x0) (k := fun j => .str [col2.getD j 0])
    (iRange (sC cs sN) (rngN (n := 14) (lq rfl))) hb (by rw [hc]; rfl) (by rw [hc]; rfl) (fun j hj => by
      have h8 := List.mem_range.mp hj
      rw [hc]
      exact ⟨a1 (bCmp (eMod (eAddI (eDiv (eIdx (vr rfl rfl) cs (ixL (n := 0) rfl (lq rfl))) (ePow (vr rfl rfl) (lz (Nat.le_of_lt h8) (lq rfl))) (Nat.pow_pos (Nat.succ_pos 9)) (pow14 (Nat.le_of_lt h8))) (vr rfl rfl)) (cs (v := .int ((2 : Nat) : Int))) (Nat.succ_pos 1) (by decide)) cs (cEqI _ 1)), (fun _ => eGet (vr rfl rfl) (vr rfl rfl) h8 (lq rfl)), rfl⟩) (lq rfl)
  rw [show ((List.range 14).filter (digB x0)).map (fun j => AV.str [col2.getD j 0]) = (setB x0).map fun c => .str [c] by rw [setB, List.map_map]; rfl] at z
  exact z
theorem outerE (hS : ∀ x ∈ S, x < 128) (h2 : lk 2 l = some (.str col2)) (h3 : lk 3 l = some (chrL S)) (hc : onlyL [3] l = [(3, chrL S)]) (hb : capB [3] l = true) : Ev X (.comp [3] (.clause (.one 21) (.ex (.var 2)) (.cons (.cmp (.var 21) .notin (.var 3)) .nil) (.done (.var 21)))) l (chrL (barN col2 S)) :=
  eFil (caps := [3]) (t := 21) (B := col2) (g := fun c => .str [c]) (k := fun c => .str [c]) (p := fun c => !S.contains c) (iEx (vr h2 rfl) (iterS col2_lt)) hb (by rw [hc]; rfl) (by rw [hc]; rfl)
    (fun c h => by
      rw [hc]
      exact ⟨a1 (bCmp (vr rfl rfl) (vr rfl rfl) (congrArg (Option.map not) (in_chr (col2_lt c h) hS))), (fun _ => vr rfl rfl), rfl⟩) (lq rfl)
end
end Mine.V
namespace Mine.V
open PySem
structure C2 (X : Cx) : Prop where
  row : ∀ x : Int, ∃ (m : Nat) (t : List Nat), X.Φ L.i_ro [.int x] = some (.tuple [.int (m : Int), .str t]) ∧ X.Φ L.i_fi [.int (m : Int)] = some (.str t) ∧ t.length = 10 ∧ ∀ c ∈ t, c ∈ col2
  tr : ∀ {P : List Nat} {ps : List Pt}, P.length ≤ 900 → (∀ c ∈ P, c < 128) → nTr 1000 [] P = some ps → X.Φ L.i_tr [.str P, .star, .str [46]] = some (.list (ps.map partAV))
  tl : ∀ {P : List Nat} {ss : List (List Nat)}, P.length ≤ 900 → (∀ c ∈ P, c < 128) → nTr 1000 [] P = some ([none] ++ ss.map some ++ [none]) → ss ≠ [] → ss.length ≤ 800 → ss.flatten.length ≤ 500000 → X.Φ L.i_tl [.str P] = some (.str ([40, 63, 115, 58, 40, 63, 62, 46, 42, 63] ++ ss.flatten ++ [41, 46, 42, 41, 92, 90]))
  wr : ∀ {S : List Nat} {d : Nat}, (∀ x ∈ S, x < 128) → S.length ≤ 100 → d < 10 → X.Φ L.i_wr [.str col2, chrL S, .int (d : Int)] = some (.str (writN col2 S d))
  rd : ∀ {p : List Nat} {q : Bool × List (Nat × Nat)}, nRead p = some q → X.Φ L.i_rd [.str p] = some (readAV q)
  be : ∀ {rds : List (Bool × List (Nat × Nat))} {w : List Nat}, w.length ≤ 900 → rds.length ≤ 900 → (∀ q ∈ rds, q.2.length ≤ 1000 ∧ ∀ p ∈ q.2, p.1 < 128) → X.Φ L.i_be [.list (rds.map readAV), .str w] = some (.bool (nBegins rds w))
  sw : ∃ F, X.Ξ = some F ∧ ∀ {a b : List Nat} {w : Nat}, a.length = w → b.length = w → 0 < w → w < 7 → (∀ c ∈ a ++ b, c < 256) → F L.i_sw [.bytes (a ++ b), .int (w : Int)] = some (.bytes (a.reverse ++ b.reverse))
abbrev Rw := Int × Nat × List Nat
structure RwOk (X : Cx) (b : Rw) : Prop where
  ro : X.Φ L.i_ro [.int b.1] = some (.tuple [.int (b.2.1 : Int), .str b.2.2])
  fi : X.Φ L.i_fi [.int (b.2.1 : Int)] = some (.str b.2.2)
  len : b.2.2.length = 10
  col : ∀ c ∈ b.2.2, c ∈ col2
noncomputable def rwAV (b : Rw) : AV := .tuple [.int (b.2.1 : Int), .str b.2.2]
section
variable {X : Cx} {l : Kn} {a b i e : PE} {S : List Nat} {C : AV} {n fi k : Nat} {xs R : List AV} {B : List Rw} {x0 x1 x2 x3 x4 : Int}
theorem rows_ex (F : C2 X) (x y : Int) : ∃ B : List Rw, B.length = 2 ∧ (B.map fun b => AV.int b.1) = [.int x, .int y] ∧ ∀ b ∈ B, RwOk X b := by
  obtain ⟨m1, t1, h1, h2, h3, h4⟩ := F.row x
  obtain ⟨m2, t2, g1, g2, g3, g4⟩ := F.row y
  exact ⟨[(x, m1, t1), (y, m2, t2)], rfl, rfl, fMc ⟨⟨h1, h2, h3, h4⟩, fMc ⟨⟨g1, g2, g3, g4⟩, fun _ h => nomatch h⟩⟩⟩
noncomputable def cutW (fi n : Nat) (t : List Nat) : List Nat := (t.drop fi).take (fi + n - fi)
theorem eMap2 {β : Type} {B : List β} {g1 g2 k : β → AV} {t t2 : Nat} {it : PI} {caps : List Nat} (hit : EvI X it l (B.map fun x => .tuple [g1 x, g2 x])) (hc : capB caps l = true) (hn : lk t (onlyL caps l) = none) (hn2 : lk t2 (onlyL caps l) = none) (ht : t ≠ t2) (ho : okB t (onlyL caps l) = true) (ho2 : ∀ x ∈ B, okB t2 ((t, g1 x) :: onlyL caps l) = true) (hx : ∀ x ∈ B, Ev X e ((t2, g2 x) :: (t, g1 x) :: onlyL caps l) (k x) ∧ plainV (k x) = true) (hl : B.length ≤ lim) : Ev X (.comp caps (.clause (.two t t2) it .nil (.done e))) l (.list (B.map k)) := by
  have z := eFil2 (p := fun _ => true) (ifs := .nil) hit hc hn hn2 ht ho ho2 (fun x hxB => ⟨aN, fun _ => (hx x hxB).1, (hx x hxB).2⟩) hl
  rwa [filter_all] at z
theorem cutE {s : List Nat} (ha : Ev X a l (.str s)) (h6 : lk 6 l = some (.int (fi : Int))) (h5 : lk 5 l = some (.int (n : Int))) (hs : s.length ≤ 900) (hf : fi ≤ 10) (hn : n ≤ 10) : Ev X (.slc a (.var 6) (.bin .add (.var 6) (.var 5)) (.cst .none)) l (.str (cutW fi n s)) :=
  eSlc (j := some (fi : Int)) (j' := some ((fi + n : Nat) : Int)) ha (vr h6 rfl) (eAdd (vr h6 rfl) (vr h5 rfl)) (smN (lz hf (lq rfl))) (smN (lz (Nat.add_le_add hf hn) (lq rfl))) ((slS (lim9 hs)).trans (by rw [cutN]; rfl))
theorem cutW_len {t : List Nat} (ht : t.length = 10) (h : fi + n ≤ 10) : (cutW fi n t).length = n := by
  rw [cutW, List.length_take, List.length_drop, ht, Nat.add_sub_cancel_left]; exact Nat.min_eq_left (Nat.le_sub_of_add_le' h)
theorem cutW_col {b : Rw} (hb : RwOk X b) : ∀ c ∈ cutW fi n b.2.2, c ∈ col2 := fun c h => hb.col c (List.mem_of_mem_drop (List.mem_of_mem_take h))
noncomputable def inL (S : List Nat) (w : List Nat) : List Bool := w.map S.contains
noncomputable def boolL (w : List Bool) : AV := .list (w.map .bool)
theorem insE {w : List Nat} (hS : ∀ x ∈ S, x < 128) (hw : ∀ c ∈ w, c < 128) (hl : w.length ≤ 900) (hi : EvI X (.ex i) l (w.map fun c => .str [c])) (hb : capB [3] l = true) (hc : onlyL [3] l = [(3, chrL S)]) : Ev X (.comp [3] (.clause (.one 21) (.ex i) .nil (.done (.cmp (.var 21) .isin (.var 3))))) l (boolL (inL S w)) := by
  have z := eMap (X := X) (l := l) (caps := [3]) (t := 21) (it := .ex i) (e := .cmp (.var 21) .isin (.var 3)) (B := w) (g := fun c => .str [c]) (k := fun c => .bool (S.contains c)) hi hb (by rw [hc]; rfl) (by rw [hc]; rfl) (fun c hcw => by
    rw [hc]
    exact ⟨eCmp (vr rfl rfl) (vr rfl rfl) (in_chr (hw c hcw) hS), rfl⟩) (lim9 hl)
  rw [boolL, inL, List.map_map]
  exact z
noncomputable abbrev kA (S : List Nat) (C : AV) (n fi : Nat) : Kn := [(6, .int (fi : Int)), (5, .int (n : Int)), (4, chrL (barN col2 S)), (3, chrL S), (2, .str col2), (1, C)]
noncomputable abbrev tx (B : List Rw) : AV := .list (B.map fun b => .str b.2.2)
noncomputable abbrev kR2 (B : List Rw) (S : List Nat) (C : AV) (n fi : Nat) : Kn := (8, tx B) :: (7, .list (B.map rwAV)) :: kA S C n fi
theorem rowLt {b : Rw} (hb : RwOk X b) : b.2.2.length ≤ 900 := hb.len ▸ lq rfl
theorem len2 {α : Type} {B : List α} (h : B.length = 2) : B.length ≤ lim := h ▸ lq rfl
theorem kindsE (h2 : B.length = 2) (hB : ∀ b ∈ B, RwOk X b) : EvB X (.cmp (.comp [] (.clause (.one 23) (.ex (.var 8)) .nil (.done (.bin .add (.slc (.var 23) (.cst .none) (.cst (.int 1)) (.cst .none)) (.slc (.var 23) (.cst (.int 10)) (.cst .none) (.cst .none)))))) .ne (.comp [] (.clause (.two 26 27) (.ex (.var 7)) .nil (.done (.slc (.var 27) (.cst .none) (.cst (.int 1)) (.cst .none)))))) (kR2 B S C n fi) false := by
  have e1 : ∀ {k : Nat} {b : Rw} {l : Kn}, b ∈ B → lk k l = some (.str b.2.2) → Ev X (.slc (.var k) (.cst .none) (.cst (.int 1)) (.cst .none)) l (.str (b.2.2.take 1)) := fun hb hk => eSlc (j := none) (j' := some ((1 : Nat) : Int)) (vr hk rfl) cs cs trivial (smN (lq rfl)) ((slS (lim9 (rowLt (hB _ hb)))).trans (by rw [cutT]))
  exact bCmp (eMap (B := B) (g := fun b => .str b.2.2) (k := fun b => .str (b.2.2.take 1)) (iEx (vr rfl rfl) rfl) rfl rfl rfl (fun b hb => ⟨eBin (e1 hb rfl) (eSlc (j := some ((10 : Nat) : Int)) (j' := none) (vr rfl rfl) cs cs (smN (lq rfl)) trivial ((slS (lim9 (rowLt (hB _ hb)))).trans (by rw [cutF, List.drop_of_length_le (Nat.le_of_eq (hB b hb).len)])))
      ((adS (u := []) (lz (List.length_take_le ..) (lq rfl))).trans (by rw [List.append_nil])), rfl⟩) (len2 h2))
    (eMap2 (B := B) (g1 := fun b => .int (b.2.1 : Int)) (g2 := fun b => .str b.2.2) (k := fun b => .str (b.2.2.take 1)) (iEx (vr rfl rfl) rfl) rfl rfl rfl (by decide) rfl (fun _ _ => rfl) (fun b hb => ⟨e1 hb rfl, rfl⟩) (len2 h2))
    (ne_self (rf_map fun b hb => rf_str fun c hc => col2_lt c ((hB b hb).col c (List.mem_of_mem_take hc))))
noncomputable abbrev wdL (B : List Rw) (fi n : Nat) : AV := .list (B.map fun b => .str (cutW fi n b.2.2))
noncomputable abbrev imL (B : List Rw) (S : List Nat) (fi n : Nat) : AV := .list (B.map fun b => boolL (inL S (cutW fi n b.2.2)))
noncomputable abbrev kWd (A I : AV) (S : List Nat) (C : AV) (n : Nat) : Kn := (10, I) :: (9, A) :: [(5, .int (n : Int)), (4, chrL (barN col2 S)), (3, chrL S), (2, .str col2), (1, C)]
theorem rowsRun (hS : ∀ x ∈ S, x < 128) (hf : fi + n ≤ 10) (h2 : B.length = 2) (hx : (B.map fun b => AV.int b.1) = [.int x3, .int x4]) (hB : ∀ b ∈ B, RwOk X b) {r : PSs} {l' : Kn} {f : Fl} (h : Run X r (kWd (wdL B fi n) (imL B S fi n) S (celL x0 x1 x2 x3 x4) n) l' f) :
    Run X (.cons (.asg 7 (.comp [] (.clause (.one 22) (.ex (.slc (.var 1) (.cst (.int 3)) (.cst .none) (.cst .none))) .nil (.done (.call 7 (.cons (.var 22) .nil)))))) (.cons (.asg 8 (.comp [] (.clause (.two 26 27) (.ex (.var 7)) .nil (.done (.call 1 (.cons (.var 26) .nil)))))) (.cons (.iff (.cmp (.comp [] (.clause (.one 23) (.ex (.var 8)) .nil (.done (.bin .add (.slc (.var 23) (.cst .none) (.cst (.int 1)) (.cst .none)) (.slc (.var 23) (.cst (.int 10)) (.cst .none) (.cst .none)))))) .ne (.comp [] (.clause (.two 26 27) (.ex (.var 7)) .nil (.done (.slc (.var 27) (.cst .none) (.cst (.int 1)) (.cst .none)))))) L.la_b .nil)
      (.cons (.asg 9 (.comp [5, 6] (.clause (.one 23) (.ex (.var 8)) .nil (.done (.slc (.var 23) (.var 6) (.bin .add (.var 6) (.var 5)) (.cst .none)))))) (.cons (.asg 10 (.comp [3, 5, 6] (.clause (.two 26 27) (.ex (.var 7)) .nil (.done (.comp [3] (.clause (.one 21) (.ex (.slc (.var 27) (.var 6) (.bin .add (.var 6) (.var 5)) (.cst .none))) .nil (.done (.cmp (.var 21) .isin (.var 3))))))))) r)))))
      (kA S (celL x0 x1 x2 x3 x4) n fi) l' f := by
  have e3 : Ev X (.slc (.var 1) (.cst (.int 3)) (.cst .none) (.cst .none)) (kA S (celL x0 x1 x2 x3 x4) n fi) (.list (B.map fun b => .int b.1)) := hx ▸ eSlc (j := some ((3 : Nat) : Int)) (j' := none) (vr rfl rfl) cs cs (smN (lq rfl)) trivial ((slL (lq rfl)).trans (by rw [cutF]; rfl))
  have f10 : fi ≤ 10 := lz (Nat.le_add_right ..) hf
  have n10 : n ≤ 10 := lz (Nat.le_add_left ..) hf
  exact .asg (v := .list (B.map rwAV)) (eMap (B := B) (g := fun b => .int b.1) (iEx e3 rfl) rfl rfl rfl (fun b hb => ⟨eCall (sC (vr rfl rfl) sN) rfl (hB b hb).ro, rfl⟩) (len2 h2)) rfl rfl
    (.asg (v := tx B) (eMap2 (B := B) (g1 := fun b => .int (b.2.1 : Int)) (g2 := fun b => .str b.2.2) (iEx (vr rfl rfl) rfl) rfl rfl rfl (by decide) rfl (fun _ _ => rfl) (fun b hb => ⟨eCall (sC (vr rfl rfl) sN) rfl (hB b hb).fi, rfl⟩) (len2 h2)) rfl rfl
    (.pre (l1 := kR2 B S (celL x0 x1 x2 x3 x4) n fi) rfl (.seq (.no (kindsE h2 hB)) (.asg (v := wdL B fi n) (eMap (B := B) (g := fun b => .str b.2.2) (iEx (vr rfl rfl) rfl) rfl rfl rfl (fun b hb => ⟨cutE (vr rfl rfl) rfl rfl (rowLt (hB b hb)) f10 n10, rfl⟩) (len2 h2)) rfl rfl
    (.asg (v := imL B S fi n) (eMap2 (B := B) (g1 := fun b => .int (b.2.1 : Int)) (g2 := fun b => .str b.2.2) (iEx (vr rfl rfl) rfl) rfl rfl rfl (by decide) rfl (fun _ _ => rfl) (fun b hb => ⟨insE hS (fun c h => col2_lt c (cutW_col (hB b hb) c h)) (lz (Nat.le_of_eq (cutW_len (hB b hb).len hf)) (lz n10 (lq rfl))) (iEx (cutE (vr rfl rfl) rfl rfl (rowLt (hB b hb)) f10 n10) (iterS fun c h => col2_lt c (cutW_col (hB b hb) c h))) rfl rfl, rfl⟩) (len2 h2)) rfl rfl
    (.pre (l1 := kWd (wdL B fi n) (imL B S fi n) S (celL x0 x1 x2 x3 x4) n) rfl h))))))
end
section
variable {X : Cx} {l : Kn} {S a b : List Nat} {n : Nat} {x0 x1 x2 x3 x4 : Int}
noncomputable abbrev two (u v : List Nat) : AV := .list [.str u, .str v]
noncomputable abbrev ims (S a b : List Nat) : AV := .list [boolL (inL S a), boolL (inL S b)]
noncomputable abbrev kS (S : List Nat) (C : AV) (n : Nat) (a b : List Nat) : Kn := (11, .bytes (a.reverse ++ b.reverse)) :: kWd (two a b) (ims S a b) S C n
structure Wd (n : Nat) (w : List Nat) : Prop where
  len : w.length = n
  col : ∀ c ∈ w, c ∈ col2
theorem Wd.lt {w : List Nat} (h : Wd n w) : ∀ c ∈ w, c < 128 := fun c hc => col2_lt c (h.col c hc)
theorem bytesE (ha : Wd n a) (hb : Wd n b) (hn : n ≤ 6) (h9 : lk 9 l = some (two a b)) (hc : onlyL [] l = []) : Ev X (.bi .bytesOf (.comp [] (.clause (.one 31) (.ex (.var 9)) .nil (.clause (.one 21) (.ex (.var 31)) .nil (.done (.bi .ord (.var 21))))))) l (.bytes (a ++ b)) := by
  have hl : (a ++ b).length ≤ lim := by rw [lnA, ha.len, hb.len]; exact lz (Nat.add_le_add hn hn) (lq rfl)
  have q : (([a, b].map (filF (fun _ => true) fun w => w.map fun (c : Nat) => AV.int (c : Int))).flatten) = (a ++ b).map fun (c : Nat) => .int (c : Int) := by
    rw [List.map_append]; exact congrArg _ (List.append_nil _)
  have hw : ∀ w ∈ [a, b], Wd n w := fMc ⟨ha, fMc ⟨hb, fun _ h => nomatch h⟩⟩
  have z := eComp (X := X) (l := l) (caps := []) (t := 31) (it := .ex (.var 9)) (ifs := .nil) (rest := .clause (.one 21) (.ex (.var 31)) .nil (.done (.bi .ord (.var 21)))) (B := [a, b]) (g := .str) (p := fun _ => true) (h := fun w => w.map fun (c : Nat) => .int (c : Int)) (iEx (vr h9 rfl) rfl) rfl (by rw [hc]; rfl) (by rw [hc]; rfl) (fun w h => ⟨aN, fun _ => by
    rw [hc]
    have y := cClause (X := X) (l := [(31, .str w)]) (t := 21) (it := .ex (.var 31)) (ifs := .nil) (rest := .done (.bi .ord (.var 21))) (B := w) (g := fun c => .str [c]) (p := fun _ => true) (h := fun c => [.int (c : Int)]) (pEx (vr rfl rfl) rfl (iterS (hw w h).lt)) rfl rfl fun c hcw => ⟨aN, fun _ => cDone (eBi (vr rfl rfl) rfl) rfl⟩
    rw [flat_one] at y
    exact y⟩) (by rw [q, List.length_map]; exact hl)
  rw [q] at z
  exact eBi z (bytesL (fun c hc => Nat.lt_trans ((mAp hc).elim (ha.lt c) (hb.lt c)) (by decide)) hl)
theorem swapRun (F : C2 X) {C : AV} (hC : C = celL x0 x1 x2 x3 x4) (ha : Wd n a) (hb : Wd n b) (h0 : 0 < n) (hn : n ≤ 6) : Run X (.cons (.callX 11 6 (.cons (.bi .bytesOf (.comp [] (.clause (.one 31) (.ex (.var 9)) .nil (.clause (.one 21) (.ex (.var 31)) .nil (.done (.bi .ord (.var 21))))))) (.cons (.var 5) .nil))) (.cons (.iff (.or (.cons (.not (.bi .isBytes (.var 11))) (.cons (.cmp (.bi .len (.var 11)) .ne (.bin .mul (.cst (.int 2)) (.var 5))) .nil))) L.la_a .nil) .nil))
    (kWd (two a b) (ims S a b) S C n) (kS S C n a b) .next := by
  obtain ⟨G, hG, hT⟩ := F.sw
  have hl : (a.reverse ++ b.reverse).length = 2 * n := by rw [lnA, List.length_reverse, List.length_reverse, ha.len, hb.len, Nat.two_mul]
  have n6 : 2 * n ≤ lim := lz (Nat.mul_le_mul_left 2 hn) (lq rfl)
  have z := hT ha.len hb.len h0 (Nat.lt_succ_of_le hn) fun c hc => Nat.lt_trans ((mAp hc).elim (ha.lt c) (hb.lt c)) (by decide)
  subst hC
  exact .seq (.callX (v := .bytes (a.reverse ++ b.reverse)) hG (sC (bytesE ha hb hn rfl rfl) (sC (vr rfl rfl) sN)) rfl z rfl rfl)
    (.one (.no (bOr (oF (bNot (c := true) (bBi (vr rfl rfl) rfl rfl)) (oF (bCmp (eBi (vr rfl rfl) (lB (hl ▸ n6))) (eMul (n := 2) cs (vr rfl rfl) (lq rfl) (lz hn (lq rfl))) (neI hl)) oN)))))
theorem la_head (F : C2 X) {script : List Int} (hs : script.length ≤ 63) : ∃ x0 x1 x2 x3 x4 n a b, 0 < n ∧ n ≤ 6 ∧ Wd n a ∧ Wd n b ∧ Run X L.la_c [(0, .list (script.map .int))] (kS (setB x0) (celL x0 x1 x2 x3 x4) n a b) .next := by
  have hcE := cellsE (X := X) (l := [(0, .list (script.map .int))]) hs rfl
  obtain ⟨x0, x1, x2, x3, x4, e⟩ := five (cells5 script)
  rw [e] at hcE
  have hn : 1 + md x2 10 % 6 ≤ 6 := Nat.add_le_add_left (Nat.le_of_lt_succ (Nat.mod_lt _ (Nat.succ_pos 5))) 1
  have c2 : ∀ {l : Kn}, lk 1 l = some (celL x0 x1 x2 x3 x4) → Ev X (.idx (.var 1) (.cst (.int 2))) l (.int x2) := fun h => eIdx (vr h rfl) cs (ixL (n := 2) rfl (lq rfl))
  have en : ∀ {l : Kn}, lk 1 l = some (celL x0 x1 x2 x3 x4) → Ev X (.bin .add (.cst (.int 1)) (.bin .mod (.bin .mod (.idx (.var 1) (.cst (.int 2))) (.cst (.int 10))) (.cst (.int 6)))) l (.int ((1 + md x2 10 % 6 : Nat) : Int)) := fun h => eAdd (n := 1) cs (eModN (eMod (c2 h) (cs (v := .int ((10 : Nat) : Int))) (Nat.succ_pos 9) (by decide)) (cs (v := .int ((6 : Nat) : Int))) (Nat.succ_pos 5) (by decide))
  have n0 : 0 < 1 + md x2 10 % 6 := Nat.lt_of_lt_of_le (Nat.succ_pos 0) (Nat.le_add_right 1 _)
  generalize 1 + md x2 10 % 6 = n at hn en n0
  have p11 : 0 < 11 - n := Nat.sub_pos_of_lt (Nat.lt_of_le_of_lt hn (by decide))
  have n11 : n ≤ 11 := lz hn (by decide)
  have hf : md (x2.fdiv (10 : Nat)) 10 % (11 - n) + n ≤ 10 := Nat.le_of_lt_succ (by
    have h := Nat.add_lt_add_right (Nat.mod_lt (md (x2.fdiv (10 : Nat)) 10) p11) n
    rwa [Nat.sub_add_cancel n11] at h)
  have ef : ∀ {l : Kn}, lk 1 l = some (celL x0 x1 x2 x3 x4) → lk 5 l = some (.int (n : Int)) → Ev X (.bin .mod (.bin .mod (.bin .fdiv (.idx (.var 1) (.cst (.int 2))) (.cst (.int 10))) (.cst (.int 10))) (.bin .sub (.cst (.int 11)) (.var 5))) l (.int ((md (x2.fdiv (10 : Nat)) 10 % (11 - n) : Nat) : Int)) := fun h h5 => eModN (eMod (eDiv (c2 h) (cs (v := .int ((10 : Nat) : Int))) (Nat.succ_pos 9) (by decide)) (cs (v := .int ((10 : Nat) : Int))) (Nat.succ_pos 9) (by decide)) (eSub (n := 11) cs (vr h5 rfl) n11) p11 (Int.ofNat_lt.mpr (Nat.lt_of_le_of_lt (Nat.sub_le 11 n) (by decide)))
  generalize md (x2.fdiv (10 : Nat)) 10 % (11 - n) = fi at hf ef
  obtain ⟨g, hg⟩ := setB_filter x0
  have hS : ∀ x ∈ setB x0, x < 128 := fun x hx => col2_lt x (List.mem_filter.mp (hg ▸ hx)).1
  obtain ⟨B, b2, bx, bo⟩ := rows_ex F x3 x4
  obtain ⟨p, q, rfl⟩ : ∃ p q, B = [p, q] := allL (n := 2) (P := fun l => ∃ p q, l = [p, q]) (fun p q => ⟨p, q, rfl⟩) b2
  have hp : Wd n (cutW fi n p.2.2) := ⟨cutW_len (bo p (.head _)).len hf, cutW_col (bo p (.head _))⟩
  have hq : Wd n (cutW fi n q.2.2) := ⟨cutW_len (bo q (.tail _ (.head _))).len hf, cutW_col (bo q (.tail _ (.head _)))⟩
  refine ⟨x0, x1, x2, x3, x4, n, _, _, n0, hn, hp, hq, ?_⟩
  exact .asg hcE rfl rfl (.asg (v := .str col2) cs rfl rfl (.asg (innerE rfl rfl rfl rfl) rfl rfl (.asg (v := chrL (barN col2 (setB x0))) (outerE hS rfl rfl rfl rfl) rfl rfl
    (.asg (en rfl) rfl rfl (.asg (ef rfl rfl) rfl rfl (.pre (l1 := kA (setB x0) (celL x0 x1 x2 x3 x4) n fi) rfl (rowsRun hS hf b2 bx bo (swapRun F rfl hp hq n0 hn))))))))
end
theorem takesB_eq : ∀ {l w : List Bool}, l.length ≤ w.length → takesB l w = (l == w.take l.length)
  | [], _, _ => rfl
  | _ :: _, [], h => absurd h (Nat.not_succ_le_zero _)
  | u :: l, b :: w, h => congrArg ((u == b) && ·) (takesB_eq (Nat.le_of_succ_le_succ h))
theorem beq_app : ∀ {x x' y y' : List Bool}, x.length = x'.length → (x ++ y == x' ++ y') = (x == x' && y == y')
  | [], [], _, _, _ => rfl
  | _ :: _, [], _, _, h => nomatch h
  | [], _ :: _, _, _, h => nomatch h
  | a :: x, b :: x', y, y', h => (congrArg ((a == b) && ·) (beq_app (Nat.succ.inj h))).trans (Bool.and_assoc ..).symm
theorem beq_rev {x y : List Bool} : (x.reverse == y) = (x == y.reverse) := by
  rw [Bool.eq_iff_iff, beq_iff_eq, beq_iff_eq]
  exact ⟨fun e => e ▸ (List.reverse_reverse x).symm, fun e => e ▸ List.reverse_reverse y⟩
theorem mirror {A B : List Bool} {n k : Nat} (hA : A.length = n) (hB : B.length = n) (hk : k ≤ n) : takesB A.reverse ((B ++ B).drop k) = ((A.take k == (B.take k).reverse) && (A.drop k == (B.drop k).reverse)) := by
  have hk' : k ≤ B.length := hB ▸ hk
  have e : A.reverse = (A.drop k).reverse ++ (A.take k).reverse := by rw [← List.reverse_append, List.take_append_drop]
  have hd : (B.drop k).length = n - k := by rw [List.length_drop, hB]
  rw [List.drop_append_of_le_length hk', takesB_eq (by rw [List.length_reverse, lnA, hA, hB]; exact Nat.le_add_left _ _), List.length_reverse, hA, List.take_append, hd, List.take_of_length_le (hd ▸ Nat.sub_le n k), Nat.sub_sub_self hk, e, beq_app (by rw [List.length_reverse, List.length_drop, hA, hd]), beq_rev, beq_rev]
  exact Bool.and_comm _ _
theorem range_map {f : Nat → Bool} : ∀ s : List Nat, (List.range s.length).map (fun i => f (s.getD i 0)) = s.map f
  | [] => rfl
  | c :: s => by
    rw [List.length_cons, List.range_succ_eq_map, List.map_cons, List.map_map, List.map_cons, ← range_map s]; rfl
theorem eqB : ∀ A B : List Bool, PyData.eqvAll (toPs (A.map .bool)) (toPs (B.map .bool)) = (A == B)
  | [], [] => rfl
  | [], _ :: _ => rfl
  | _ :: _, [] => rfl
  | a :: A, b :: B => by
    show (PyData.eqv (.bool a) (.bool b) && PyData.eqvAll _ _) = (a == b && A == B)
    rw [eqB A B]
    cases a <;> cases b <;> rfl
theorem okBs {n : Nat} : ∀ A : List Bool, okEs (A.map .bool) n = true
  | [] => rfl
  | _ :: A => okBs A
theorem eq_bools (A B : List Bool) : cmpV .eq (boolL A) (boolL B) = some (A == B) := (if_pos (bM ⟨okBs (n := 7) A, okBs (n := 7) B⟩)).trans (congrArg some (eqB A B))
noncomputable def nums (l : List Nat) : AV := .list (l.map fun (n : Nat) => .int (n : Int))
noncomputable def mirB (A B : List Bool) (k : Nat) : Bool := (A.take k == (B.take k).reverse) && (A.drop k == (B.drop k).reverse)
section
variable {X : Cx} {l : Kn} {S a b w v : List Nat} {n N K : Nat} {e i j : PE} {A B : List Bool} {k : Nat} {c d : Bool} {m : List Nat} {C : List AV}
theorem aTwo (h : EvB X i l c) (h' : EvB X j l d) : EvAll X (.cons i (.cons j .nil)) l (c && d) := by
  cases c with
  | true => exact aT h (a1 h')
  | false => exact aF h
theorem bLen (h : A.length ≤ 900) : (A.map AV.bool).length ≤ lim := lenMap h (lq rfl)
theorem takeE (h : Ev X e l (boolL A)) (hi : Ev X i l (.int (k : Int))) (hA : A.length ≤ 900) (hk : k ≤ 900) : Ev X (.slc e (.cst .none) i (.cst .none)) l (boolL (A.take k)) := eSlc (j := none) (j' := some (k : Int)) h cs hi trivial (smN (lim9 hk)) ((slL (bLen hA)).trans (by rw [cutT, ← List.map_take]; rfl))
theorem dropE (h : Ev X e l (boolL A)) (hi : Ev X i l (.int (k : Int))) (hA : A.length ≤ 900) (hk : k ≤ 900) : Ev X (.slc e i (.cst .none) (.cst .none)) l (boolL (A.drop k)) := eSlc (j := some (k : Int)) (j' := none) h hi cs (smN (lim9 hk)) trivial ((slL (bLen hA)).trans (by rw [cutF, ← List.map_drop]; rfl))
theorem revE (h : Ev X e l (boolL A)) (hA : A.length ≤ 900) : Ev X (.slc e (.cst .none) (.cst .none) (.neg (.cst (.int 1)))) l (boolL A.reverse) := fun ρ => bI (h ρ) (bI rfl (bI rfl (bI rfl (bI rfl (bI rfl (bI rfl ((if_pos (bLen hA)).trans (congrArg (fun z => some (AV.list z)) (List.map_reverse ..).symm))))))))
noncomputable abbrev kE (m : List Nat) (C : List AV) (S a b : List Nat) (R : AV) (n N K : Nat) : Kn := [(19, .int (K : Int)), (18, R), (13, .int (N : Int)), (12, .star), (11, .bytes m), (10, ims S a b), (9, two a b), (5, .int (n : Int)), (4, chrL (barN col2 S)), (3, chrL S), (2, .str col2), (1, .list C)]
theorem toldE {L : List AV} (hn : n ≤ 6) (hN : [a, b][N]? = some w) (hK : [a, b][K]? = some v) (hw : w.length = n) (hv : v.length = n) :
    Ev X (.comp [10, 13, 19] (.clause (.one 32) (.range (.cons (.var 5) .nil)) (.cons (.and (.cons (.cmp (.slc (.idx (.var 10) (.var 13)) (.cst .none) (.var 32) (.cst .none)) .eq (.slc (.slc (.idx (.var 10) (.var 19)) (.cst .none) (.var 32) (.cst .none)) (.cst .none) (.cst .none) (.neg (.cst (.int 1))))) (.cons (.cmp (.slc (.idx (.var 10) (.var 13)) (.var 32) (.cst .none) (.cst .none)) .eq (.slc (.slc (.idx (.var 10) (.var 19)) (.var 32) (.cst .none) (.cst .none)) (.cst .none) (.cst .none) (.neg (.cst (.int 1))))) .nil))) .nil) (.done (.var 32))))
      ((24, .str (v ++ v)) :: kE m C S a b (.list L) n N K) (nums ((List.range n).filter (mirB (inL S w) (inL S v)))) :=
  eFil (B := List.range n) (g := fun (j : Nat) => .int (j : Int)) (p := mirB (inL S w) (inL S v)) (k := fun j => .int (j : Int)) (iRange (sC (vr rfl rfl) sN) (rngN (lz hn (lq rfl)))) rfl rfl rfl (fun k hk => by
    have k9 : k ≤ 900 := lz (Nat.le_of_lt (List.mem_range.mp hk)) (lz hn (lq rfl))
    have l9 : ∀ {u : List Nat}, u.length = n → (inL S u).length ≤ 900 := fun h => lz (Nat.le_of_eq ((List.length_map ..).trans h)) (lz hn (lq rfl))
    have eN : Ev X (.idx (.var 10) (.var 13)) [(32, .int (k : Int)), (19, .int (K : Int)), (13, .int (N : Int)), (10, ims S a b)] (boolL (inL S w)) := eIdx (vr rfl rfl) (vr rfl rfl) (ix1 (z := [a, b]) (g := fun u => boolL (inL S u)) hN (lq rfl))
    have eK : Ev X (.idx (.var 10) (.var 19)) [(32, .int (k : Int)), (19, .int (K : Int)), (13, .int (N : Int)), (10, ims S a b)] (boolL (inL S v)) := eIdx (vr rfl rfl) (vr rfl rfl) (ix1 (z := [a, b]) (g := fun u => boolL (inL S u)) hK (lq rfl))
    have tl : ((inL S v).take k).length ≤ 900 := lz (List.length_take_le' ..) (l9 hv)
    have dl : ((inL S v).drop k).length ≤ 900 := List.length_drop ▸ lz (Nat.sub_le ..) (l9 hv)
    exact ⟨a1 (bAnd (aTwo (bCmp (takeE eN (vr rfl rfl) (l9 hw) k9) (revE (takeE eK (vr rfl rfl) (l9 hv) k9) tl) (eq_bools _ _)) (bCmp (dropE eN (vr rfl rfl) (l9 hw) k9) (revE (dropE eK (vr rfl rfl) (l9 hv) k9) dl) (eq_bools _ _)))), (fun _ => vr rfl rfl), rfl⟩) (by rw [List.length_range]; exact lz hn (lq rfl))
abbrev Rds := List (Bool × List (Nat × Nat))
theorem begE (F : C2 X) {qs : Rds} {V : AV} (hn : n ≤ 6) (hv : v.length = n) (hq : qs.length ≤ 900) (hr : ∀ q ∈ qs, q.2.length ≤ 1000 ∧ ∀ p ∈ q.2, p.1 < 128) :
    Ev X (.comp [18, 24] (.clause (.one 32) (.range (.cons (.var 5) .nil)) (.cons (.call 11 (.cons (.var 18) (.cons (.slc (.var 24) (.var 32) (.cst .none) (.cst .none)) .nil))) .nil) (.done (.var 32)))) ((25, V) :: (24, .str (v ++ v)) :: kE m C S a b (.list (qs.map readAV)) n N K) (nums ((List.range n).filter fun k => nBegins qs ((v ++ v).drop k))) := by
  have vl : (v ++ v).length ≤ 12 := by rw [lnA, hv]; exact Nat.add_le_add hn hn
  exact eFil (B := List.range n) (g := fun (j : Nat) => .int (j : Int)) (p := fun k => nBegins qs ((v ++ v).drop k)) (k := fun j => .int (j : Int)) (iRange (sC (vr rfl rfl) sN) (rngN (lz hn (lq rfl)))) rfl rfl rfl (fun k hk => by
    have k9 : k ≤ 900 := lz (Nat.le_of_lt (List.mem_range.mp hk)) (lz hn (lq rfl))
    exact ⟨a1 (bCall (sC (vr rfl rfl) (sC (eSlc (j := some (k : Int)) (j' := none) (vr rfl rfl) (vr rfl rfl) cs (smN (lim9 k9)) trivial ((slS (lz vl (lq rfl))).trans (by rw [cutF]))) sN)) rfl (F.be (List.length_drop ▸ lz (Nat.sub_le ..) (lz vl (lq rfl))) hq hr) rfl), (fun _ => vr rfl rfl), rfl⟩) (by rw [List.length_range]; exact lz hn (lq rfl))
theorem otherRun (F : C2 X) {qs : Rds} (hn : n ≤ 6) (hN : [a, b][N]? = some w) (hK : [a, b][K]? = some v) (hw : w.length = n) (hv : v.length = n) (hq : qs.length ≤ 900) (hr : ∀ q ∈ qs, q.2.length ≤ 1000 ∧ ∀ p ∈ q.2, p.1 < 128) (hm : ∀ k < n, nBegins qs ((v ++ v).drop k) = mirB (inL S w) (inL S v) k) :
    Run X L.la_e (kE m C S a b (.list (qs.map readAV)) n N K) (kE m C S a b (.list (qs.map readAV)) n N K) .next := by
  have e9 : Ev X (.idx (.var 9) (.var 19)) (kE m C S a b (.list (qs.map readAV)) n N K) (.str v) := eIdx (vr rfl rfl) (vr rfl rfl) (ix1 (z := [a, b]) (g := .str) hK (lq rfl))
  have c := begE (X := X) (m := m) (C := C) (S := S) (a := a) (b := b) (N := N) (K := K) (V := nums ((List.range n).filter (mirB (inL S w) (inL S v)))) F hn hv hq hr
  rw [List.filter_congr fun k hk => hm k (List.mem_range.mp hk)] at c
  exact .asg (v := .str (v ++ v)) (eApp e9 e9 (by rw [hv]; exact lz (Nat.add_le_add hn hn) (lq rfl))) rfl rfl (.asg (toldE hn hN hK hw hv) rfl rfl (.one (.sub (.no (bCmp c (vr rfl rfl) (ne_self (rf_map fun _ _ => rf_int)))) rfl)))
end
theorem pick_fn {α β : Type} {n : Nat} {P : Nat → α → β → Prop} (a0 : α) (b0 : β) (h : ∀ i, i < n → ∃ p q, P i p q) : ∃ (f : Nat → α) (g : Nat → β), ∀ i, i < n → P i (f i) (g i) :=
  ⟨fun i => if k : i < n then (h i k).choose else a0, fun i => if k : i < n then (h i k).choose_spec.choose else b0, fun i k => by dsimp only; rw [dif_pos k, dif_pos k]; exact (h i k).choose_spec.choose_spec⟩
noncomputable def side (S : List Nat) (u : Bool) : List Nat := bif u then S else barN col2 S
theorem side_in {S : List Nat} {u : Bool} {c : Nat} (hc : c ∈ col2) : (side S u).contains c = (u == S.contains c) := by
  cases u with
  | true => exact (Bool.true_beq _).symm
  | false =>
    rw [Bool.false_beq]
    have e := bar_mem (S := S) c hc
    show (barN col2 S).contains c = _
    cases h : S.contains c with
    | true => exact Bool.eq_false_iff.mpr fun q => e.mp (List.contains_iff_mem.mp q) (List.contains_iff_mem.mp h)
    | false => exact List.contains_iff_mem.mpr (e.mpr fun q => Bool.eq_false_iff.mp h (List.contains_iff_mem.mpr q))
noncomputable def dg (x : Int) (k : Nat) : Nat := md (x.fdiv ((10 ^ k : Nat) : Int)) 10
theorem mulS (c m : Nat) (h : m ≤ lim) : binV .mul (.str [c]) (.int (m : Int)) = some (.str (List.replicate m c)) := bI rfl ((if_pos ⟨rfl, Int.natCast_nonneg m, Int.ofNat_le.mpr h⟩).trans (by rw [Int.toNat_natCast, List.flatten_replicate_singleton]))
theorem ok_chr {c n : Nat} (hc : c < 128) : okE (.str [c]) n = true := (rf_str (n := n) fun d hd => mSg hd ▸ hc).1
theorem ok_rgs {m : Nat} : ∀ {rs : List (Nat × Nat)}, (∀ z ∈ rs, z.1 < 128 ∧ z.2 < 128) → okEs (rs.map rgAV) (m + 1) = true
  | [], _ => rfl
  | z :: rs, h => bM ⟨bM ⟨ok_chr (h z (.head _)).1, bM ⟨ok_chr (h z (.head _)).2, rfl⟩⟩, ok_rgs fun y hy => h y (.tail _ hy)⟩
theorem ok_reads {m : Nat} : ∀ {qs : Rds}, (∀ q ∈ qs, ∀ z ∈ q.2, z.1 < 128 ∧ z.2 < 128) → okEs (qs.map readAV) (m + 3) = true
  | [], _ => rfl
  | q :: qs, h => bM ⟨bM ⟨ok_rgs (m := m) (h q (.head _)), rfl⟩, ok_reads fun y hy => h y (.tail _ hy)⟩
theorem none_no : ∀ qs : Rds, ((toPs (qs.map readAV)).any fun y => PyData.eqv y (toP .none)) = false
  | [] => rfl
  | q :: qs => Bool.or_eq_false_iff.mpr ⟨rfl, none_no qs⟩
theorem flat_le {m : Nat} : ∀ {l : List (List Nat)}, (∀ x ∈ l, x.length ≤ m) → l.flatten.length ≤ l.length * m
  | [], _ => Nat.zero_le _
  | x :: l, h => by
    rw [List.flatten_cons, lnA, List.length_cons, Nat.succ_mul, Nat.add_comm]
    exact Nat.add_le_add (flat_le fun y hy => h y (.tail _ hy)) (h x (.head _))
section
variable {X : Cx} {l : Kn} {S a b w : List Nat} {n N : Nat} {i j : PE} {x0 x1 x2 x3 x4 x : Int} {k : Nat}
theorem digE (hx : Ev X i l (.int x)) (hk : Ev X j l (.int (k : Int))) (h : k ≤ 14) : Ev X (.bin .mod (.bin .fdiv i (.bin .pow (.cst (.int 10)) j)) (.cst (.int 10))) l (.int (dg x k : Int)) :=
  eMod (eDiv hx (ePow hk (lz h (lq rfl))) (Nat.pow_pos (Nat.succ_pos 9)) (pow14 h)) (cs (v := .int ((10 : Nat) : Int))) (Nat.succ_pos 9) (by decide)
theorem ixLl {xs : List AV} {v : AV} (h : xs.getLast? = some v) (hl : xs.length ≤ lim) : idxI (.list xs) (-1) = some v := bI (pyL (lastPos h) hl) (List.getLast?_eq_getElem? ▸ h)
noncomputable abbrev kPa (S : List Nat) (C : AV) (n : Nat) (a b : List Nat) : Kn := (12, .star) :: kS S C n a b
noncomputable abbrev kPb (S : List Nat) (C : AV) (n N : Nat) (a b sg : List Nat) : Kn := (14, chrL sg) :: (13, .int (N : Int)) :: kPa S C n a b
theorem signsE (hn : n ≤ 6) (hN1 : N ≤ 1) (hl : (a.reverse ++ b.reverse).length ≤ 12) {sg : List Nat} (hs : ∀ c ∈ sg, c < 128) (hsl : sg.length ≤ 6) (hcut : ((a.reverse ++ b.reverse).drop (n * N)).take (n * N + n - n * N) = sg) :
    Ev X (.comp [] (.clause (.one 28) (.ex (.slc (.var 11) (.bin .mul (.var 5) (.var 13)) (.bin .add (.bin .mul (.var 5) (.var 13)) (.var 5)) (.cst .none))) .nil (.done (.bi .chr (.var 28))))) ((13, .int (N : Int)) :: kPa S (celL x0 x1 x2 x3 x4) n a b) (chrL sg) := by
  have hm : n * N ≤ 6 := lz (Nat.mul_le_mul hn hN1) (Nat.le_refl 6)
  have em : Ev X (.bin .mul (.var 5) (.var 13)) ((13, .int (N : Int)) :: kPa S (celL x0 x1 x2 x3 x4) n a b) (.int ((n * N : Nat) : Int)) := eMul (vr rfl rfl) (vr rfl rfl) (lz hn (lq rfl)) (lz hN1 (lq rfl))
  exact eMap (B := sg) (g := fun (c : Nat) => .int (c : Int)) (k := fun c => .str [c]) (iEx (eSlc (j := some ((n * N : Nat) : Int)) (j' := some ((n * N + n : Nat) : Int)) (vr rfl rfl) em (eAdd em (vr rfl rfl)) (smN (lz hm (lq rfl))) (smN (lz (Nat.add_le_add hm hn) (lq rfl))) ((slB (lz hl (lq rfl))).trans (by rw [cutN, hcut]))) rfl) rfl rfl rfl
    (fun c hc => ⟨eBi (vr rfl rfl) (chrC (Nat.lt_trans (hs c hc) (by decide))), rfl⟩) (lz hsl (lq rfl))
noncomputable def wfI (S sg : List Nat) (x : Int) (i : Nat) : List Nat := writN col2 (side S (S.contains (sg.getD i 0))) (dg x i)
theorem itemsE (F : C2 X) (hS : ∀ x ∈ S, x < 128) (hSl : S.length ≤ 100) (hn : n ≤ 6) {sg : List Nat} (hs : ∀ c ∈ sg, c < 128) (hsl : sg.length = n) :
    Ev X (.comp [1, 2, 3, 4, 14] (.clause (.one 29) (.range (.cons (.var 5) .nil)) .nil (.done (.call 9 (.cons (.var 2) (.cons (.ite (.cmp (.idx (.var 14) (.var 29)) .isin (.var 3)) (.var 3) (.var 4)) (.cons (.bin .mod (.bin .fdiv (.idx (.var 1) (.cst (.int 1))) (.bin .pow (.cst (.int 10)) (.var 29))) (.cst (.int 10))) .nil))))))) (kPb S (celL x0 x1 x2 x3 x4) n N a b sg) (.list ((List.range n).map fun i => .str (wfI S sg x1 i))) :=
  eMap (B := List.range n) (g := fun (j : Nat) => .int (j : Int)) (k := fun i => .str (wfI S sg x1 i)) (iRange (sC (vr rfl rfl) sN) (rngN (lz hn (lq rfl)))) rfl rfl rfl (fun k hk => ⟨by
    have hk := List.mem_range.mp hk
    have hT : ∀ x ∈ barN col2 S, x < 128 := fun x hx => col2_lt x (List.mem_filter.mp hx).1
    have hTl : (barN col2 S).length ≤ 100 := lz (List.length_filter_le ..) (lq rfl)
    have gk := getS (s := sg) (hsl ▸ hk)
    have t : EvB X (.cmp (.idx (.var 14) (.var 29)) .isin (.var 3)) [(29, .int (k : Int)), (14, chrL sg), (4, chrL (barN col2 S)), (3, chrL S), (2, .str col2), (1, celL x0 x1 x2 x3 x4)] (S.contains (sg.getD k 0)) :=
      bCmp (eIdx (vr rfl rfl) (vr rfl rfl) (ix1 (z := sg) (g := fun c => .str [c]) gk (hsl ▸ lz hn (lq rfl)))) (vr rfl rfl) (in_chr (hs _ (List.mem_of_getElem? gk)) hS)
    have c1 : ∀ {l : Kn}, lk 1 l = some (celL x0 x1 x2 x3 x4) → Ev X (.idx (.var 1) (.cst (.int 1))) l (.int x1) := fun h => eIdx (vr h rfl) cs (ixL (n := 1) rfl (lq rfl))
    have d := digE (X := X) (c1 (l := [(29, .int (k : Int)), (14, chrL sg), (4, chrL (barN col2 S)), (3, chrL S), (2, .str col2), (1, celL x0 x1 x2 x3 x4)]) rfl) (vr (k := 29) rfl rfl) (lz (Nat.le_of_lt hk) (lz hn (by decide : 6 ≤ 14)))
    have dl : dg x1 k < 10 := md_lt (Nat.succ_pos 9)
    unfold wfI
    cases h : S.contains (sg.getD k 0) with
    | true => exact eCall (sC (vr rfl rfl) (sC (eT (h ▸ t) (vr rfl rfl)) (sC d sN))) rfl (F.wr hS hSl dl)
    | false => exact eCall (sC (vr rfl rfl) (sC (eF (h ▸ t) (vr rfl rfl)) (sC d sN))) rfl (F.wr hT hTl dl), rfl⟩) (by rw [List.length_range]; exact lz hn (lq rfl))
theorem items_ex {g : Nat → Bool} (hg : S = col2.filter g) {sg : List Nat} (hc : ∀ c ∈ sg, c ∈ col2) (hsl : sg.length = n) (x : Int) : ∃ (pf : Nat → List Nat) (qf : Nat → Bool × List (Nat × Nat)), ∀ i, i < n → Ltr col2 (side S (S.contains (sg.getD i 0))) (wfI S sg x i) (pf i) (qf i) :=
  pick_fn [] (false, []) fun i hi => by
    have hm := hc _ (List.mem_of_getElem? (getS (s := sg) (hsl ▸ hi)))
    have dl : dg x i < 10 := md_lt (Nat.succ_pos 9)
    unfold wfI
    cases h : S.contains (sg.getD i 0) with
    | true =>
      have hne : S ≠ [] := fun e => by rw [e] at h; cases h
      show ∃ p q, Ltr col2 S (writN col2 S (dg x i)) p q
      rw [hg] at hne ⊢
      exact item2 hne dl
    | false => exact item2 (g := fun c => !S.contains c) (fun e => List.not_mem_nil ((show barN col2 S = [] from e) ▸ (bar_mem (S := S) _ hm).mpr fun q => Bool.eq_false_iff.mp h (List.contains_iff_mem.mpr q))) dl
end
theorem joinIt {X : Cx} {l : Kn} {e : PE} {f : Nat → List Nat} {L : List Nat} (he : Ev X e l (.list (L.map fun i => .str (f i)))) (hl : ((L.map f).flatten).length ≤ 900) : Ev X (.meth .join (.cst (.str [])) (.cons e .nil)) l (.str (L.map f).flatten) :=
  eMeth cs (sC he sN) (joinE (z := L.map f) rfl ((congrArg strsOf (List.map_map (g := AV.str) (f := f)).symm).trans (strs_map _)) (lz hl (lq rfl)))
theorem flat_rg {f : Nat → List Nat} {n m : Nat} (hn : n ≤ 6) (h : ∀ i, i < n → (f i).length ≤ m) : (((List.range n).map f).flatten).length ≤ 6 * m :=
  lz (flat_le fun x hx => (List.mem_map.mp hx).elim fun i hi => hi.2 ▸ h i (List.mem_range.mp hi.1)) (by rw [List.length_map, List.length_range]; exact Nat.mul_le_mul_right m hn)
noncomputable abbrev prts (n : Nat) (pf : Nat → List Nat) : List AV := [AV.star] ++ (List.range n).map (fun u => AV.str (pf u)) ++ [AV.star]
section
variable {X : Cx} {l : Kn} {S a b w : List Nat} {n N : Nat} {x0 x1 x2 x3 x4 : Int}
theorem patRun (F : C2 X) {g : Nat → Bool} (hg : S = col2.filter g) (h0 : 0 < n) (hn : n ≤ 6) (ha : Wd n a) (hb : Wd n b) (hN1 : N ≤ 1) (hN : [a, b][N]? = some w) (hw : Wd n w) (hcut : ((a.reverse ++ b.reverse).drop (n * N)).take (n * N + n - n * N) = w.reverse) :
    Run X L.la_i ((13, .int (N : Int)) :: kPa S (celL x0 x1 x2 x3 x4) n a b) (kPa S (celL x0 x1 x2 x3 x4) n a b) .next := by
  have hrc : ∀ c ∈ w.reverse, c ∈ col2 := fun c h => hw.col c (List.mem_reverse.mp h)
  have hrl : w.reverse.length = n := (List.length_reverse ..).trans hw.len
  have hr128 : ∀ c ∈ w.reverse, c < 128 := fun c h => col2_lt c (hrc c h)
  have hS : ∀ x ∈ S, x < 128 := fun x hx => col2_lt x (List.mem_filter.mp (hg ▸ hx)).1
  have hSl : S.length ≤ 100 := hg ▸ lz (List.length_filter_le ..) (lq rfl)
  obtain ⟨pf, qf, hl⟩ := items_ex hg hrc hrl x1
  have L9 : ∀ {u : Nat}, u ≤ 6 → u ≤ 900 := fun h => lz h (lq rfl)
  have hne : List.range n ≠ [] := fun e => by rw [← List.length_range (n := n), e] at h0; exact absurd h0 (Nat.lt_irrefl 0)
  have hwf := flat_rg (f := wfI S w.reverse x1) hn fun i hi => (hl i hi).wl
  have hpf := flat_rg (f := pf) hn fun i hi => (hl i hi).pl
  have hP : ∀ {P}, P = (List.replicate (1 + dg x1 10 % 3) 42 ++ ((List.range n).map (wfI S w.reverse x1)).flatten) ++ [42, 42] → P.length ≤ 900 ∧ (∀ c ∈ P, c < 128) ∧ nTr 1000 [] P = some ([none] ++ (List.range n).map (fun u => some (pf u)) ++ [none]) := fun {P} e => by
    have h3 : 1 + dg x1 10 % 3 ≤ 3 := Nat.add_le_add_left (Nat.le_of_lt_succ (Nat.mod_lt _ (Nat.succ_pos 2))) 1
    subst e
    refine ⟨?_, fun c hc => ?_, ?_⟩
    · rw [lnA, lnA, List.length_replicate]; exact lz (Nat.add_le_add_right (Nat.add_le_add h3 hwf) 2) (lq rfl)
    · refine (mAp hc).elim (fun hc => (mAp hc).elim (fun hc => (List.mem_replicate.mp hc).2 ▸ lq rfl) fun hc => ?_) fun hc => all_of (p := (· < 128)) (l := [42, 42]) rfl c hc
      obtain ⟨y, hy, hc⟩ := List.mem_flatten.mp hc
      obtain ⟨i, hi, rfl⟩ := List.mem_map.mp hy
      exact (hl i (List.mem_range.mp hi)).wc c hc
    · rw [List.append_assoc, Nat.add_comm 1]
      exact pat_tr (fun u hu => (hl u (List.mem_range.mp hu)).pt) hne (by rw [List.length_range]; exact lz (Nat.add_le_add hn (Nat.le_of_lt (Nat.mod_lt _ (Nat.succ_pos 2)))) (lq rfl))
  have h3 : 1 + dg x1 10 % 3 ≤ 3 := Nat.add_le_add_left (Nat.le_of_lt_succ (Nat.mod_lt _ (Nat.succ_pos 2))) 1
  generalize hPe : (List.replicate (1 + dg x1 10 % 3) 42 ++ ((List.range n).map (wfI S w.reverse x1)).flatten) ++ [42, 42] = P at hP
  obtain ⟨hPl, hPc, htr⟩ := hP rfl
  have trV := F.tr hPl hPc htr
  have eps : ([none] ++ (List.range n).map (fun u => some (pf u)) ++ [none] : List Pt).map partAV = prts n pf := by rw [List.map_append, List.map_append, List.map_map]; rfl
  rw [eps] at trV
  have tlV := F.tl (ss := (List.range n).map pf) hPl hPc (by rw [htr, List.map_map]; rfl) (fun e => hne (List.map_eq_nil_iff.mp e)) (by rw [List.length_map, List.length_range]; exact lz hn (lq rfl)) (lz hpf (lq rfl))
  have hal : (a.reverse ++ b.reverse).length ≤ 12 := by rw [lnA, List.length_reverse, List.length_reverse, ha.len, hb.len]; exact Nat.add_le_add hn hn
  have pl : (prts n pf).length = n + 2 := by rw [lnA, lnA, List.length_map, List.length_range, Nat.add_comm [AV.star].length]; rfl
  have pl' : (prts n pf).length ≤ lim := pl ▸ lz (Nat.add_le_add_right hn 2) (lq rfl)
  have c1 : ∀ {l : Kn}, lk 1 l = some (celL x0 x1 x2 x3 x4) → Ev X (.idx (.var 1) (.cst (.int 1))) l (.int x1) := fun h => eIdx (vr h rfl) cs (ixL (n := 1) rfl (lq rfl))
  have cut17 : ∀ {l : Kn}, lk 17 l = some (.list (prts n pf)) → Ev X (.slc (.var 17) (.cst (.int 1)) (.neg (.cst (.int 1))) (.cst .none)) l (.list ((List.range n).map fun u => .str (pf u))) := fun h => eSlc (j := some ((1 : Nat) : Int)) (j' := some (-1)) (vr h rfl) cs m1 (smN (lq rfl)) smM ((slL pl').trans (by
    rw [cutM _ _ (by rw [pl]; exact Nat.succ_lt_succ (Nat.succ_pos n))]
    show some (AV.list ((List.range n).map (fun u => AV.str (pf u)) ++ [AV.star]).dropLast) = _
    rw [List.dropLast_concat]))
  have qr : ∀ q ∈ (List.range n).map qf, q.2.length ≤ 1000 ∧ ∀ z ∈ q.2, z.1 < 128 ∧ z.2 < 128 := fun q hq => (List.mem_map.mp hq).elim fun i hi => hi.2 ▸ ⟨(hl i (List.mem_range.mp hi.1)).ql, (hl i (List.mem_range.mp hi.1)).qc⟩
  have hqs : ((List.range n).map qf).length ≤ 900 := by rw [List.length_map, List.length_range]; exact L9 hn
  have qm : ((List.range n).map fun u => readAV (qf u)) = ((List.range n).map qf).map readAV := (List.map_map (f := qf) (g := readAV)).symm
  have hbeg : ∀ {v : List Nat}, Wd n v → ∀ k < n, nBegins ((List.range n).map qf) ((v ++ v).drop k) = mirB (inL S w) (inL S v) k := fun {v} hv k hk => by
    have hk' := Nat.le_of_lt hk
    rw [begins_takes (bf := fun i => S.contains (w.reverse.getD i 0)) (List.range n) _ (fun u hu c hc => ((hl u (List.mem_range.mp hu)).sem c hc).trans (side_in hc)) (fun c hc => (mAp (List.mem_of_mem_drop hc)).elim (hv.col c) (hv.col c)) (by
      rw [List.length_range, List.length_drop, lnA, hv.len]; exact Nat.le_sub_of_add_le (Nat.add_le_add_left hk' n))]
    have e : (List.range n).map (fun i => S.contains (w.reverse.getD i 0)) = (inL S w).reverse := by
      rw [← hrl, range_map w.reverse, List.map_reverse]; rfl
    rw [e, List.map_drop, List.map_append]
    exact mirror ((List.length_map ..).trans hw.len) ((List.length_map ..).trans hv.len) hk'
  refine .asg (signsE hn hN1 hal hr128 (hrl ▸ hn) hcut) rfl rfl (.asg (itemsE F hS hSl hn hr128 hrl) rfl rfl ?_)
  refine .asg (v := .str P) (hPe ▸ eApp (eApp (eBin cs (eAdd (n := 1) cs (eModN (digE (k := 10) (c1 rfl) cs (by decide)) (cs (v := .int ((3 : Nat) : Int))) (Nat.succ_pos 2) (by decide))) (mulS 42 _ (lz h3 (lq rfl)))) (joinIt (vr rfl rfl) (lz hwf (lq rfl))) (by rw [List.length_replicate]; exact lz (Nat.add_le_add h3 hwf) (lq rfl))) cs (by
      rw [lnA, List.length_replicate]; exact lz (Nat.add_le_add_right (Nat.add_le_add h3 hwf) 2) (lq rfl))) rfl rfl ?_
  refine .asg (eCall (sC (vr rfl rfl) (sC (vr rfl rfl) (sC cs sN))) rfl trV) rfl rfl ?_
  refine .seq (.no (bOr (oF (bCmp (eBi (vr rfl rfl) (lL pl')) (eAdd (m := 2) (vr rfl rfl) cs) (neI pl)) (oF (bCmp (eIdx (vr rfl rfl) cs (ixL (n := 0) rfl pl')) (vr rfl rfl) rfl) (oF (bCmp (eIdx (vr rfl rfl) m1 (ixLl List.getLast?_concat pl')) (vr rfl rfl) rfl) oN))))) ?_
  refine .seq (.no (bCmp (eCall (sC (vr rfl rfl) sN) rfl tlV) (eApp (eApp cs (joinIt (cut17 rfl) (lz hpf (lq rfl))) (lz (Nat.add_le_add_left hpf 10) (lq rfl))) cs (by rw [lnA]; exact lz (Nat.add_le_add_right (Nat.add_le_add_left hpf 10) 6) (lq rfl))) (neS rfl))) ?_
  refine .asg (v := .list (((List.range n).map qf).map readAV)) (qm ▸ eMap (B := List.range n) (g := fun u => .str (pf u)) (k := fun u => readAV (qf u)) (iEx (cut17 rfl) rfl) rfl rfl rfl (fun u hu => ⟨eCall (sC (vr rfl rfl) sN) rfl (F.rd (hl u (List.mem_range.mp hu)).rd), rfl⟩) (by rw [List.length_range]; exact lim9 (L9 hn))) rfl rfl ?_
  refine .seq (.no (bCmp cs (vr rfl rfl) ((if_pos (bM ⟨rfl, ok_reads (m := 4) fun q hq => (qr q hq).2⟩)).trans (congrArg some (none_no _))))) ?_
  have two := fun {K : Nat} {v : List Nat} (hK : [a, b][K]? = some v) (hv : Wd n v) => otherRun (X := X) (m := a.reverse ++ b.reverse) (C := [.int x0, .int x1, .int x2, .int x3, .int x4]) (qs := (List.range n).map qf) F hn hN hK hw.len hv.len hqs (fun q hq => ⟨(qr q hq).1, fun p hp => ((qr q hq).2 p hp).1⟩) (hbeg hv)
  refine .pre (l1 := (kE (a.reverse ++ b.reverse) [.int x0, .int x1, .int x2, .int x3, .int x4] S a b (.list (((List.range n).map qf).map readAV)) n N 0).tail) rfl (.one (.sub (.loop (lRange (sC (cs (v := .int ((2 : Nat) : Int))) sN) (range_up (lq rfl))) (.step rfl (two (K := 0) rfl ha) (.step rfl (two (K := 1) rfl hb) (.nil .nil)))) rfl))
end
theorem la_run {X : Cx} (F : C2 X) {script : List Int} (hs : script.length ≤ 63) : runFn X.Φ X.Γ X.Ξ lim L.f_la [.list (script.map .int)] = some (.bool true) := by
  obtain ⟨x0, x1, x2, x3, x4, n, a, b, h0, hn, ha, hb, h⟩ := la_head (X := X) F hs
  obtain ⟨g, hg⟩ := setB_filter x0
  have ar : a.reverse.length = n := (List.length_reverse ..).trans ha.len
  have br : b.reverse.length = n := (List.length_reverse ..).trans hb.len
  have cA : ((a.reverse ++ b.reverse).drop (n * 0)).take (n * 0 + n - n * 0) = a.reverse := by rw [Nat.mul_zero, Nat.zero_add, Nat.sub_zero, List.drop_zero, ← ar]; exact List.take_left
  have cB : ((a.reverse ++ b.reverse).drop (n * 1)).take (n * 1 + n - n * 1) = b.reverse := by rw [Nat.mul_one, Nat.add_sub_cancel, ← ar, List.drop_left, ar, ← br, List.take_length]
  refine fn_star (l := [(0, .list (script.map .int))]) (k := 12) (post := L.la_j) rfl rfl rfl h ?_ rfl (.seq (.loop (lRange (sC (cs (v := .int ((2 : Nat) : Int))) sN) (range_up (lq rfl))) (.step rfl (patRun (N := 0) F hg h0 hn ha hb (Nat.zero_le 1) rfl ha cA) (.step rfl (patRun (N := 1) F hg h0 hn ha hb (Nat.le_refl 1) rfl hb cB) (.nil .nil)))) (.out (.ret cs rfl))) rfl
  show (starArg (.list (script.map .int)) && true) = true
  rw [Bool.and_true]
  exact List.all_eq_true.mpr fun x hx => (List.mem_map.mp hx).elim fun i hi => hi.2 ▸ rfl
section
variable {Γ : Nat → Option AV} {d : Nat} {F : Fn} {xs : List AV} {v : AV}
noncomputable abbrev XP (Γ : Nat → Option AV) (d : Nat) : Cx := ⟨runP L.fns Γ lim d, Γ, none⟩
noncomputable abbrev XX (Γ : Nat → Option AV) (d : Nat) : Cx := ⟨runP L.fns Γ lim d, Γ, some (runPX L.fns L.xfns Γ lim d)⟩
theorem toP (f : Nat) (hf : L.fns f = some F) (h : runFn (XP Γ d).Φ (XP Γ d).Γ (XP Γ d).Ξ lim F xs = some v) : (XP Γ (d + 1)).Φ f xs = some v := bI hf h
theorem toQ (f : Nat) (hf : L.fns f = some F) (h : runFn (XP Γ d).Φ (XP Γ d).Γ (XP Γ d).Ξ lim F xs = some v) : (XX Γ (d + 1)).Φ f xs = some v := bI hf h
theorem toX {f : Nat} (hf : L.xfns f = some F) (h : runFn (XX Γ d).Φ (XX Γ d).Γ (XX Γ d).Ξ lim F xs = some v) : runPX L.fns L.xfns Γ lim (d + 1) f xs = some v := bI hf h
theorem tri_col : ∀ n : Fin 8, ∀ a : Fin 2, ((tri 2 n a ++ tri 1 n a ++ tri 0 n a).all fun c => col2.contains c) = true := by decide +kernel
theorem typ_col : ∀ t : Fin 16, typS.getD t 0 ∈ col2 := by decide +kernel
theorem text_col {t n2 a2 n1 a1 n0 a0 : Nat} (ht : t < 16) (h2 : n2 < 8) (g2 : a2 < 2) (h1 : n1 < 8) (g1 : a1 < 2) (h0 : n0 < 8) (g0 : a0 < 2) : ∀ c ∈ rowText t n2 a2 n1 a1 n0 a0, c ∈ col2 := fun c hc => by
  have al : ∀ {j n a : Nat}, (∀ c ∈ tri j n a, c ∈ tri 2 n a ++ tri 1 n a ++ tri 0 n a) → n < 8 → a < 2 → c ∈ tri j n a → c ∈ col2 := fun hj hn ha h => List.contains_iff_mem.mp (List.all_eq_true.mp (tri_col ⟨_, hn⟩ ⟨_, ha⟩) c (hj c h))
  refine (mCo (show c ∈ typS.getD t 0 :: (tri 2 n2 a2 ++ (tri 1 n1 a1 ++ tri 0 n0 a0)) from hc)).elim (fun e => e ▸ typ_col ⟨t, ht⟩) fun h => ?_
  exact (mAp h).elim (al (fun c h => List.mem_append_left _ (List.mem_append_left _ h)) h2 g2) fun h => (mAp h).elim (al (fun c h => List.mem_append_left _ (List.mem_append_right _ h)) h1 g1) (al (fun c h => List.mem_append_right _ h) h0 g0)
theorem c2_ok (hΓ : Γ 0 = some (.tuple (tabL.map tabRow))) : C2 (XX Γ 6) where
  row x := by
    obtain ⟨t, h, n2, a2, n1, a1, n0, a0, ht, hh, h2, g2, h1, g1, h0, g0, e⟩ := ro_run (X := XP Γ 5) x
    have z := fi_run (X := XP Γ 5) (m := rowMode t h n2 a2 n1 a1 n0 a0) (fun m => toP L.i_ms rfl (ms_run (X := XP Γ 4) m)) hΓ (lq rfl)
    rw [row_mode ht h2 g2 h1 g1 h0 g0] at z
    exact ⟨rowMode t h n2 a2 n1 a1 n0 a0, rowText t n2 a2 n1 a1 n0 a0, toQ L.i_ro rfl e, toQ L.i_fi rfl z, rfl, text_col ht h2 g2 h1 g1 h0 g0⟩
  tr h1 h2 h3 := toQ L.i_tr rfl (tr_run (X := XP Γ 5) (fun c hc => toP L.i_es rfl (es_run (X := XP Γ 4) hc)) h1 h2 h3)
  tl {P ss} h1 h2 h3 h4 h5 h6 := by
    cases ss with
    | nil => exact absurd rfl h4
    | cons s ss =>
      have z := tl_run (X := XP Γ 5) (toP L.i_tr rfl (tr_run (X := XP Γ 4) (fun c hc => toP L.i_es rfl (es_run (X := XP Γ 3) hc)) h1 h2 h3)) (toP L.i_jn rfl (jn_run2 (X := XP Γ 4) h5 h6))
      refine (toQ L.i_tl rfl z).trans (congrArg (fun z => some (AV.str z)) ?_)
      rw [List.flatten_cons, List.append_assoc, List.append_assoc, List.append_assoc, List.append_assoc, List.append_assoc]; rfl
  wr h1 h2 h3 := toQ L.i_wr rfl (wr_run (X := XP Γ 5) col2_lt (fun e => nomatch e) h1 (lq rfl) h2 h3 fun T hT => toP L.i_rn rfl (rn_run (X := XP Γ 4) (fun c hc => (col2_f c hc).1) hT (lq rfl)))
  rd h := toQ L.i_rd rfl (rd_run (X := XP Γ 5) h)
  be h1 h2 h3 := toQ L.i_be rfl (be_run (X := XP Γ 5) h1 h2 h3)
  sw := ⟨_, rfl, fun g1 g2 g3 g4 g5 => toX rfl (sw_run (X := XX Γ 5) rfl g1 g2 g3 g4 g5)⟩
theorem law2_plain (hΓ : Γ 0 = some (.tuple (tabL.map tabRow))) (script : List Int) (hs : script.length ≤ 63) : runPX L.fns L.xfns Γ lim 7 L.i_la [.list (script.map .int)] = some (.bool true) := toX rfl (la_run (c2_ok hΓ) hs)
end
end Mine.V
namespace Mine
theorem law2_all : _root_.PySem.Challenge.rw_rt0016_02.Holds := law0_done fun script hs => V.law2_plain rfl script hs
end Mine
theorem PySem.Challenge.cw_rt0016_02_holds : PySem.Challenge.rw_rt0016_02.Holds :=
  Mine.law2_all
