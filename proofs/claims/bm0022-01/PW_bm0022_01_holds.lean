import PyProof.Rows.All
import Wide.All
import OpenK.AllK
import Wide.FinOn
import PySem.Challenge.RW_bm0022_01
set_option Elab.async false
section
open PySem PySem.W PyProof.Rows
set_option Elab.async false
set_option maxRecDepth 100000
set_option maxHeartbeats 8000000
namespace Mine
open_top hd for PySem.Challenge.rw_bm0022_01
end Mine
end
section
open PySem PySem.W PySem.Calls PyProof.Rows
set_option Elab.async false
set_option maxRecDepth 100000
set_option maxHeartbeats 8000000
namespace Mine
abbrev P0 : Program := PySem.Challenge.rw_bm0022_01.row.prog
noncomputable abbrev Kf (w : World) : Frag := hd.heap_39 w.params

/-! ## what is known of the heap -/
inductive Cell where
  | ob (o : Obj)
  | ns (kvs : List (Str × Option Value))
  | lst (vs : List Value)
  | tup (vs : List Value)
  | sd (kvs : List (Str × Value))
  | dom (vs : List Value) (dx : Addr)
  | cl (v : Option Value)
  | dk (kvs : List (Str × Value)) (n : Nat)
  | it (cls : String) (d : Data)

abbrev lstO (vs : List Value) (n : Nat) : Obj := { cls := .type "list", data := .seq vs.toArray n }
abbrev tupO (vs : List Value) (n : Nat) : Obj := { cls := .type "tuple", data := .seq vs.toArray n }
abbrev dctO (es : List DictEntry) (n : Nat) : Obj := { cls := .type "dict", data := .dict es.toArray n }
abbrev domO (vs : List Value) (n : Nat) (dx : Addr) : Obj := { cls := .ref 264, dict := some dx, data := .seq vs.toArray n }

def SDE (P : Params) : List DictEntry → List (Str × Value) → Prop
  | [], [] => True
  | e :: es, kv :: kvs => (∃ t, e = ⟨PyData.keyHash P kv.1, .str kv.1 t, kv.2⟩) ∧ SDE P es kvs
  | _, _ => False

def Cell.At (w : World) (h : Heap) (a : Addr) : Cell → Prop
  | .ob o => h.get? a = some o
  | .ns kvs => (kvs.map (·.1)).Nodup ∧ h.Ns a (fun x => (kvs.lookup x).join)
  | .lst vs => ∃ n, h.get? a = some (lstO vs n)
  | .tup vs => ∃ n, h.get? a = some (tupO vs n)
  | .sd kvs => (kvs.map (·.1)).Nodup ∧ ∃ es n, h.get? a = some (dctO es n) ∧ SDE w.params es kvs
  | .dom vs dx => ∃ n, h.get? a = some (domO vs n dx)
  | .cl v => h.IsCell a v
  | .it cls d => ∃ o, h.get? a = some o ∧ o.cls = .type cls ∧ o.data = d
  | .dk kvs n => (kvs.map (·.1)).Nodup ∧ ∃ es, h.get? a = some (dctO es n) ∧ SDE w.params es kvs

theorem at_some {w : World} {h : Heap} {a : Addr} : ∀ {c : Cell}, c.At w h a → ∃ o, h.get? a = some o
  | .ob _, x => ⟨_, x⟩
  | .ns _, ⟨_, o, _, _, x, _⟩ => ⟨o, x⟩
  | .lst _, ⟨_, x⟩ => ⟨_, x⟩
  | .tup _, ⟨_, x⟩ => ⟨_, x⟩
  | .sd _, ⟨_, _, _, x, _⟩ => ⟨_, x⟩
  | .dom _ _, ⟨_, x⟩ => ⟨_, x⟩
  | .cl _, ⟨_, x, _⟩ => ⟨_, x⟩
  | .dk _ _, ⟨_, _, x, _⟩ => ⟨_, x⟩
  | .it _ _, ⟨_, x, _⟩ => ⟨_, x⟩
theorem at_to {w : World} {h h' : Heap} {a : Addr} (e : h'.get? a = h.get? a) : ∀ {c : Cell}, c.At w h a → c.At w h' a
  | .ob _, x => e.trans x
  | .ns _, ⟨nd, o, es, ep, x, r⟩ => ⟨nd, o, es, ep, e.trans x, r⟩
  | .lst _, ⟨n, x⟩ => ⟨n, e.trans x⟩
  | .tup _, ⟨n, x⟩ => ⟨n, e.trans x⟩
  | .sd _, ⟨nd, es, n, x, r⟩ => ⟨nd, es, n, e.trans x, r⟩
  | .dom _ _, ⟨n, x⟩ => ⟨n, e.trans x⟩
  | .cl _, ⟨o, x, r⟩ => ⟨o, e.trans x, r⟩
  | .dk _ _, ⟨nd, es, x, r⟩ => ⟨nd, es, e.trans x, r⟩
  | .it _ _, ⟨o, x, r⟩ => ⟨o, e.trans x, r⟩

abbrev Led := List (Addr × Cell)

structure Ok (w : World) (g : Heap) (os : OsState) (G : Array GenState) (l : Led) (s : Shared) : Prop where
  os : s.os = os
  gens : s.gens = G
  keep : ∀ b o, g.get? b = some o → s.heap.get? b = some o
  at_ : ∀ p ∈ l, p.2.At w s.heap p.1
  new : ∀ p ∈ l, g.get? p.1 = none
  nd : (l.map (·.1)).Nodup
  sm : ∃ b o, g.get? b = some o ∧ sysModules < b
  ns' : ∀ p ∈ l, p.1 ≠ sysModules

inductive Zip : Led → Addr → Cell → (Cell → Led) → Prop
  | head {a c r} : Zip ((a, c) :: r) a c (fun c' => (a, c') :: r)
  | tail {p r a c f} : Zip r a c f → Zip (p :: r) a c (fun c' => p :: f c')

section
variable {w : World} {g : Heap} {os : OsState} {G : Array GenState} {l l' : Led} {s : Shared} {a : Addr} {c c' : Cell} {f : Cell → Led}

theorem Zip.split (z : Zip l a c f) : ∃ l1 l2, l = l1 ++ (a, c) :: l2 ∧ ∀ c', f c' = l1 ++ (a, c') :: l2 := by
  induction z with
  | head => exact ⟨[], _, rfl, fun _ => rfl⟩
  | @tail p r a c f z ih =>
    obtain ⟨l1, l2, e, q⟩ := ih
    exact ⟨p :: l1, l2, by rw [e]; rfl, fun c' => by show p :: f c' = _; rw [q c']; rfl⟩
theorem Zip.of_split {l1 l2 : Led} : Zip (l1 ++ (a, c) :: l2) a c (fun c' => l1 ++ (a, c') :: l2) := by
  induction l1 with
  | nil => exact .head
  | cons p r ih => exact .tail ih
theorem Zip.mem (z : Zip l a c f) : (a, c) ∈ l := by
  obtain ⟨l1, l2, rfl, _⟩ := z.split; simp
theorem Zip.app {l1 : Led} (z : Zip l a c f) : Zip (l1 ++ l) a c (fun c' => l1 ++ f c') := by
  induction l1 with
  | nil => exact z
  | cons p r ih => exact .tail ih
theorem Zip.left {l2 : Led} (z : Zip l a c f) : Zip (l ++ l2) a c (fun c' => f c' ++ l2) := by
  induction z with
  | head => exact .head
  | tail z ih => exact .tail ih
theorem zip_of_mem (h : (a, c) ∈ l) : ∃ f, Zip l a c f := by
  obtain ⟨l1, l2, rfl⟩ := List.append_of_mem h
  exact ⟨_, Zip.of_split⟩

theorem Ok.ne (H : Ok w g os G l s) {p q : Addr × Cell} (hp : p ∈ l) (hq : q ∈ l) (h : p.2 ≠ q.2) : p.1 ≠ q.1 := by
  intro e
  have nd := H.nd
  clear H
  induction l with
  | nil => cases hp
  | cons x r ih =>
    rw [List.map_cons, List.nodup_cons] at nd
    rcases List.mem_cons.mp hp with rfl | hp'
    · rcases List.mem_cons.mp hq with rfl | hq'
      · exact h rfl
      · exact nd.1 (by rw [e]; exact List.mem_map_of_mem (f := (·.1)) hq')
    · rcases List.mem_cons.mp hq with rfl | hq'
      · exact nd.1 (by rw [← e]; exact List.mem_map_of_mem (f := (·.1)) hp')
      · exact ih hp' hq' nd.2
theorem Ok.same (H : Ok w g os G l s) {c c' : Cell} (hp : (a, c) ∈ l) (hq : (a, c') ∈ l) : c = c' := by
  by_cases e : c = c'
  · exact e
  · exact absurd rfl (H.ne (p := (a, c)) (q := (a, c')) hp hq e)
theorem Ok.get (H : Ok w g os G l s) (h : (a, c) ∈ l) : c.At w s.heap a := H.at_ _ h
theorem Ok.lt (H : Ok w g os G l s) {p : Addr × Cell} (h : p ∈ l) : p.1 < s.heap.objs.size := by
  obtain ⟨o, e⟩ := at_some (H.at_ _ h)
  exact Heap.lt_size e

/-- one object is changed -/
theorem Ok.set (H : Ok w g os G l s) (z : Zip l a c f) {h' : Heap} {t : Nat} (hs : Heap.SameBut a s.heap h') (hc : c'.At w h' a) :
    Ok w g os G (f c') { s with heap := h', toks := t } := by
  obtain ⟨l1, l2, rfl, q⟩ := z.split
  have nd := H.nd
  rw [List.map_append, List.map_cons, List.nodup_append] at nd
  obtain ⟨nd1, nd2, nd3⟩ := nd
  rw [List.nodup_cons] at nd2
  have hn := H.new (a, c) (by simp)
  rw [q c']
  refine ⟨H.os, H.gens, fun b o e => ?_, fun p hp => ?_, fun p hp => ?_, ?_, H.sm, fun p hp => ?_⟩
  · refine (hs.2 b fun z => ?_).trans (H.keep b o e)
    subst z; rw [hn] at e; cases e
  · rcases List.mem_append.mp hp with hp | hp
    · exact at_to (hs.2 _ fun e => nd3 p.1 (List.mem_map_of_mem (f := (·.1)) hp) a (by simp) e) (H.at_ p (List.mem_append_left _ hp))
    · rcases List.mem_cons.mp hp with rfl | hp
      · exact hc
      · exact at_to (hs.2 _ fun e => nd2.1 (by rw [← show p.1 = a from e]; exact List.mem_map_of_mem (f := (·.1)) hp)) (H.at_ p (List.mem_append_right _ (.tail _ hp)))
  · rcases List.mem_append.mp hp with hp | hp
    · exact H.new p (List.mem_append_left _ hp)
    · rcases List.mem_cons.mp hp with rfl | hp
      · exact hn
      · exact H.new p (List.mem_append_right _ (.tail _ hp))
  · rw [List.map_append, List.map_cons, List.nodup_append]
    exact ⟨nd1, List.nodup_cons.mpr nd2, nd3⟩
  · rcases List.mem_append.mp hp with hp | hp
    · exact H.ns' p (List.mem_append_left _ hp)
    · rcases List.mem_cons.mp hp with rfl | hp
      · exact H.ns' (a, c) (by simp)
      · exact H.ns' p (List.mem_append_right _ (.tail _ hp))
/-- a new object -/
theorem Ok.push (H : Ok w g os G l s) {o : Obj} {t : Nat} (hc : c.At w (s.heap.push o) s.heap.objs.size) :
    Ok w g os G ((s.heap.objs.size, c) :: l) { s with heap := s.heap.push o, toks := t } := by
  refine ⟨H.os, H.gens, fun b o e => Heap.get?_push_of_some _ (H.keep b o e), fun p hp => ?_, fun p hp => ?_, ?_, H.sm, fun p hp => ?_⟩
  · rcases List.mem_cons.mp hp with rfl | hp
    · exact hc
    · have x := H.at_ p hp
      obtain ⟨o', e⟩ := at_some x
      exact at_to ((Heap.get?_push_of_some _ e).trans e.symm) x
  · rcases List.mem_cons.mp hp with rfl | hp
    · cases q : g.get? s.heap.objs.size with
      | none => rfl
      | some o' => exact absurd (Heap.lt_size (H.keep _ _ q)) (Nat.lt_irrefl _)
    · exact H.new p hp
  · rw [List.map_cons, List.nodup_cons]
    refine ⟨fun hm => ?_, H.nd⟩
    obtain ⟨p, hp, e⟩ := List.mem_map.mp hm
    exact absurd (H.lt hp) (by rw [e]; exact Nat.lt_irrefl _)
  · rcases List.mem_cons.mp hp with rfl | hp
    · obtain ⟨b, o, e, q⟩ := H.sm
      exact Nat.ne_of_gt (Nat.lt_trans q (Heap.lt_size (H.keep _ _ e)))
    · exact H.ns' p hp
theorem Ok.toks (H : Ok w g os G l s) (t : Nat) : Ok w g os G l { s with toks := t } := ⟨H.os, H.gens, H.keep, H.at_, H.new, H.nd, H.sm, H.ns'⟩
theorem Ok.perm (H : Ok w g os G l s) (p : l.Perm l') : Ok w g os G l' s :=
  ⟨H.os, H.gens, H.keep, fun q hq => H.at_ q (p.mem_iff.mpr hq), fun q hq => H.new q (p.mem_iff.mpr hq), (p.map (·.1)).nodup_iff.mp H.nd, H.sm, fun q hq => H.ns' q (p.mem_iff.mpr hq)⟩
theorem Ok.sub (H : Ok w g os G l s) (p : l'.Sublist l) : Ok w g os G l' s :=
  ⟨H.os, H.gens, H.keep, fun q hq => H.at_ q (p.subset hq), fun q hq => H.new q (p.subset hq), H.nd.sublist (p.map (·.1)), H.sm, fun q hq => H.ns' q (p.subset hq)⟩
theorem Ok.tail (H : Ok w g os G (p :: l) s) : Ok w g os G l s := H.sub (List.sublist_cons_self ..)
/-- only more of the heap -/
theorem Ok.ext (H : Ok w g os G l s) {h' : Heap} {t : Nat} (k : ∀ b o, s.heap.get? b = some o → h'.get? b = some o) : Ok w g os G l { s with heap := h', toks := t } :=
  ⟨H.os, H.gens, fun b o e => k _ _ (H.keep b o e), fun p hp => by
    have x := H.at_ p hp
    obtain ⟨o', e⟩ := at_some x
    exact at_to ((k _ _ e).trans e.symm) x, H.new, H.nd, H.sm, H.ns'⟩
end

/-! ## what stands at the top -/
structure Base (w : World) (g : Heap) : Prop where
  X : (Kf w).In g
  top : ∃ mg mb, g.Ns mainGlobals mg ∧ g.Ns builtinsNs mb ∧ (∀ x : Str, x ≠ "__name__" → mb x = bootBuiltins x) ∧ ∃ bm ob, mg "__builtins__" = some (.ref bm) ∧ bm ≠ builtinsNs ∧ g.get? bm = some ob ∧ ob.cls = .type "module" ∧ ob.dict = some builtinsNs ∧ ob.data = .plain
  lim : g.NoLimit

/-! ## how deep: a bound alone -/
abbrev AR (d u : Nat) : Around := ⟨none, d, none, none, u⟩
section
variable {α : Type} {M : Model} {A : Around} {d u : Nat} {Q : α → Shared → Prop} {E : Value → Shared → Prop} {s : Shared}
theorem in_AR {Γ : Ctx} (h : Γ.In A) (hh : A.handled = none) (hd : A.depth ≤ d) (hu : A.units ≤ u) : Γ.In (AR d u) :=
  ⟨h.1.trans hh, Nat.le_trans h.2.1 hd, fun _ e => (nomatch e), fun _ e => (nomatch e), Nat.le_trans h.2.2.2.2 hu⟩
theorem below_AR {Γ : Ctx} (h : Γ.Below A) (hh : A.handled = none) (hd : A.depth ≤ d) (hu : A.units ≤ u) : Γ.Below (AR d u) :=
  ⟨h.1.trans hh, Nat.le_trans h.2.1 hd, fun _ e => (nomatch e), fun _ e => (nomatch e), Nat.le_trans h.2.2.2.2 hu⟩
theorem weaken {t : Sem α} (h : wpAny M (AR d u) t Q E s) (hh : A.handled = none := by rfl) (hd : A.depth ≤ d := by decide) (hu : A.units ≤ u := by decide) : wpAny M A t Q E s :=
  fun Γ p hΓ => h Γ p (in_AR hΓ hh hd hu)
theorem weakenC {c : Code} {R : Result → Shared → Prop} (h : codeAny M (AR d u) c R s) (hh : A.handled = none := by rfl) (hd : A.depth ≤ d := by decide) (hu : A.units ≤ u := by decide) : codeAny M A c R s :=
  fun Γ p hc hΓ => h Γ p hc (below_AR hΓ hh hd hu)
end
end Mine
end
section
open PySem PySem.W PySem.Calls PyProof.Rows
set_option Elab.async false
set_option maxRecDepth 100000
set_option maxHeartbeats 8000000
namespace Mine

/-! ## looking into the ledger -/
local macro_rules | `(tactic| walk_at "mem") => `(tactic| first | assumption | exact List.Mem.head _ | (refine' List.Mem.tail _ ?_; walk_at "mem") | (refine' List.mem_append_right _ ?_; walk_at "mem") | (refine' List.mem_append_left _ ?_; walk_at "mem"))
local macro_rules | `(tactic| walk_at "zip") => `(tactic| first | assumption | exact Zip.head | exact Zip.tail (by walk_at "zip"))

inductive Put : List (Str × Option Value) → Str → Value → List (Str × Option Value) → Prop
  | head {x o v r} : Put ((x, o) :: r) x v ((x, some v) :: r)
  | tail {p r x v r'} : Put r x v r' → Put (p :: r) x v (p :: r')
theorem Put.names {l : List (Str × Option Value)} {x : Str} {v : Value} {l' : List (Str × Option Value)} (h : Put l x v l') : l'.map (·.1) = l.map (·.1) := by
  induction h with
  | head => rfl
  | tail _ ih => rw [List.map_cons, List.map_cons, ih]
theorem Put.mem {l : List (Str × Option Value)} {x : Str} {v : Value} {l' : List (Str × Option Value)} (h : Put l x v l') : x ∈ l.map (·.1) := by
  induction h with
  | head => simp
  | tail _ ih => rw [List.map_cons]; exact .tail _ ih
theorem Put.look {l : List (Str × Option Value)} {x : Str} {v : Value} {l' : List (Str × Option Value)} (h : Put l x v l') (nd : (l.map (·.1)).Nodup) (y : Str) :
    (l'.lookup y).join = if y = x then some v else (l.lookup y).join := by
  induction h with
  | @head x o v r =>
    by_cases e : y = x
    · subst e; simp
    · have : (y == x) = false := by simpa using e
      simp [List.lookup_cons, this, e]
  | @tail p r x v r' h ih =>
    obtain ⟨k, o⟩ := p
    rw [List.map_cons, List.nodup_cons] at nd
    rw [List.lookup_cons, List.lookup_cons]
    by_cases e : y = k
    · subst e
      have : y ≠ x := fun q => nd.1 (q ▸ h.mem)
      simp [this]
    · have : (y == k) = false := by simpa using e
      simp only [this]
      exact ih nd.2
local macro_rules | `(tactic| walk_at "put") => `(tactic| first | exact Put.head | exact Put.tail (by walk_at "put"))

/-- a name deleted -/
inductive Cut : List (Str × Option Value) → Str → List (Str × Option Value) → Prop
  | head {x o r} : Cut ((x, o) :: r) x ((x, none) :: r)
  | tail {p r x r'} : Cut r x r' → Cut (p :: r) x (p :: r')

inductive PutD : List (Str × Value) → Str → Value → List (Str × Value) → Prop
  | nil {x v} : PutD [] x v [(x, v)]
  | head {x o v r} : PutD ((x, o) :: r) x v ((x, v) :: r)
  | tail {k o r x v r'} : k ≠ x → PutD r x v r' → PutD ((k, o) :: r) x v ((k, o) :: r')
local macro_rules | `(tactic| walk_at "putd") => `(tactic| first | exact PutD.head | exact PutD.nil | exact PutD.tail (by decide) (by walk_at "putd"))

theorem lookup_mem {α : Type} {l : List (Str × α)} {x : Str} {v : α} (nd : (l.map (·.1)).Nodup) (h : (x, v) ∈ l) : l.lookup x = some v := by
  induction l with
  | nil => cases h
  | cons p r ih =>
    obtain ⟨k, o⟩ := p
    rw [List.map_cons, List.nodup_cons] at nd
    rcases List.mem_cons.mp h with e | h'
    · cases e; simp
    · have : (x == k) = false := by
        have : x ≠ k := by
          rintro rfl
          exact nd.1 (List.mem_map_of_mem (f := (·.1)) h')
        simpa using this
      rw [List.lookup_cons, this]
      exact ih nd.2 h'

/-! ## a dict with str keys -/
section
variable {P : Params}
theorem SDE.keys {es : List DictEntry} {kvs : List (Str × Value)} (h : SDE P es kvs) : ∀ e ∈ es, ∃ x t, e.key = .str x t ∧ e.hash = PyData.keyHash P x := by
  induction es generalizing kvs with
  | nil => intro e he; cases he
  | cons e es ih =>
    cases kvs with
    | nil => cases h
    | cons kv kvs =>
      obtain ⟨⟨t, rfl⟩, h⟩ := h
      intro e he
      rcases List.mem_cons.mp he with rfl | he
      · exact ⟨_, _, rfl, rfl⟩
      · exact ih h e he
theorem SDE.length {es : List DictEntry} {kvs : List (Str × Value)} (h : SDE P es kvs) : es.length = kvs.length := by
  induction es generalizing kvs with
  | nil => cases kvs with | nil => rfl | cons => cases h
  | cons e es ih => cases kvs with
    | nil => cases h
    | cons kv kvs => rw [List.length_cons, List.length_cons, ih h.2]
theorem SDE.find {es : List DictEntry} {kvs : List (Str × Value)} (h : SDE P es kvs) (x : Str) : (es.find? (·.key.isStr x)).map (·.val) = kvs.lookup x := by
  induction es generalizing kvs with
  | nil => cases kvs with | nil => rfl | cons => cases h
  | cons e es ih => cases kvs with
    | nil => cases h
    | cons kv kvs =>
      obtain ⟨⟨t, rfl⟩, h⟩ := h
      obtain ⟨k, v⟩ := kv
      rw [List.find?_cons, List.lookup_cons]
      show Option.map _ (match (k == x) with | true => _ | false => _) = _
      by_cases q : k = x
      · subst q; simp
      · have q1 : (k == x) = false := by simpa using q
        have q2 : (x == k) = false := by simpa using Ne.symm q
        rw [q1, q2]; exact ih h
theorem SDE.noRef {es : List DictEntry} {kvs : List (Str × Value)} (h : SDE P es kvs) : es.any (·.refKey) = false := by
  rw [List.any_eq_false]
  intro e he
  obtain ⟨x, t, hk, _⟩ := h.keys e he
  unfold DictEntry.refKey
  rw [hk]; simp
theorem SDE.getL {es : List DictEntry} {kvs : List (Str × Value)} (h : SDE P es kvs) (x : Str) : getL x es = some (kvs.lookup x) := by
  have f := h.find x
  unfold PySem.W.getL
  cases q : es.find? (·.key.isStr x) with
  | some e => rw [q] at f; rw [← f]; rfl
  | none =>
    rw [q] at f
    dsimp only
    rw [h.noRef, ← f]; rfl
theorem SDE.put {es : List DictEntry} {kvs kvs' : List (Str × Value)} {x : Str} {v : Value} {t : Nat} (h : SDE P es kvs) (p : PutD kvs x v kvs') : SDE P (putL x (PyData.keyHash P x) (.str x t) v es) kvs' := by
  induction p generalizing es with
  | nil => cases es with | nil => exact ⟨⟨t, rfl⟩, trivial⟩ | cons => cases h
  | head => cases es with
    | nil => cases h
    | cons e es =>
      obtain ⟨⟨t, rfl⟩, h⟩ := h
      unfold putL
      rw [if_pos (by show (_ == _) = true; simp)]
      exact ⟨⟨t, rfl⟩, h⟩
  | tail n _ ih => cases es with
    | nil => cases h
    | cons e es =>
      obtain ⟨⟨t, rfl⟩, h⟩ := h
      unfold putL
      rw [if_neg (by show ¬ (_ == _) = true; simpa using n)]
      exact ⟨⟨t, rfl⟩, ih h⟩
theorem PutD.names {kvs kvs' : List (Str × Value)} {x : Str} {v : Value} (p : PutD kvs x v kvs') (nd : (kvs.map (·.1)).Nodup) : (kvs'.map (·.1)).Nodup ∧ ∀ y ∈ kvs'.map (·.1), y = x ∨ y ∈ kvs.map (·.1) := by
  induction p with
  | nil => simp
  | head => exact ⟨nd, fun y hy => .inr hy⟩
  | @tail k o r x v r' n p ih =>
    rw [List.map_cons, List.nodup_cons] at nd
    obtain ⟨a, b⟩ := ih nd.2
    refine ⟨?_, fun y hy => ?_⟩
    · rw [List.map_cons, List.nodup_cons]
      refine ⟨fun hm => ?_, a⟩
      rcases b _ hm with q | q
      · exact n q
      · exact nd.1 q
    · rw [List.map_cons] at hy ⊢
      rcases List.mem_cons.mp hy with rfl | hy
      · exact .inr (.head _)
      · rcases b _ hy with q | q
        · exact .inl q
        · exact .inr (.tail _ q)
end

section
variable {w : World} {g : Heap} {os : OsState} {G : Array GenState} {l l' : Led} {s : Shared} {a : Addr} {c c' : Cell} {f : Cell → Led} {A : Around} {E : Value → Shared → Prop} {M : Model}

theorem Ok.ns (H : Ok w g os G l s) {L : Addr} {kvs : List (Str × Option Value)} (h : (L, .ns kvs) ∈ l) : s.heap.Ns L (fun x => (kvs.lookup x).join) := (H.get h).2
theorem Ok.names (H : Ok w g os G l s) {L : Addr} {kvs : List (Str × Option Value)} (h : (L, .ns kvs) ∈ l) : (kvs.map (·.1)).Nodup := (H.get h).1

/-! ## names -/
theorem e_local {env : Env} {x : Str} {v : Value} {kvs : List (Str × Option Value)} {pos : Pos} {Q : Value → Shared → Prop} (H : Ok w g os G l s) (hm : (env.locals, .ns kvs) ∈ l) (hv : (x, some v) ∈ kvs) (h : Q v s)
    (hk : env.scope.kind = .function := by rfl) (hx : env.kindOf x = some .local := by rfl) (hd : (x == ("__debug__" : Str)) = false := by decide) : wpAny M A (eval (.Name x pos) env) Q E s :=
  wpAny_Name (wpAny_loadName_local hk hx (H.ns hm) (by show (kvs.lookup x).join = _; rw [lookup_mem (H.names hm) hv]; rfl) h) hd
theorem e_cell {env : Env} {x : Str} {v : Value} {ca : Addr} {pos : Pos} {Q : Value → Shared → Prop} (H : Ok w g os G l s) (hc : env.cells.lookup x = some ca) (hm : (ca, .cl (some v)) ∈ l) (h : Q v s)
    (hk : env.scope.kind = .function := by rfl) (hx : env.kindOf x = some .cell := by rfl) (hd : (x == ("__debug__" : Str)) = false := by decide) : wpAny M A (eval (.Name x pos) env) Q E s :=
  wpAny_Name (wpAny_loadName_cell hk hx hc (H.get hm) h) hd
theorem e_free {env : Env} {x : Str} {v : Value} {ca : Addr} {pos : Pos} {Q : Value → Shared → Prop} (H : Ok w g os G l s) (hc : env.cells.lookup x = some ca) (hm : (ca, .cl (some v)) ∈ l) (h : Q v s)
    (hk : env.scope.kind = .function := by rfl) (hx : env.kindOf x = some .free := by rfl) (hd : (x == ("__debug__" : Str)) = false := by decide) (hn : (x == ("__classdict__" : Str)) = false := by decide) : wpAny M A (eval (.Name x pos) env) Q E s :=
  wpAny_Name (wpAny_loadName_free hk hx hc (H.get hm) h hn) hd
theorem e_store {env : Env} {x : Str} {v : Value} {kvs kvs' : List (Str × Option Value)} {Q : Unit → Shared → Prop} (H : Ok w g os G l s) (z : Zip l env.locals (.ns kvs) f) (p : Put kvs x v kvs')
    (h : ∀ s', Ok w g os G (f (.ns kvs')) s' → Q () s') (hx : env.kindOf x = some .local := by rfl) (hk : env.scope.kind = .function := by rfl) : wpAny M A (storeName env x v) Q E s :=
  have nd := H.names z.mem
  wpAny_storeName_local hx (H.ns z.mem) (fun h' hn hs => h _ (H.set z hs ⟨by rw [p.names]; exact nd, by
      have : (fun y => (kvs'.lookup y).join) = fun y => if y = x then some v else (kvs.lookup y).join := funext fun y => p.look nd y
      rw [this]; exact hn⟩)) (by rw [hk]; rfl)
theorem e_storeC {env : Env} {x : Str} {v : Value} {v₀ : Option Value} {ca : Addr} {Q : Unit → Shared → Prop} (H : Ok w g os G l s) (hc : env.cells.lookup x = some ca) (z : Zip l ca (.cl v₀) f)
    (h : ∀ s', Ok w g os G (f (.cl (some v))) s' → Q () s') (hx : env.kindOf x = some .cell := by rfl) (hk : env.scope.kind = .function := by rfl) : wpAny M A (storeName env x v) Q E s := 
  wpAny_storeName_cell hk hx hc (H.get z.mem) (fun h' hn hs => h _ (H.set (c' := .cl (some v)) (t := s.toks) z hs hn))

theorem Base.X' (B : Base w g) (H : Ok w g os G l s) : (Kf w).In s.heap := B.X.keeps H.keep
theorem Base.lim' (B : Base w g) (H : Ok w g os G l s) : s.heap.NoLimit := B.lim.keeps H.keep

theorem e_global {env : Env} {x : Str} {v : Value} {pos : Pos} {Q : Value → Shared → Prop} (B : Base w g) (H : Ok w g os G l s) (e : nsIn (Kf w) mainGlobals x = some (some v)) (h : Q v s)
    (hg : env.globals = mainGlobals := by rfl) (hk : env.scope.kind = .function := by rfl) (hx : env.kindOf x = some .globalImplicit := by rfl) (hd : (x == ("__debug__" : Str)) = false := by decide) : wpAny M A (eval (.Name x pos) env) Q E s := by
  obtain ⟨mg, mb, hmg, hmb, hb, -⟩ := B.top
  exact Name_function_global hk hx (loadGlobal_global (env := env) (mg := mg) (by rw [hg]; exact hmg.keeps H.keep) (mg_of B.X hmg e) h) hd
theorem e_builtin {env : Env} {x : Str} {v : Value} {pos : Pos} {Q : Value → Shared → Prop} (B : Base w g) (H : Ok w g os G l s) (e : nsIn (Kf w) mainGlobals x = some none) (hv : bootBuiltins x = some v) (h : Q v s)
    (hn : x ≠ "__name__" := by decide) (hg : env.globals = mainGlobals := by rfl) (hbi : env.builtins = builtinsNs := by rfl) (hk : env.scope.kind = .function := by rfl) (hx : env.kindOf x = some .globalImplicit := by rfl) (hd : (x == ("__debug__" : Str)) = false := by decide) : wpAny M A (eval (.Name x pos) env) Q E s := by
  obtain ⟨mg, mb, hmg, hmb, hb, -⟩ := B.top
  exact Name_function_global hk hx (loadGlobal_builtin (env := env) (mg := mg) (mb := mb) (by rw [hg]; exact hmg.keeps H.keep) (mg_none_of B.X hmg e) (by rw [hbi]; exact hmb.keeps H.keep) ((hb x hn).trans hv) h) hd
end
end Mine
end
section
open PySem PySem.W PySem.Calls PyProof.Rows
set_option Elab.async false
set_option maxRecDepth 100000
set_option maxHeartbeats 8000000
set_option linter.unusedVariables false
namespace Mine
local macro_rules | `(tactic| walk_at "mem") => `(tactic| first | assumption | exact List.Mem.head _ | (refine' List.Mem.tail _ ?_; walk_at "mem") | (refine' List.mem_append_right _ ?_; walk_at "mem") | (refine' List.mem_append_left _ ?_; walk_at "mem"))
local macro_rules | `(tactic| walk_at "zip") => `(tactic| first | assumption | exact Zip.head | exact Zip.tail (by walk_at "zip"))
local macro_rules | `(tactic| walk_at "put") => `(tactic| first | exact Put.head | exact Put.tail (by walk_at "put"))
local macro_rules | `(tactic| walk_at "putd") => `(tactic| first | exact PutD.head | exact PutD.nil | exact PutD.tail (by decide) (by walk_at "putd"))

theorem PutD.len {kvs kvs' : List (Str × Value)} {x : Str} {v : Value} (p : PutD kvs x v kvs') : kvs'.length ≤ kvs.length + 1 := by
  induction p with
  | nil => simp
  | head => simp
  | tail n p ih => simp only [List.length_cons]; omega
section
variable {w : World} {g : Heap} {os : OsState} {G : Array GenState} {l l' : Led} {s : Shared} {a : Addr} {c c' : Cell} {f : Cell → Led} {A : Around} {E : Value → Shared → Prop}

theorem Looks.keepsS {α : Type} {M : Model} {A : Around} {t : Sem α} {r : α} {Q : α → Shared → Prop} {E : Value → Shared → Prop} {h : Heap} {s : Shared} (x : PySem.W.Looks M h t r) (q : Q r s) (k : ∀ b o, h.get? b = some o → s.heap.get? b = some o := by exact fun _ _ e => e) : wpAny M A t Q E s := x A Q E s k q
/-! ## objects of a class -/
structure Cls (w : World) (C : Addr) : Prop where
  ga : findIn (Kf w) (.ref C) "__getattribute__" = some (some (.builtin "object.__getattribute__"))
  gn : findIn (Kf w) (.ref C) "__getattr__" = some none
  sa : findIn (Kf w) (.ref C) "__setattr__" = some (some (.builtin "object.__setattr__"))
  hd : hasDictIn (Kf w) C = true
theorem cls110 (w : World) : Cls w 110 := ⟨by kernel_rfl, by kernel_rfl, by kernel_rfl, by kernel_rfl⟩
theorem cls186 (w : World) : Cls w 186 := ⟨by kernel_rfl, by kernel_rfl, by kernel_rfl, by kernel_rfl⟩
theorem cls336 (w : World) : Cls w 336 := ⟨by kernel_rfl, by kernel_rfl, by kernel_rfl, by kernel_rfl⟩

/-- an object of a class: plain, or a Domain -/
def isInst : Cell → Addr → Addr → Prop
  | .ob o, C, dx => o = instObj C dx
  | .dom _ d, C, dx => C = 264 ∧ d = dx
  | _, _, _ => False
theorem inst_at (H : Ok w g os G l s) {x C dx : Addr} {kvs : List (Str × Value)} (hx : (x, c) ∈ l) (hi : isInst c C dx) (hd : (dx, .sd kvs) ∈ l) :
    ∃ ox es n, InstAt s.heap x ox C (some (dctO es n)) ∧ ox.dict = some dx ∧ s.heap.get? dx = some (dctO es n) ∧ SDE w.params es kvs ∧ (kvs.map (·.1)).Nodup := by
  obtain ⟨nd, es, n, hd', sd⟩ := H.get hd
  have hx := H.get hx
  cases c <;> first | exact hi.elim | skip
  · cases hi
    exact ⟨_, es, n, ⟨hx, rfl, rfl, hd'⟩, rfl, hd', sd, nd⟩
  · obtain ⟨rfl, rfl⟩ := hi
    obtain ⟨k, hx⟩ := hx
    exact ⟨_, es, n, ⟨hx, rfl, rfl, hd'⟩, rfl, hd', sd, nd⟩

theorem i_get {x C dx : Addr} {kvs : List (Str × Value)} {name : Str} {v : Value} {ex : Bool} {Q : Value → Shared → Prop} (B : Base w g) (H : Ok w g os G l s) (hx : (x, c) ∈ l) (hi : isInst c C dx) (hd : (dx, .sd kvs) ∈ l)
    (K : Cls w C) (ha : findIn (Kf w) (.ref C) name = some none) (hv : (name, v) ∈ kvs) (hh : handedIn v = true) (h : ∀ s', Ok w g os G l s' → Q v s') : wpAny (model P0 w) A (getAttr (.ref x) name ex) Q E s := by
  obtain ⟨ox, es, n, I, _, _, sd, nd⟩ := inst_at H hx hi hd
  exact get_value (B.X' H) I K.ga (findObj_own K.hd ha (by rfl) (by rw [lookIn_dict, sd.getL, lookup_mem nd hv])) hh (h _ (H.toks _))

theorem i_meth {x C dx fa : Addr} {kvs : List (Str × Value)} {name : Str} {pl : Sem Bool} {Q : Value × List Value → Shared → Prop} (B : Base w g) (H : Ok w g os G l s) (hx : (x, c) ∈ l) (hi : isInst c C dx) (hd : (dx, .sd kvs) ∈ l)
    (K : Cls w C) (hf : findIn (Kf w) (.ref C) name = some (some (.ref fa))) (ht : typeIn (Kf w) (.ref fa) = some (.type "function")) (hn : kvs.lookup name = none) (h : Q (.ref fa, [.ref x]) s) :
    wpAny (model P0 w) A (getMethod (.ref x) name pl) Q E s := by
  obtain ⟨ox, es, n, I, _, _, sd, nd⟩ := inst_at H hx hi hd
  exact method_fn (B.X' H) I K.ga K.gn hf ht (by show (lookIn name (dctO es n)).map _ = _; rw [lookIn_dict, sd.getL, hn]; rfl) h

theorem i_set {x C dx : Addr} {kvs kvs' : List (Str × Value)} {name : Str} {v : Value} {Q : Unit → Shared → Prop} (B : Base w g) (H : Ok w g os G l s) (hx : (x, .ob (instObj C dx)) ∈ l) (z : Zip l dx (.sd kvs) f)
    (K : Cls w C) (hp : plainOver (Kf w) C = true) (ht : takerIn (Kf w) C name = some none) (p : PutD kvs name v kvs') (hz : kvs.length ≤ 1000) (h : ∀ s', Ok w g os G (f (.sd kvs')) s' → Q () s') :
    wpAny (model P0 w) A (setAttr (.ref x) name v) Q E s := by
  obtain ⟨ox, es, n, I, hox, hdx, sd, nd⟩ := inst_at H hx (C := C) (dx := dx) rfl z.mem
  have X := B.X' H
  refine set_plain X I K.sa ?_
  refine osa_open (s := { s with toks := s.toks + 1 }) X I hp ht fun b => ?_
  obtain ⟨cd, hc, hdd⟩ := any_some K.hd
  obtain ⟨hx', hcl, hn, -⟩ := I
  obtain ⟨oc, odi, oda, osl⟩ := ox
  dsimp only at hcl hox
  subst hcl hox
  refine wpAny_bind (wpAny_pure (wpAny_bind (wpAny_bind (wpAny_loadPart hx' (wpAny_bind (Looks.keepsS (looks_clsIn X hc) ?_))))))
  rw [hdd]
  refine wpAny_pure (a := some dx) (wpAny_bind (wpAny_pure (wpAny_bind ?_)))
  unfold nsSet
  refine wpAny_bind (wpAny_bind (wpAny_askSetting (wpAny_pure (wpAny_bind (wpAny_mkText (wpAny_bind (wpAny_loadPart hdx ?_)))))))
  dsimp only
  have cc : aRefKeyMayBeTheName name es.toArray = false := by
    rw [aRefKeyMayBeTheName_at, show es.toArray.any (·.refKey) = false from by rw [← Array.any_toList]; exact sd.noRef, Bool.and_false]
  rw [cc]
  have hn' : Obj.putName name (PyData.keyHash w.params name) (.str name (s.toks + 1)) v (dctO es n) = dctO (putL name (PyData.keyHash w.params name) (.str name (s.toks + 1)) v es) (putN name es n) := putName_dict _ _ _ _ _ _
  have sd' := sd.put (t := s.toks + 1) p
  have hs : Heap.SameBut dx s.heap (s.heap.update dx (Obj.putName name (PyData.keyHash w.params name) (.str name (s.toks + 1)) v)) := Heap.SameBut.update ..
  have hg := Heap.get?_update_self (Obj.putName name (PyData.keyHash w.params name) (.str name (s.toks + 1)) v) hdx (by rw [hn']; rfl)
  rw [hn'] at hg
  have hlen : (putL name (PyData.keyHash w.params name) (.str name (s.toks + 1)) v es).length ≤ kvs.length + 1 := by
    rw [sd'.length]; exact p.len
  refine wpAny_updatePart hdx ?_
  refine wpAny_bind (wpAny_lookBehind hg (pastItsLine_dict (by rw [List.size_toArray, sizeLine_eq]; omega)) ?_)
  exact wpAny_pure (h _ (H.set z hs ⟨(p.names nd).1, _, _, hg, sd'⟩))
end
end Mine
end
section
open PySem PySem.W PySem.Calls PyProof.Rows
set_option Elab.async false
set_option maxRecDepth 100000
set_option maxHeartbeats 8000000
set_option linter.unusedVariables false
namespace Mine
local macro_rules | `(tactic| walk_at "mem") => `(tactic| first | assumption | exact List.Mem.head _ | (refine' List.Mem.tail _ ?_; walk_at "mem") | (refine' List.mem_append_right _ ?_; walk_at "mem") | (refine' List.mem_append_left _ ?_; walk_at "mem"))
local macro_rules | `(tactic| walk_at "zip") => `(tactic| first | assumption | exact Zip.head | exact Zip.tail (by walk_at "zip"))
local macro_rules | `(tactic| walk_at "put") => `(tactic| first | exact Put.head | exact Put.tail (by walk_at "put"))
local macro_rules | `(tactic| walk_at "putd") => `(tactic| first | exact PutD.head | exact PutD.nil | exact PutD.tail (by decide) (by walk_at "putd"))

local macro_rules | `(tactic| walk_at "nm") => `(tactic| first
  | (refine e_local (by assumption) (by walk_at "mem") (by walk_at "mem") ?_)
  | (refine e_cell (by assumption) (by rfl) (by walk_at "mem") ?_)
  | (refine e_free (by assumption) (by rfl) (by walk_at "mem") ?_))
section
variable {w : World} {g : Heap} {os : OsState} {G : Array GenState} {l l' : Led} {s : Shared} {a : Addr} {c c' : Cell} {f : Cell → Led} {A : Around} {E : Value → Shared → Prop}

def retOf : Flow → Value
  | .ret v => v
  | _ => .none

theorem mem_of_look {α : Type} {l : List (Str × α)} {x : Str} {v : α} (h : l.lookup x = some v) : (x, v) ∈ l := by
  induction l with
  | nil => cases h
  | cons p r ih =>
    obtain ⟨k, o⟩ := p
    rw [List.lookup_cons] at h
    by_cases e : x = k
    · subst e; simp at h; subst h; exact .head _
    · have : (x == k) = false := by simpa using e
      rw [this] at h; exact .tail _ (ih h)
theorem lookup_names {binds : List (Str × Value)} {rest : List Str} (nd : ((binds.map (fun b => (b.1, some b.2)) ++ rest.map (fun n => (n, (none : Option Value)))).map (·.1)).Nodup) (x : Str) :
    ((binds.map (fun b => (b.1, some b.2)) ++ rest.map (fun n => (n, (none : Option Value)))).lookup x).join = binds.reverse.lookup x := by
  have h0 : ∀ r : List Str, ((r.map (fun n => (n, (none : Option Value)))).lookup x).join = none := by
    intro r
    induction r with
    | nil => rfl
    | cons y r ih =>
      rw [List.map_cons, List.lookup_cons]
      by_cases e : x == y
      · rw [e]; rfl
      · rw [Bool.not_eq_true] at e; rw [e]; exact ih
  induction binds with
  | nil => exact h0 rest
  | cons p r ih =>
    obtain ⟨k, v⟩ := p
    rw [List.map_cons, List.cons_append, List.map_cons, List.nodup_cons] at nd
    rw [List.map_cons, List.cons_append, List.lookup_cons, List.reverse_cons]
    rw [List.lookup_append (l₁ := r.reverse)]
    have ih := ih nd.2
    by_cases e : x = k
    · subst e
      have hn : r.reverse.lookup x = none := by
        cases q : r.reverse.lookup x with
        | none => rfl
        | some v' =>
          exfalso
          apply nd.1
          have := mem_of_look q
          rw [List.mem_reverse] at this
          rw [List.map_append, List.mem_append]
          exact .inl (by rw [List.map_map]; exact List.mem_map.mpr ⟨_, this, rfl⟩)
      rw [hn]; simp
    · have e' : (x == k) = false := by simpa using e
      simp only [e']
      rw [ih]
      simp [List.lookup_cons, e']

theorem call_fn {d u : Nat} {fa : Addr} {oc : Value} {od : Option Addr} {osl : Array (Option Value)} {fd : FuncData} {body : List Stmt} {args : Args} {binds : List (Str × Value)} {rest : List Str} {R : Result → Shared → Prop}
    (B : Base w g) (H : Ok w g os G l s) (hf : (Kf w).lookup fa = some ⟨oc, od, .func fd, osl⟩) (hcd : codeIn (Kf w) fd.code fd.qualname = true) (hbody : fd.body = .stmts body) (hbind : BindsTo s fd args binds)
    (hcell : ∀ x ∈ fd.scope.names, x.2 ≠ .cell) (hloc : ∀ x ∈ binds, fd.scope.names.lookup x.1 = some .local)
    (hnd : ((binds.map (fun b => (b.1, some b.2)) ++ rest.map (fun n => (n, (none : Option Value)))).map (·.1)).Nodup) (hd : d < recursionLimit)
    (h : ∀ L s', Ok w g os G ((L, .ns (binds.map (fun b => (b.1, some b.2)) ++ rest.map (fun n => (n, none)))) :: l) s' →
      wpAny (model P0 w) (AR (d + 1) (u + 3)) (execs body (callEnv fd L fa)) (fun fl s'' => R (.ok (.ret (retOf fl))) s'') (fun _ _ => False) s')
    (hco : fd.scope.isCoroutine = false := by rfl) (hgen : fd.scope.isGenerator = false := by rfl) (hk : fd.scope.kind = .function := by rfl) :
    codeAny (model P0 w) (AR d u) (.call (.ref fa) args) R s := by
  have X := B.X' H
  refine codeAny_call_def (A := AR d u) hd (X _ _ hf) rfl (B.lim' H) (codeRec_of X hcd) hbody hbind hcell hloc (fun h₁ hns hk₁ => ?_) hco hgen hk
  have fresh : g.get? s.heap.objs.size = none := by
    cases q : g.get? s.heap.objs.size with
    | none => rfl
    | some o' => exact absurd (Heap.lt_size (H.keep _ _ q)) (Nat.lt_irrefl _)
  have H' : Ok w g os G ((s.heap.objs.size, .ns (binds.map (fun b => (b.1, some b.2)) ++ rest.map (fun n => (n, none)))) :: l) { s with heap := h₁, toks := s.toks + binds.length } := by
    have H₁ := H.ext (t := s.toks + binds.length) hk₁
    refine ⟨H₁.os, H₁.gens, H₁.keep, fun p hp => ?_, fun p hp => ?_, ?_, H.sm, fun p hp => ?_⟩
    · rcases List.mem_cons.mp hp with rfl | hp
      · refine ⟨hnd, ?_⟩
        have : (fun x => ((binds.map (fun b => (b.1, some b.2)) ++ rest.map (fun n => (n, (none : Option Value)))).lookup x).join) = fun x => binds.reverse.lookup x := funext fun x => lookup_names hnd x
        rw [this]; exact hns
      · exact H₁.at_ p hp
    · rcases List.mem_cons.mp hp with rfl | hp
      · exact fresh
      · exact H₁.new p hp
    · rw [List.map_cons, List.nodup_cons]
      refine ⟨fun hm => ?_, H.nd⟩
      obtain ⟨p, hp, e⟩ := List.mem_map.mp hm
      exact absurd (H.lt hp) (by rw [e]; exact Nat.lt_irrefl _)
    · rcases List.mem_cons.mp hp with rfl | hp
      · obtain ⟨b, o, e, q⟩ := H.sm
        exact Nat.ne_of_gt (Nat.lt_trans q (Heap.lt_size (H.keep _ _ e)))
      · exact H.ns' p hp
  refine wpAny_mono (h _ _ H') (fun fl s'' q => ?_) fun _ _ x => x.elim
  cases fl <;> exact q

/-! ## test -/
theorem spec_bsinit {d u : Nat} {x dx : Addr} {fc : Value} {R : Result → Shared → Prop} (B : Base w g) (H : Ok w g os G l s) (hx : (x, .ob (instObj 186 dx)) ∈ l) (z : Zip l dx (.sd []) f) (hd : d < 900)
    (h : ∀ s', Ok w g os G (f (.sd [("_forwardcheck", fc)])) s' → R (.ok (.ret .none)) s') : codeAny (model P0 w) (AR d u) (.call (.ref 164) ⟨[.ref x, fc], []⟩) R s := by
  refine call_fn (binds := [("self", .ref x), ("forwardcheck", fc)]) (rest := []) B H rfl (by kernel_rfl) rfl (binds_K (B.X' H) (T := 157) rfl rfl rfl rfl rfl) (by decide) (locs rfl) ?_ (Nat.lt_of_lt_of_le hd (by decide)) (fun L s' H' => ?_)
  · show ([Str.ofString "self", Str.ofString "forwardcheck"] : List Str).Nodup
    decide +kernel
  dsimp only [List.map, List.append, List.nil_append, List.cons_append, List.append_nil] at H'
  refine wpAny_execs_cons (plainObj_wpAny_Assign_Attribute ?_)
  walk_at "nm"
  walk_at "nm"
  refine i_set B H' (by walk_at "mem") (by walk_at "zip") (cls186 w) (by kernel_rfl) (by kernel_rfl) .nil (by decide) (fun s₂ H₂ => ?_)
  refine wpAny_execs_nil ?_
  exact h _ H₂.tail
end
end Mine
end
section
open PySem PySem.W PySem.Calls PyProof.Rows
set_option Elab.async false
set_option maxRecDepth 100000
set_option maxHeartbeats 8000000
set_option linter.unusedVariables false
namespace Mine
theorem Zip.keep {l : Led} {a : Addr} {c c' : Cell} {f : Cell → Led} {p : Addr × Cell} (z : Zip l a c f) (h : p ∈ l) (n : p ≠ (a, c)) : p ∈ f c' := by
  obtain ⟨l1, l2, rfl, q⟩ := z.split
  rw [q]
  simp only [List.mem_append, List.mem_cons] at h ⊢
  rcases h with h | h | h
  · exact .inl h
  · exact absurd h n
  · exact .inr (.inr h)
theorem Zip.again {l : Led} {a : Addr} {c c' : Cell} {f : Cell → Led} (z : Zip l a c f) : Zip (f c') a c' f := by
  obtain ⟨l1, l2, rfl, q⟩ := z.split
  rw [show f = fun c' => l1 ++ (a, c') :: l2 from funext q]
  exact Zip.of_split
theorem Zip.at' {l : Led} {a : Addr} {c c' : Cell} {f : Cell → Led} (z : Zip l a c f) : (a, c') ∈ f c' := by
  rw [(z.split).choose_spec.choose_spec.2]; simp
local macro_rules | `(tactic| walk_at "mem") => `(tactic| first | assumption | exact List.Mem.head _ | (refine' List.Mem.tail _ ?_; walk_at "mem") | (refine' List.mem_append_right _ ?_; walk_at "mem") | (refine' List.mem_append_left _ ?_; walk_at "mem") | exact Zip.at' (by assumption) | exact Zip.keep (by assumption) (by walk_at "mem") (by intro e; cases e))
local macro_rules | `(tactic| walk_at "zip") => `(tactic| first | assumption | exact Zip.head | exact Zip.tail (by walk_at "zip") | exact Zip.again (by assumption))
local macro_rules | `(tactic| walk_at "put") => `(tactic| first | exact Put.head | exact Put.tail (by walk_at "put"))
local macro_rules | `(tactic| walk_at "putd") => `(tactic| first | exact PutD.head | exact PutD.nil | exact PutD.tail (by decide) (by walk_at "putd"))
local macro_rules | `(tactic| walk_at "nm") => `(tactic| first
  | (refine e_local (by assumption) (by walk_at "mem") (by walk_at "mem") ?_)
  | (refine e_cell (by assumption) (by rfl) (by walk_at "mem") ?_)
  | (refine e_free (by assumption) (by rfl) (by walk_at "mem") ?_))
local macro_rules | `(tactic| walk_at "ns") => `(tactic| (show (_ : List Str).Nodup; dsimp only [List.map, List.nil_append, List.cons_append, List.append_nil]; decide +kernel))
local macro_rules | `(tactic| walk_at "lt") => `(tactic| (show _ < 1000; omega))
section
variable {w : World} {g : Heap} {os : OsState} {G : Array GenState} {l l' : Led} {s : Shared} {a : Addr} {c c' : Cell} {f : Cell → Led} {A : Around} {E : Value → Shared → Prop}

theorem gl_Problem (w : World) : nsIn (Kf w) mainGlobals "Problem" = some (some (.ref 110)) := by kernel_rfl
theorem gl_BacktrackingSolver (w : World) : nsIn (Kf w) mainGlobals "BacktrackingSolver" = some (some (.ref 186)) := by kernel_rfl
theorem gl_Domain (w : World) : nsIn (Kf w) mainGlobals "Domain" = some (some (.ref 264)) := by kernel_rfl
theorem gl_Constraint (w : World) : nsIn (Kf w) mainGlobals "Constraint" = some (some (.ref 308)) := by kernel_rfl
theorem gl_FunctionConstraint (w : World) : nsIn (Kf w) mainGlobals "FunctionConstraint" = some (some (.ref 336)) := by kernel_rfl
theorem gl_law_yes (w : World) : nsIn (Kf w) mainGlobals "_law_yes" = some (some (.ref 345)) := by kernel_rfl
theorem gl_law_rule (w : World) : nsIn (Kf w) mainGlobals "_law_rule" = some (some (.ref 352)) := by kernel_rfl
theorem gl_law_due (w : World) : nsIn (Kf w) mainGlobals "_law_due" = some (some (.ref 357)) := by kernel_rfl
theorem bn_isinstance (w : World) : nsIn (Kf w) mainGlobals "isinstance" = some none := by kernel_rfl
theorem bb_isinstance : bootBuiltins "isinstance" = some (.builtin "isinstance") := by kernel_rfl
theorem bn_callable (w : World) : nsIn (Kf w) mainGlobals "callable" = some none := by kernel_rfl
theorem bb_callable : bootBuiltins "callable" = some (.builtin "callable") := by kernel_rfl
theorem bn_list (w : World) : nsIn (Kf w) mainGlobals "list" = some none := by kernel_rfl
theorem bb_list : bootBuiltins "list" = some (.type "list") := by kernel_rfl
theorem bn_tuple (w : World) : nsIn (Kf w) mainGlobals "tuple" = some none := by kernel_rfl
theorem bb_tuple : bootBuiltins "tuple" = some (.type "tuple") := by kernel_rfl
theorem bn_len (w : World) : nsIn (Kf w) mainGlobals "len" = some none := by kernel_rfl
theorem bb_len : bootBuiltins "len" = some (.builtin "len") := by kernel_rfl
theorem bn_range (w : World) : nsIn (Kf w) mainGlobals "range" = some none := by kernel_rfl
theorem bb_range : bootBuiltins "range" = some (.type "range") := by kernel_rfl
theorem bn_next (w : World) : nsIn (Kf w) mainGlobals "next" = some none := by kernel_rfl
theorem bb_next : bootBuiltins "next" = some (.builtin "next") := by kernel_rfl
theorem bn_dict (w : World) : nsIn (Kf w) mainGlobals "dict" = some none := by kernel_rfl
theorem bb_dict : bootBuiltins "dict" = some (.type "dict") := by kernel_rfl
theorem bn_sorted (w : World) : nsIn (Kf w) mainGlobals "sorted" = some none := by kernel_rfl
theorem bb_sorted : bootBuiltins "sorted" = some (.builtin "sorted") := by kernel_rfl
theorem bn_iter (w : World) : nsIn (Kf w) mainGlobals "iter" = some none := by kernel_rfl
theorem bb_iter : bootBuiltins "iter" = some (.builtin "iter") := by kernel_rfl
/-! ## displays, constants -/
theorem e_int {M : Model} {env : Env} {i : Int} {k : Nat} {pos : Pos} {Q : Value → Shared → Prop} (H : Ok w g os G l s) (h : ∀ t s', Ok w g os G l s' → Q (.int i t) s') : wpAny M A (eval (.Constant (.int i) k pos) env) Q E s :=
  wpAny_Constant_int (h _ _ (H.toks _))
theorem e_str {M : Model} {env : Env} {x : Str} {k : Nat} {pos : Pos} {Q : Value → Shared → Prop} (H : Ok w g os G l s) (h : ∀ t s', Ok w g os G l s' → Q (.str x t) s') : wpAny M A (eval (.Constant (.str x) k pos) env) Q E s :=
  Constant_str (h _ _ (H.toks _))
theorem e_newList {M : Model} {vs : List Value} {Q : Value → Shared → Prop} (H : Ok w g os G l s) (h : ∀ a s', Ok w g os G ((a, .lst vs) :: l) s' → Q (.ref a) s') (hsz : vs.length ≤ sizeLine) : wpAny M A (newList vs) Q E s :=
  wpAny_newObj_type (h _ _ (H.push (t := s.toks) ⟨0, Heap.get?_push_size _ rfl⟩)) (by show vs.toArray.size ≤ sizeLine; rw [List.size_toArray]; exact hsz)
theorem e_newTuple {M : Model} {vs : List Value} {Q : Value → Shared → Prop} (H : Ok w g os G l s) (h : ∀ a s', Ok w g os G ((a, .tup vs) :: l) s' → Q (.ref a) s') (hsz : vs.length ≤ sizeLine) : wpAny M A (newTuple vs) Q E s :=
  wpAny_newObj_type (h _ _ (H.push (t := s.toks) ⟨0, Heap.get?_push_size _ rfl⟩)) (by show vs.toArray.size ≤ sizeLine; rw [List.size_toArray]; exact hsz)
theorem e_dict0 {M : Model} {env : Env} {pos : Pos} {Q : Value → Shared → Prop} (H : Ok w g os G l s) (h : ∀ a s', Ok w g os G ((a, .sd []) :: l) s' → Q (.ref a) s') : wpAny M A (eval (.Dict [] [] pos) env) Q E s :=
  wpAny_Dict_empty (h _ _ (H.push (t := s.toks) ⟨List.nodup_nil, [], 0, Heap.get?_push_size _ rfl, trivial⟩))

/-! ## calls -/
theorem c_fn {env : Env} {pos : Pos} {fv : Value} {first : List Value} {e : Expr} {rest : List Expr} {Q : Value → Shared → Prop} (B : Base w g) (hk : keepIn (Kf w) fv = true)
    (h : wpAny (model P0 w) A (spliced (backTo pos (starEach (e :: rest) env))) (fun vs s₁ => (∃ os₁ G₁ l₁, Ok w g os₁ G₁ l₁ s₁) ∧ wpAny (model P0 w) A (call fv (first ++ vs)) Q E s₁) E s)
    (he : starEach (e :: rest) env = (false, eval e env) :: starEach rest env := by rfl) (hplain : (backTo pos (starEach rest env)).any (·.1) = false := by rfl) :
    wpAny (model P0 w) A (callWith pos fv first (backTo pos (starEach (e :: rest) env)) []) Q E s :=
  callWith_K B.X hk (wpAny_mono h (fun vs s₁ q => ⟨by obtain ⟨⟨_, _, l₁, H⟩, _⟩ := q; exact B.X' H, q.2⟩) fun _ _ x => x) he hplain
theorem c_fn0 {env : Env} {pos : Pos} {fv : Value} {first : List Value} {Q : Value → Shared → Prop} (B : Base w g) (H : Ok w g os G l s) (hk : keepIn (Kf w) fv = true)
    (h : wpAny (model P0 w) A (call fv (first ++ [])) Q E s) : wpAny (model P0 w) A (callWith pos fv first (backTo pos (starEach [] env)) []) Q E s :=
  callWith_K0 (B.X' H) hk h

/-- a new object of a class -/
theorem e_make {d u : Nat} {C fI : Addr} {rest : List Value} {R : Result → Shared → Prop} (B : Base w g) (H : Ok w g os G l s) (hm : makesIn (Kf w) C = true)
    (hi : findIn (Kf w) (.ref C) "__init__" = some (some (.ref fI))) (hf : typeIn (Kf w) (.ref fI) = some (.type "function"))
    (h : ∀ x dx s', Ok w g os G ((x, .ob (instObj C dx)) :: (dx, .sd []) :: l) s' → codeAny (model P0 w) (AR (d + 1) (u + 1)) (.call (.ref fI) ⟨.ref x :: rest, []⟩) (InitBack x R) s') :
    codeAny (model P0 w) (AR d u) (.call (.ref C) ⟨rest, []⟩) R s := by
  have X := B.X' H
  have H1 := H.push (c := .sd []) (o := emptyDict) (t := s.toks) ⟨List.nodup_nil, [], 0, Heap.get?_push_size _ rfl, trivial⟩
  have H2 := H1.push (c := .ob (instObj C s.heap.objs.size)) (o := instObj C s.heap.objs.size) (t := s.toks) (Heap.get?_push_size _ rfl)
  obtain ⟨hh, gg, dr, t, o⟩ := s
  refine make_core (makes_of X hm) (looks_findIn X hi) (fun self => bind_fn X self hf) (.inl rfl) ?_
  refine weakenC ?_ rfl (Nat.le_refl _) (Nat.le_refl _)
  rw [show hh.objs.size + 1 = (hh.push emptyDict).objs.size from by rw [Heap.size_push]]
  exact h _ _ _ H2

theorem e_truthy_inst {x C dx : Addr} {kvs : List (Str × Value)} {Q : Bool → Shared → Prop} (B : Base w g) (H : Ok w g os G l s) (hx : (x, .ob (instObj C dx)) ∈ l)
    (hs : findIn (Kf w) (.ref C) "__bool__" = some none) (hl : findIn (Kf w) (.ref C) "__len__" = some none) (h : Q true s) : wpAny (model P0 w) A (truthy (.ref x)) Q E s := by
  have X := B.X' H
  have T : Looks (model P0 w) s.heap (typeOf (.ref x)) (.ref C) := (Looks.ld (H.get hx)).andThen .now
  unfold truthy
  refine wpAny_bind (m := callSpecial? (.ref x) (Str.ofString "__bool__")) (wpAny_bind (wpAny_bind (T.here ((looks_findIn X hs).here (wpAny_pure ?_)))))
  refine wpAny_bind (wpAny_bind (T.here ((looks_findIn X hl).here ?_)))
  exact wpAny_pure h

/-! ## Problem.__init__ -/
theorem spec_probinit {d u : Nat} {x dx S dS : Addr} {R : Result → Shared → Prop} (B : Base w g) (H : Ok w g os G l s) (hx : (x, .ob (instObj 110 dx)) ∈ l) (hS : (S, .ob (instObj 186 dS)) ∈ l) (z : Zip l dx (.sd []) f) (hd : d ≤ 900)
    (h : ∀ C V s', Ok w g os G ((V, .sd []) :: (C, .lst []) :: f (.sd [("_solver", .ref S), ("_constraints", .ref C), ("_variables", .ref V)])) s' → R (.ok (.ret .none)) s') :
    codeAny (model P0 w) (AR d u) (.call (.ref 36) ⟨[.ref x, .ref S], []⟩) R s := by
  refine call_fn (binds := [("self", .ref x), ("solver", .ref S)]) (rest := []) B H rfl (by kernel_rfl) rfl (binds_K (B.X' H) (T := 29) rfl rfl rfl rfl rfl) (by decide) (locs rfl) ?_ (by walk_at "lt") (fun L s₁ H₁ => ?_)
  · walk_at "ns"
  dsimp only [List.map, List.append, List.nil_append, List.cons_append, List.append_nil] at H₁
  refine wpAny_execs_cons (plainObj_wpAny_Assign_Attribute (BoolOp_or ?_))
  walk_at "nm"
  refine e_truthy_inst (kvs := []) B H₁ (by walk_at "mem") (by kernel_rfl) (by kernel_rfl) ?_
  rw [if_pos rfl]
  walk_at "nm"
  refine i_set B H₁ (by walk_at "mem") (Zip.tail z) (cls110 w) (by kernel_rfl) (by kernel_rfl) .nil (by decide) (fun s₂ H₂ => ?_)
  refine wpAny_execs_cons (plainObj_wpAny_Assign_Attribute (List_ (args_nil (e_newList H₂ (fun C s₃ H₃ => ?_) (by decide)))))
  walk_at "nm"
  refine i_set B H₃ (by walk_at "mem") (by walk_at "zip") (cls110 w) (by kernel_rfl) (by kernel_rfl) (by walk_at "putd") (Nat.le_of_ble_eq_true rfl) (fun s₄ H₄ => ?_)
  refine wpAny_execs_cons (plainObj_wpAny_Assign_Attribute (e_dict0 H₄ (fun V s₅ H₅ => ?_)))
  walk_at "nm"
  refine i_set B H₅ (by walk_at "mem") (by walk_at "zip") (cls110 w) (by kernel_rfl) (by kernel_rfl) (by walk_at "putd") (Nat.le_of_ble_eq_true rfl) (fun s₆ H₆ => ?_)
  refine wpAny_execs_nil ?_
  exact h C V _ (H₆.sub (by simp))
/-! ## calls that are run -/
open PySem.W.X
def XQ (h : Heap) (gg : Array GenState) (os : OsState) (v₀ : Value) (v : Value) (s' : Shared) : Prop := v = v₀ ∧ (∀ b o, h.get? b = some o → s'.heap.get? b = some o) ∧ s'.gens = gg ∧ s'.os = os
theorem xq_of {h h' : Heap} {gg : Array GenState} {os : OsState} {v₀ v : Value} {news : List (Addr × Obj)} {d : Drawn} {t : Nat} (D : Mem h h' [] news) (e : v = v₀) : XQ h gg os v₀ v ⟨h', gg, d, t, os⟩ :=
  ⟨e, fun b o q => D.keep b o q (by simp [away]), rfl, rfl⟩
theorem of_XQ {d u : Nat} {t : Sem Value} {v₀ : Value} {Q : Value → Shared → Prop} (H : Ok w g os G l s) (x : wpAny (model P0 w) (AR 900 9000) t (XQ s.heap s.gens s.os v₀) (fun _ _ => False) s) (hd : d ≤ 900) (hu : u ≤ 9000)
    (h : ∀ s', Ok w g os G l s' → Q v₀ s') : wpAny (model P0 w) (AR d u) t Q E s := by
  refine weaken (wpAny_mono x (fun v s' q => ?_) fun _ _ q => q.elim) rfl hd hu
  obtain ⟨rfl, k, hg, ho⟩ := q
  have H' := H.ext (h' := s'.heap) (t := s'.toks) k
  exact h s' ⟨ho.trans H.os, hg.trans H.gens, H'.keep, H'.at_, H'.new, H'.nd, H'.sm, H'.ns'⟩

end
end Mine
end
section
open PySem PySem.W PySem.Calls PyProof.Rows PySem.W.X
set_option Elab.async false
set_option maxRecDepth 100000
set_option maxHeartbeats 8000000
set_option linter.unusedVariables false
namespace Mine
local macro_rules | `(tactic| walk_at "mem") => `(tactic| first | assumption | exact List.Mem.head _ | (refine' List.Mem.tail _ ?_; walk_at "mem") | (refine' List.mem_append_right _ ?_; walk_at "mem") | (refine' List.mem_append_left _ ?_; walk_at "mem") | exact Zip.at' (by assumption) | exact Zip.keep (by assumption) (by walk_at "mem") (by intro e; cases e))
local macro_rules | `(tactic| walk_at "zip") => `(tactic| first | assumption | exact Zip.head | exact Zip.tail (by walk_at "zip") | exact Zip.again (by assumption))
local macro_rules | `(tactic| walk_at "kv") => `(tactic| first | with_reducible_and_instances exact List.Mem.head _ | (refine' List.Mem.tail _ ?_; walk_at "kv") | assumption)
local macro_rules | `(tactic| walk_at "put") => `(tactic| first | with_reducible exact Put.head | exact Put.tail (by walk_at "put"))
local macro_rules | `(tactic| walk_at "putd") => `(tactic| first | with_reducible exact PutD.head | with_reducible exact PutD.nil | exact PutD.tail (by decide) (by walk_at "putd"))
local macro_rules | `(tactic| walk_at "nm") => `(tactic| first
  | (refine e_local (by assumption) (by walk_at "mem") (by walk_at "kv") ?_)
  | (refine e_cell (by assumption) (by rfl) (by walk_at "mem") ?_)
  | (refine e_free (by assumption) (by rfl) (by walk_at "mem") ?_))
local macro_rules | `(tactic| walk_at "gl") => `(tactic| refine e_global (by assumption) (by assumption) (by first | with_reducible exact gl_Problem _ | with_reducible exact gl_BacktrackingSolver _ | with_reducible exact gl_Domain _ | with_reducible exact gl_Constraint _ | with_reducible exact gl_FunctionConstraint _ | with_reducible exact gl_law_yes _ | with_reducible exact gl_law_rule _ | with_reducible exact gl_law_due _) ?_)
local macro_rules | `(tactic| walk_at "bi") => `(tactic| refine e_builtin (by assumption) (by assumption) (by first | with_reducible exact bn_isinstance _ | with_reducible exact bn_callable _ | with_reducible exact bn_list _ | with_reducible exact bn_tuple _ | with_reducible exact bn_len _ | with_reducible exact bn_range _ | with_reducible exact bn_next _ | with_reducible exact bn_dict _ | with_reducible exact bn_sorted _ | with_reducible exact bn_iter _) (by first | with_reducible exact bb_isinstance | with_reducible exact bb_callable | with_reducible exact bb_list | with_reducible exact bb_tuple | with_reducible exact bb_len | with_reducible exact bb_range | with_reducible exact bb_next | with_reducible exact bb_dict | with_reducible exact bb_sorted | with_reducible exact bb_iter) ?_)
local macro_rules | `(tactic| walk_at "ns") => `(tactic| (show (_ : List Str).Nodup; dsimp only [List.map, List.nil_append, List.cons_append, List.append_nil]; decide +kernel))
local macro_rules | `(tactic| walk_at "lt") => `(tactic| (show _ < 1000; omega))
local macro_rules | `(tactic| x_close) => `(tactic| exact xq_of (by first | assumption | exact Mem.start _) (by first | rfl | assumption))
local macro_rules | `(tactic| walk_at "ga") => `(tactic| refine i_get (by assumption) (by assumption) (by walk_at "mem") (by exact rfl) (by walk_at "mem") (by first | exact cls110 _ | exact cls186 _ | exact cls336 _) (by kernel_rfl) (by walk_at "kv") (by exact rfl) ?_)
local macro_rules | `(tactic| walk_at "sa") => `(tactic| refine i_set (by assumption) (by assumption) (by walk_at "mem") (by walk_at "zip") (by first | exact cls110 _ | exact cls186 _ | exact cls336 _) (by kernel_rfl) (by kernel_rfl) (by walk_at "putd") (Nat.le_of_ble_eq_true rfl) ?_)
local macro_rules | `(tactic| walk_at "st") => `(tactic| refine e_store (by assumption) (by walk_at "zip") (by walk_at "put") ?_)
section
variable {w : World} {g : Heap} {os : OsState} {G : Array GenState} {l l' : Led} {s : Shared} {a : Addr} {c c' : Cell} {f : Cell → Led} {A : Around} {E : Value → Shared → Prop}
theorem x_isfn (w : World) (h : Heap) (gg : Array GenState) (d : Drawn) (t : Nat) (os : OsState) (X : (Mine.hd.heap_39 w.params).In h) (fn : Addr) (fd : FuncData) (hfn : h.get? fn = some ⟨.type "function", none, .func fd, #[]⟩) :
    wpAny (model P0 w) (AR 900 9000) (call (.builtin "isinstance") [.ref fn, .ref 308]) (XQ h gg os (.bool false)) (fun _ _ => False) ⟨h, gg, d, t, os⟩ := by
  x_run
theorem x_callable (w : World) (h : Heap) (gg : Array GenState) (d : Drawn) (t : Nat) (os : OsState) (X : (Mine.hd.heap_39 w.params).In h) (fn : Addr) (fd : FuncData) (hfn : h.get? fn = some ⟨.type "function", none, .func fd, #[]⟩) :
    wpAny (model P0 w) (AR 900 9000) (call (.builtin "callable") [.ref fn]) (XQ h gg os (.bool true)) (fun _ _ => False) ⟨h, gg, d, t, os⟩ := by
  x_run
abbrev fnO (fd : FuncData) : Obj := { cls := .type "function", data := .func fd }
theorem e_isfn {d u : Nat} {fn : Addr} {fd : FuncData} {Q : Value → Shared → Prop} (B : Base w g) (H : Ok w g os G l s) (hf : (fn, .ob (fnO fd)) ∈ l) (hd : d ≤ 900) (hu : u ≤ 9000) (h : ∀ s', Ok w g os G l s' → Q (.bool false) s') :
    wpAny (model P0 w) (AR d u) (call (.builtin "isinstance") [.ref fn, .ref 308]) Q E s := of_XQ H (x_isfn w _ _ _ _ _ (B.X' H) fn fd (H.get hf)) hd hu h
theorem e_callable {d u : Nat} {fn : Addr} {fd : FuncData} {Q : Value → Shared → Prop} (B : Base w g) (H : Ok w g os G l s) (hf : (fn, .ob (fnO fd)) ∈ l) (hd : d ≤ 900) (hu : u ≤ 9000) (h : ∀ s', Ok w g os G l s' → Q (.bool true) s') :
    wpAny (model P0 w) (AR d u) (call (.builtin "callable") [.ref fn]) Q E s := of_XQ H (x_callable w _ _ _ _ _ (B.X' H) fn fd (H.get hf)) hd hu h

/-! ## FunctionConstraint.__init__ -/
theorem spec_fcinit {d u : Nat} {x dx : Addr} {fn : Value} {R : Result → Shared → Prop} (B : Base w g) (H : Ok w g os G l s) (hx : (x, .ob (instObj 336 dx)) ∈ l) (z : Zip l dx (.sd []) f) (hd : d ≤ 900)
    (h : ∀ s', Ok w g os G (f (.sd [("_func", fn), ("_assigned", .bool true)])) s' → R (.ok (.ret .none)) s') : codeAny (model P0 w) (AR d u) (.call (.ref 327) ⟨[.ref x, fn], []⟩) R s := by
  refine call_fn (binds := [("self", .ref x), ("func", fn), ("assigned", .bool true)]) (rest := []) B H rfl (by kernel_rfl) rfl (binds_K (B.X' H) (T := 320) rfl rfl rfl rfl rfl) (by decide) (locs rfl) (by walk_at "ns") (by walk_at "lt") (fun L s₁ H₁ => ?_)
  dsimp only [List.map, List.append, List.nil_append, List.cons_append, List.append_nil] at H₁
  refine wpAny_execs_cons (plainObj_wpAny_Assign_Attribute ?_)
  walk_at "nm"
  walk_at "nm"
  refine i_set B H₁ (by walk_at "mem") (by walk_at "zip") (cls336 w) (by kernel_rfl) (by kernel_rfl) (by walk_at "putd") (Nat.le_of_ble_eq_true rfl) (fun s₂ H₂ => ?_)
  refine wpAny_execs_cons (plainObj_wpAny_Assign_Attribute ?_)
  walk_at "nm"
  walk_at "nm"
  refine i_set B H₂ (by walk_at "mem") (by walk_at "zip") (cls336 w) (by kernel_rfl) (by kernel_rfl) (by walk_at "putd") (Nat.le_of_ble_eq_true rfl) (fun s₃ H₃ => ?_)
  refine wpAny_execs_nil ?_
  exact h _ H₃.tail
end
end Mine
end
section
open PySem PySem.W PySem.Calls PyProof.Rows PySem.W.X
set_option Elab.async false
set_option maxRecDepth 100000
set_option maxHeartbeats 8000000
set_option linter.unusedVariables false
namespace Mine
local macro_rules | `(tactic| walk_at "mem") => `(tactic| first | assumption | exact List.Mem.head _ | (refine' List.Mem.tail _ ?_; walk_at "mem") | (refine' List.mem_append_right _ ?_; walk_at "mem") | (refine' List.mem_append_left _ ?_; walk_at "mem") | exact Zip.at' (by assumption) | exact Zip.keep (by assumption) (by walk_at "mem") (by intro e; cases e))
local macro_rules | `(tactic| walk_at "zip") => `(tactic| first | assumption | exact Zip.head | exact Zip.tail (by walk_at "zip") | exact Zip.again (by assumption))
local macro_rules | `(tactic| walk_at "kv") => `(tactic| first | with_reducible_and_instances exact List.Mem.head _ | (refine' List.Mem.tail _ ?_; walk_at "kv") | assumption)
local macro_rules | `(tactic| walk_at "put") => `(tactic| first | with_reducible exact Put.head | exact Put.tail (by walk_at "put"))
local macro_rules | `(tactic| walk_at "putd") => `(tactic| first | with_reducible exact PutD.head | with_reducible exact PutD.nil | exact PutD.tail (by decide) (by walk_at "putd"))
local macro_rules | `(tactic| walk_at "nm") => `(tactic| first
  | (refine e_local (by assumption) (by walk_at "mem") (by walk_at "kv") ?_)
  | (refine e_cell (by assumption) (by rfl) (by walk_at "mem") ?_)
  | (refine e_free (by assumption) (by rfl) (by walk_at "mem") ?_))
local macro_rules | `(tactic| walk_at "gl") => `(tactic| refine e_global (by assumption) (by assumption) (by first | with_reducible exact gl_Problem _ | with_reducible exact gl_BacktrackingSolver _ | with_reducible exact gl_Domain _ | with_reducible exact gl_Constraint _ | with_reducible exact gl_FunctionConstraint _ | with_reducible exact gl_law_yes _ | with_reducible exact gl_law_rule _ | with_reducible exact gl_law_due _) ?_)
local macro_rules | `(tactic| walk_at "bi") => `(tactic| refine e_builtin (by assumption) (by assumption) (by first | with_reducible exact bn_isinstance _ | with_reducible exact bn_callable _ | with_reducible exact bn_list _ | with_reducible exact bn_tuple _ | with_reducible exact bn_len _ | with_reducible exact bn_range _ | with_reducible exact bn_next _ | with_reducible exact bn_dict _ | with_reducible exact bn_sorted _ | with_reducible exact bn_iter _) (by first | with_reducible exact bb_isinstance | with_reducible exact bb_callable | with_reducible exact bb_list | with_reducible exact bb_tuple | with_reducible exact bb_len | with_reducible exact bb_range | with_reducible exact bb_next | with_reducible exact bb_dict | with_reducible exact bb_sorted | with_reducible exact bb_iter) ?_)
local macro_rules | `(tactic| walk_at "ns") => `(tactic| (show (_ : List Str).Nodup; dsimp only [List.map, List.nil_append, List.cons_append, List.append_nil]; decide +kernel))
local macro_rules | `(tactic| walk_at "lt") => `(tactic| (show _ < 1000; omega))
local macro_rules | `(tactic| x_close) => `(tactic| exact xq_of (by first | assumption | exact Mem.start _) (by first | rfl | assumption))
local macro_rules | `(tactic| walk_at "ga") => `(tactic| refine i_get (by assumption) (by assumption) (by walk_at "mem") (by exact rfl) (by walk_at "mem") (by first | exact cls110 _ | exact cls186 _ | exact cls336 _) (by kernel_rfl) (by walk_at "kv") (by exact rfl) ?_)
local macro_rules | `(tactic| walk_at "sa") => `(tactic| refine i_set (by assumption) (by assumption) (by walk_at "mem") (by walk_at "zip") (by first | exact cls110 _ | exact cls186 _ | exact cls336 _) (by kernel_rfl) (by kernel_rfl) (by walk_at "putd") (Nat.le_of_ble_eq_true rfl) ?_)
local macro_rules | `(tactic| walk_at "st") => `(tactic| refine e_store (by assumption) (by walk_at "zip") (by walk_at "put") ?_)
section
variable {w : World} {g : Heap} {os : OsState} {G : Array GenState} {l l' : Led} {s : Shared} {a : Addr} {c c' : Cell} {f : Cell → Led} {A : Around} {E : Value → Shared → Prop}
/-! ## methods of lists, dicts, tuples -/
def tyOf : Cell → Option String
  | .lst _ => some "list"
  | .sd _ => some "dict"
  | .dk _ _ => some "dict"
  | .tup _ => some "tuple"
  | _ => none
theorem ty_at {T : String} (H : Ok w g os G l s) (hm : (a, c) ∈ l) (ht : tyOf c = some T) : s.TypeIs (.ref a) T ∧ ∃ o, s.heap.get? a = some o ∧ o.dict = none := by
  have x := H.get hm
  cases c <;> cases ht
  · obtain ⟨n, x⟩ := x; exact ⟨⟨_, x, rfl⟩, _, x, rfl⟩
  · obtain ⟨n, x⟩ := x; exact ⟨⟨_, x, rfl⟩, _, x, rfl⟩
  · obtain ⟨_, es, n, x, _⟩ := x; exact ⟨⟨_, x, rfl⟩, _, x, rfl⟩
  · obtain ⟨_, es, x, _⟩ := x; exact ⟨⟨_, x, rfl⟩, _, x, rfl⟩
theorem m_bi {env : Env} {o : Expr} {name : Str} {apos pos : Pos} {e : Expr} {rest : List Expr} {T id : String} {pl : Sem Bool} {Q : Value → Shared → Prop} (pa : PlainAttrs T) (slot : Slot T name id) (hty : typeOf (.builtin id) = pure (.type "method_descriptor"))
    (h : wpAny (model P0 w) A (eval o env) (fun ov s₁ => ∃ g₁ os₁ G₁ l₁ a c, Ok w g₁ os₁ G₁ l₁ s₁ ∧ ov = .ref a ∧ (a, c) ∈ l₁ ∧ tyOf c = some T ∧
      wpAny (model P0 w) A (spliced (backTo pos (starEach (e :: rest) env))) (fun vs s₂ => wpAny (model P0 w) A (call (.builtin id) (.ref a :: vs)) Q E s₂) E s₁) E s)
    (hs : starEach (e :: rest) env = (false, eval e env) :: starEach rest env := by rfl) (hplain : (backTo pos (starEach rest env)).any (·.1) = false := by rfl)
    (he : eval (.Call (.Attribute o name apos) (e :: rest) [] pos) env = (do
      let ov ← eval o env
      standAt apos.atName
      let (f, first) ← holding [ov] (getMethod ov name pl)
      callWith pos f first (backTo pos (starEach (e :: rest) env)) []) := by rfl) :
    wpAny (model P0 w) A (eval (.Call (.Attribute o name apos) (e :: rest) [] pos) env) Q E s := by
  refine MethodCall_ (wpAny_mono h (fun ov s₁ q => ?_) fun _ _ x => x) he
  obtain ⟨g₁, os₁, G₁, l₁, a, c, H₁, rfl, hm, ht, q⟩ := q
  obtain ⟨t1, t2⟩ := ty_at H₁ hm ht
  refine getMethod_builtin t1 pa slot hty (fun b eb => by cases eb; exact t2) ?_
  rw [hs] at q ⊢
  refine callWith_builtin (by show (false || (backTo pos (starEach rest env)).any (·.1)) = false; rw [hplain]; rfl) (evalArgs_plain q)
theorem m_bi0 {env : Env} {o : Expr} {name : Str} {apos pos : Pos} {T id : String} {pl : Sem Bool} {Q : Value → Shared → Prop} (pa : PlainAttrs T) (slot : Slot T name id) (hty : typeOf (.builtin id) = pure (.type "method_descriptor"))
    (h : wpAny (model P0 w) A (eval o env) (fun ov s₁ => ∃ g₁ os₁ G₁ l₁ a c, Ok w g₁ os₁ G₁ l₁ s₁ ∧ ov = .ref a ∧ (a, c) ∈ l₁ ∧ tyOf c = some T ∧ wpAny (model P0 w) A (call (.builtin id) [.ref a]) Q E s₁) E s)
    (he : eval (.Call (.Attribute o name apos) [] [] pos) env = (do
      let ov ← eval o env
      standAt apos.atName
      let (f, first) ← holding [ov] (getMethod ov name pl)
      callWith pos f first (backTo pos (starEach [] env)) []) := by rfl) :
    wpAny (model P0 w) A (eval (.Call (.Attribute o name apos) [] [] pos) env) Q E s := by
  refine MethodCall_ (wpAny_mono h (fun ov s₁ q => ?_) fun _ _ x => x) he
  obtain ⟨g₁, os₁, G₁, l₁, a, c, H₁, rfl, hm, ht, q⟩ := q
  obtain ⟨t1, t2⟩ := ty_at H₁ hm ht
  refine getMethod_builtin t1 pa slot hty (fun b eb => by cases eb; exact t2) ?_
  exact callWith_builtin rfl (PyProof.Rows.evalArgs_none q)

theorem Ok.lst (H : Ok w g os G l s) {D : Addr} {vs : List Value} (h : (D, .lst vs) ∈ l) : s.heap.IsList D vs.toArray := by
  obtain ⟨n, x⟩ := H.get h
  exact ⟨_, x, rfl, n, rfl⟩
theorem Ok.tup (H : Ok w g os G l s) {D : Addr} {vs : List Value} (h : (D, .tup vs) ∈ l) : IsTup s.heap D vs.toArray := by
  obtain ⟨n, x⟩ := H.get h
  exact ⟨_, x, rfl, n, rfl⟩
theorem b_append {D : Addr} {vs : List Value} {x : Value} {Q : Value → Shared → Prop} (H : Ok w g os G l s) (z : Zip l D (.lst vs) f) (hz : vs.length ≤ 100000) (h : ∀ s', Ok w g os G (f (.lst (vs ++ [x]))) s' → Q .none s') :
    wpAny (model P0 w) A (call (.builtin "list.append") [.ref D, x]) Q E s := by
  obtain ⟨n, hn⟩ := H.get z.mem
  refine append_at hn (fun h' hs hg => h _ (H.set (t := s.toks) z hs ⟨n + 1, ?_⟩)) (by rw [List.size_toArray, sizeLine_eq]; omega)
  rw [hg]; simp

theorem c_bi {env : Env} {pos : Pos} {id : String} {first : List Value} {e : Expr} {rest : List Expr} {Q : Value → Shared → Prop}
    (h : wpAny (model P0 w) A (spliced (backTo pos (starEach (e :: rest) env))) (fun vs s₁ => wpAny (model P0 w) A (call (.builtin id) (first ++ vs)) Q E s₁) E s)
    (he : starEach (e :: rest) env = (false, eval e env) :: starEach rest env := by rfl) (hplain : (backTo pos (starEach rest env)).any (·.1) = false := by rfl) :
    wpAny (model P0 w) A (callWith pos (.builtin id) first (backTo pos (starEach (e :: rest) env)) []) Q E s := by
  rw [he] at h ⊢
  exact callWith_builtin (by show (false || (backTo pos (starEach rest env)).any (·.1)) = false; rw [hplain]; rfl) (evalArgs_plain h)
/-! ## Problem.addConstraint -/
theorem spec_addConstraint {d u : Nat} {x dx C V S : Addr} {fn vl : Addr} {fd : FuncData} {cs : List Value} {R : Result → Shared → Prop} (B : Base w g) (H : Ok w g os G l s) (hx : (x, .ob (instObj 110 dx)) ∈ l)
    (hdx : (dx, .sd [("_solver", .ref S), ("_constraints", .ref C), ("_variables", .ref V)]) ∈ l) (hf : (fn, .ob (fnO fd)) ∈ l) (z : Zip l C (.lst cs) f) (hz : cs.length ≤ 1000) (hd : d ≤ 800) (hu : u ≤ 8000)
    (h : ∀ t fc dfc s', Ok w g os G ((t, .tup [.ref fc, .ref vl]) :: (fc, .ob (instObj 336 dfc)) :: (dfc, .sd [("_func", .ref fn), ("_assigned", .bool true)]) :: f (.lst (cs ++ [.ref t]))) s' → R (.ok (.ret .none)) s') :
    codeAny (model P0 w) (AR d u) (.call (.ref 79) ⟨[.ref x, .ref fn, .ref vl], []⟩) R s := by
  refine call_fn (binds := [("self", .ref x), ("constraint", .ref fn), ("variables", .ref vl)]) (rest := ["msg"]) B H rfl (by kernel_rfl) rfl (binds_K (B.X' H) (T := 72) rfl rfl rfl rfl rfl) (by decide) (locs rfl) (by walk_at "ns") (by walk_at "lt") (fun L s₁ H₁ => ?_)
  dsimp only [List.map, List.append, List.nil_append, List.cons_append, List.append_nil] at H₁
  refine wpAny_execs_cons (wpAny_If (wpAny_isTrue_Not (isTrue_plain (Call_ ?_))))
  walk_at "bi"
  refine c_bi (args_cons ?_)
  walk_at "nm"
  refine args_cons ?_
  walk_at "gl"
  refine args_nil (e_isfn B H₁ (by walk_at "mem") (by omega) (by omega) (fun s₂ H₂ => ?_))
  refine wpAny_truthy_bool ?_
  refine ite_pos rfl ?_
  refine wpAny_execs_cons (wpAny_If (isTrue_plain (Call_ ?_)))
  walk_at "bi"
  refine c_bi (args_cons ?_)
  walk_at "nm"
  refine args_nil (e_callable B H₂ (by walk_at "mem") (by omega) (by omega) (fun s₃ H₃ => ?_))
  refine wpAny_truthy_bool ?_
  refine ite_pos rfl ?_
  refine wpAny_execs_cons (wpAny_Assign_Name (Call_ ?_))
  walk_at "gl"
  refine c_fn B (by kernel_rfl) (args_cons ?_)
  walk_at "nm"
  refine args_nil ⟨⟨_, _, _, H₃⟩, wpAny_call (e_make (fI := 327) B H₃ (by kernel_rfl) (by kernel_rfl) (by kernel_rfl) (fun fc dfc s₄ H₄ => ?_))⟩
  refine spec_fcinit B H₄ (by walk_at "mem") (by walk_at "zip") (by omega) (fun s₅ H₅ => ⟨rfl, ?_⟩)
  refine e_store H₅ (by walk_at "zip") (by walk_at "put") (fun s₆ H₆ => ?_)
  refine wpAny_execs_nil (wpAny_execs_nil ?_)
  refine wpAny_execs_cons (wpAny_Expr_any (m_bi PySem.F.plainAttrs_list PySem.F.slot_list_append PySem.F.type_list_append (Attribute_name ?_)))
  walk_at "nm"
  walk_at "ga"
  intro s₇ H₇
  refine ⟨_, _, _, _, _, _, H₇, rfl, (by have := z.mem; walk_at "mem"), rfl, args_cons (Tuple_ (args_cons ?_))⟩
  walk_at "nm"
  refine args_cons ?_
  walk_at "nm"
  refine args_nil (e_newTuple H₇ (fun t s₈ H₈ => ?_) (by rw [sizeLine_eq]; exact Nat.le_of_ble_eq_true rfl))
  refine args_nil (b_append H₈ (by walk_at "zip") (by omega) (fun s₉ H₉ => ?_))
  refine wpAny_execs_nil ?_
  exact h t fc dfc _ (H₉.sub (by simp))
end
end Mine
end
section
open PySem PySem.W PySem.Calls PyProof.Rows PySem.W.X
set_option Elab.async false
set_option maxRecDepth 100000
set_option maxHeartbeats 8000000
set_option linter.unusedVariables false
namespace Mine
local macro_rules | `(tactic| walk_at "mem") => `(tactic| first | assumption | exact List.Mem.head _ | (refine' List.Mem.tail _ ?_; walk_at "mem") | (refine' List.mem_append_right _ ?_; walk_at "mem") | (refine' List.mem_append_left _ ?_; walk_at "mem") | exact Zip.at' (by assumption) | exact Zip.keep (by assumption) (by walk_at "mem") (by intro e; cases e))
local macro_rules | `(tactic| walk_at "zip") => `(tactic| first | assumption | exact Zip.head | exact Zip.tail (by walk_at "zip") | exact Zip.again (by assumption))
local macro_rules | `(tactic| walk_at "kv") => `(tactic| first | with_reducible_and_instances exact List.Mem.head _ | (refine' List.Mem.tail _ ?_; walk_at "kv") | assumption)
local macro_rules | `(tactic| walk_at "put") => `(tactic| first | with_reducible exact Put.head | exact Put.tail (by walk_at "put"))
local macro_rules | `(tactic| walk_at "putd") => `(tactic| first | with_reducible exact PutD.head | with_reducible exact PutD.nil | exact PutD.tail (by decide) (by walk_at "putd"))
local macro_rules | `(tactic| walk_at "nm") => `(tactic| first
  | (refine e_local (by assumption) (by walk_at "mem") (by walk_at "kv") ?_)
  | (refine e_cell (by assumption) (by rfl) (by walk_at "mem") ?_)
  | (refine e_free (by assumption) (by rfl) (by walk_at "mem") ?_))
local macro_rules | `(tactic| walk_at "gl") => `(tactic| refine e_global (by assumption) (by assumption) (by first | with_reducible exact gl_Problem _ | with_reducible exact gl_BacktrackingSolver _ | with_reducible exact gl_Domain _ | with_reducible exact gl_Constraint _ | with_reducible exact gl_FunctionConstraint _ | with_reducible exact gl_law_yes _ | with_reducible exact gl_law_rule _ | with_reducible exact gl_law_due _) ?_)
local macro_rules | `(tactic| walk_at "bi") => `(tactic| refine e_builtin (by assumption) (by assumption) (by first | with_reducible exact bn_isinstance _ | with_reducible exact bn_callable _ | with_reducible exact bn_list _ | with_reducible exact bn_tuple _ | with_reducible exact bn_len _ | with_reducible exact bn_range _ | with_reducible exact bn_next _ | with_reducible exact bn_dict _ | with_reducible exact bn_sorted _ | with_reducible exact bn_iter _) (by first | with_reducible exact bb_isinstance | with_reducible exact bb_callable | with_reducible exact bb_list | with_reducible exact bb_tuple | with_reducible exact bb_len | with_reducible exact bb_range | with_reducible exact bb_next | with_reducible exact bb_dict | with_reducible exact bb_sorted | with_reducible exact bb_iter) ?_)
local macro_rules | `(tactic| walk_at "ns") => `(tactic| (show (_ : List Str).Nodup; dsimp only [List.map, List.nil_append, List.cons_append, List.append_nil]; decide +kernel))
local macro_rules | `(tactic| walk_at "lt") => `(tactic| (show _ < 1000; omega))
local macro_rules | `(tactic| x_close) => `(tactic| exact xq_of (by first | assumption | exact Mem.start _) (by first | rfl | assumption))
local macro_rules | `(tactic| walk_at "ga") => `(tactic| refine i_get (by assumption) (by assumption) (by walk_at "mem") (by exact rfl) (by walk_at "mem") (by first | exact cls110 _ | exact cls186 _ | exact cls336 _) (by kernel_rfl) (by walk_at "kv") (by exact rfl) ?_)
local macro_rules | `(tactic| walk_at "sa") => `(tactic| refine i_set (by assumption) (by assumption) (by walk_at "mem") (by walk_at "zip") (by first | exact cls110 _ | exact cls186 _ | exact cls336 _) (by kernel_rfl) (by kernel_rfl) (by walk_at "putd") (Nat.le_of_ble_eq_true rfl) ?_)
local macro_rules | `(tactic| walk_at "st") => `(tactic| refine e_store (by assumption) (by walk_at "zip") (by walk_at "put") ?_)
section
variable {w : World} {g : Heap} {os : OsState} {G : Array GenState} {l l' : Led} {s : Shared} {a : Addr} {c c' : Cell} {f : Cell → Led} {A : Around} {E : Value → Shared → Prop}
/-! ## dicts with str keys: the library's words -/
theorem sde_of {es : List DictEntry} {kvs : List (Str × Value)} (hk : ∀ e ∈ es, ∃ k, Value.isStrOf k e.key = true ∧ e.hash = hashStr w k) (hp : Pairs (strKind P0 w) es kvs) : SDE w.params es kvs := by
  induction hp with
  | nil => trivial
  | @cons e kv es kvs a b _ ih =>
    refine ⟨?_, ih fun e he => hk e (.tail _ he)⟩
    obtain ⟨t, ht⟩ := Value.isStrOf_shape a
    obtain ⟨k, hk1, hk2⟩ := hk e (.head _)
    obtain ⟨t', ht'⟩ := Value.isStrOf_shape hk1
    rw [ht] at ht'; cases ht'
    refine ⟨t, ?_⟩
    obtain ⟨h1, k1, v1⟩ := e
    dsimp only at ht hk2 b
    subst ht hk2 b
    rfl
theorem of_sde {es : List DictEntry} {kvs : List (Str × Value)} (h : SDE w.params es kvs) : (∀ e ∈ es, ∃ k, Value.isStrOf k e.key = true ∧ e.hash = hashStr w k) ∧ Pairs (strKind P0 w) es kvs := by
  induction es generalizing kvs with
  | nil => cases kvs with
    | nil => exact ⟨(by simp), .nil⟩
    | cons => cases h
  | cons e es ih => cases kvs with
    | nil => cases h
    | cons kv kvs =>
      obtain ⟨⟨t, rfl⟩, h⟩ := h
      obtain ⟨a, b⟩ := ih h
      have q : Value.isStrOf kv.1 (.str kv.1 t) = true := by simp [Value.isStrOf]
      refine ⟨fun e he => ?_, .cons q rfl b⟩
      rcases List.mem_cons.mp he with rfl | he
      · exact ⟨_, q, rfl⟩
      · exact a e he
theorem sd_of {h : Heap} {kvs : List (Str × Value)} (x : (Cell.sd kvs).At w h a) : h.DictOf (strKind P0 w) a kvs := by
  obtain ⟨nd, es, n, hg, sd⟩ := x
  obtain ⟨p, q⟩ := of_sde sd
  exact ⟨_, es.toArray, n, hg, ⟨rfl, rfl, rfl⟩, rfl, fun e he => p e (by simpa using he), by simpa using q, nd⟩
theorem of_sd {h : Heap} {kvs : List (Str × Value)} (x : h.DictOf (strKind P0 w) a kvs) : (Cell.sd kvs).At w h a := by
  obtain ⟨⟨c, d, dt, sl⟩, es, n, hg, ⟨rfl, rfl, rfl⟩, hd, p, q, nd⟩ := x
  dsimp only at hd; subst hd
  exact ⟨nd, es.toList, n, by simpa using hg, sde_of (fun e he => p e (by simpa using he)) q⟩
theorem Ok.dict (H : Ok w g os G l s) {d : Addr} {kvs : List (Str × Value)} (h : (d, .sd kvs) ∈ l) : s.heap.DictOf (strKind P0 w) d kvs := sd_of (H.get h)
theorem Ok.notSys (H : Ok w g os G l s) {p : Addr × Cell} (h : p ∈ l) : (p.1 == sysModules) = false := by
  rw [beq_eq_false_iff_ne]; exact H.ns' p h
theorem isStr (x : Str) (t : Tok) : (strKind P0 w).is x (.str x t) = true := by show Value.isStrOf x (.str x t) = true; simp [Value.isStrOf]
/-- a dict changed -/
theorem Ok.dset (H : Ok w g os G l s) {d : Addr} {kvs kvs' : List (Str × Value)} {h' : Heap} {t : Nat} (z : Zip l d (.sd kvs) f) (hd : h'.DictOf (strKind P0 w) d kvs') (hs : Heap.SameBut d s.heap h') : Ok w g os G (f (.sd kvs')) { s with heap := h', toks := t } :=
  H.set z hs (of_sd hd)
theorem d_set {d : Addr} {kvs : List (Str × Value)} {x : Str} {t : Tok} {v : Value} {Q : Unit → Shared → Prop} (H : Ok w g os G l s) (z : Zip l d (.sd kvs) f) (hz : kvs.length ≤ 100000)
    (h : ∀ s', Ok w g os G (f (.sd (stored kvs x v))) s' → Q () s') : wpAny (model P0 w) A (setItem (.ref d) (.str x t) v) Q E s :=
  wpAny_setItem_pairs (isStr x t) (H.dict z.mem) (fun h' hd hs => h _ (H.dset z hd hs)) (by rw [sizeLine_eq]; omega)
theorem d_get {d : Addr} {kvs : List (Str × Value)} {x : Str} {t : Tok} {v : Value} {Q : Value → Shared → Prop} (H : Ok w g os G l s) (hm : (d, .sd kvs) ∈ l) (hv : valueAt kvs x = some v)
    (h : ∀ s', Ok w g os G l s' → Q v s') : wpAny (model P0 w) A (getItem (.ref d) (.str x t)) Q E s :=
  wpAny_getItem_of (isStr x t) (H.dict hm).mapOf hv (h _ (H.toks _))
theorem d_in {d : Addr} {kvs : List (Str × Value)} {x : Str} {t : Tok} {Q : Value → Shared → Prop} (H : Ok w g os G l s) (hm : (d, .sd kvs) ∈ l)
    (h : ∀ s', Ok w g os G l s' → Q (.bool (valueAt kvs x).isSome) s') : wpAny (model P0 w) A (compareOp .In (.str x t) (.ref d)) Q E s :=
  wpAny_in_of (isStr x t) (H.notSys hm) (H.dict hm).mapOf (h _ (H.toks _))
theorem d_notin {d : Addr} {kvs : List (Str × Value)} {x : Str} {t : Tok} {Q : Value → Shared → Prop} (H : Ok w g os G l s) (hm : (d, .sd kvs) ∈ l)
    (h : ∀ s', Ok w g os G l s' → Q (.bool (!(valueAt kvs x).isSome)) s') : wpAny (model P0 w) A (compareOp .NotIn (.str x t) (.ref d)) Q E s :=
  wpAny_notIn_of (isStr x t) (H.notSys hm) (H.dict hm).mapOf (h _ (H.toks _))
theorem d_clear {d : Addr} {kvs : List (Str × Value)} {Q : Value → Shared → Prop} (H : Ok w g os G l s) (z : Zip l d (.sd kvs) f) (hz : kvs.length ≤ 100000)
    (h : ∀ s', Ok w g os G (f (.sd [])) s' → Q .none s') : wpAny (model P0 w) A (call (.builtin "dict.clear") [.ref d]) Q E s :=
  call_meetsIn PySem.F.slot_dict_clear (H.dict z.mem).typeIs PySem.F.entry_dict_clear (PySem.F.args_dict_clear_1 _) (meets_dict_clear (strKind P0 w) d)
    ⟨kvs, H.dict z.mem, by rw [sizeLine_eq]; omega, fun h' hd hs => h _ (H.dset z hd hs)⟩
/-! ## `del D[:]` -/
theorem filt_nil {α : Type} (xs : List α) (F : α × Nat → Option α) (h : ∀ x k, k < xs.length → F (x, k) = none) : xs.zipIdx.filterMap F = [] := by
  rw [List.filterMap_eq_nil_iff]
  intro p hp
  obtain ⟨x, k⟩ := p
  exact h x k (by have := List.snd_lt_of_mem_zipIdx hp; simpa using this)
theorem b_delall {D sl : Addr} {vs : List Value} {Q : Value → Shared → Prop} (H : Ok w g os G l s) (z : Zip l D (.lst vs) f) (hz : vs.length ≤ 100000) (hsl : s.heap.IsSliceOf sl .none .none .none)
    (h : ∀ s', Ok w g os G (f (.lst [])) s' → Q .none s') : wpAny (model P0 w) A (call (.builtin "list.__delitem__") [.ref D, .ref sl]) Q E s := by
  obtain ⟨n, hn⟩ := H.get z.mem
  obtain ⟨os, hs1, hs2, hs3⟩ := hsl
  refine wpAny_call_entry PySem.F.slot_list_delitem ⟨_, hn, rfl⟩ PySem.F.entry_list_delitem ?_ (PySem.F.args_list_delitem_2 _ _)
  have hTs : s.TypeIs (.ref sl) "slice" := ⟨os, hs1, hs2⟩
  show wpAny _ _ (Builtin.List.listSubscript? (.ref sl) >>= _) _ _ s
  refine wpAny_bind ?_
  unfold Builtin.List.listSubscript?
  refine wpAny_bind (wpAny_specialOf hTs slice_no_index ?_)
  simp only [Option.isNone_none, if_true]
  refine wpAny_pure ?_
  show wpAny _ _ (typeOf (.ref sl) >>= _) _ _ s
  refine wpAny_bind (wpAny_typeOf hTs ?_)
  rw [if_neg (by decide)]
  rw [listSliceParts_eq]
  refine wpAny_bind (wpAny_bind (wpAny_field hs1 hs3 (x := .none) rfl (wpAny_bind (wpAny_listPart .none ?_))))
  rw [if_neg (by exact Bool.false_ne_true)]
  refine wpAny_bind (wpAny_field hs1 hs3 (x := .none) rfl (wpAny_bind (wpAny_listPart .none ?_)))
  refine wpAny_bind (wpAny_field hs1 hs3 (x := .none) rfl (wpAny_bind (wpAny_listPart .none (wpAny_pure ?_))))
  refine wpAny_bind (m := Builtin.List.listItems (.ref D)) ?_
  unfold Builtin.List.listItems
  refine wpAny_bind (wpAny_seqItems hn rfl (wpAny_pure ?_))
  refine wpAny_bind (wpAny_of_eq (sliceIndices_raw none none none _ (by decide)) ?_)
  refine wpAny_bind (wpAny_rule ?_)
  have sel : ∀ k : Nat, k < vs.length → (if (1 : Int) > 0 then decide ((0 : Int) ≤ k) && decide ((k : Int) < (vs.toArray.size : Int)) && ((k : Int) - 0) % 1 == 0 else decide ((vs.toArray.size : Int) < k) && decide ((k : Int) ≤ 0) && (0 - (k : Int)) % (-1) == 0) = true := by
    intro k hk
    rw [if_pos (by decide)]
    simp; omega
  refine wpAny_bind (wpAny_updateSeq hn rfl ?_ (by rw [List.size_toArray, sizeLine_eq]; omega) ?_)
  · dsimp only
    refine wpAny_bind (wpAny_letGo (wpAny_pure ⟨.none, rfl, h _ (H.set (w := w) (c' := .lst []) (t := s.toks) z (Heap.SameBut.update ..) ?_)⟩))
    show ∃ m, _ = some (lstO [] m)
    rw [Heap.get?_update_self _ hn (by rfl)]
    unfold Obj.mapSeq
    dsimp only
    rw [filt_nil _ _ (fun x k hk => if_pos (sel k hk))]
    exact ⟨_, rfl⟩
  · rw [filt_nil]
    · rw [sizeLine_eq]; exact Nat.le_of_ble_eq_true rfl
    · intro x k hk
      exact if_pos (sel k hk)
/-- `del E[:]` where E gives a list -/
theorem x_delall {env : Env} {e : Expr} {p pos dpos : Pos} {Q : Flow → Shared → Prop}
    (h : wpAny (model P0 w) A (eval e env) (fun v s₁ => ∃ G₁ l₁ D vs f₁, Ok w g os G₁ l₁ s₁ ∧ v = .ref D ∧ Zip l₁ D (.lst vs) f₁ ∧ vs.length ≤ 100000 ∧ ∀ s', Ok w g os G₁ (f₁ (.lst [])) s' → Q .next s') E s) :
    wpAny (model P0 w) A (exec (.Delete [.Subscript e (.Slice none none none p) pos] dpos) env) Q E s := by
  refine wpAny_Delete (wpAny_deleteEach_cons (wpAny_delete_Subscript (wpAny_mono h (fun v s₁ q => ?_) fun _ _ x => x)))
  obtain ⟨G₁, l₁, D, vs, f₁, H, rfl, z, hz, q⟩ := q
  refine wpAny_Slice ?_
  simp only [evalPart_none]
  refine wpAny_pure (wpAny_pure (wpAny_pure ?_))
  have H' : Ok w g os G₁ l₁ { s₁ with heap := s₁.heap.push { cls := .type "slice", data := .fields #[.none, .none, .none] } } := H.ext (t := s₁.toks) (fun b o e => Heap.get?_push_of_some _ e)
  refine wpAny_delItem_slot (H'.lst z.mem).typeIs (by decide) PySem.F.slot_list_delitem (b_delall H' z hz (Heap.IsSliceOf.new ..) (fun s' H'' => ?_))
  exact wpAny_deleteEach_nil (q _ H'')
/-! ## Problem.reset -/
theorem spec_reset {d u : Nat} {x dx C V S : Addr} {f' : Cell → Led} {cs : List Value} {vs : List (Str × Value)} {R : Result → Shared → Prop} (B : Base w g) (H : Ok w g os G l s) (hx : (x, .ob (instObj 110 dx)) ∈ l)
    (hdx : (dx, .sd [("_solver", .ref S), ("_constraints", .ref C), ("_variables", .ref V)]) ∈ l) (z : Zip l C (.lst cs) f) (z' : Zip (f (.lst [])) V (.sd vs) f') (hz : cs.length ≤ 1000) (hz' : vs.length ≤ 1000) (hd : d ≤ 800) (hu : u ≤ 8000)
    (h : ∀ s', Ok w g os G (f' (.sd [])) s' → R (.ok (.ret .none)) s') :
    codeAny (model P0 w) (AR d u) (.call (.ref 43) ⟨[.ref x], []⟩) R s := by
  refine call_fn (binds := [("self", .ref x)]) (rest := []) B H rfl (by kernel_rfl) rfl (BindsTo.of_eq rfl) (by decide) (locs rfl) (by walk_at "ns") (by walk_at "lt") (fun L s₁ H₁ => ?_)
  dsimp only [List.map, List.append, List.nil_append, List.cons_append, List.append_nil] at H₁
  refine wpAny_execs_cons (x_delall (g := g) (os := os) (Attribute_name ?_))
  walk_at "nm"
  walk_at "ga"
  intro s₂ H₂
  refine ⟨_, _, _, _, _, H₂, rfl, by walk_at "zip", by omega, fun s₃ H₃ => ?_⟩
  refine wpAny_execs_cons (wpAny_Expr_any (m_bi0 PySem.F.plainAttrs_dict PySem.F.slot_dict_clear PySem.F.type_dict_clear (Attribute_name ?_)))
  refine e_local H₃ (.head _) (.head _) ?_
  refine i_get B H₃ (.tail _ (z.keep hx (by intro e; cases e))) (by exact rfl) (.tail _ (z.keep hdx (by intro e; cases e))) (cls110 _) (by kernel_rfl) (by walk_at "mem") (by exact rfl) ?_
  intro s₄ H₄
  refine ⟨_, _, _, _, _, _, H₄, rfl, .tail _ z'.mem, rfl, ?_⟩
  refine d_clear H₄ (.tail z') (by omega) (fun s₅ H₅ => ?_)
  exact wpAny_execs_nil (h _ H₅.tail)
end
end Mine
end
section
open PySem PySem.W PySem.Calls PyProof.Rows PySem.W.X
set_option Elab.async false
set_option maxRecDepth 100000
set_option maxHeartbeats 8000000
set_option linter.unusedVariables false
namespace Mine
local macro_rules | `(tactic| walk_at "mem") => `(tactic| first | assumption | exact List.Mem.head _ | (refine' List.Mem.tail _ ?_; walk_at "mem") | (refine' List.mem_append_right _ ?_; walk_at "mem") | (refine' List.mem_append_left _ ?_; walk_at "mem") | exact Zip.at' (by assumption) | exact Zip.keep (by assumption) (by walk_at "mem") (by intro e; cases e))
local macro_rules | `(tactic| walk_at "zip") => `(tactic| first | assumption | exact Zip.head | exact Zip.tail (by walk_at "zip") | exact Zip.again (by assumption))
local macro_rules | `(tactic| walk_at "kv") => `(tactic| first | with_reducible_and_instances exact List.Mem.head _ | (refine' List.Mem.tail _ ?_; walk_at "kv") | assumption)
local macro_rules | `(tactic| walk_at "put") => `(tactic| first | with_reducible exact Put.head | exact Put.tail (by walk_at "put"))
local macro_rules | `(tactic| walk_at "putd") => `(tactic| first | with_reducible exact PutD.head | with_reducible exact PutD.nil | exact PutD.tail (by decide) (by walk_at "putd"))
local macro_rules | `(tactic| walk_at "nm") => `(tactic| first
  | (refine e_local (by assumption) (by walk_at "mem") (by walk_at "kv") ?_)
  | (refine e_cell (by assumption) (by rfl) (by walk_at "mem") ?_)
  | (refine e_free (by assumption) (by rfl) (by walk_at "mem") ?_))
local macro_rules | `(tactic| walk_at "gl") => `(tactic| refine e_global (by assumption) (by assumption) (by first | with_reducible exact gl_Problem _ | with_reducible exact gl_BacktrackingSolver _ | with_reducible exact gl_Domain _ | with_reducible exact gl_Constraint _ | with_reducible exact gl_FunctionConstraint _ | with_reducible exact gl_law_yes _ | with_reducible exact gl_law_rule _ | with_reducible exact gl_law_due _) ?_)
local macro_rules | `(tactic| walk_at "bi") => `(tactic| refine e_builtin (by assumption) (by assumption) (by first | with_reducible exact bn_isinstance _ | with_reducible exact bn_callable _ | with_reducible exact bn_list _ | with_reducible exact bn_tuple _ | with_reducible exact bn_len _ | with_reducible exact bn_range _ | with_reducible exact bn_next _ | with_reducible exact bn_dict _ | with_reducible exact bn_sorted _ | with_reducible exact bn_iter _) (by first | with_reducible exact bb_isinstance | with_reducible exact bb_callable | with_reducible exact bb_list | with_reducible exact bb_tuple | with_reducible exact bb_len | with_reducible exact bb_range | with_reducible exact bb_next | with_reducible exact bb_dict | with_reducible exact bb_sorted | with_reducible exact bb_iter) ?_)
local macro_rules | `(tactic| walk_at "ns") => `(tactic| (show (_ : List Str).Nodup; dsimp only [List.map, List.nil_append, List.cons_append, List.append_nil]; decide +kernel))
local macro_rules | `(tactic| walk_at "lt") => `(tactic| (show _ < 1000; omega))
local macro_rules | `(tactic| x_close) => `(tactic| exact xq_of (by first | assumption | exact Mem.start _) (by first | rfl | assumption))
local macro_rules | `(tactic| walk_at "ga") => `(tactic| refine i_get (by assumption) (by assumption) (by walk_at "mem") (by exact rfl) (by walk_at "mem") (by first | exact cls110 _ | exact cls186 _ | exact cls336 _) (by kernel_rfl) (by walk_at "kv") (by exact rfl) ?_)
local macro_rules | `(tactic| walk_at "sa") => `(tactic| refine i_set (by assumption) (by assumption) (by walk_at "mem") (by walk_at "zip") (by first | exact cls110 _ | exact cls186 _ | exact cls336 _) (by kernel_rfl) (by kernel_rfl) (by walk_at "putd") (Nat.le_of_ble_eq_true rfl) ?_)
local macro_rules | `(tactic| walk_at "st") => `(tactic| refine e_store (by assumption) (by walk_at "zip") (by walk_at "put") ?_)
section
variable {w : World} {g : Heap} {os : OsState} {G : Array GenState} {l l' : Led} {s : Shared} {a : Addr} {c c' : Cell} {f : Cell → Led} {A : Around} {E : Value → Shared → Prop}
/-! ## a Domain is made -/
theorem dom_cls (w : World) : ∃ cd sl, (Kf w).lookup 264 = some ⟨.type "type", none, .cls cd, sl⟩ ∧ cd.abstract = false ∧ cd.hasDel = false ∧ cd.mro = [.ref 264, .type "list", .type "object"] ∧ (sl.toList[4]?).join = some (.builtin "list.__new__") :=
  ⟨_, _, rfl, rfl, rfl, rfl, rfl⟩
theorem list_new_kind : builtinKind "list.__new__" = some .builtinFn := by decide +kernel
theorem list_new_split : splitId "list.__new__" = some ("list", "__new__") := by decide +kernel
theorem list_new_args (a b : Value) : argsOk "list.__new__" ⟨[a, b], []⟩ := by unfold argsOk; kernel_rfl
theorem canon_list_new : (Manifest.canonical "list.__new__" != Manifest.canonical "list.__new__") = false := by simp
structure MakesL (M : Model) (h : Heap) : Prop where
  obj : ∃ cd sl, h.get? 264 = some ⟨.type "type", none, .cls cd, sl⟩ ∧ cd.abstract = false ∧ cd.hasDel = false ∧ cd.mro = [.ref 264, .type "list", .type "object"]
  made : Looks M h (Bind.madeBy (.ref 264)) (some "list.__new__")
  base : Looks M h (Bind.staticBase (.ref 264)) (.ref 264)
  self : Looks M h (isSubtype (.ref 264) (.ref 264)) true
  top : Looks M h (isSubtype (.ref 264) (.type "list")) true
  call : Looks M h (specialOf (.ref 264) "__call__") (some (.builtin "type.__call__"))
  typ : Looks M h (isInstance (.ref 264) (.type "type")) true
  init : Looks M h (typeLookup (.ref 264) "__init__") (some (.ref 233))
theorem makesL {M : Model} {h : Heap} (X : (Kf w).In h) : MakesL M h := by
  obtain ⟨cd, sl, ho, e1, e2, e3, e4⟩ := dom_cls w
  have hc : clsIn (Kf w) 264 = some cd := by unfold clsIn; rw [ho]
  have hm : Looks M h (mroOf (.ref 264)) cd.mro := (looks_clsIn X hc).andThen .now
  have made : Looks M h (Bind.madeBy (.ref 264)) (some "list.__new__") := by
    intro A Q E s k q
    unfold Bind.madeBy
    refine wpAny_bind (hm A _ E s k ?_)
    rw [e3, List.forIn_cons]
    refine wpAny_bind (wpAny_bind (wpAny_bind (wpAny_bind (wpAny_loadPart (k _ _ (X _ _ ho)) (wpAny_pure ?_)))))
    dsimp only
    rw [← Array.getElem?_toList, e4]
    exact wpAny_pure (wpAny_pure (wpAny_pure q))
  refine ⟨⟨cd, sl, X _ _ ho, e1, e2, e3⟩, made, ?_, looks_mroIn X ?_, looks_mroIn X ?_, looks_specialIn X (by kernel_rfl), looks_instIn X (by kernel_rfl), looks_findIn X (by kernel_rfl)⟩
  · intro A Q E s k q
    unfold Bind.staticBase
    refine wpAny_bind (hm A _ E s k ?_)
    rw [e3, List.forIn_cons]
    exact wpAny_bind (wpAny_bind (wpAny_bind (made A _ E s k (wpAny_pure (wpAny_pure (wpAny_pure q))))))
  · unfold mroIn; rw [hc, Option.bind_some, e3]; rfl
  · unfold mroIn; rw [hc, Option.bind_some, e3]; rfl
theorem new_L {h : Heap} {gg : Array GenState} {d : Drawn} {t : Nat} {b : Value} {R : Result → Shared → Prop} (Y : MakesL (model P0 w) h)
    (hq : R (.ok (.ret (.ref (h.objs.size + 1)))) ⟨(h.push emptyDict).push (domO [] 0 h.objs.size), gg, d, t, os⟩) :
    codeAny (model P0 w) A (.call (.builtin "list.__new__") ⟨[.ref 264, b], []⟩) R ⟨h, gg, d, t, os⟩ := by
  obtain ⟨⟨cd, sl, hC, e1, e2, e3⟩, made, base, self, top, call, typ, init⟩ := Y
  refine codeAny_of_tree ?_
  show wpAny _ A.in1 (do checkBuiltinCall "list.__new__" ⟨[.ref 264, b], []⟩; again (.builtin "list.__new__" ⟨[.ref 264, b], []⟩)) _ _ _
  have ty : Looks (model P0 w) h (isType (.ref 264)) true := (Looks.ld hC).andThen .now
  refine wpAny_bind ?_
  simp only [checkBuiltinCall, list_new_kind, list_new_split]
  have fin : (Code.builtin "list.__new__" ⟨[.ref 264, b], []⟩).quiet = true ∧ codeAny (model P0 w) A (.builtin "list.__new__" ⟨[.ref 264, b], []⟩) R ⟨h, gg, d, t, os⟩ := by
    refine ⟨plainId_quiet F.plain_list_new _, codeAny_builtin_stack F.entry_list_new rfl fun p st => ?_⟩
    rw [Around.under_plainId F.plain_list_new _]
    simp only [owner_list_new]
    repeat (first | simp only [bne_self_eq_false, beq_self_eq_true, Bool.false_eq_true, if_false, if_true, Bool.not_true, e1] | lk)
    refine nd_load (Heap.get?_push_of_some _ (Heap.get?_push_of_some _ hC)) ?_
    repeat (first | simp only [Bool.false_eq_true, if_false, e2] | lk)
    show R _ _
    rw [Heap.size_push]
    exact hq
  cases hsig : Manifest.signature? "list.__new__" with
  | none => 
    repeat (first | exact fin | simp only [bne_self_eq_false, beq_self_eq_true, Bool.false_eq_true, if_false, if_true, Bool.not_true] | lk)
  | some sig =>
    have ha := list_new_args (.ref 264) b
    simp only [argsOk, hsig] at ha
    have h2 : Bind.checkArgs "list.__new__" sig ⟨[.ref 264, b], []⟩ = pure () := ha
    repeat (first | exact fin | simp only [bne_self_eq_false, beq_self_eq_true, Bool.false_eq_true, if_false, if_true, Bool.not_true] | (with_reducible refine wpAny_of_eq h2 ?_) | lk)
theorem make_L {h : Heap} {gg : Array GenState} {d : Drawn} {t : Nat} {b : Value} {R : Result → Shared → Prop} (X : (Kf w).In h)
    (hq : codeAny (model P0 w) (A.under (.builtin "type.__call__" ⟨[.ref 264, b], []⟩)) (.call (.ref 233) ⟨[.ref (h.objs.size + 1), b], []⟩) (InitBack (h.objs.size + 1) R) ⟨(h.push emptyDict).push (domO [] 0 h.objs.size), gg, d, t, os⟩) :
    codeAny (model P0 w) A (.call (.ref 264) ⟨[b], []⟩) R ⟨h, gg, d, t, os⟩ := by
  have Y : MakesL (model P0 w) h := makesL X
  have Y' := Y
  obtain ⟨⟨cd, sl, hC, e1, e2, e4⟩, made, base, self, top, call, typ, init⟩ := Y
  refine codeAny_of_tree ?_
  show wpAny _ _ (callAny (.ref 264) _) _ _ _
  refine nd_load hC ?_
  show wpAny _ _ (callAny.viaDunder (.ref 264) _) _ _ _
  unfold callAny.viaDunder
  refine wpAny_bind (call.at ?_)
  dsimp only
  rw [tc_bind]
  refine wpAny_bind (wpAny_pure (wpAny_bind (wpAny_pure ?_)))
  refine wpAny_pure (a := Fin.again (.call (.builtin "type.__call__") ⟨[.ref 264, b], []⟩)) (And.intro rfl ?_)
  refine codeAny_call_builtin_at (Code.quiet_builtin _ (by decide +kernel)) entry_typeCall (check_slot tc_kind tc_split typ (tc_args _ _ _) ?_)
  unfold Builtin.«type.__call__»
  have hm : Looks (model P0 w) h (mroOf (.ref 264)) cd.mro := ((Looks.ld (part := none) hC).andThen .now).andThen .now
  repeat (first | simp only [e4, List.isEmpty_cons, Bool.false_eq_true, if_false] | with_reducible refine wpAny_call ?_ | lk)
  refine new_L Y' ?_
  have k : ∀ b o, h.get? b = some o → ((h.push emptyDict).push (domO [] 0 h.objs.size)).get? b = some o := fun b o e => Heap.get?_push_of_some _ (Heap.get?_push_of_some _ e)
  have hx : ((h.push emptyDict).push (domO [] 0 h.objs.size)).get? (h.objs.size + 1) = some (domO [] 0 h.objs.size) := by heap_get
  have t1 : Looks (model P0 w) ((h.push emptyDict).push (domO [] 0 h.objs.size)) (typeOf (.ref (h.objs.size + 1))) (.ref 264) := (Looks.ld hx).andThen .now
  have s1 := self.keeps k
  have i1 := init.keeps k
  have b1 := (bind_fn (M := model P0 w) X (f := 233) (.ref (h.objs.size + 1)) (by kernel_rfl)).keeps k
  unfold isInstance callSpecial? specialOf
  repeat (first | with_reducible refine wpAny_call ?_ | lk)
  refine codeAny_mono hq fun r s' z => ?_
  rcases r with e | (v | _ | _ | _) <;> first | exact z | exact z.elim | skip
  obtain ⟨rfl, z⟩ := z
  exact wpAny_pure (wpAny_pure z)
theorem e_makeL {d u : Nat} {b : Value} {R : Result → Shared → Prop} (B : Base w g) (H : Ok w g os G l s)
    (h : ∀ x dx s', Ok w g os G ((x, .dom [] dx) :: (dx, .sd []) :: l) s' → codeAny (model P0 w) (AR (d + 1) (u + 1)) (.call (.ref 233) ⟨[.ref x, b], []⟩) (InitBack x R) s') :
    codeAny (model P0 w) (AR d u) (.call (.ref 264) ⟨[b], []⟩) R s := by
  have X := B.X' H
  have H1 := H.push (c := .sd []) (o := emptyDict) (t := s.toks) ⟨List.nodup_nil, [], 0, Heap.get?_push_size _ rfl, trivial⟩
  have H2 := H1.push (c := .dom [] s.heap.objs.size) (o := domO [] 0 s.heap.objs.size) (t := s.toks) ⟨0, Heap.get?_push_size _ rfl⟩
  obtain ⟨hh, gg, dr, t, o⟩ := s
  refine make_L X ?_
  refine weakenC ?_ rfl (Nat.le_refl _) (Nat.le_refl _)
  rw [show hh.objs.size + 1 = (hh.push emptyDict).objs.size from by rw [Heap.size_push]]
  exact h _ _ _ H2
end
end Mine
end
section
open PySem PySem.W PySem.Calls PyProof.Rows PySem.W.X
set_option Elab.async false
set_option maxRecDepth 100000
set_option maxHeartbeats 8000000
set_option linter.unusedVariables false
namespace Mine
local macro_rules | `(tactic| walk_at "mem") => `(tactic| first | assumption | exact List.Mem.head _ | (refine' List.Mem.tail _ ?_; walk_at "mem") | (refine' List.mem_append_right _ ?_; walk_at "mem") | (refine' List.mem_append_left _ ?_; walk_at "mem") | exact Zip.at' (by assumption) | exact Zip.keep (by assumption) (by walk_at "mem") (by intro e; cases e))
local macro_rules | `(tactic| walk_at "zip") => `(tactic| first | assumption | exact Zip.head | exact Zip.tail (by walk_at "zip") | exact Zip.again (by assumption))
local macro_rules | `(tactic| walk_at "kv") => `(tactic| first | with_reducible_and_instances exact List.Mem.head _ | (refine' List.Mem.tail _ ?_; walk_at "kv") | assumption)
local macro_rules | `(tactic| walk_at "put") => `(tactic| first | with_reducible exact Put.head | exact Put.tail (by walk_at "put"))
local macro_rules | `(tactic| walk_at "putd") => `(tactic| first | with_reducible exact PutD.head | with_reducible exact PutD.nil | exact PutD.tail (by decide) (by walk_at "putd"))
local macro_rules | `(tactic| walk_at "nm") => `(tactic| first
  | (refine e_local (by assumption) (by walk_at "mem") (by walk_at "kv") ?_)
  | (refine e_cell (by assumption) (by rfl) (by walk_at "mem") ?_)
  | (refine e_free (by assumption) (by rfl) (by walk_at "mem") ?_))
local macro_rules | `(tactic| walk_at "gl") => `(tactic| refine e_global (by assumption) (by assumption) (by first | with_reducible exact gl_Problem _ | with_reducible exact gl_BacktrackingSolver _ | with_reducible exact gl_Domain _ | with_reducible exact gl_Constraint _ | with_reducible exact gl_FunctionConstraint _ | with_reducible exact gl_law_yes _ | with_reducible exact gl_law_rule _ | with_reducible exact gl_law_due _) ?_)
local macro_rules | `(tactic| walk_at "bi") => `(tactic| refine e_builtin (by assumption) (by assumption) (by first | with_reducible exact bn_isinstance _ | with_reducible exact bn_callable _ | with_reducible exact bn_list _ | with_reducible exact bn_tuple _ | with_reducible exact bn_len _ | with_reducible exact bn_range _ | with_reducible exact bn_next _ | with_reducible exact bn_dict _ | with_reducible exact bn_sorted _ | with_reducible exact bn_iter _) (by first | with_reducible exact bb_isinstance | with_reducible exact bb_callable | with_reducible exact bb_list | with_reducible exact bb_tuple | with_reducible exact bb_len | with_reducible exact bb_range | with_reducible exact bb_next | with_reducible exact bb_dict | with_reducible exact bb_sorted | with_reducible exact bb_iter) ?_)
local macro_rules | `(tactic| walk_at "ns") => `(tactic| (show (_ : List Str).Nodup; dsimp only [List.map, List.nil_append, List.cons_append, List.append_nil]; decide +kernel))
local macro_rules | `(tactic| walk_at "lt") => `(tactic| (show _ < 1000; omega))
local macro_rules | `(tactic| x_close) => `(tactic| exact xq_of (by first | assumption | exact Mem.start _) (by first | rfl | assumption))
local macro_rules | `(tactic| walk_at "ga") => `(tactic| refine i_get (by assumption) (by assumption) (by walk_at "mem") (by exact rfl) (by walk_at "mem") (by first | exact cls110 _ | exact cls186 _ | exact cls336 _) (by kernel_rfl) (by walk_at "kv") (by exact rfl) ?_)
local macro_rules | `(tactic| walk_at "sa") => `(tactic| refine i_set (by assumption) (by assumption) (by walk_at "mem") (by walk_at "zip") (by first | exact cls110 _ | exact cls186 _ | exact cls336 _) (by kernel_rfl) (by kernel_rfl) (by walk_at "putd") (Nat.le_of_ble_eq_true rfl) ?_)
local macro_rules | `(tactic| walk_at "st") => `(tactic| refine e_store (by assumption) (by walk_at "zip") (by walk_at "put") ?_)
section
variable {w : World} {g : Heap} {os : OsState} {G : Array GenState} {l l' : Led} {s : Shared} {a : Addr} {c c' : Cell} {f : Cell → Led} {A : Around} {E : Value → Shared → Prop}
/-! ## attributes of a Domain -/
theorem dom_ga (w : World) : findIn (Kf w) (.ref 264) "__getattribute__" = some (some (.builtin "list.__getattribute__")) := by kernel_rfl
theorem dom_gn (w : World) : findIn (Kf w) (.ref 264) "__getattr__" = some none := by kernel_rfl
theorem dom_sa (w : World) : findIn (Kf w) (.ref 264) "__setattr__" = some (some (.builtin "object.__setattr__")) := by kernel_rfl
theorem dom_hd (w : World) : hasDictIn (Kf w) 264 = true := by kernel_rfl
theorem dom_sub {M : Model} {h : Heap} (X : (Kf w).In h) : Looks M h (isSubtype (.ref 264) (.type "list")) true := (makesL X).top
theorem dom_subo {M : Model} {h : Heap} (X : (Kf w).In h) : Looks M h (isSubtype (.ref 264) (.type "object")) true := by
  obtain ⟨cd, sl, ho, e1, e2, e3, e4⟩ := dom_cls w
  have hc : clsIn (Kf w) 264 = some cd := by unfold clsIn; rw [ho]
  refine looks_mroIn X ?_
  unfold mroIn; rw [hc, Option.bind_some, e3]; rfl
theorem list_ga_kind : builtinKind "list.__getattribute__" = some .slot := by decide +kernel
theorem list_ga_split : splitId "list.__getattribute__" = some ("list", "__getattribute__") := by decide +kernel
theorem dom_get {x dx : Addr} {vs : List Value} {kvs : List (Str × Value)} {name : Str} {v : Value} {ex : Bool} {Q : Value → Shared → Prop} (B : Base w g) (H : Ok w g os G l s) (hx : (x, .dom vs dx) ∈ l) (hd : (dx, .sd kvs) ∈ l)
    (ha : findIn (Kf w) (.ref 264) name = some none) (hv : (name, v) ∈ kvs) (hh : handedIn v = true) (h : ∀ s', Ok w g os G l s' → Q v s') : wpAny (model P0 w) A (getAttr (.ref x) name ex) Q E s := by
  obtain ⟨ox, es, n, I, _, _, sd, nd⟩ := inst_at H hx (C := 264) (dx := dx) ⟨rfl, rfl⟩ hd
  have X := B.X' H
  have h := h _ (H.toks (s.toks + 1))
  obtain ⟨hp, gg, dr, t, o⟩ := s
  have L0 := I.type (M := model P0 w)
  have L1 := looks_findIn (M := model P0 w) X (dom_ga w)
  have L2 := looks_findIn (M := model P0 w) X (dom_gn w)
  have L3 := looks_find (M := model P0 w) X I (findObj_own (dom_hd w) ha (by rfl) (by rw [lookIn_dict, sd.getL, lookup_mem nd hv]))
  have L4 : Looks (model P0 w) hp (isInstance (.ref x) (.type "list")) true := L0.andThen (dom_sub X)
  unfold getAttr getAttrBy
  refine wpAny_bind (wpAny_mkText (wpAny_holding (wpAny_bind (L0.at (wpAny_bind (L1.at ?_))))))
  dsimp only
  rw [if_neg (by simp)]
  unfold getAttrByItsOwn hookBefore
  refine wpAny_bind ?_
  rw [if_pos (by rfl)]
  refine L2.at (wpAny_bind ?_)
  unfold callGetattribute boundAndCalled
  rw [if_neg (by simp [onTheHeap])]
  rw [PySem.F.slot_list_getattribute.bind]
  refine wpAny_attempt ?_
  refine wpAny_holding ?_
  refine wpAny_bind (wpAny_pure ?_)
  dsimp only
  refine wpAny_call ?_
  show codeAny _ _ (.call (.builtin "list.__getattribute__") ⟨[.ref x, .str name t], []⟩) _ _
  refine codeAny_call_builtin PySem.F.slot_list_getattribute.plain am_entry_list_getattribute ?_
  refine @check_slot (model P0 w) _ _ _ "list.__getattribute__" "list" "__getattribute__" (.ref x) [.str name t] [] _ list_ga_kind list_ga_split L4 (PySem.F.args_list_getattribute_2 _ _) ?_
  unfold Builtin.«object.__getattribute__»
  refine wpAny_bind (wpAny_pure ?_)
  dsimp only
  refine wpAny_bind (wpAny_pure ?_)
  refine wpAny_bind (L0.at (wpAny_bind (L3.at (wpAny_pure ?_))))
  dsimp only
  rw [handedOut_of hh]
  exact wpAny_pure h
theorem refuse_dom (self : Value) : refuseLoop self "__setattr__" [.ref 264, .type "list", .type "object"] = pure () := by
  rw [refuseLoop_ref]; kernel_rfl
theorem osa_dom {x : Addr} {ox : Obj} {od : Option Obj} {name : Str} {tk : Tok} {v : Value} {R : Result → Shared → Prop} (X : (Kf w).In s.heap) (I : InstAt s.heap x ox 264 od) (ht : findIn (Kf w) (.ref 264) name = some none)
    (h : ∀ b, wpAny (model P0 w) A.in1 (PySem.Builtin.ObjectAttr.storeInOwnDict (.ref x) (.ref 264) (.str name tk) name v b)
      (fun fin s' => match fin with | .done f => R (.ok f) s' | .again c' => c'.quiet = true ∧ codeAny (model P0 w) A c' R s') (fun e s' => R (.error e) s') s) :
    codeAny (model P0 w) A (.call (.builtin "object.__setattr__") ⟨[.ref x, .str name tk, v], []⟩) R s := by
  have SF := PySem.F.store_object
  obtain ⟨cd, sl, ho, e1, e2, e3, e4⟩ := dom_cls w
  have hc : clsIn (Kf w) 264 = some cd := by unfold clsIn; rw [ho]
  have sub : Looks (model P0 w) s.heap (isInstance (.ref x) (.type "object")) true := I.type.andThen (dom_subo X)
  have hm : Looks (model P0 w) s.heap (mroOf (.ref 264)) cd.mro := (looks_clsIn X hc).andThen .now
  have L3 : Looks (model P0 w) s.heap (PySem.Builtin.ObjectAttr.storeTaker? none) none := .now
  refine codeAny_call_builtin SF.slot.plain SF.entry (@check_slot (model P0 w) _ _ s "object.__setattr__" "object" "__setattr__" (.ref x) [.str name tk, v] [] _ SF.kind SF.split sub (SF.args (.ref x) (.str name tk) v) ?_)
  rw [osa_eq, refuse_eq]
  refine wpAny_bind (wpAny_bind (I.type.here (wpAny_bind (hm.here ?_))))
  rw [e3, refuse_dom]
  refine wpAny_pure (wpAny_bind (I.type.here (wpAny_bind ((looks_findIn X ht).here (wpAny_bind (L3.here ?_))))))
  exact h _
theorem dom_set {x dx : Addr} {vs : List Value} {kvs kvs' : List (Str × Value)} {name : Str} {v : Value} {Q : Unit → Shared → Prop} (B : Base w g) (H : Ok w g os G l s) (hx : (x, .dom vs dx) ∈ l) (z : Zip l dx (.sd kvs) f)
    (ht : findIn (Kf w) (.ref 264) name = some none) (p : PutD kvs name v kvs') (hz : kvs.length ≤ 1000) (h : ∀ s', Ok w g os G (f (.sd kvs')) s' → Q () s') :
    wpAny (model P0 w) A (setAttr (.ref x) name v) Q E s := by
  obtain ⟨ox, es, n, I, hox, hdx, sd, nd⟩ := inst_at H hx (C := 264) (dx := dx) ⟨rfl, rfl⟩ z.mem
  have X := B.X' H
  refine set_plain X I (dom_sa w) ?_
  refine osa_dom (s := { s with toks := s.toks + 1 }) X I ht fun b => ?_
  obtain ⟨cd, sl, ho, e1, e2, e3, e4⟩ := dom_cls w
  have hc : clsIn (Kf w) 264 = some cd := by unfold clsIn; rw [ho]
  have hdd : cd.hasDict = true := by
    have := dom_hd w
    unfold hasDictIn at this
    rw [hc] at this
    exact this
  obtain ⟨hx', hcl, hn, -⟩ := I
  obtain ⟨oc, odi, oda, osl⟩ := ox
  dsimp only at hcl hox
  subst hcl hox
  refine wpAny_bind (wpAny_pure (wpAny_bind (wpAny_bind (wpAny_loadPart hx' (wpAny_bind (Looks.keepsS (looks_clsIn X hc) ?_))))))
  rw [hdd]
  refine wpAny_pure (a := some dx) (wpAny_bind (wpAny_pure (wpAny_bind ?_)))
  unfold nsSet
  refine wpAny_bind (wpAny_bind (wpAny_askSetting (wpAny_pure (wpAny_bind (wpAny_mkText (wpAny_bind (wpAny_loadPart hdx ?_)))))))
  dsimp only
  have cc : aRefKeyMayBeTheName name es.toArray = false := by
    rw [aRefKeyMayBeTheName_at, show es.toArray.any (·.refKey) = false from by rw [← Array.any_toList]; exact sd.noRef, Bool.and_false]
  rw [cc]
  have hn' : Obj.putName name (PyData.keyHash w.params name) (.str name (s.toks + 1)) v (dctO es n) = dctO (putL name (PyData.keyHash w.params name) (.str name (s.toks + 1)) v es) (putN name es n) := putName_dict _ _ _ _ _ _
  have sd' := sd.put (t := s.toks + 1) p
  have hs : Heap.SameBut dx s.heap (s.heap.update dx (Obj.putName name (PyData.keyHash w.params name) (.str name (s.toks + 1)) v)) := Heap.SameBut.update ..
  have hg := Heap.get?_update_self (Obj.putName name (PyData.keyHash w.params name) (.str name (s.toks + 1)) v) hdx (by rw [hn']; rfl)
  rw [hn'] at hg
  have hlen : (putL name (PyData.keyHash w.params name) (.str name (s.toks + 1)) v es).length ≤ kvs.length + 1 := by
    rw [sd'.length]; exact p.len
  refine wpAny_updatePart hdx ?_
  refine wpAny_bind (wpAny_lookBehind hg (pastItsLine_dict (by rw [List.size_toArray, sizeLine_eq]; omega)) ?_)
  exact wpAny_pure (h _ (H.set z hs ⟨(p.names nd).1, _, _, hg, sd'⟩))
end
end Mine
end
section
open PySem PySem.W PySem.Calls PyProof.Rows PySem.W.X
set_option Elab.async false
set_option maxRecDepth 100000
set_option maxHeartbeats 8000000
set_option linter.unusedVariables false
namespace Mine
local macro_rules | `(tactic| walk_at "mem") => `(tactic| first | assumption | exact List.Mem.head _ | (refine' List.Mem.tail _ ?_; walk_at "mem") | (refine' List.mem_append_right _ ?_; walk_at "mem") | (refine' List.mem_append_left _ ?_; walk_at "mem") | exact Zip.at' (by assumption) | exact Zip.keep (by assumption) (by walk_at "mem") (by intro e; cases e))
local macro_rules | `(tactic| walk_at "zip") => `(tactic| first | assumption | exact Zip.head | exact Zip.tail (by walk_at "zip") | exact Zip.again (by assumption))
local macro_rules | `(tactic| walk_at "kv") => `(tactic| first | with_reducible_and_instances exact List.Mem.head _ | (refine' List.Mem.tail _ ?_; walk_at "kv") | assumption)
local macro_rules | `(tactic| walk_at "put") => `(tactic| first | with_reducible exact Put.head | exact Put.tail (by walk_at "put"))
local macro_rules | `(tactic| walk_at "putd") => `(tactic| first | with_reducible exact PutD.head | with_reducible exact PutD.nil | exact PutD.tail (by decide) (by walk_at "putd"))
local macro_rules | `(tactic| walk_at "nm") => `(tactic| first
  | (refine e_local (by assumption) (by walk_at "mem") (by walk_at "kv") ?_)
  | (refine e_cell (by assumption) (by rfl) (by walk_at "mem") ?_)
  | (refine e_free (by assumption) (by rfl) (by walk_at "mem") ?_))
local macro_rules | `(tactic| walk_at "gl") => `(tactic| refine e_global (by assumption) (by assumption) (by first | with_reducible exact gl_Problem _ | with_reducible exact gl_BacktrackingSolver _ | with_reducible exact gl_Domain _ | with_reducible exact gl_Constraint _ | with_reducible exact gl_FunctionConstraint _ | with_reducible exact gl_law_yes _ | with_reducible exact gl_law_rule _ | with_reducible exact gl_law_due _) ?_)
local macro_rules | `(tactic| walk_at "bi") => `(tactic| refine e_builtin (by assumption) (by assumption) (by first | with_reducible exact bn_isinstance _ | with_reducible exact bn_callable _ | with_reducible exact bn_list _ | with_reducible exact bn_tuple _ | with_reducible exact bn_len _ | with_reducible exact bn_range _ | with_reducible exact bn_next _ | with_reducible exact bn_dict _ | with_reducible exact bn_sorted _ | with_reducible exact bn_iter _) (by first | with_reducible exact bb_isinstance | with_reducible exact bb_callable | with_reducible exact bb_list | with_reducible exact bb_tuple | with_reducible exact bb_len | with_reducible exact bb_range | with_reducible exact bb_next | with_reducible exact bb_dict | with_reducible exact bb_sorted | with_reducible exact bb_iter) ?_)
local macro_rules | `(tactic| walk_at "ns") => `(tactic| (show (_ : List Str).Nodup; dsimp only [List.map, List.nil_append, List.cons_append, List.append_nil]; decide +kernel))
local macro_rules | `(tactic| walk_at "lt") => `(tactic| (show _ < 1000; omega))
local macro_rules | `(tactic| x_close) => `(tactic| exact xq_of (by first | assumption | exact Mem.start _) (by first | rfl | assumption))
local macro_rules | `(tactic| walk_at "ga") => `(tactic| refine i_get (by assumption) (by assumption) (by walk_at "mem") (by exact rfl) (by walk_at "mem") (by first | exact cls110 _ | exact cls186 _ | exact cls336 _) (by kernel_rfl) (by walk_at "kv") (by exact rfl) ?_)
local macro_rules | `(tactic| walk_at "sa") => `(tactic| refine i_set (by assumption) (by assumption) (by walk_at "mem") (by walk_at "zip") (by first | exact cls110 _ | exact cls186 _ | exact cls336 _) (by kernel_rfl) (by kernel_rfl) (by walk_at "putd") (Nat.le_of_ble_eq_true rfl) ?_)
local macro_rules | `(tactic| walk_at "st") => `(tactic| refine e_store (by assumption) (by walk_at "zip") (by walk_at "put") ?_)
section
variable {w : World} {g : Heap} {os : OsState} {G : Array GenState} {l l' : Led} {s : Shared} {a : Addr} {c c' : Cell} {f : Cell → Led} {A : Around} {E : Value → Shared → Prop}
theorem sameBut_trans {h h' h'' : Heap} (p : Heap.SameBut a h h') (q : Heap.SameBut a h' h'') : Heap.SameBut a h h'' := ⟨q.1.trans p.1, fun b n => (q.2 b n).trans (p.2 b n)⟩
/-! ## Domain.__init__ -/
theorem e_getm_type {T : String} {v : Value} {name : Str} {pl : Sem Bool} {Q : Value × List Value → Shared → Prop} (B : Base w g) (H : Ok w g os G l s) (ht : typeOf (.type T) = pure (.type "type")) (hs : Manifest.isStub T = false)
    (e : findCls (Kf w) (.type T) (.type "type") name = some (.val v)) (hh : handedIn v = true) (h : ∀ s', Ok w g os G l s' → Q (v, []) s') : wpAny (model P0 w) A (getMethod (.type T) name pl) Q E s := by
  have X := B.X' H
  have hstub : opaqueClassAbove (.type T) = pure none := by unfold opaqueClassAbove; dsimp only; rw [hs]; rfl
  have L0 : Looks (model P0 w) s.heap (typeOf (.type T)) (.type "type") := Looks.of_pure ht
  have hg : findIn (Kf w) (.type "type") "__getattribute__" = some (some (.builtin "type.__getattribute__")) := type_tga
  unfold getMethod specialOf
  refine wpAny_bind (wpAny_bind (L0.here ((looks_findIn X hg).here ?_)))
  dsimp only
  rw [if_pos canon_tga]
  refine wpAny_bind (wpAny_mono (Q := fun v => Q (v, [])) (E := E) ?_ (fun _ _ z => wpAny_pure z) fun _ _ z => z)
  have LO : Looks (model P0 w) s.heap (opaqueClassAbove (.type T)) none := Looks.of_pure hstub
  refine cls_open X LO L0 hg (looks_hook X (r := none) (by rfl)) (by show subIn (Kf w) _ _ = _; rfl) e
    (wpAny_pure (by show wpAny _ _ (handedOut v) _ _ _; rw [handedOut_of hh]; exact wpAny_pure (h _ (H.toks _))))
theorem list_init_kind : builtinKind "list.__init__" = some .slot := by decide +kernel
theorem list_init_split : splitId "list.__init__" = some ("list", "__init__") := by decide +kernel
theorem b_linit {x dx it : Addr} {vs : List Value} {Q : Value → Shared → Prop} (B : Base w g) (H : Ok w g os G l s) (z : Zip l x (.dom [] dx) f) (hit : (it, .lst vs) ∈ l) (hz : vs.length ≤ 1000)
    (h : ∀ s', Ok w g os G (f (.dom vs dx)) s' → Q .none s') : wpAny (model P0 w) A (call (.builtin "list.__init__") [.ref x, .ref it]) Q E s := by
  obtain ⟨n, hn⟩ := H.get z.mem
  obtain ⟨k, hk⟩ := H.get hit
  have X := B.X' H
  have ty : Looks (model P0 w) s.heap (typeOf (.ref x)) (.ref 264) := (Looks.ld hn).andThen .now
  have sub : Looks (model P0 w) s.heap (isInstance (.ref x) (.type "list")) true := ty.andThen (dom_sub X)
  have hne : it ≠ x := fun e => by rw [e, hn] at hk; cases hk
  refine wpAny_call (codeAny_call_builtin F.slot_list_init.plain F.entry_list_init (@check_slot (model P0 w) _ _ s "list.__init__" "list" "__init__" (.ref x) [.ref it] [] _ list_init_kind list_init_split sub (F.args_list_init_2 _ _) ?_))
  show wpAny _ A.in1 (do let old ← Builtin.List.listItems (.ref x); Builtin.List.listUpdate (.ref x) (fun _ => #[]); letGo old.toList.reverse; Builtin.List.listExtendWith (.ref x) (.ref it) .none) _ _ s
  refine wpAny_bind ?_
  unfold Builtin.List.listItems
  refine wpAny_bind (wpAny_seqItems hn rfl (wpAny_pure ?_))
  show wpAny _ A.in1 (updateSeq x (fun _ => #[]) >>= fun _ => letGo (#[] : Array Value).toList.reverse >>= fun _ => Builtin.List.listExtendWith (.ref x) (.ref it) .none) _ _ s
  refine wpAny_bind (wpAny_updateSeq hn rfl ?_)
  have hS₂ := Heap.get?_update_self (Obj.mapSeq (fun _ => (#[] : Array Value))) hn rfl
  refine wpAny_bind (wpAny_letGo ?_)
  have hk2 := (Heap.get?_update_other s.heap (Obj.mapSeq (fun _ => (#[] : Array Value))) (Ne.symm hne)).trans hk
  unfold Builtin.List.listExtendWith
  refine wpAny_bind (wpAny_typeOf ⟨_, hk2, rfl⟩ ?_)
  simp only [show (Builtin.List.listSameRef (.ref x) (.ref it) || Value.type "list" == Value.type "list" || Value.type "list" == Value.type "tuple") = true from by simp, if_true]
  refine wpAny_bind ?_
  unfold Builtin.List.listItems
  refine wpAny_bind (wpAny_seqItems hk2 rfl (wpAny_pure ?_))
  refine wpAny_bind ?_
  refine wpAny_bind (wpAny_seqItems hS₂ rfl (wpAny_pure ?_))
  show wpAny _ A.in1 (updateSeq x (· ++ vs.toArray) >>= fun _ => ret .none) _ _ _
  refine wpAny_bind (wpAny_updateSeq hS₂ rfl ?_ (Nat.zero_le _) (by rw [sizeLine_eq]; simp [Obj.mapSeq]; omega))
  have hS3 := Heap.get?_update_self (Obj.mapSeq (· ++ vs.toArray)) hS₂ rfl
  refine wpAny_pure (h _ (H.set (t := s.toks) (c' := .dom vs dx) z (sameBut_trans (Heap.SameBut.update ..) (Heap.SameBut.update ..)) ?_))
  show ∃ m, _ = some (domO vs m dx)
  exact ⟨_, hS3.trans (by simp [Obj.mapSeq]; rfl)⟩
end
end Mine
end
section
open PySem PySem.W PySem.Calls PyProof.Rows PySem.W.X
set_option Elab.async false
set_option maxRecDepth 100000
set_option maxHeartbeats 8000000
set_option linter.unusedVariables false
namespace Mine
local macro_rules | `(tactic| walk_at "mem") => `(tactic| first | assumption | exact List.Mem.head _ | (refine' List.Mem.tail _ ?_; walk_at "mem") | (refine' List.mem_append_right _ ?_; walk_at "mem") | (refine' List.mem_append_left _ ?_; walk_at "mem") | exact Zip.at' (by assumption) | exact Zip.keep (by assumption) (by walk_at "mem") (by intro e; cases e))
local macro_rules | `(tactic| walk_at "zip") => `(tactic| first | assumption | exact Zip.head | exact Zip.tail (by walk_at "zip") | exact Zip.again (by assumption))
local macro_rules | `(tactic| walk_at "kv") => `(tactic| first | with_reducible_and_instances exact List.Mem.head _ | (refine' List.Mem.tail _ ?_; walk_at "kv") | assumption)
local macro_rules | `(tactic| walk_at "put") => `(tactic| first | with_reducible exact Put.head | exact Put.tail (by walk_at "put"))
local macro_rules | `(tactic| walk_at "putd") => `(tactic| first | with_reducible exact PutD.head | with_reducible exact PutD.nil | exact PutD.tail (by decide) (by walk_at "putd"))
local macro_rules | `(tactic| walk_at "nm") => `(tactic| first
  | (refine e_local (by assumption) (by walk_at "mem") (by walk_at "kv") ?_)
  | (refine e_cell (by assumption) (by rfl) (by walk_at "mem") ?_)
  | (refine e_free (by assumption) (by rfl) (by walk_at "mem") ?_))
local macro_rules | `(tactic| walk_at "gl") => `(tactic| refine e_global (by assumption) (by assumption) (by first | with_reducible exact gl_Problem _ | with_reducible exact gl_BacktrackingSolver _ | with_reducible exact gl_Domain _ | with_reducible exact gl_Constraint _ | with_reducible exact gl_FunctionConstraint _ | with_reducible exact gl_law_yes _ | with_reducible exact gl_law_rule _ | with_reducible exact gl_law_due _) ?_)
local macro_rules | `(tactic| walk_at "bi") => `(tactic| refine e_builtin (by assumption) (by assumption) (by first | with_reducible exact bn_isinstance _ | with_reducible exact bn_callable _ | with_reducible exact bn_list _ | with_reducible exact bn_tuple _ | with_reducible exact bn_len _ | with_reducible exact bn_range _ | with_reducible exact bn_next _ | with_reducible exact bn_dict _ | with_reducible exact bn_sorted _ | with_reducible exact bn_iter _) (by first | with_reducible exact bb_isinstance | with_reducible exact bb_callable | with_reducible exact bb_list | with_reducible exact bb_tuple | with_reducible exact bb_len | with_reducible exact bb_range | with_reducible exact bb_next | with_reducible exact bb_dict | with_reducible exact bb_sorted | with_reducible exact bb_iter) ?_)
local macro_rules | `(tactic| walk_at "ns") => `(tactic| (show (_ : List Str).Nodup; dsimp only [List.map, List.nil_append, List.cons_append, List.append_nil]; decide +kernel))
local macro_rules | `(tactic| walk_at "lt") => `(tactic| (show _ < 1000; omega))
local macro_rules | `(tactic| x_close) => `(tactic| exact xq_of (by first | assumption | exact Mem.start _) (by first | rfl | assumption))
local macro_rules | `(tactic| walk_at "ga") => `(tactic| refine i_get (by assumption) (by assumption) (by walk_at "mem") (by exact rfl) (by walk_at "mem") (by first | exact cls110 _ | exact cls186 _ | exact cls336 _) (by kernel_rfl) (by walk_at "kv") (by exact rfl) ?_)
local macro_rules | `(tactic| walk_at "sa") => `(tactic| refine i_set (by assumption) (by assumption) (by walk_at "mem") (by walk_at "zip") (by first | exact cls110 _ | exact cls186 _ | exact cls336 _) (by kernel_rfl) (by kernel_rfl) (by walk_at "putd") (Nat.le_of_ble_eq_true rfl) ?_)
local macro_rules | `(tactic| walk_at "st") => `(tactic| refine e_store (by assumption) (by walk_at "zip") (by walk_at "put") ?_)
section
variable {w : World} {g : Heap} {os : OsState} {G : Array GenState} {l l' : Led} {s : Shared} {a : Addr} {c c' : Cell} {f : Cell → Led} {A : Around} {E : Value → Shared → Prop}
/-! ## len, truth, slices of a Domain -/
theorem dom_ty {x dx : Addr} {vs : List Value} {M : Model} (H : Ok w g os G l s) (hx : (x, .dom vs dx) ∈ l) : Looks M s.heap (typeOf (.ref x)) (.ref 264) := by
  obtain ⟨n, hn⟩ := H.get hx
  exact (Looks.ld hn).andThen .now
theorem dom_isl {x dx : Addr} {vs : List Value} {M : Model} (B : Base w g) (H : Ok w g os G l s) (hx : (x, .dom vs dx) ∈ l) : Looks M s.heap (isInstance (.ref x) (.type "list")) true := (dom_ty H hx).andThen (dom_sub (B.X' H))
theorem dom_special {x dx : Addr} {vs : List Value} {name : Str} {id : String} {args : List Value} {Q : Option Value → Shared → Prop} (B : Base w g) (H : Ok w g os G l s) (hx : (x, .dom vs dx) ∈ l)
    (hf : findIn (Kf w) (.ref 264) name = some (some (.builtin id))) (slot : Slot "list" name id) (h : wpAny (model P0 w) A (call (.builtin id) (.ref x :: args)) (fun v => Q (some v)) E s) :
    wpAny (model P0 w) A (callSpecial? (.ref x) name args) Q E s := by
  unfold callSpecial? specialOf
  refine wpAny_bind (wpAny_bind ((dom_ty H hx).here ((looks_findIn (B.X' H) hf).here ?_)))
  simp only [slot.bind]
  exact wpAny_holding (wpAny_bind (wpAny_pure (wpAny_bind (wpAny_mono h (fun v s' z => wpAny_pure z) fun _ _ z => z))))
theorem b_dom {x dx : Addr} {vs : List Value} {n : Str} {id : String} {b : Builtin} {args : List Value} {Q : Value → Shared → Prop} (B : Base w g) (H : Ok w g os G l s) (hx : (x, .dom vs dx) ∈ l)
    (slot : Slot "list" n id) (entry : entryFor table id = some b) (hk : builtinKind id = some .slot) (hs : ∃ k, splitId id = some ("list", k)) (ha : argsOk id ⟨.ref x :: args, []⟩)
    (h : wpAny (model P0 w) A.in1 (b ⟨.ref x :: args, []⟩) (fun fin s' => ∃ v, fin = .done (.ret v) ∧ Q v s') E s) : wpAny (model P0 w) A (call (.builtin id) (.ref x :: args)) Q E s := by
  obtain ⟨k, hs⟩ := hs
  refine wpAny_call (codeAny_call_builtin slot.plain entry (@check_slot (model P0 w) _ _ s id "list" k (.ref x) args [] _ hk hs (dom_isl B H hx) ha (wpAny_mono h (fun fin s' q => ?_) fun _ _ z => z)))
  obtain ⟨v, rfl, q⟩ := q
  exact q
theorem check_meth {M : Model} {A : Around} {E : Value → Shared → Prop} {s : Shared} {i owner n : String} {self : Value} {rest : List Value} {kw : List (Str × Value)} {Q : Unit → Shared → Prop}
    (hk : builtinKind i = some .method) (hs : splitId i = some (owner, n)) (hi : Looks M s.heap (isInstance self (.type owner)) true) (ha : argsOk i ⟨self :: rest, kw⟩) (q : Q () s) :
    wpAny M A (checkBuiltinCall i ⟨self :: rest, kw⟩) Q E s := by
  simp only [checkBuiltinCall, hk, hs]
  refine wpAny_bind (hi.here ?_)
  simp only [Bool.not_true, Bool.false_eq_true, if_false]
  cases hsig : Manifest.signature? i with
  | none => exact wpAny_pure q
  | some sig =>
    simp only [argsOk, hsig] at ha
    have h2 : Bind.checkArgs i sig ⟨self :: rest, kw⟩ = pure () := ha
    show wpAny M A (Bind.checkArgs i sig ⟨self :: rest, kw⟩) Q E s
    rw [h2]; exact wpAny_pure q
theorem b_domM {x dx : Addr} {vs : List Value} {n : Str} {id : String} {b : Builtin} {args : List Value} {Q : Value → Shared → Prop} (B : Base w g) (H : Ok w g os G l s) (hx : (x, .dom vs dx) ∈ l)
    (slot : Slot "list" n id) (entry : entryFor table id = some b) (hk : builtinKind id = some .method) (hs : ∃ k, splitId id = some ("list", k)) (ha : argsOk id ⟨.ref x :: args, []⟩)
    (h : wpAny (model P0 w) A.in1 (b ⟨.ref x :: args, []⟩) (fun fin s' => ∃ v, fin = .done (.ret v) ∧ Q v s') E s) : wpAny (model P0 w) A (call (.builtin id) (.ref x :: args)) Q E s := by
  obtain ⟨k, hs⟩ := hs
  refine wpAny_call (codeAny_call_builtin slot.plain entry (@check_meth (model P0 w) _ _ s id "list" k (.ref x) args [] _ hk hs (dom_isl B H hx) ha (wpAny_mono h (fun fin s' q => ?_) fun _ _ z => z)))
  obtain ⟨v, rfl, q⟩ := q
  exact q
theorem dom_lenBody {x dx : Addr} {vs : List Value} {Q : Value → Shared → Prop} (B : Base w g) (H : Ok w g os G l s) (hx : (x, .dom vs dx) ∈ l) (hz : vs.length ≤ 100000)
    (h : ∀ t s', Ok w g os G l s' → Q (.int vs.length t) s') : wpAny (model P0 w) A (Builtin.«len» ⟨[.ref x], []⟩) (fun fin s' => ∃ v, fin = .done (.ret v) ∧ Q v s') E s := by
  obtain ⟨n, hn⟩ := H.get hx
  unfold Builtin.«len»
  refine wpAny_bind (m := oneArg "len" _) (wpAny_pure ?_)
  refine wpAny_bind (m := callSpecial? (.ref x) (Str.ofString "__len__")) (dom_special B H hx (by kernel_rfl) slot_list_len (b_dom B H hx slot_list_len entry_list_len (by decide +kernel) ⟨"__len__", by decide +kernel⟩ (args_list_len _) ?_))
  show wpAny _ _ (do retInt (← seqSize x)) _ _ s
  unfold seqSize
  refine wpAny_bind (wpAny_bind (wpAny_load hn ?_))
  refine wpAny_pure (wpAny_bind (wpAny_mkInt (wpAny_pure ⟨_, rfl, ?_⟩)))
  refine wpAny_bind (wpAny_holding (wpAny_pure ?_))
  refine wpAny_bind (wpAny_letGo ?_)
  have e : ((vs.toArray.size : Nat) : Int) = vs.length := by simp
  rw [e]
  show wpAny _ _ (if ((vs.length : Nat) : Int) < 0 then _ else _) _ _ _
  rw [if_neg (by omega)]
  show wpAny _ _ (if ((vs.length : Nat) : Int) ≥ 2 ^ 63 then _ else _) _ _ _
  rw [if_neg (by omega)]
  exact wpAny_bind (wpAny_mkInt (wpAny_pure ⟨_, rfl, h _ _ ((H.toks _).toks _)⟩))
theorem dom_len {x dx : Addr} {vs : List Value} {Q : Value → Shared → Prop} (B : Base w g) (H : Ok w g os G l s) (hx : (x, .dom vs dx) ∈ l) (hz : vs.length ≤ 100000)
    (h : ∀ t s', Ok w g os G l s' → Q (.int vs.length t) s') : wpAny (model P0 w) A (call (.builtin "len") [.ref x]) Q E s :=
  Calls.call_function_entry kind_len plain_len entry_len (args_len1 _) (dom_lenBody B H hx hz h)
theorem dom_truthy {x dx : Addr} {vs : List Value} {Q : Bool → Shared → Prop} (B : Base w g) (H : Ok w g os G l s) (hx : (x, .dom vs dx) ∈ l) (hz : vs.length ≤ 100000)
    (h : ∀ s', Ok w g os G l s' → Q (!vs.isEmpty) s') : wpAny (model P0 w) A (truthy (.ref x)) Q E s := by
  have X := B.X' H
  unfold truthy
  refine wpAny_bind (m := callSpecial? (.ref x) (Str.ofString "__bool__")) (wpAny_bind (wpAny_bind ((dom_ty H hx).here ((looks_findIn X (r := none) (by kernel_rfl)).here (wpAny_pure ?_)))))
  refine wpAny_bind (wpAny_bind ((dom_ty H hx).here ((looks_findIn X (r := some (.builtin "list.__len__")) (by kernel_rfl)).here ?_)))
  simp only [Option.isNone_some, Bool.false_eq_true, if_false]
  have key : wpAny (model P0 w) A (runValue (.builtin "len" ⟨[.ref x], []⟩)) (fun r s' => ∃ t, r = .int vs.length t ∧ Ok w g os G l s') E s := by
    refine wpAny_runValue (codeAny_builtin entry_len ?_)
    rw [Around.under_plainId plain_len _]
    exact wpAny_mono (dom_lenBody (Q := fun r s' => ∃ t, r = .int vs.length t ∧ Ok w g os G l s') B H hx hz (fun t s' H' => ⟨t, rfl, H'⟩))
      (fun fin s' h' => by obtain ⟨r, rfl, hq⟩ := h'; exact hq) fun _ _ e => e
  refine wpAny_bind (wpAny_mono key (fun r s' q => ?_) fun _ _ z => z)
  obtain ⟨t, rfl, H'⟩ := q
  refine wpAny_pure ?_
  have : ((vs.length : Int) != 0) = !vs.isEmpty := by cases vs <;> simp; omega
  rw [this]
  exact h _ H'
theorem slice_all (vs : List Value) : slicePick vs.toArray none none none = vs.toArray := by
  unfold slicePick
  have e : sliceBounds none none none vs.toArray.size = ((0 : Int), (vs.length : Int), 1) := by simp [sliceBounds]
  rw [e]
  have := sliceRange_one 0 vs.length
  rw [show ((0 : Nat) : Int) = 0 from rfl] at this
  rw [this, pick_run]
  simp
theorem getItem_domslice {x dx sl : Addr} {vs : List Value} {Q : Value → Shared → Prop} (B : Base w g) (H : Ok w g os G l s) (hx : (x, .dom vs dx) ∈ l) (hz : vs.length ≤ 100000) (hsl : s.heap.IsSliceOf sl .none .none .none)
    (h : ∀ a s', Ok w g os G ((a, .lst vs) :: l) s' → Q (.ref a) s') : wpAny (model P0 w) A (getItem (.ref x) (.ref sl)) Q E s := by
  obtain ⟨n, hn⟩ := H.get hx
  obtain ⟨os', hs1, hs2, hs3⟩ := hsl
  have hTs : s.TypeIs (.ref sl) "slice" := ⟨os', hs1, hs2⟩
  unfold getItem
  refine wpAny_holding ?_
  have hseq : ∀ {Q : Value → Shared → Prop}, Q (.ref sl) s → wpAny (model P0 w) A (sequenceKey (.ref x) (.ref sl) "__getitem__") Q E s := by
    intro Q q
    unfold sequenceKey
    refine wpAny_bind ((dom_ty H hx).here ?_)
    dsimp only
    simp only [seqItemTypes, List.anyM]
    refine wpAny_bind (wpAny_bind ((looks_subIn (B.X' H) (r := false) (by kernel_rfl)).here ?_))
    exact wpAny_pure (wpAny_pure q)
  refine wpAny_bind (hseq ?_)
  refine wpAny_bind (dom_special B H hx (by kernel_rfl) slot_list_getitem (b_domM B H hx slot_list_getitem entry_list_getitem (by decide +kernel) ⟨"__getitem__", by decide +kernel⟩ (args_list_getitem _ _) ?_))
  show wpAny _ _ (Builtin.List.listSubscript? (.ref sl) >>= _) _ _ s
  refine wpAny_bind ?_
  unfold Builtin.List.listSubscript?
  refine wpAny_bind (wpAny_specialOf hTs slice_no_index ?_)
  simp only [Option.isNone_none, if_true]
  refine wpAny_pure ?_
  show wpAny _ _ (typeOf (.ref sl) >>= _) _ _ s
  refine wpAny_bind (wpAny_typeOf hTs ?_)
  rw [if_neg (by decide)]
  rw [listSliceParts_eq]
  refine wpAny_bind (wpAny_bind (wpAny_field hs1 hs3 (x := .none) rfl (wpAny_bind (wpAny_listPart .none ?_))))
  rw [if_neg (by exact Bool.false_ne_true)]
  refine wpAny_bind (wpAny_field hs1 hs3 (x := .none) rfl (wpAny_bind (wpAny_listPart .none ?_)))
  refine wpAny_bind (wpAny_field hs1 hs3 (x := .none) rfl (wpAny_bind (wpAny_listPart .none (wpAny_pure ?_))))
  refine wpAny_bind (m := Builtin.List.listItems (.ref x)) ?_
  unfold Builtin.List.listItems
  refine wpAny_bind (wpAny_seqItems hn rfl (wpAny_pure ?_))
  refine wpAny_bind (wpAny_of_eq (sliceIndices_raw none none none _ (by decide)) ?_)
  refine wpAny_bind (wpAny_newObj_type (wpAny_pure ⟨_, rfl, wpAny_pure ?_⟩) (Nat.le_trans (slicePick_size_le vs.toArray none none none) (by rw [List.size_toArray, sizeLine_eq]; omega)))
  refine h _ _ (H.push (t := s.toks) (c := .lst vs) ⟨0, ?_⟩)
  refine (Heap.get?_push_size _ rfl).trans ?_
  have e := slice_all vs
  unfold slicePick at e
  rw [e]
def NotPy (w : World) (o : Value) (s : Shared) : Prop := ∀ {A : Around} {E : Value → Shared → Prop} {Q : Bool → Shared → Prop}, Q false s → wpAny (model P0 w) A (getitemInPython o) Q E s
theorem notpy_T {o : Value} {T id : String} (hT : s.TypeIs o T) (hl : typeLookup (.type T) "__getitem__" = pure (some (.builtin id))) : NotPy w o s := by
  intro A E Q q
  unfold getitemInPython
  exact wpAny_bind (wpAny_specialOf hT hl (wpAny_pure q))
theorem notpy_dom {x dx : Addr} {vs : List Value} (B : Base w g) (H : Ok w g os G l s) (hx : (x, .dom vs dx) ∈ l) : NotPy w (.ref x) s := by
  intro A E Q q
  unfold getitemInPython specialOf
  exact wpAny_bind (wpAny_bind ((dom_ty H hx).here ((looks_findIn (B.X' H) (r := some (.builtin "list.__getitem__")) (by kernel_rfl)).here (wpAny_pure q))))
theorem x_sub {env : Env} {value slice : Expr} {pos : Pos} {Q : Value → Shared → Prop}
    (h : wpAny (model P0 w) A (eval value env) (fun o s₁ => wpAny (model P0 w) A (eval slice env) (fun i s₂ => NotPy w o s₂ ∧ wpAny (model P0 w) A (getItem o i) Q E s₂) E s₁) E s)
    (hs : ∀ o i, ∃ ops, subscripted slice false o i = operate ops (getItem o i)) : wpAny (model P0 w) A (eval (.Subscript value slice pos) env) Q E s := by
  refine Subscript_ (wpAny_mono h (fun o s₁ h₁ => wpAny_mono h₁ (fun i s₂ h₂ => ?_) fun _ _ x => x) fun _ _ x => x)
  obtain ⟨hn, hg⟩ := h₂
  unfold subscriptTail
  refine wpAny_bind (hn ?_)
  obtain ⟨ops, e⟩ := hs o i
  refine wpAny_bind ?_
  rw [e]
  exact wpAny_operating (wpAny_mono hg (fun r s₃ h₃ => wpAny_bind (wpAny_letTemporaryGo (wpAny_pure h₃))) fun _ _ x => x)
end
end Mine
end
section
open PySem PySem.W PySem.Calls PyProof.Rows PySem.W.X
set_option Elab.async false
set_option maxRecDepth 100000
set_option maxHeartbeats 8000000
set_option linter.unusedVariables false
namespace Mine
local macro_rules | `(tactic| walk_at "mem") => `(tactic| first | assumption | exact List.Mem.head _ | (refine' List.Mem.tail _ ?_; walk_at "mem") | (refine' List.mem_append_right _ ?_; walk_at "mem") | (refine' List.mem_append_left _ ?_; walk_at "mem") | exact Zip.at' (by assumption) | exact Zip.keep (by assumption) (by walk_at "mem") (by intro e; cases e))
local macro_rules | `(tactic| walk_at "zip") => `(tactic| first | assumption | exact Zip.head | exact Zip.tail (by walk_at "zip") | exact Zip.again (by assumption))
local macro_rules | `(tactic| walk_at "kv") => `(tactic| first | with_reducible_and_instances exact List.Mem.head _ | (refine' List.Mem.tail _ ?_; walk_at "kv") | assumption)
local macro_rules | `(tactic| walk_at "put") => `(tactic| first | with_reducible exact Put.head | exact Put.tail (by walk_at "put"))
local macro_rules | `(tactic| walk_at "putd") => `(tactic| first | with_reducible exact PutD.head | with_reducible exact PutD.nil | exact PutD.tail (by decide) (by walk_at "putd"))
local macro_rules | `(tactic| walk_at "nm") => `(tactic| first
  | (refine e_local (by assumption) (by walk_at "mem") (by walk_at "kv") ?_)
  | (refine e_cell (by assumption) (by rfl) (by walk_at "mem") ?_)
  | (refine e_free (by assumption) (by rfl) (by walk_at "mem") ?_))
local macro_rules | `(tactic| walk_at "gl") => `(tactic| refine e_global (by assumption) (by assumption) (by first | with_reducible exact gl_Problem _ | with_reducible exact gl_BacktrackingSolver _ | with_reducible exact gl_Domain _ | with_reducible exact gl_Constraint _ | with_reducible exact gl_FunctionConstraint _ | with_reducible exact gl_law_yes _ | with_reducible exact gl_law_rule _ | with_reducible exact gl_law_due _) ?_)
local macro_rules | `(tactic| walk_at "bi") => `(tactic| refine e_builtin (by assumption) (by assumption) (by first | with_reducible exact bn_isinstance _ | with_reducible exact bn_callable _ | with_reducible exact bn_list _ | with_reducible exact bn_tuple _ | with_reducible exact bn_len _ | with_reducible exact bn_range _ | with_reducible exact bn_next _ | with_reducible exact bn_dict _ | with_reducible exact bn_sorted _ | with_reducible exact bn_iter _) (by first | with_reducible exact bb_isinstance | with_reducible exact bb_callable | with_reducible exact bb_list | with_reducible exact bb_tuple | with_reducible exact bb_len | with_reducible exact bb_range | with_reducible exact bb_next | with_reducible exact bb_dict | with_reducible exact bb_sorted | with_reducible exact bb_iter) ?_)
local macro_rules | `(tactic| walk_at "ns") => `(tactic| (show (_ : List Str).Nodup; dsimp only [List.map, List.nil_append, List.cons_append, List.append_nil]; decide +kernel))
local macro_rules | `(tactic| walk_at "lt") => `(tactic| (show _ < 1000; omega))
local macro_rules | `(tactic| x_close) => `(tactic| exact xq_of (by first | assumption | exact Mem.start _) (by first | rfl | assumption))
local macro_rules | `(tactic| walk_at "ga") => `(tactic| refine i_get (by assumption) (by assumption) (by walk_at "mem") (by exact rfl) (by walk_at "mem") (by first | exact cls110 _ | exact cls186 _ | exact cls336 _) (by kernel_rfl) (by walk_at "kv") (by exact rfl) ?_)
local macro_rules | `(tactic| walk_at "sa") => `(tactic| refine i_set (by assumption) (by assumption) (by walk_at "mem") (by walk_at "zip") (by first | exact cls110 _ | exact cls186 _ | exact cls336 _) (by kernel_rfl) (by kernel_rfl) (by walk_at "putd") (Nat.le_of_ble_eq_true rfl) ?_)
local macro_rules | `(tactic| walk_at "st") => `(tactic| refine e_store (by assumption) (by walk_at "zip") (by walk_at "put") ?_)
section
variable {w : World} {g : Heap} {os : OsState} {G : Array GenState} {l l' : Led} {s : Shared} {a : Addr} {c c' : Cell} {f : Cell → Led} {A : Around} {E : Value → Shared → Prop}
theorem ty_list : typeOf (.type "list") = pure (.type "type") := by kernel_rfl
theorem stub_list : Manifest.isStub "list" = false := by decide +kernel
theorem fc_list (w : World) : findCls (Kf w) (.type "list") (.type "type") "__init__" = some (.val (.builtin "list.__init__")) := by kernel_rfl
theorem x_isinst (w : World) (h : Heap) (gg : Array GenState) (d : Drawn) (t : Nat) (os : OsState) (X : (Mine.hd.heap_39 w.params).In h) (D tp : Addr) (vs : Array Value) (n k : Nat) (hD : h.get? D = some ⟨.type "list", none, .seq vs n, #[]⟩) (hT : h.get? tp = some ⟨.type "tuple", none, .seq #[.type "list", .type "tuple"] k, #[]⟩) :
    wpAny (model P0 w) (AR 900 9000) (call (.builtin "isinstance") [.ref D, .ref tp]) (XQ h gg os (.bool true)) (fun _ _ => False) ⟨h, gg, d, t, os⟩ := by
  x_run
theorem e_isseq {d u : Nat} {D tp : Addr} {vs : List Value} {Q : Value → Shared → Prop} (B : Base w g) (H : Ok w g os G l s) (hD : (D, .lst vs) ∈ l) (ht : (tp, .tup [.type "list", .type "tuple"]) ∈ l) (hd : d ≤ 900) (hu : u ≤ 9000) (h : ∀ s', Ok w g os G l s' → Q (.bool true) s') :
    wpAny (model P0 w) (AR d u) (call (.builtin "isinstance") [.ref D, .ref tp]) Q E s := by
  obtain ⟨n, hn⟩ := H.get hD
  obtain ⟨k, hk⟩ := H.get ht
  exact of_XQ H (x_isinst w _ _ _ _ _ (B.X' H) D tp _ n k hn hk) hd hu h
/-! ## Domain.__init__ -/
theorem spec_dominit {d u : Nat} {x dx it : Addr} {vs : List Value} {R : Result → Shared → Prop} (B : Base w g) (H : Ok w g os G ((x, .dom [] dx) :: (dx, .sd []) :: l) s) (hit : (it, .lst vs) ∈ l) (hz : vs.length ≤ 1000) (hd : d ≤ 900)
    (h : ∀ hi st s', Ok w g os G ((st, .lst []) :: (hi, .lst []) :: (x, .dom vs dx) :: (dx, .sd [("_hidden", .ref hi), ("_states", .ref st)]) :: l) s' → R (.ok (.ret .none)) s') :
    codeAny (model P0 w) (AR d u) (.call (.ref 233) ⟨[.ref x, .ref it], []⟩) R s := by
  refine call_fn (binds := [("self", .ref x), ("values", .ref it)]) (rest := []) B H rfl (by kernel_rfl) rfl (BindsTo.of_eq rfl) (by decide) (locs rfl) (by walk_at "ns") (by walk_at "lt") (fun L s₁ H₁ => ?_)
  dsimp only [List.map, List.append, List.nil_append, List.cons_append, List.append_nil] at H₁
  refine wpAny_execs_cons (wpAny_Expr_any (MethodCall_ ?_))
  walk_at "bi"
  refine e_getm_type (T := "list") (name := "__init__") (v := .builtin "list.__init__") B H₁ ty_list stub_list (fc_list w) (by kernel_rfl) (fun s₂ H₂ => ?_)
  refine c_bi (args_cons ?_)
  walk_at "nm"
  refine args_cons ?_
  walk_at "nm"
  refine args_nil (b_linit B H₂ (by walk_at "zip") (.tail _ (.tail _ (.tail _ hit))) hz (fun s₃ H₃ => ?_))
  refine wpAny_execs_cons (plainObj_wpAny_Assign_Attribute (List_ (args_nil (e_newList H₃ (fun hi s₄ H₄ => ?_) (by decide)))))
  walk_at "nm"
  refine dom_set B H₄ (by walk_at "mem") (by walk_at "zip") (by kernel_rfl) (by walk_at "putd") (Nat.le_of_ble_eq_true rfl) (fun s₅ H₅ => ?_)
  refine wpAny_execs_cons (plainObj_wpAny_Assign_Attribute (List_ (args_nil (e_newList H₅ (fun st s₆ H₆ => ?_) (by decide)))))
  walk_at "nm"
  refine dom_set B H₆ (by walk_at "mem") (by walk_at "zip") (by kernel_rfl) (by walk_at "putd") (Nat.le_of_ble_eq_true rfl) (fun s₇ H₇ => ?_)
  refine wpAny_execs_nil ?_
  exact h hi st _ (H₇.sub (by simp))
/-! ## Problem.addVariable -/
theorem spec_addVariable {d u : Nat} {x dx C V S it : Addr} {nm : Str} {tk : Tok} {vs : List Value} {kvs : List (Str × Value)} {R : Result → Shared → Prop} (B : Base w g) (H : Ok w g os G l s) (hx : (x, .ob (instObj 110 dx)) ∈ l)
    (hdx : (dx, .sd [("_solver", .ref S), ("_constraints", .ref C), ("_variables", .ref V)]) ∈ l) (z : Zip l V (.sd kvs) f) (hz : kvs.length ≤ 1000) (hn : valueAt kvs nm = none) (hit : (it, .lst vs) ∈ l) (hv : vs.length ≤ 1000) (hv0 : vs.isEmpty = false) (hd : d ≤ 800) (hu : u ≤ 8000)
    (h : ∀ D dD hi st s', Ok w g os G ((st, .lst []) :: (hi, .lst []) :: (D, .dom vs dD) :: (dD, .sd [("_hidden", .ref hi), ("_states", .ref st)]) :: f (.sd (stored kvs nm (.ref D)))) s' → R (.ok (.ret .none)) s') :
    codeAny (model P0 w) (AR d u) (.call (.ref 64) ⟨[.ref x, .str nm tk, .ref it], []⟩) R s := by
  refine call_fn (binds := [("self", .ref x), ("variable", .str nm tk), ("domain", .ref it)]) (rest := ["msg"]) B H rfl (by kernel_rfl) rfl (BindsTo.of_eq rfl) (by decide) (locs rfl) (by walk_at "ns") (by walk_at "lt") (fun L s₁ H₁ => ?_)
  dsimp only [List.map, List.append, List.nil_append, List.cons_append, List.append_nil] at H₁
  refine wpAny_execs_cons (wpAny_If (wpAny_isTrue_Compare1 ?_))
  walk_at "nm"
  refine Attribute_name ?_
  walk_at "nm"
  walk_at "ga"
  intro s₂ H₂
  refine d_in H₂ (by have := z.mem; walk_at "mem") (fun s₃ H₃ => ?_)
  rw [hn]
  refine wpAny_truthy_bool ?_
  refine ite_neg (by decide) ?_
  refine wpAny_execs_nil ?_
  refine wpAny_execs_cons (wpAny_If (isTrue_plain (Call_ ?_)))
  walk_at "bi"
  refine c_bi (args_cons ?_)
  walk_at "nm"
  refine args_cons (Tuple_ (args_cons ?_))
  walk_at "bi"
  refine args_cons ?_
  walk_at "bi"
  refine args_nil (e_newTuple H₃ (fun tp s₄ H₄ => ?_) (by rw [sizeLine_eq]; exact Nat.le_of_ble_eq_true rfl))
  refine args_nil (e_isseq B H₄ (by walk_at "mem") (by walk_at "mem") (by omega) (by omega) (fun s₅ H₅ => ?_))
  refine wpAny_truthy_bool ?_
  refine ite_pos rfl ?_
  refine wpAny_execs_cons (wpAny_Assign_Name (Call_ ?_))
  walk_at "gl"
  refine c_fn B (by kernel_rfl) (args_cons ?_)
  walk_at "nm"
  refine args_nil ⟨⟨_, _, _, H₅⟩, wpAny_call (e_makeL B H₅ (fun D dD s₆ H₆ => ?_))⟩
  refine spec_dominit B H₆ (by walk_at "mem") hv (by omega) (fun hi st s₇ H₇ => ⟨rfl, ?_⟩)
  refine e_store H₇ (by walk_at "zip") (by walk_at "put") (fun s₈ H₈ => ?_)
  refine wpAny_execs_nil ?_
  refine wpAny_execs_cons (wpAny_If (wpAny_isTrue_Not (isTrue_plain ?_)))
  walk_at "nm"
  refine dom_truthy B H₈ (by walk_at "mem") (by omega) (fun s₉ H₉ => ?_)
  rw [hv0]
  refine ite_neg (by decide) ?_
  refine wpAny_execs_nil ?_
  refine wpAny_execs_cons (wpAny_Assign_Subscript ?_)
  walk_at "nm"
  refine Attribute_name ?_
  walk_at "nm"
  walk_at "ga"
  intro s₁₀ H₁₀
  walk_at "nm"
  refine d_set H₁₀ (by walk_at "zip") (by omega) (fun s₁₁ H₁₁ => ?_)
  refine wpAny_execs_nil ?_
  exact h D dD hi st _ (H₁₁.sub (by simp))
end
end Mine
end
section
open PySem PySem.W PySem.Calls PyProof.Rows PySem.W.X
set_option Elab.async false
set_option maxRecDepth 100000
set_option maxHeartbeats 8000000
set_option linter.unusedVariables false
namespace Mine
local macro_rules | `(tactic| walk_at "mem") => `(tactic| first | assumption | exact List.Mem.head _ | (refine' List.Mem.tail _ ?_; walk_at "mem") | (refine' List.mem_append_right _ ?_; walk_at "mem") | (refine' List.mem_append_left _ ?_; walk_at "mem") | exact Zip.at' (by assumption) | exact Zip.keep (by assumption) (by walk_at "mem") (by intro e; cases e))
local macro_rules | `(tactic| walk_at "zip") => `(tactic| first | assumption | exact Zip.head | exact Zip.tail (by walk_at "zip") | exact Zip.again (by assumption))
local macro_rules | `(tactic| walk_at "kv") => `(tactic| first | with_reducible_and_instances exact List.Mem.head _ | (refine' List.Mem.tail _ ?_; walk_at "kv") | assumption)
local macro_rules | `(tactic| walk_at "put") => `(tactic| first | with_reducible exact Put.head | exact Put.tail (by walk_at "put"))
local macro_rules | `(tactic| walk_at "putd") => `(tactic| first | with_reducible exact PutD.head | with_reducible exact PutD.nil | exact PutD.tail (by decide) (by walk_at "putd"))
local macro_rules | `(tactic| walk_at "nm") => `(tactic| first
  | (refine e_local (by assumption) (by walk_at "mem") (by walk_at "kv") ?_)
  | (refine e_cell (by assumption) (by rfl) (by walk_at "mem") ?_)
  | (refine e_free (by assumption) (by rfl) (by walk_at "mem") ?_))
local macro_rules | `(tactic| walk_at "gl") => `(tactic| refine e_global (by assumption) (by assumption) (by first | with_reducible exact gl_Problem _ | with_reducible exact gl_BacktrackingSolver _ | with_reducible exact gl_Domain _ | with_reducible exact gl_Constraint _ | with_reducible exact gl_FunctionConstraint _ | with_reducible exact gl_law_yes _ | with_reducible exact gl_law_rule _ | with_reducible exact gl_law_due _) ?_)
local macro_rules | `(tactic| walk_at "bi") => `(tactic| refine e_builtin (by assumption) (by assumption) (by first | with_reducible exact bn_isinstance _ | with_reducible exact bn_callable _ | with_reducible exact bn_list _ | with_reducible exact bn_tuple _ | with_reducible exact bn_len _ | with_reducible exact bn_range _ | with_reducible exact bn_next _ | with_reducible exact bn_dict _ | with_reducible exact bn_sorted _ | with_reducible exact bn_iter _) (by first | with_reducible exact bb_isinstance | with_reducible exact bb_callable | with_reducible exact bb_list | with_reducible exact bb_tuple | with_reducible exact bb_len | with_reducible exact bb_range | with_reducible exact bb_next | with_reducible exact bb_dict | with_reducible exact bb_sorted | with_reducible exact bb_iter) ?_)
local macro_rules | `(tactic| walk_at "ns") => `(tactic| (show (_ : List Str).Nodup; dsimp only [List.map, List.nil_append, List.cons_append, List.append_nil]; decide +kernel))
local macro_rules | `(tactic| walk_at "lt") => `(tactic| (show _ < 1000; omega))
local macro_rules | `(tactic| x_close) => `(tactic| exact xq_of (by first | assumption | exact Mem.start _) (by first | rfl | assumption))
local macro_rules | `(tactic| walk_at "ga") => `(tactic| refine i_get (by assumption) (by assumption) (by walk_at "mem") (by exact rfl) (by walk_at "mem") (by first | exact cls110 _ | exact cls186 _ | exact cls336 _) (by kernel_rfl) (by walk_at "kv") (by exact rfl) ?_)
local macro_rules | `(tactic| walk_at "sa") => `(tactic| refine i_set (by assumption) (by assumption) (by walk_at "mem") (by walk_at "zip") (by first | exact cls110 _ | exact cls186 _ | exact cls336 _) (by kernel_rfl) (by kernel_rfl) (by walk_at "putd") (Nat.le_of_ble_eq_true rfl) ?_)
local macro_rules | `(tactic| walk_at "st") => `(tactic| refine e_store (by assumption) (by walk_at "zip") (by walk_at "put") ?_)
section
variable {w : World} {g : Heap} {os : OsState} {G : Array GenState} {l l' : Led} {s : Shared} {a : Addr} {c c' : Cell} {f : Cell → Led} {A : Around} {E : Value → Shared → Prop}
/-! ## methods of a Domain -/
theorem dom_meth {x dx : Addr} {vs : List Value} {kvs : List (Str × Value)} {name : Str} {f T : Value} {pl : Sem Bool} {Q : Value × List Value → Shared → Prop} (B : Base w g) (H : Ok w g os G l s) (hx : (x, .dom vs dx) ∈ l) (hd : (dx, .sd kvs) ∈ l)
    (hf : findIn (Kf w) (.ref 264) name = some (some f)) (ht : typeIn (Kf w) f = some T) (hT : (T != .type "function" && T != .type "method_descriptor" && T != .type "wrapper_descriptor") = false) (hn : kvs.lookup name = none) (h : Q (f, [.ref x]) s) :
    wpAny (model P0 w) A (getMethod (.ref x) name pl) Q E s := by
  obtain ⟨ox, es, n, I, hox, hdx, sd, nd⟩ := inst_at H hx (C := 264) (dx := dx) ⟨rfl, rfl⟩ hd
  have X := B.X' H
  unfold getMethod specialOf
  refine wpAny_bind (wpAny_bind (I.type.here ((looks_findIn X (dom_ga w)).here ?_)))
  dsimp only
  rw [canon_list_getattribute, if_neg (by decide)]
  refine wpAny_bind (wpAny_bind (I.type.here ((looks_findIn X (dom_gn w)).here ?_)))
  refine wpAny_bind (wpAny_bind (I.type.here ((looks_findIn X hf).here (wpAny_bind ((looks_typeIn X ht).here ?_)))))
  rw [hT, if_neg (by decide)]
  refine wpAny_bind (wpAny_loadPart I.at_ ?_)
  rw [hox]
  refine wpAny_bind (wpAny_bind (wpAny_loadPart hdx ?_))
  rw [nsLook_of (show lookIn name (dctO es n) = some none by rw [lookIn_dict, sd.getL, hn])]
  refine wpAny_pure ?_
  exact wpAny_bind (wpAny_rule (wpAny_pure h))
theorem m_dom {env : Env} {o : Expr} {name : Str} {apos pos : Pos} {e : Expr} {rest : List Expr} {id : String} {pl : Sem Bool} {Q : Value → Shared → Prop}
    (hf : findIn (Kf w) (.ref 264) name = some (some (.builtin id))) (ht : typeIn (Kf w) (.builtin id) = some (.type "method_descriptor"))
    (h : wpAny (model P0 w) A (eval o env) (fun ov s₁ => ∃ g₁ os₁ G₁ l₁ a vs dx kvs, Base w g₁ ∧ Ok w g₁ os₁ G₁ l₁ s₁ ∧ ov = .ref a ∧ (a, .dom vs dx) ∈ l₁ ∧ (dx, .sd kvs) ∈ l₁ ∧ kvs.lookup name = none ∧
      wpAny (model P0 w) A (spliced (backTo pos (starEach (e :: rest) env))) (fun vs s₂ => wpAny (model P0 w) A (call (.builtin id) (.ref a :: vs)) Q E s₂) E s₁) E s)
    (hs : starEach (e :: rest) env = (false, eval e env) :: starEach rest env := by rfl) (hplain : (backTo pos (starEach rest env)).any (·.1) = false := by rfl)
    (he : eval (.Call (.Attribute o name apos) (e :: rest) [] pos) env = (do
      let ov ← eval o env
      standAt apos.atName
      let (f, first) ← holding [ov] (getMethod ov name pl)
      callWith pos f first (backTo pos (starEach (e :: rest) env)) []) := by rfl) :
    wpAny (model P0 w) A (eval (.Call (.Attribute o name apos) (e :: rest) [] pos) env) Q E s := by
  refine MethodCall_ (wpAny_mono h (fun ov s₁ q => ?_) fun _ _ x => x) he
  obtain ⟨g₁, os₁, G₁, l₁, a, vs, dx, kvs, B₁, H₁, rfl, hm, hd, hl, q⟩ := q
  refine dom_meth B₁ H₁ hm hd hf ht (by decide +kernel) hl ?_
  rw [hs] at q ⊢
  refine callWith_builtin (by show (false || (backTo pos (starEach rest env)).any (·.1)) = false; rw [hplain]; rfl) (evalArgs_plain q)
theorem Zip.same (z : Zip l a c f) : f c = l := by
  obtain ⟨l1, l2, rfl, q⟩ := z.split
  exact q c
/-- extended by nothing -/
theorem b_domext0 {x dx it : Addr} {vs : List Value} {Q : Value → Shared → Prop} (B : Base w g) (H : Ok w g os G l s) (hx : (x, .dom vs dx) ∈ l) (hit : (it, .lst []) ∈ l) (hz : vs.length ≤ 1000)
    (h : ∀ s', Ok w g os G l s' → Q .none s') : wpAny (model P0 w) A (call (.builtin "list.extend") [.ref x, .ref it]) Q E s := by
  obtain ⟨n, hn⟩ := H.get hx
  obtain ⟨k, hk⟩ := H.get hit
  obtain ⟨f, z⟩ := zip_of_mem hx
  have hne : it ≠ x := fun e => by rw [e, hn] at hk; cases hk
  refine b_domM B H hx F.slot_list_extend F.entry_list_extend (by decide +kernel) ⟨"extend", by decide +kernel⟩ (F.args_list_extend_2 _ _) ?_
  show wpAny _ A.in1 (Builtin.List.listExtendWith (.ref x) (.ref it) .none) _ _ s
  unfold Builtin.List.listExtendWith
  refine wpAny_bind (wpAny_typeOf ⟨_, hk, rfl⟩ ?_)
  simp only [show (Builtin.List.listSameRef (.ref x) (.ref it) || Value.type "list" == Value.type "list" || Value.type "list" == Value.type "tuple") = true from by simp, if_true]
  refine wpAny_bind ?_
  unfold Builtin.List.listItems
  refine wpAny_bind (wpAny_seqItems hk rfl (wpAny_pure ?_))
  refine wpAny_bind ?_
  refine wpAny_bind (wpAny_seqItems hn rfl (wpAny_pure ?_))
  have fin : wpAny (model P0 w) A.in1 (Builtin.List.listUpdate (.ref x) (· ++ (List.toArray [])) >>= fun _ => ret .none) (fun fin s' => ∃ v, fin = .done (.ret v) ∧ Q v s') E s := by
    refine wpAny_bind (wpAny_updateSeq hn rfl ?_ (by rw [List.size_toArray, sizeLine_eq]; omega) (by rw [sizeLine_eq]; simp; omega))
    have hS3 := Heap.get?_update_self (Obj.mapSeq (· ++ (List.toArray []))) hn rfl
    refine wpAny_pure ⟨_, rfl, h _ ?_⟩
    rw [← z.same]
    refine H.set (t := s.toks) (c' := .dom vs dx) z (Heap.SameBut.update ..) ?_
    show ∃ m, _ = some (domO vs m dx)
    exact ⟨_, hS3.trans (by simp [Obj.mapSeq]; rfl)⟩
  split
  · rename_i q
    simp only [Builtin.List.listTooLong, Bool.and_eq_true] at q
    exact absurd q.2 (by rw [sizeLine_eq]; simp; omega)
  · exact fin
/-! ## Domain.resetState: nothing hidden, nothing kept -/
theorem spec_resetState {d u : Nat} {x dx hi st : Addr} {vs : List Value} {R : Result → Shared → Prop} (B : Base w g) (H : Ok w g os G l s) (hx : (x, .dom vs dx) ∈ l) (hdx : (dx, .sd [("_hidden", .ref hi), ("_states", .ref st)]) ∈ l)
    (hhi : (hi, .lst []) ∈ l) (hst : (st, .lst []) ∈ l) (hz : vs.length ≤ 1000) (hd : d ≤ 900)
    (h : ∀ s', Ok w g os G l s' → R (.ok (.ret .none)) s') : codeAny (model P0 w) (AR d u) (.call (.ref 240) ⟨[.ref x], []⟩) R s := by
  refine call_fn (binds := [("self", .ref x)]) (rest := []) B H rfl (by kernel_rfl) rfl (BindsTo.of_eq rfl) (by decide) (locs rfl) (by walk_at "ns") (by walk_at "lt") (fun L s₁ H₁ => ?_)
  dsimp only [List.map, List.append, List.nil_append, List.cons_append, List.append_nil] at H₁
  refine wpAny_execs_cons (wpAny_Expr_any (m_dom (id := "list.extend") (by kernel_rfl) (by kernel_rfl) ?_))
  walk_at "nm"
  refine ⟨_, _, _, _, _, _, _, _, B, H₁, rfl, .tail _ hx, .tail _ hdx, by rfl, args_cons (Attribute_name ?_)⟩
  walk_at "nm"
  refine dom_get B H₁ (.tail _ hx) (.tail _ hdx) (by kernel_rfl) (by walk_at "mem") (by rfl) (fun s₂ H₂ => ?_)
  refine args_nil (b_domext0 B H₂ (.tail _ hx) (.tail _ hhi) hz (fun s₃ H₃ => ?_))
  refine wpAny_execs_cons (x_delall (g := g) (os := os) (Attribute_name ?_))
  walk_at "nm"
  refine dom_get B H₃ (.tail _ hx) (.tail _ hdx) (by kernel_rfl) (by walk_at "mem") (by rfl) (fun s₄ H₄ => ?_)
  obtain ⟨f1, z1⟩ := zip_of_mem (.tail (L, _) hhi)
  refine ⟨_, _, _, _, _, H₄, rfl, z1, Nat.zero_le _, fun s₅ H₅ => ?_⟩
  rw [z1.same] at H₅
  refine wpAny_execs_cons (x_delall (g := g) (os := os) (Attribute_name ?_))
  walk_at "nm"
  refine dom_get B H₅ (.tail _ hx) (.tail _ hdx) (by kernel_rfl) (by walk_at "mem") (by rfl) (fun s₆ H₆ => ?_)
  obtain ⟨f2, z2⟩ := zip_of_mem (.tail (L, _) hst)
  refine ⟨_, _, _, _, _, H₆, rfl, z2, Nat.zero_le _, fun s₇ H₇ => ?_⟩
  rw [z2.same] at H₇
  exact wpAny_execs_nil (h _ H₇.tail)
end
end Mine
end
section
open PySem PySem.W PySem.Calls PyProof.Rows PySem.W.X
set_option Elab.async false
set_option maxRecDepth 100000
set_option maxHeartbeats 8000000
set_option linter.unusedVariables false
namespace Mine
local macro_rules | `(tactic| walk_at "mem") => `(tactic| first | assumption | exact List.Mem.head _ | (refine' List.Mem.tail _ ?_; walk_at "mem") | (refine' List.mem_append_right _ ?_; walk_at "mem") | (refine' List.mem_append_left _ ?_; walk_at "mem") | exact Zip.at' (by assumption) | exact Zip.keep (by assumption) (by walk_at "mem") (by intro e; cases e))
local macro_rules | `(tactic| walk_at "zip") => `(tactic| first | assumption | exact Zip.head | exact Zip.tail (by walk_at "zip") | exact Zip.again (by assumption))
local macro_rules | `(tactic| walk_at "kv") => `(tactic| first | with_reducible_and_instances exact List.Mem.head _ | (refine' List.Mem.tail _ ?_; walk_at "kv") | assumption)
local macro_rules | `(tactic| walk_at "put") => `(tactic| first | with_reducible exact Put.head | exact Put.tail (by walk_at "put"))
local macro_rules | `(tactic| walk_at "putd") => `(tactic| first | with_reducible exact PutD.head | with_reducible exact PutD.nil | exact PutD.tail (by decide) (by walk_at "putd"))
local macro_rules | `(tactic| walk_at "nm") => `(tactic| first
  | (refine e_local (by assumption) (by walk_at "mem") (by walk_at "kv") ?_)
  | (refine e_cell (by assumption) (by rfl) (by walk_at "mem") ?_)
  | (refine e_free (by assumption) (by rfl) (by walk_at "mem") ?_))
local macro_rules | `(tactic| walk_at "gl") => `(tactic| refine e_global (by assumption) (by assumption) (by first | with_reducible exact gl_Problem _ | with_reducible exact gl_BacktrackingSolver _ | with_reducible exact gl_Domain _ | with_reducible exact gl_Constraint _ | with_reducible exact gl_FunctionConstraint _ | with_reducible exact gl_law_yes _ | with_reducible exact gl_law_rule _ | with_reducible exact gl_law_due _) ?_)
local macro_rules | `(tactic| walk_at "bi") => `(tactic| refine e_builtin (by assumption) (by assumption) (by first | with_reducible exact bn_isinstance _ | with_reducible exact bn_callable _ | with_reducible exact bn_list _ | with_reducible exact bn_tuple _ | with_reducible exact bn_len _ | with_reducible exact bn_range _ | with_reducible exact bn_next _ | with_reducible exact bn_dict _ | with_reducible exact bn_sorted _ | with_reducible exact bn_iter _) (by first | with_reducible exact bb_isinstance | with_reducible exact bb_callable | with_reducible exact bb_list | with_reducible exact bb_tuple | with_reducible exact bb_len | with_reducible exact bb_range | with_reducible exact bb_next | with_reducible exact bb_dict | with_reducible exact bb_sorted | with_reducible exact bb_iter) ?_)
local macro_rules | `(tactic| walk_at "ns") => `(tactic| (show (_ : List Str).Nodup; dsimp only [List.map, List.nil_append, List.cons_append, List.append_nil]; decide +kernel))
local macro_rules | `(tactic| walk_at "lt") => `(tactic| (show _ < 1000; omega))
local macro_rules | `(tactic| x_close) => `(tactic| exact xq_of (by first | assumption | exact Mem.start _) (by first | rfl | assumption))
local macro_rules | `(tactic| walk_at "ga") => `(tactic| refine i_get (by assumption) (by assumption) (by walk_at "mem") (by exact rfl) (by walk_at "mem") (by first | exact cls110 _ | exact cls186 _ | exact cls336 _) (by kernel_rfl) (by walk_at "kv") (by exact rfl) ?_)
local macro_rules | `(tactic| walk_at "sa") => `(tactic| refine i_set (by assumption) (by assumption) (by walk_at "mem") (by walk_at "zip") (by first | exact cls110 _ | exact cls186 _ | exact cls336 _) (by kernel_rfl) (by kernel_rfl) (by walk_at "putd") (Nat.le_of_ble_eq_true rfl) ?_)
local macro_rules | `(tactic| walk_at "st") => `(tactic| refine e_store (by assumption) (by walk_at "zip") (by walk_at "put") ?_)
section
variable {w : World} {g : Heap} {os : OsState} {G : Array GenState} {l l' : Led} {s : Shared} {a : Addr} {c c' : Cell} {f : Cell → Led} {A : Around} {E : Value → Shared → Prop}
/-! ## calls of functions with cells -/
theorem lookup_zip {cs : List (Str × Addr)} {cn : List (Str × Option Value)} (he : cs.map (·.1) = cn.map (·.1)) (nd : (cn.map (·.1)).Nodup) {p : (Str × Addr) × (Str × Option Value)} (hp : p ∈ cs.zip cn) : cs.lookup p.1.1 = some p.1.2 ∧ p.2 ∈ cn ∧ p.1.1 = p.2.1 ∧ p.1 ∈ cs := by
  induction cs generalizing cn with
  | nil => cases hp
  | cons c cs ih =>
    cases cn with
    | nil => cases he
    | cons q cn =>
      simp only [List.map_cons, List.cons.injEq] at he
      rw [List.map_cons, List.nodup_cons] at nd
      rw [List.zip_cons_cons] at hp
      obtain ⟨ck, ca⟩ := c
      rcases List.mem_cons.mp hp with rfl | hp
      · exact ⟨by simp, .head _, he.1, .head _⟩
      · obtain ⟨a, b, e, d⟩ := ih he.2 nd.2 hp
        refine ⟨?_, .tail _ b, e, .tail _ d⟩
        have : (p.1.1 == ck) = false := by
          have hne : p.1.1 ≠ ck := by
            intro e'
            apply nd.1
            rw [← show ck = q.1 from he.1, ← e', e]
            exact List.mem_map_of_mem b
          simpa using hne
        rw [List.lookup_cons, this]; exact a
abbrev cellsLed (cs : List (Str × Addr)) (cn : List (Str × Option Value)) : Led := (cs.zip cn).map fun p => (p.1.2, .cl p.2.2)
theorem cellsLed_nd {cs : List (Str × Addr)} {cn : List (Str × Option Value)} (hap : cs.Pairwise fun x y => x.2 ≠ y.2) : ((cellsLed cs cn).map (·.1)).Nodup := by
  induction cs generalizing cn with
  | nil => simp
  | cons c cs ih =>
    cases cn with
    | nil => simp
    | cons q cn =>
      rw [List.pairwise_cons] at hap
      show (((c.2, Cell.cl q.2) :: cellsLed cs cn : Led).map (·.1)).Nodup
      rw [List.map_cons, List.nodup_cons]
      refine ⟨fun hm => ?_, ih hap.2⟩
      obtain ⟨p, hp, e⟩ := List.mem_map.mp hm
      obtain ⟨r, hr, rfl⟩ := List.mem_map.mp hp
      exact hap.1 r.1 (List.of_mem_zip hr).1 e.symm
theorem e_envC {M : Model} {scope : Scope} {globals : Addr} {binds : List (Str × Value)} {qual : Str} {func : Option Addr} {code : Value} {builtins : Addr} {kvs cn : List (Str × Option Value)} {Q : Env → Shared → Prop} (H : Ok w g os G l s)
    (hkind : ∀ x ∈ binds, scope.names.lookup x.1 = some .local ∨ (scope.names.lookup x.1 = some .cell ∧ (cn.lookup x.1).isSome = true))
    (hcn : ∀ n, (cellsFrom n scope.names []).map (·.1) = cn.map (·.1)) (hndc : (cn.map (·.1)).Nodup)
    (hL : ∀ x, bindL (fun y => scope.names.lookup y) binds (fun _ => none) x = (kvs.lookup x).join) (hnd : (kvs.map (·.1)).Nodup)
    (hC : ∀ p ∈ cn, bindC (fun y => scope.names.lookup y) binds (fun _ => none) p.1 = p.2)
    (h : ∀ L cs s', cs.map (·.1) = cn.map (·.1) → (∀ b o, s.heap.get? b = some o → s'.heap.get? b = some o) → Ok w g os G ((L, .ns kvs) :: (cellsLed cs cn ++ l)) s' → Q (newEnv scope L globals cs qual func code none builtins) s') (hk : scope.kind = .function := by rfl) :
    wpAny M A (newFunctionEnv scope globals [] binds qual func code none builtins) Q E s := by
  refine wpAny_newFunctionEnv_cells hk (fun x hx => ?_) (fun env he s' X => ?_)
  · rcases hkind x hx with q | ⟨q, r⟩
    · exact .inl q
    · refine .inr ⟨q, ?_⟩
      have hn := hcn (s.heap.objs.size + 1)
      obtain ⟨v, hv⟩ := Option.isSome_iff_exists.mp r
      have hm : x.1 ∈ cn.map (·.1) := List.mem_map_of_mem (f := (·.1)) (mem_of_look hv)
      rw [← hn] at hm
      obtain ⟨p, hp, e⟩ := List.mem_map.mp hm
      cases q : (cellsFrom (s.heap.objs.size + 1) scope.names []).lookup x.1 with
      | some v => rfl
      | none =>
        rw [List.lookup_eq_none_iff] at q
        have := q p hp
        rw [← e] at this
        simp at this
  · subst he
    have hn := hcn (s.heap.objs.size + 1)
    have hcell := X.cell
    have hap := X.apart
    have hab := X.above
    have I := X.toInCall
    change ∀ n c, (cellsFrom (s.heap.objs.size + 1) scope.names []).lookup n = some c → s'.heap.IsCell c _ at hcell
    change (cellsFrom (s.heap.objs.size + 1) scope.names []).Pairwise _ at hap
    change ∀ n c, (n, c) ∈ cellsFrom (s.heap.objs.size + 1) scope.names [] → _ < c at hab
    refine h s.heap.objs.size (cellsFrom (s.heap.objs.size + 1) scope.names []) s' hn I.keep ?_
    generalize cellsFrom (s.heap.objs.size + 1) scope.names [] = cs at hn hcell hap hab
    obtain ⟨h', tk, rfl⟩ := I.same
    have H₁ := H.ext (t := tk) I.keep
    have big : ∀ a, s.heap.objs.size ≤ a → g.get? a = none ∧ a ≠ sysModules := by
      intro a ha
      constructor
      · cases q : g.get? a with
        | none => rfl
        | some o' => exact absurd (Heap.lt_size (H.keep _ _ q)) (Nat.not_lt.mpr ha)
      · obtain ⟨b, o, e, q⟩ := H.sm
        exact Nat.ne_of_gt (Nat.lt_of_lt_of_le (Nat.lt_trans q (Heap.lt_size (H.keep _ _ e))) ha)
    have old : ∀ p ∈ l, p.1 < s.heap.objs.size := fun p hp => H.lt hp
    have hlt : ∀ p ∈ cellsLed cs cn, s.heap.objs.size < p.1 ∧ p.2.At w h' p.1 := by
      intro p hp
      obtain ⟨q, hq, rfl⟩ := List.mem_map.mp hp
      obtain ⟨a, b, e, d⟩ := lookup_zip hn hndc hq
      refine ⟨hab q.1.1 q.1.2 d, ?_⟩
      have := hcell _ _ a
      have e2 := hC _ b
      rw [← e] at e2
      have e3 : bindC (Env.kindOf (newEnv scope s.heap.objs.size globals cs qual func code none builtins)) binds (fun _ => none) q.1.1 = q.2.2 := e2
      rw [← e2]; exact this
    refine ⟨H₁.os, H₁.gens, H₁.keep, fun p hp => ?_, fun p hp => ?_, ?_, H.sm, fun p hp => ?_⟩
    · rcases List.mem_cons.mp hp with rfl | hp
      · refine ⟨hnd, ?_⟩
        have e : (fun x => (kvs.lookup x).join) = bindL (fun y => scope.names.lookup y) binds (fun _ => none) := funext fun x => (hL x).symm
        rw [e]; exact I.ns
      · rcases List.mem_append.mp hp with hp | hp
        · exact (hlt p hp).2
        · exact H₁.at_ p hp
    · rcases List.mem_cons.mp hp with rfl | hp
      · exact (big _ (Nat.le_refl _)).1
      · rcases List.mem_append.mp hp with hp | hp
        · exact (big _ (Nat.le_of_lt (hlt p hp).1)).1
        · exact H₁.new p hp
    · rw [List.map_cons, List.nodup_cons, List.map_append, List.nodup_append]
      refine ⟨fun hm => ?_, ?_, H.nd, ?_⟩
      · rw [← List.map_append] at hm
        obtain ⟨p, hp, e⟩ := List.mem_map.mp hm
        rcases List.mem_append.mp hp with hp | hp
        · exact absurd e (Nat.ne_of_gt (hlt p hp).1)
        · exact absurd e (Nat.ne_of_lt (old p hp))
      · exact cellsLed_nd hap
      · intro a ha b hb
        obtain ⟨p, hp, rfl⟩ := List.mem_map.mp ha
        obtain ⟨q, hq, rfl⟩ := List.mem_map.mp hb
        exact Nat.ne_of_gt (Nat.lt_trans (old q hq) (hlt p hp).1)
    · rcases List.mem_cons.mp hp with rfl | hp
      · exact (big _ (Nat.le_refl _)).2
      · rcases List.mem_append.mp hp with hp | hp
        · exact (big _ (Nat.le_of_lt (hlt p hp).1)).2
        · exact H.ns' p hp
theorem call_fnC {d u : Nat} {fa : Addr} {oc : Value} {od : Option Addr} {osl : Array (Option Value)} {fd : FuncData} {body : List Stmt} {args : Args} {binds : List (Str × Value)} {kvs cn : List (Str × Option Value)} {R : Result → Shared → Prop}
    (B : Base w g) (H : Ok w g os G l s) (hf : (Kf w).lookup fa = some ⟨oc, od, .func fd, osl⟩) (hcd : codeIn (Kf w) fd.code fd.qualname = true) (hbody : fd.body = .stmts body) (hbind : BindsTo s fd args binds) (hclo : fd.closure = [])
    (hkind : ∀ x ∈ binds, fd.scope.names.lookup x.1 = some .local ∨ (fd.scope.names.lookup x.1 = some .cell ∧ (cn.lookup x.1).isSome = true))
    (hcn : ∀ n, (cellsFrom n fd.scope.names []).map (·.1) = cn.map (·.1)) (hndc : (cn.map (·.1)).Nodup)
    (hL : ∀ x, bindL (fun y => fd.scope.names.lookup y) binds (fun _ => none) x = (kvs.lookup x).join) (hnd : (kvs.map (·.1)).Nodup)
    (hC : ∀ p ∈ cn, bindC (fun y => fd.scope.names.lookup y) binds (fun _ => none) p.1 = p.2) (hd : d < recursionLimit)
    (h : ∀ L cs s', cs.map (·.1) = cn.map (·.1) → Ok w g os G ((L, .ns kvs) :: (cellsLed cs cn ++ l)) s' →
      wpAny (model P0 w) (AR (d + 1) (u + 3)) (execs body (newEnv fd.scope L fd.globals cs (fd.qualname ++ ".<locals>.") (some fa) fd.code none fd.builtins)) (fun fl s'' => R (.ok (.ret (retOf fl))) s'') (fun _ _ => False) s')
    (hco : fd.scope.isCoroutine = false := by rfl) (hgen : fd.scope.isGenerator = false := by rfl) (hk : fd.scope.kind = .function := by rfl) :
    codeAny (model P0 w) (AR d u) (.call (.ref fa) args) R s := by
  have X := B.X' H
  refine codeAny_call_function (A := AR d u) hd (X _ _ hf) rfl hco hgen hbody (codeRec_of X hcd) (hbind _ _ _ _ ?_)
  rw [hclo]
  refine e_envC H hkind hcn hndc hL hnd hC (fun L cs s' e k H' => ⟨B.lim' H', codeAny_func ?_⟩) hk
  refine wpAny_mono (h L cs s' e H') (fun fl s'' q => ?_) fun _ _ x => x.elim
  cases fl <;> exact q
theorem cs1 {cs : List (Str × Addr)} {a : Str} (h : cs.map (·.1) = [a]) : ∃ c, cs = [(a, c)] := by
  match cs, h with
  | [(x, c)], h => simp at h; subst h; exact ⟨c, rfl⟩
theorem cs2 {cs : List (Str × Addr)} {a b : Str} (h : cs.map (·.1) = [a, b]) : ∃ c d, cs = [(a, c), (b, d)] := by
  match cs, h with
  | [(x, c), (y, d)], h => simp at h; obtain ⟨rfl, rfl⟩ := h; exact ⟨c, d, rfl⟩
theorem cs4 {cs : List (Str × Addr)} {a b c d : Str} (h : cs.map (·.1) = [a, b, c, d]) : ∃ x y z t, cs = [(a, x), (b, y), (c, z), (d, t)] := by
  match cs, h with
  | [(x, p), (y, q), (z, r), (t, s)], h => simp at h; obtain ⟨rfl, rfl, rfl, rfl⟩ := h; exact ⟨_, _, _, _, rfl⟩
end
end Mine
end
section
open PySem PySem.W PySem.Calls PyProof.Rows PySem.W.X
set_option Elab.async false
set_option maxRecDepth 100000
set_option maxHeartbeats 8000000
set_option linter.unusedVariables false
namespace Mine
local macro_rules | `(tactic| walk_at "mem") => `(tactic| first | assumption | exact List.Mem.head _ | (refine' List.Mem.tail _ ?_; walk_at "mem") | (refine' List.mem_append_right _ ?_; walk_at "mem") | (refine' List.mem_append_left _ ?_; walk_at "mem") | exact Zip.at' (by assumption) | exact Zip.keep (by assumption) (by walk_at "mem") (by intro e; cases e))
local macro_rules | `(tactic| walk_at "zip") => `(tactic| first | assumption | exact Zip.head | exact Zip.tail (by walk_at "zip") | exact Zip.again (by assumption))
local macro_rules | `(tactic| walk_at "kv") => `(tactic| first | with_reducible_and_instances exact List.Mem.head _ | (refine' List.Mem.tail _ ?_; walk_at "kv") | assumption)
local macro_rules | `(tactic| walk_at "put") => `(tactic| first | with_reducible exact Put.head | exact Put.tail (by walk_at "put"))
local macro_rules | `(tactic| walk_at "putd") => `(tactic| first | with_reducible exact PutD.head | with_reducible exact PutD.nil | exact PutD.tail (by decide) (by walk_at "putd"))
local macro_rules | `(tactic| walk_at "nm") => `(tactic| first
  | (refine e_local (by assumption) (by walk_at "mem") (by walk_at "kv") ?_)
  | (refine e_cell (by assumption) (by rfl) (by walk_at "mem") ?_)
  | (refine e_free (by assumption) (by rfl) (by walk_at "mem") ?_))
local macro_rules | `(tactic| walk_at "gl") => `(tactic| refine e_global (by assumption) (by assumption) (by first | with_reducible exact gl_Problem _ | with_reducible exact gl_BacktrackingSolver _ | with_reducible exact gl_Domain _ | with_reducible exact gl_Constraint _ | with_reducible exact gl_FunctionConstraint _ | with_reducible exact gl_law_yes _ | with_reducible exact gl_law_rule _ | with_reducible exact gl_law_due _) ?_)
local macro_rules | `(tactic| walk_at "bi") => `(tactic| refine e_builtin (by assumption) (by assumption) (by first | with_reducible exact bn_isinstance _ | with_reducible exact bn_callable _ | with_reducible exact bn_list _ | with_reducible exact bn_tuple _ | with_reducible exact bn_len _ | with_reducible exact bn_range _ | with_reducible exact bn_next _ | with_reducible exact bn_dict _ | with_reducible exact bn_sorted _ | with_reducible exact bn_iter _) (by first | with_reducible exact bb_isinstance | with_reducible exact bb_callable | with_reducible exact bb_list | with_reducible exact bb_tuple | with_reducible exact bb_len | with_reducible exact bb_range | with_reducible exact bb_next | with_reducible exact bb_dict | with_reducible exact bb_sorted | with_reducible exact bb_iter) ?_)
local macro_rules | `(tactic| walk_at "ns") => `(tactic| (show (_ : List Str).Nodup; dsimp only [List.map, List.nil_append, List.cons_append, List.append_nil]; decide +kernel))
local macro_rules | `(tactic| walk_at "lt") => `(tactic| (show _ < 1000; omega))
local macro_rules | `(tactic| x_close) => `(tactic| exact xq_of (by first | assumption | exact Mem.start _) (by first | rfl | assumption))
local macro_rules | `(tactic| walk_at "ga") => `(tactic| refine i_get (by assumption) (by assumption) (by walk_at "mem") (by exact rfl) (by walk_at "mem") (by first | exact cls110 _ | exact cls186 _ | exact cls336 _) (by kernel_rfl) (by walk_at "kv") (by exact rfl) ?_)
local macro_rules | `(tactic| walk_at "sa") => `(tactic| refine i_set (by assumption) (by assumption) (by walk_at "mem") (by walk_at "zip") (by first | exact cls110 _ | exact cls186 _ | exact cls336 _) (by kernel_rfl) (by kernel_rfl) (by walk_at "putd") (Nat.le_of_ble_eq_true rfl) ?_)
local macro_rules | `(tactic| walk_at "st") => `(tactic| refine e_store (by assumption) (by walk_at "zip") (by walk_at "put") ?_)
section
variable {w : World} {g : Heap} {os : OsState} {G : Array GenState} {l l' : Led} {s : Shared} {a : Addr} {c c' : Cell} {f : Cell → Led} {A : Around} {E : Value → Shared → Prop}
/-! ## ints -/
def Sm (i : Int) : Prop := Builtin.Int.intBits i ≤ 4194304
theorem Sm.mul {a b : Int} (ha : Sm a) (hb : Sm b) : IntMulOk a b := by
  unfold IntMulOk Builtin.Int.intTooBig
  unfold Sm at ha hb
  have e : bitsLine = 134217728 := by rfl
  rw [e]
  simp only [Bool.and_eq_true, decide_eq_true_eq, not_and]
  intro _; omega
theorem e_add {a b : Int} {t u : Tok} {Q : Value → Shared → Prop} (H : Ok w g os G l s) (h : ∀ t s', Ok w g os G l s' → Q (.int (a + b) t) s') : wpAny (model P0 w) A (binaryOp .Add (.int a t) (.int b u)) Q E s := add_int (h _ _ (H.toks _))
theorem e_mod {a b : Int} {t u : Tok} {Q : Value → Shared → Prop} (H : Ok w g os G l s) (hb : b ≠ 0) (h : ∀ t s', Ok w g os G l s' → Q (.int (a.fmod b) t) s') : wpAny (model P0 w) A (binaryOp .Mod (.int a t) (.int b u)) Q E s := mod_int hb (h _ _ (H.toks _))
theorem e_mul {a b : Int} {t u : Tok} {Q : Value → Shared → Prop} (H : Ok w g os G l s) (ha : Sm a) (hb : Sm b) (h : ∀ t s', Ok w g os G l s' → Q (.int (a * b) t) s') : wpAny (model P0 w) A (binaryOp .Mult (.int a t) (.int b u)) Q E s := mul_int (h _ _ (H.toks _)) (ha.mul hb)
theorem e_div {a b : Int} {t u : Tok} {Q : Value → Shared → Prop} (H : Ok w g os G l s) (hb : b ≠ 0) (hl : b.natAbs.log2 < 9000) (h : ∀ t s', Ok w g os G l s' → Q (.int (a.fdiv b) t) s') : wpAny (model P0 w) A (binaryOp .FloorDiv (.int a t) (.int b u)) Q E s := floordiv_int hb (h _ _ (H.toks _)) (.inl (PyProof.noPylong_of_log2 hl))
theorem e_sub {a b : Int} {t u : Tok} {Q : Value → Shared → Prop} (H : Ok w g os G l s) (h : ∀ t s', Ok w g os G l s' → Q (.int (a - b) t) s') : wpAny (model P0 w) A (binaryOp .Sub (.int a t) (.int b u)) Q E s := sub_int (h _ _ (H.toks _))
def yes (m a b : Int) : Bool := (a + m * b + m.fdiv 3).fmod 3 != 0
theorem spec_yes {d u : Nat} {m a b : Int} {t1 t2 t3 : Tok} {R : Result → Shared → Prop} (B : Base w g) (H : Ok w g os G l s) (hm : Sm m) (hb : Sm b) (hd : d ≤ 900)
    (h : ∀ s', Ok w g os G l s' → R (.ok (.ret (.bool (yes m a b)))) s') : codeAny (model P0 w) (AR d u) (.call (.ref 345) ⟨[.int m t1, .int a t2, .int b t3], []⟩) R s := by
  refine call_fn (binds := [("m", .int m t1), ("a", .int a t2), ("b", .int b t3)]) (rest := []) B H rfl (by kernel_rfl) rfl (BindsTo.of_eq rfl) (by decide) (locs rfl) (by walk_at "ns") (by walk_at "lt") (fun L s₁ H₁ => ?_)
  dsimp only [List.map, List.append, List.nil_append, List.cons_append, List.append_nil] at H₁
  refine wpAny_execs_cons (wpAny_Return_some (wpAny_Compare1 (wpAny_BinOp (wpAny_BinOp (wpAny_BinOp ?_)))))
  walk_at "nm"
  refine wpAny_BinOp ?_
  walk_at "nm"
  walk_at "nm"
  refine e_mul H₁ hm hb (fun t4 s₂ H₂ => e_add H₂ (fun t5 s₃ H₃ => ?_))
  refine wpAny_BinOp ?_
  walk_at "nm"
  refine e_int H₃ (fun t6 s₄ H₄ => e_div H₄ (by decide) (by decide +kernel) (fun t7 s₅ H₅ => e_add H₅ (fun t8 s₆ H₆ => ?_)))
  refine e_int H₆ (fun t9 s₇ H₇ => e_mod H₇ (by decide) (fun t10 s₈ H₈ => ?_))
  refine e_int H₈ (fun t11 s₉ H₉ => ne_int ?_)
  exact h _ H₉.tail
/-! ## functions made on the way -/
theorem code351 (B : Base w g) : CodeHd g 351 347 := ⟨_, _, _, _, _, _, _, _, _, B.X 351 _ rfl, rfl, rfl, rfl, rfl, rfl, rfl, rfl, rfl, by decide⟩
theorem code356 (B : Base w g) : CodeHd g 356 354 := ⟨_, _, _, _, _, _, _, _, _, B.X 356 _ rfl, rfl, rfl, rfl, rfl, rfl, rfl, rfl, rfl, by decide⟩
def IsCodeOf (oc : Obj) (qual : Str) : Prop := ∃ vs t, oc.data = .fields vs ∧ vs[1]? = some (.str qual t)
/-- the table of a code object: nothing yet, or the one code made there -/
def TabOk (l : Led) (ln cl : Nat) (qual : Str) (ps : Array Value) : Prop := ps = #[] ∨ ∃ c' oc, ps = #[rawInt ln, rawInt cl, .ref c'] ∧ (c', .ob oc) ∈ l ∧ IsCodeOf oc qual
theorem codeAmong_hit (pos : Pos) (v : Value) : codeAmong pos [rawInt pos.line, rawInt pos.col, v] = some v := by simp [codeAmong, rawInt]
theorem e_lambda {M : Model} {env : Env} {params : Arguments} {body : Expr} {scope : Scope} {pos : Pos} {c P : Addr} {ps : Array Value} {clos : List (Str × Addr)} {qual : Str} {PL : Led} {Q : Value → Shared → Prop} (B : Base w g) (H : Ok w g os G l s) (z : Zip l P (.ob (tabObj ps)) f) (C : CodeHd g c P)
    (hPL : ∀ p ∈ PL, p ∈ l) (ht : TabOk PL pos.line pos.col qual ps) (hqual : env.qual ++ "<lambda>" = qual) (hcode : env.code = .ref c) (hcl : closureFor scope env = pure clos) (hdef : defaultsOf params env = ([], [])) (hge : env.globals = mainGlobals)
    (h : ∀ fn fd c' pm ctv oc extra s', fd = kla_fn "<lambda>" qual params body scope clos pm (.ref c') ctv → ((extra = [] ∧ (c', .ob oc) ∈ PL) ∨ extra = [(c', .ob oc)]) → IsCodeOf oc qual →
      Ok w g os G ((fn, .ob (fnO fd)) :: (f (.ob (tabObj #[rawInt pos.line, rawInt pos.col, .ref c'])) ++ extra)) s' → Q (.ref fn) s') :
    wpAny M A (eval (.Lambda params body scope pos) env) Q E s := by
  refine kla_eval hdef ?_
  rw [hqual]
  obtain ⟨mg, mb, hmg, hmb, hb, bm, ob, b1, b2, b3, b4, b5, b6⟩ := B.top
  have hP : s.heap.get? P = some (tabObj ps) := H.get z.mem
  have hPn : g.get? P = none := H.new _ z.mem
  have hgP : mainGlobals ≠ P := fun q => by
    obtain ⟨o, es, ep, e, hd, _⟩ := hmg
    rw [q, hPn] at e; cases e
  have hbP : bm ≠ P := fun q => by rw [q, hPn] at b3; cases b3
  have hbG : bm ≠ mainGlobals := fun q => by
    obtain ⟨o, es, ep, e, hd, _⟩ := hmg
    rw [q, e] at b3; cases b3; rw [hd] at b6; cases b6
  have hBA : s.heap.BuiltinsAt mg P := ⟨bm, ob, b1, b2, hbG, hbP, H.keep _ _ b3, b4, b5, b6⟩
  have C' : CodeHd s.heap c P := C.keeps H.keep
  have hg' := hmg.keeps H.keep
  rcases ht with rfl | ⟨c', oc, rfl, hc', ho⟩
  · refine kla_makeFunction (mg := mg) hcl hge hg' hcode C' hP trivial rfl hgP hBA (fun c' ctv h' tk hx hge' hlt hrec htb => ?_)
    obtain ⟨c₂, oc, vs, t, e2, hoc, hd, hv⟩ := hrec
    cases e2
    refine h h'.objs.size _ c' ((mg "__name__").getD .none) ctv oc [(c', .ob oc)] _ rfl (.inr rfl) ⟨vs, t, hd, hv⟩ ?_
    obtain ⟨l1, l2, rfl, q⟩ := z.split
    have nd := H.nd
    rw [List.map_append, List.map_cons, List.nodup_append] at nd
    obtain ⟨nd1, nd2, nd3⟩ := nd
    rw [List.nodup_cons] at nd2
    have old : ∀ p ∈ l1 ++ (P, Cell.ob (tabObj #[])) :: l2, p.1 < s.heap.objs.size := fun p hp => H.lt hp
    have hPc : c' ≠ P := Nat.ne_of_gt (Nat.lt_of_lt_of_le (Heap.lt_size hP) hge')
    have H1 : Ok w g os G ((c', .ob oc) :: (l1 ++ (P, .ob (tabObj #[rawInt pos.line, rawInt pos.col, .ref c'])) :: l2)) { s with heap := h', toks := tk } := by
      refine ⟨H.os, H.gens, fun b o e => hx b o (fun q => by rw [q, hPn] at e; cases e) (H.keep b o e), fun p hp => ?_, fun p hp => ?_, ?_, H.sm, fun p hp => ?_⟩
      · rcases List.mem_cons.mp hp with rfl | hp
        · exact hoc
        · rcases List.mem_append.mp hp with hp | hp
          · have x := H.at_ p (List.mem_append_left _ hp)
            obtain ⟨o', e⟩ := at_some x
            exact at_to ((hx _ _ (fun e => nd3 p.1 (List.mem_map_of_mem (f := (·.1)) hp) P (by simp) e) e).trans e.symm) x
          · rcases List.mem_cons.mp hp with rfl | hp
            · exact htb
            · have x := H.at_ p (List.mem_append_right _ (.tail _ hp))
              obtain ⟨o', e⟩ := at_some x
              exact at_to ((hx _ _ (fun e => nd2.1 (by rw [← show p.1 = P from e]; exact List.mem_map_of_mem (f := (·.1)) hp)) e).trans e.symm) x
      · rcases List.mem_cons.mp hp with rfl | hp
        · cases q : g.get? c' with
          | none => rfl
          | some o' => exact absurd (Heap.lt_size (H.keep _ _ q)) (Nat.not_lt.mpr hge')
        · rcases List.mem_append.mp hp with hp | hp
          · exact H.new p (List.mem_append_left _ hp)
          · rcases List.mem_cons.mp hp with rfl | hp
            · exact hPn
            · exact H.new p (List.mem_append_right _ (.tail _ hp))
      · rw [List.map_cons, List.nodup_cons, List.map_append, List.map_cons, List.nodup_append]
        refine ⟨fun hm => ?_, nd1, List.nodup_cons.mpr nd2, nd3⟩
        rw [← List.map_cons, ← List.map_append] at hm
        obtain ⟨p, hp, e⟩ := List.mem_map.mp hm
        have : p.1 < s.heap.objs.size := by
          rcases List.mem_append.mp hp with hp | hp
          · exact old p (List.mem_append_left _ hp)
          · rcases List.mem_cons.mp hp with rfl | hp
            · exact Heap.lt_size hP
            · exact old p (List.mem_append_right _ (.tail _ hp))
        rw [e] at this
        exact absurd this (Nat.not_lt.mpr hge')
      · rcases List.mem_cons.mp hp with rfl | hp
        · obtain ⟨b, o, e, q⟩ := H.sm
          exact Nat.ne_of_gt (Nat.lt_of_lt_of_le (Nat.lt_trans q (Heap.lt_size (H.keep _ _ e))) hge')
        · rcases List.mem_append.mp hp with hp | hp
          · exact H.ns' p (List.mem_append_left _ hp)
          · rcases List.mem_cons.mp hp with rfl | hp
            · exact H.ns' (P, .ob (tabObj #[])) (by simp)
            · exact H.ns' p (List.mem_append_right _ (.tail _ hp))
    rw [q]
    exact (H1.perm (List.perm_append_singleton _ _).symm).push (t := tk) (Heap.get?_push_size _ rfl)
  · refine kla_makeFunctionHit (mg := mg) (cv := .ref c') hcl hge hg' hcode C' hP trivial (codeAmong_hit pos _) hBA (fun ctv h' tk hk hsz => ?_)
    refine h h'.objs.size _ c' ((mg "__name__").getD .none) ctv oc [] _ rfl (.inl ⟨rfl, hc'⟩) ho ?_
    have H1 := H.ext (t := tk) hk
    rw [z.same, List.append_nil]
    exact H1.push (t := tk) (Heap.get?_push_size _ rfl)
theorem call_fnE {d u : Nat} {fa c' : Addr} {oc : Obj} {fd : FuncData} {body : Expr} {args : Args} {binds : List (Str × Value)} {rest : List Str} {R : Result → Shared → Prop}
    (B : Base w g) (H : Ok w g os G l s) (hf : (fa, .ob (fnO fd)) ∈ l) (hcode : fd.code = .ref c') (hc : (c', .ob oc) ∈ l) (ho : IsCodeOf oc fd.qualname) (hbody : fd.body = .expr body) (hbind : BindsTo s fd args binds)
    (hcell : ∀ x ∈ fd.scope.names, x.2 ≠ .cell) (hloc : ∀ x ∈ binds, fd.scope.names.lookup x.1 = some .local)
    (hnd : ((binds.map (fun b => (b.1, some b.2)) ++ rest.map (fun n => (n, (none : Option Value)))).map (·.1)).Nodup) (hd : d < recursionLimit)
    (h : ∀ L s', Ok w g os G ((L, .ns (binds.map (fun b => (b.1, some b.2)) ++ rest.map (fun n => (n, none)))) :: l) s' →
      wpAny (model P0 w) (AR (d + 1) (u + 3)) (eval body (callEnv fd L fa)) (fun v s'' => R (.ok (.ret v)) s'') (fun _ _ => False) s')
    (hco : fd.scope.isCoroutine = false := by rfl) (hgen : fd.scope.isGenerator = false := by rfl) (hk : fd.scope.kind = .function := by rfl) :
    codeAny (model P0 w) (AR d u) (.call (.ref fa) args) R s := by
  obtain ⟨vs, t, o1, o2⟩ := ho
  refine kla_callFunE (A := AR d u) hd (H.get hf) rfl hco hgen hbody ⟨c', oc, vs, t, hcode, H.get hc, o1, o2⟩ (hbind _ _ _ _ ?_)
  refine wpAny_newFunctionEnv hcell hloc (fun h₁ hns hsb => ?_) hk
  have hk₁ : ∀ b o, s.heap.get? b = some o → h₁.get? b = some o := fun b o e => hsb.extBut b o (Nat.ne_of_lt (Heap.lt_size e)) (Heap.get?_push_of_some _ e)
  have fresh : g.get? s.heap.objs.size = none := by
    cases q : g.get? s.heap.objs.size with
    | none => rfl
    | some o' => exact absurd (Heap.lt_size (H.keep _ _ q)) (Nat.lt_irrefl _)
  have H' : Ok w g os G ((s.heap.objs.size, .ns (binds.map (fun b => (b.1, some b.2)) ++ rest.map (fun n => (n, none)))) :: l) { s with heap := h₁, toks := s.toks + binds.length } := by
    have H₁ := H.ext (t := s.toks + binds.length) hk₁
    refine ⟨H₁.os, H₁.gens, H₁.keep, fun p hp => ?_, fun p hp => ?_, ?_, H.sm, fun p hp => ?_⟩
    · rcases List.mem_cons.mp hp with rfl | hp
      · refine ⟨hnd, ?_⟩
        have : (fun x => ((binds.map (fun b => (b.1, some b.2)) ++ rest.map (fun n => (n, (none : Option Value)))).lookup x).join) = fun x => binds.reverse.lookup x := funext fun x => lookup_names hnd x
        rw [this]; exact hns
      · exact H₁.at_ p hp
    · rcases List.mem_cons.mp hp with rfl | hp
      · exact fresh
      · exact H₁.new p hp
    · rw [List.map_cons, List.nodup_cons]
      refine ⟨fun hm => ?_, H.nd⟩
      obtain ⟨p, hp, e⟩ := List.mem_map.mp hm
      exact absurd (H.lt hp) (by rw [e]; exact Nat.lt_irrefl _)
    · rcases List.mem_cons.mp hp with rfl | hp
      · obtain ⟨b, o, e, q⟩ := H.sm
        exact Nat.ne_of_gt (Nat.lt_trans q (Heap.lt_size (H.keep _ _ e)))
      · exact H.ns' p hp
  refine ⟨B.lim' H', kla_codeExpr ?_⟩
  exact wpAny_mono (h _ _ H') (fun v s'' q => q) fun _ _ x => x.elim
/-! ## _law_rule and what it gives -/
def Calls (w : World) (g : Heap) (need : Led) (fn : Addr) (m : Int) : Prop := ∀ (d u : Nat) (os : OsState) (G : Array GenState) (l : Led) (s : Shared) (a b : Int) (t1 t2 : Tok) (R : Result → Shared → Prop),
  Ok w g os G l s → (∀ p ∈ need, p ∈ l) → Sm b → d ≤ 880 → (∀ s', Ok w g os G l s' → R (.ok (.ret (.bool (yes m a b)))) s') → codeAny (model P0 w) (AR d u) (.call (.ref fn) ⟨[.int a t1, .int b t2], []⟩) R s
theorem spec_rule {d u : Nat} {m : Int} {t : Tok} {ps : Array Value} {PL : Led} {R : Result → Shared → Prop} (B : Base w g) (H : Ok w g os G l s) (z : Zip l 347 (.ob (tabObj ps)) f) (hPL : ∀ p ∈ PL, p ∈ l) (ht : TabOk PL 252 11 "_law_rule.<locals>.<lambda>" ps) (hm : Sm m) (hd : d ≤ 900)
    (h : ∀ fn fd ca c' oc extra s', ((extra = [] ∧ (c', .ob oc) ∈ PL) ∨ extra = [(c', .ob oc)]) → IsCodeOf oc "_law_rule.<locals>.<lambda>" → Calls w g [(fn, .ob (fnO fd)), (ca, .cl (some (.int m t))), (c', .ob oc)] fn m →
      Ok w g os G ((fn, .ob (fnO fd)) :: (ca, .cl (some (.int m t))) :: (f (.ob (tabObj #[rawInt 252, rawInt 11, .ref c'])) ++ extra)) s' → R (.ok (.ret (.ref fn))) s') :
    codeAny (model P0 w) (AR d u) (.call (.ref 352) ⟨[.int m t], []⟩) R s := by
  refine call_fnC (binds := [("m", .int m t)]) (kvs := []) (cn := [("m", some (.int m t))]) B H rfl (by kernel_rfl) rfl (BindsTo.of_eq rfl) rfl ?_ (fun n => rfl) ?_ (fun x => rfl) ?_ ?_ (by walk_at "lt") (fun L cs s₁ e H₁ => ?_)
  · intro x hx
    simp only [List.mem_singleton] at hx
    subst hx
    exact .inr ⟨rfl, rfl⟩
  · simp
  · simp
  · intro p hp
    simp only [List.mem_singleton] at hp
    subst hp
    rfl
  obtain ⟨ca, rfl⟩ := cs1 e
  dsimp only [cellsLed, List.zip_cons_cons, List.zip_nil_right, List.map_cons, List.map_nil, List.cons_append, List.nil_append] at H₁
  refine wpAny_execs_cons (wpAny_Return_some (e_lambda (P := 347) (c := 351) (ps := ps) (qual := "_law_rule.<locals>.<lambda>") B H₁ (.tail (.tail z)) (code351 B) (fun p hp => .tail _ (.tail _ (hPL p hp))) ht (by kernel_rfl) rfl rfl rfl rfl (fun fn fd c' pm ctv oc extra s₂ hfd hx ho H₂ => ?_)))
  refine h fn fd ca c' oc extra _ hx ho ?_ (H₂.sub (by simp))
  · intro d u os G l s a b t1 t2 R H need hb hd h
    subst hfd
    refine call_fnE (binds := [("a", .int a t1), ("b", .int b t2)]) (rest := []) B H (need _ (List.Mem.head _)) rfl (need (c', .ob oc) (by simp)) ho rfl (BindsTo.of_eq rfl) (by dsimp only; decide) (locs rfl) (by walk_at "ns") (by walk_at "lt") (fun L s₁ H₁ => ?_)
    dsimp only [List.map, List.append, List.nil_append, List.cons_append, List.append_nil] at H₁
    have need' : (ca, Cell.cl (some (.int m t))) ∈ (L, Cell.ns [("a", some (.int a t1)), ("b", some (.int b t2))]) :: l := .tail _ (need _ (.tail _ (.head _)))
    refine Call_ ?_
    walk_at "gl"
    refine c_fn B (by kernel_rfl) (args_cons ?_)
    refine e_free H₁ (by rfl) need' ?_
    refine args_cons ?_
    walk_at "nm"
    refine args_cons ?_
    walk_at "nm"
    refine args_nil ⟨⟨_, _, _, H₁⟩, wpAny_call (spec_yes B H₁ hm hb (by omega) (fun s₂ H₂ => ?_))⟩
    exact h _ H₂.tail
end
end Mine
end
section
open PySem PySem.W PySem.Calls PyProof.Rows PySem.W.X
set_option Elab.async false
set_option maxRecDepth 100000
set_option maxHeartbeats 8000000
set_option linter.unusedVariables false
namespace Mine
local macro_rules | `(tactic| walk_at "mem") => `(tactic| first | assumption | exact List.Mem.head _ | (refine' List.Mem.tail _ ?_; walk_at "mem") | (refine' List.mem_append_right _ ?_; walk_at "mem") | (refine' List.mem_append_left _ ?_; walk_at "mem") | exact Zip.at' (by assumption) | exact Zip.keep (by assumption) (by walk_at "mem") (by intro e; cases e))
local macro_rules | `(tactic| walk_at "zip") => `(tactic| first | assumption | exact Zip.head | exact Zip.tail (by walk_at "zip") | exact Zip.again (by assumption))
local macro_rules | `(tactic| walk_at "kv") => `(tactic| first | with_reducible_and_instances exact List.Mem.head _ | (refine' List.Mem.tail _ ?_; walk_at "kv") | assumption)
local macro_rules | `(tactic| walk_at "put") => `(tactic| first | with_reducible exact Put.head | exact Put.tail (by walk_at "put"))
local macro_rules | `(tactic| walk_at "putd") => `(tactic| first | with_reducible exact PutD.head | with_reducible exact PutD.nil | exact PutD.tail (by decide) (by walk_at "putd"))
local macro_rules | `(tactic| walk_at "nm") => `(tactic| first
  | (refine e_local (by assumption) (by walk_at "mem") (by walk_at "kv") ?_)
  | (refine e_cell (by assumption) (by rfl) (by walk_at "mem") ?_)
  | (refine e_free (by assumption) (by rfl) (by walk_at "mem") ?_))
local macro_rules | `(tactic| walk_at "gl") => `(tactic| refine e_global (by assumption) (by assumption) (by first | with_reducible exact gl_Problem _ | with_reducible exact gl_BacktrackingSolver _ | with_reducible exact gl_Domain _ | with_reducible exact gl_Constraint _ | with_reducible exact gl_FunctionConstraint _ | with_reducible exact gl_law_yes _ | with_reducible exact gl_law_rule _ | with_reducible exact gl_law_due _) ?_)
local macro_rules | `(tactic| walk_at "bi") => `(tactic| refine e_builtin (by assumption) (by assumption) (by first | with_reducible exact bn_isinstance _ | with_reducible exact bn_callable _ | with_reducible exact bn_list _ | with_reducible exact bn_tuple _ | with_reducible exact bn_len _ | with_reducible exact bn_range _ | with_reducible exact bn_next _ | with_reducible exact bn_dict _ | with_reducible exact bn_sorted _ | with_reducible exact bn_iter _) (by first | with_reducible exact bb_isinstance | with_reducible exact bb_callable | with_reducible exact bb_list | with_reducible exact bb_tuple | with_reducible exact bb_len | with_reducible exact bb_range | with_reducible exact bb_next | with_reducible exact bb_dict | with_reducible exact bb_sorted | with_reducible exact bb_iter) ?_)
local macro_rules | `(tactic| walk_at "ns") => `(tactic| (show (_ : List Str).Nodup; dsimp only [List.map, List.nil_append, List.cons_append, List.append_nil]; decide +kernel))
local macro_rules | `(tactic| walk_at "lt") => `(tactic| (show _ < 1000; omega))
local macro_rules | `(tactic| x_close) => `(tactic| exact xq_of (by first | assumption | exact Mem.start _) (by first | rfl | assumption))
local macro_rules | `(tactic| walk_at "ga") => `(tactic| refine i_get (by assumption) (by assumption) (by walk_at "mem") (by exact rfl) (by walk_at "mem") (by first | exact cls110 _ | exact cls186 _ | exact cls336 _) (by kernel_rfl) (by walk_at "kv") (by exact rfl) ?_)
local macro_rules | `(tactic| walk_at "sa") => `(tactic| refine i_set (by assumption) (by assumption) (by walk_at "mem") (by walk_at "zip") (by first | exact cls110 _ | exact cls186 _ | exact cls336 _) (by kernel_rfl) (by kernel_rfl) (by walk_at "putd") (Nat.le_of_ble_eq_true rfl) ?_)
local macro_rules | `(tactic| walk_at "st") => `(tactic| refine e_store (by assumption) (by walk_at "zip") (by walk_at "put") ?_)
section
variable {w : World} {g : Heap} {os : OsState} {G : Array GenState} {l l' : Led} {s : Shared} {a : Addr} {c c' : Cell} {f : Cell → Led} {A : Around} {E : Value → Shared → Prop}
/-! ## iterators -/
theorem Ok.drop {p : Addr × Cell} (H : Ok w g os G (p :: l) s) {h' : Heap} {t : Nat} (hs : Heap.ExtBut p.1 s.heap h') : Ok w g os G l { s with heap := h', toks := t } := by
  have nd := H.nd
  rw [List.map_cons, List.nodup_cons] at nd
  have hn := H.new p (.head _)
  refine ⟨H.os, H.gens, fun b o e => hs _ _ (fun q => by rw [q, hn] at e; cases e) (H.keep b o e), fun q hq => ?_, fun q hq => H.new q (.tail _ hq), nd.2, H.sm, fun q hq => H.ns' q (.tail _ hq)⟩
  have x := H.at_ q (.tail _ hq)
  obtain ⟨o, e⟩ := at_some x
  exact at_to ((hs _ _ (fun e => nd.1 (by rw [← e]; exact List.mem_map_of_mem (f := (·.1)) hq)) e).trans e.symm) x
structure Iter (w : World) (X : Addr) (need : Led) (n : Nat) (item : Nat → Value → Prop) (Nx : Nat → Cell) : Prop where
  start : ∀ {A : Around} {E : Value → Shared → Prop} {g os G l s} {Q : Value → Shared → Prop}, Ok w g os G l s → (∀ p ∈ need, p ∈ l) → (∀ I s', Ok w g os G ((I, Nx 0) :: l) s' → Q (.ref I) s') → wpAny (model P0 w) A (pyIter (.ref X)) Q E s
  again : ∀ {A : Around} {E : Value → Shared → Prop} {g os G l s I i} {Q : Value → Shared → Prop}, Ok w g os G ((I, Nx i) :: l) s → Q (.ref I) s → wpAny (model P0 w) A (pyIter (.ref I)) Q E s
  next : ∀ {A : Around} {E : Value → Shared → Prop} {g os G l s I i} {Q : Option Value → Shared → Prop}, Ok w g os G ((I, Nx i) :: l) s → (∀ p ∈ need, p ∈ l) → i < n → (∀ v s', item i v → Ok w g os G ((I, Nx (i + 1)) :: l) s' → Q (some v) s') → wpAny (model P0 w) A (pyNext (.ref I)) Q E s
  stop : ∀ {A : Around} {E : Value → Shared → Prop} {g os G l s I} {Q : Option Value → Shared → Prop}, A.handled = none → Ok w g os G ((I, Nx n) :: l) s → (∀ p ∈ need, p ∈ l) → (∀ s', Ok w g os G l s' → Q none s') → wpAny (model P0 w) A (pyNext (.ref I)) Q E s
  owned : ∀ {A : Around} {E : Value → Shared → Prop} {g os G l s I i} {target : Expr} {v : Value} {Q : Unit → Shared → Prop}, Ok w g os G ((I, Nx i) :: l) s → Q () s → wpAny (model P0 w) A (letOwnedTupleGo target (.ref I) v) Q E s
theorem Iter.list (w : World) (D : Addr) (vs : List Value) : Iter w D [(D, .lst vs)] vs.length (fun i v => vs[i]? = some v) (fun i => .it "list_iterator" (.fields #[.ref D, .int i 0])) where
  start H hn h := by
    refine wpAny_pyIter_list (H.lst (hn _ (.head _))) (h _ _ (H.push (t := _) ⟨_, Heap.get?_push_size _ rfl, rfl, rfl⟩))
  again H q := wpAny_pyIter_listiter (H.get (.head _)) q
  next {A E g os G l s I i Q} H hn hi h := by
    have hit : s.heap.IsListIter I D i := H.get (.head _)
    refine wpAny_pyNext_list_item hit (H.lst (.tail _ (hn _ (.head _)))) (x := vs[i]) (by simp [hi]) (fun h' hit hs => ?_)
    exact h _ _ (by simp [hi]) (H.set (t := s.toks) (c' := .it "list_iterator" (.fields #[.ref D, .int (i + 1 : Nat) 0])) .head hs hit)
  stop hh H hn h := wpAny_pyNext_list_end hh (H.get (.head _)) (H.lst (.tail _ (hn _ (.head _)))) (by simp) (fun h' hs => h _ (H.drop (t := _) hs))
  owned H q := letGo_listiter (H.get (.head _)) q
theorem dk_at {h : Heap} {kvs : List (Str × Value)} {n : Nat} (x : (Cell.dk kvs n).At w h a) : h.DictAt (strKind P0 w) a kvs n := by
  obtain ⟨nd, es, hg, sd⟩ := x
  obtain ⟨p, q⟩ := of_sde sd
  exact ⟨_, es.toArray, hg, ⟨rfl, rfl, rfl⟩, rfl, fun e he => p e (by simpa using he), by simpa using q, nd⟩
theorem Iter.keys (w : World) (D : Addr) (kvs : List (Str × Value)) (ep : Nat) : Iter w D [(D, .dk kvs ep)] kvs.length (fun i v => ∃ k x t, kvs[i]? = some (k, x) ∧ v = .str k t) (fun i => .it "dict_keyiterator" (.fields #[.ref D, .int i 0, .int kvs.length 0, .int ep 0])) where
  start H hn h := by
    refine wpAny_pyIter_dict (knd := strKind P0 w) (H.notSys (hn _ (.head _))) (dk_at (H.get (hn _ (.head _)))) (h _ _ (H.push (t := _) ⟨_, Heap.get?_push_size _ rfl, rfl, rfl⟩))
  again {A E g os G l s I i Q} H q := by
    have hit : s.heap.IsKeyIter I D i kvs.length ep := H.get (.head _)
    exact wpAny_pyIter_keyiter hit q
  next {A E g os G l s I i Q} H hn hi h := by
    have hit : s.heap.IsKeyIter I D i kvs.length ep := H.get (.head _)
    refine wpAny_pyNext_dict_item (knd := strKind P0 w) hit (dk_at (H.get (.tail _ (hn _ (.head _))))) (k := (kvs[i]).1) (v := (kvs[i]).2) (by simp [hi]) (fun key h' hk hit hs => ?_)
    obtain ⟨t, rfl⟩ := Value.isStrOf_shape hk
    exact h _ _ ⟨_, (kvs[i]).2, t, by simp [hi], rfl⟩ (H.set (t := s.toks) (c' := .it "dict_keyiterator" (.fields #[.ref D, .int (i + 1 : Nat) 0, .int kvs.length 0, .int ep 0])) .head hs hit)
  stop {A E g os G l s I Q} hh H hn h := by
    have hit : s.heap.IsKeyIter I D kvs.length kvs.length ep := H.get (.head _)
    exact wpAny_pyNext_dict_end (knd := strKind P0 w) hh hit (dk_at (H.get (.tail _ (hn _ (.head _))))) (by simp) (fun h' hs => h _ (H.drop (t := _) hs))
  owned {A E g os G l s I i target v Q} H q := by
    have hit : s.heap.IsKeyIter I D i kvs.length ep := H.get (.head _)
    exact letGo_keyiter hit q
theorem Iter.vals (w : World) (V D : Addr) (kvs : List (Str × Value)) (ep : Nat) : Iter w V [(V, .it "dict_values" (.fields #[.ref D])), (D, .dk kvs ep)] kvs.length (fun i v => ∃ k, kvs[i]? = some (k, v)) (fun i => .it "dict_valueiterator" (.fields #[.ref D, .int i 0, .int kvs.length 0, .int ep 0])) where
  start H hn h := by
    refine wpAny_pyIter_values (knd := strKind P0 w) (H.get (hn _ (.head _))) (dk_at (H.get (hn _ (.tail _ (.head _))))) (h _ _ (H.push (t := _) ⟨_, Heap.get?_push_size _ rfl, rfl, rfl⟩))
  again {A E g os G l s I i Q} H q := by
    have hit : s.heap.IsValIter I D i kvs.length ep := H.get (.head _)
    exact wpAny_pyIter_valiter hit q
  next {A E g os G l s I i Q} H hn hi h := by
    have hit : s.heap.IsValIter I D i kvs.length ep := H.get (.head _)
    refine wpAny_pyNext_values_item (knd := strKind P0 w) hit (dk_at (H.get (.tail _ (hn _ (.tail _ (.head _)))))) (k := (kvs[i]).1) (v := (kvs[i]).2) (by simp [hi]) (fun h' hit hs => ?_)
    exact h _ _ ⟨(kvs[i]).1, by simp [hi]⟩ (H.set (t := s.toks) (c' := .it "dict_valueiterator" (.fields #[.ref D, .int (i + 1 : Nat) 0, .int kvs.length 0, .int ep 0])) .head hs hit)
  stop {A E g os G l s I Q} hh H hn h := by
    have hit : s.heap.IsValIter I D kvs.length kvs.length ep := H.get (.head _)
    exact wpAny_pyNext_values_end (knd := strKind P0 w) hh hit (dk_at (H.get (.tail _ (hn _ (.tail _ (.head _)))))) (by simp) (fun h' hs => h _ (H.drop (t := _) hs))
  owned {A E g os G l s I i target v Q} H q := by
    have hit : s.heap.IsValIter I D i kvs.length ep := H.get (.head _)
    exact letGo_valiter hit q
/-! ## the for loop -/
abbrev NoE : Value → Shared → Prop := fun _ _ => False
theorem x_for {d u : Nat} {env : Env} {target iter : Expr} {body orelse : List Stmt} {pos : Pos} {Q : Flow → Shared → Prop}
    (h : wpAny (model P0 w) (AR d u) (eval iter env) (fun xv s₁ => ∃ X need n item Nx G l, ∃ Inv : Nat → Array GenState → Led → Prop, Iter w X need n item Nx ∧ xv = .ref X ∧ Ok w g os G l s₁ ∧ Inv 0 G l ∧ (∀ i G l, Inv i G l → ∀ p ∈ need, p ∈ l) ∧
      (∀ i v I G l s, i < n → item i v → Inv i G l → Ok w g os G ((I, Nx (i + 1)) :: l) s → wpAny (model P0 w) (AR d u) (assign target env v) (fun _ s₂ => wpAny (model P0 w) (AR d u) (execs body env) (fun f s₃ => match f with
        | .next | .cont => ∃ G' l', Inv (i + 1) G' l' ∧ Ok w g os G' ((I, Nx (i + 1)) :: l') s₃
        | .brk => Q .next s₃
        | .ret v => Q (.ret v) s₃) NoE s₂) NoE s) ∧
      (∀ G l s, Inv n G l → Ok w g os G l s → wpAny (model P0 w) (AR d u) (execs orelse env) Q NoE s)) NoE s)
    (hs : ∀ x, foldedSetIterable iter env x = pure x := by intro _; rfl) : wpAny (model P0 w) (AR d u) (exec (.For target iter body orelse pos) env) Q NoE s := by
  refine wpAny_For (wpAny_mono h (fun xv s₁ q => ?_) fun _ _ x => x.elim) hs
  obtain ⟨X, need, n, item, Nx, G, l, Inv, IT, rfl, H, h0, hneed, step, last⟩ := q
  refine IT.start H (hneed 0 G l h0) (fun I s₂ H₂ => ?_)
  refine codeAny_forLoop_any (fun k s' => ∃ i G l, Inv i G l ∧ Ok w g os G ((I, Nx i) :: l) s' ∧ i ≤ n ∧ k = n + 1 - i) ?_ (n + 1) ⟨0, G, l, h0, H₂, Nat.zero_le _, rfl⟩
  rintro k s' ⟨i, G', l', hI, H', hi, rfl⟩
  by_cases hlt : i < n
  · refine IT.next H' (hneed _ _ _ hI) hlt (fun v s₃ hv H₃ => ?_)
    refine IT.owned H₃ ?_
    refine wpAny_mono (step i v I G' l' s₃ hlt hv hI H₃) (fun _ s₄ q => wpAny_mono q (fun f s₅ q => ?_) fun _ _ x => x.elim) fun _ _ x => x.elim
    cases f with
    | next => obtain ⟨G'', l'', a, b⟩ := q; exact ⟨n + 1 - (i + 1), by omega, i + 1, G'', l'', a, b, hlt, rfl⟩
    | cont => obtain ⟨G'', l'', a, b⟩ := q; exact ⟨n + 1 - (i + 1), by omega, i + 1, G'', l'', a, b, hlt, rfl⟩
    | brk => exact q
    | ret v => exact q
  · have : i = n := by omega
    subst this
    refine IT.stop rfl H' (hneed _ _ _ hI) (fun s₃ H₃ => ?_)
    exact wpAny_mono (last G' l' s₃ hI H₃) (fun f s₄ q => q) fun _ _ x => x.elim
/-! ## the list comprehension -/
theorem e_compEnv {M : Model} {scope : Scope} {globals : Addr} {cl : List (Str × Addr)} {qual : Str} {env : Env} {vars : List Str} {Q : Env → Shared → Prop} (H : Ok w g os G l s) (hcell : ∀ y ∈ scope.names, y.2 ≠ .cell) (hv : vars.Nodup) (hk : scope.kind = .function)
    (h : ∀ C s', Ok w g os G ((C, .ns (vars.map (fun x => (x, none)))) :: l) s' → Q (newEnv scope C globals cl qual none .none (some env) 0) s') :
    wpAny M A (newFunctionEnv scope globals cl [] qual none .none (some env)) Q E s := by
  refine wpAny_newFunctionEnv hcell (by intro y hy; simp at hy) (fun h₁ hns hsb => ?_) hk
  have hk₁ : ∀ b o, s.heap.get? b = some o → h₁.get? b = some o := fun b o e => hsb.extBut b o (Nat.ne_of_lt (Heap.lt_size e)) (Heap.get?_push_of_some _ e)
  have H₁ := H.ext (t := s.toks + 0) hk₁
  refine h _ _ ⟨H₁.os, H₁.gens, H₁.keep, fun p hp => ?_, fun p hp => ?_, ?_, H.sm, fun p hp => ?_⟩
  · have hmap : (vars.map (fun x => (x, (none : Option Value)))).map (·.1) = vars := by simp [Function.comp_def]
    rcases List.mem_cons.mp hp with rfl | hp
    · refine ⟨by rw [hmap]; exact hv, ?_⟩
      have : (fun x => ((vars.map (fun x => (x, (none : Option Value)))).lookup x).join) = fun x => ([] : List (Str × Value)).reverse.lookup x := by
        funext x
        have := lookup_names (binds := []) (rest := vars) (by rw [List.map_nil, List.nil_append, hmap]; exact hv) x
        simpa using this
      rw [this]; exact hns
    · exact H₁.at_ p hp
  · rcases List.mem_cons.mp hp with rfl | hp
    · cases q : g.get? s.heap.objs.size with
      | none => rfl
      | some o' => exact absurd (Heap.lt_size (H.keep _ _ q)) (Nat.lt_irrefl _)
    · exact H₁.new p hp
  · rw [List.map_cons, List.nodup_cons]
    refine ⟨fun hm => ?_, H.nd⟩
    obtain ⟨p, hp, e⟩ := List.mem_map.mp hm
    exact absurd (H.lt hp) (by rw [e]; exact Nat.lt_irrefl _)
  · rcases List.mem_cons.mp hp with rfl | hp
    · obtain ⟨b, o, e, q⟩ := H.sm
      exact Nat.ne_of_gt (Nat.lt_trans q (Heap.lt_size (H.keep _ _ e)))
    · exact H.ns' p hp
abbrev testsOf (ifs : List Expr) (env : Env) : Sem Bool := forIn ifs true fun c r => if r = true then do let ok ← isTrue c env (eval c env); pure (ForInStep.yield ok) else pure (ForInStep.yield r)
theorem comp_loop {elt target iter : Expr} {ifs : List Expr} {scope : Scope} {pos : Pos} {it acc : Value} {env : Env} {R : Result → Shared → Prop} (I : Nat → Shared → Prop)
    (turn : ∀ n s, I n s → wpAny (model P0 w) A (pyNext it) (fun r s₁ => match r with
      | none => R (.ok .next) s₁
      | some v => wpAny (model P0 w) A (letOwnedTupleGo target it v) (fun _ s₁' => wpAny (model P0 w) A (assign target env v) (fun _ s₂ =>
          wpAny (model P0 w) A (testsOf ifs env) (fun ok s₃ =>
            if ok = true then wpAny (model P0 w) A (eval elt env) (fun x s₄ =>
              wpAny (model P0 w) A (call (.builtin "list.append") [acc, x]) (fun _ s₅ => ∃ m, m < n ∧ I m s₅) NoE s₄) NoE s₃
            else ∃ m, m < n ∧ I m s₃) NoE s₂) NoE s₁') NoE s₁) NoE s)
    (n : Nat) (h : I n s) : codeAny (model P0 w) A (.compLoop (.ListComp elt [⟨target, iter, ifs, 0⟩] scope pos) 0 it acc env) R s := by
  refine codeAny_loop rfl I (fun n s hI => ?_) n h
  show wpAny _ A ((compTurn (.ListComp elt [⟨target, iter, ifs, 0⟩] scope pos) 0 it acc env).onRaise (fun x => do noteFrame x env; theTreesLotGoes x)) _ _ s
  refine wpAny_noted ?_
  rw [compTurn_list]
  refine wpAny_bind (wpAny_standAt (wpAny_bind (wpAny_mono (turn n s hI) (fun r s₁ h₁ => ?_) fun _ _ h' => h'.elim)))
  cases r with
  | none => exact wpAny_pure h₁
  | some v =>
    refine wpAny_bind (wpAny_mono h₁ (fun _ s₁' h₁ => ?_) fun _ _ h' => h'.elim)
    refine wpAny_bind (wpAny_mono h₁ (fun _ s₂ h₂ => wpAny_bind (wpAny_mono h₂ (fun ok s₃ h₃ => ?_) fun _ _ h' => h'.elim)) fun _ _ h' => h'.elim)
    cases ok with
    | false => exact wpAny_pure ⟨rfl, h₃⟩
    | true =>
      exact wpAny_bind (wpAny_bind (wpAny_mono h₃ (fun x s₄ h₄ => wpAny_bind (wpAny_mono h₄ (fun _ s₅ h₅ => wpAny_pure (wpAny_pure ⟨rfl, h₅⟩)) fun _ _ h' => h'.elim)) fun _ _ h' => h'.elim))
theorem x_comp {d u : Nat} {env : Env} {elt target iter : Expr} {ifs : List Expr} {scope : Scope} {cl : List (Str × Addr)} {vars : List Str} {pos p1 : Pos} {use : Option (Value → Sem Unit)} {Q : Value → Shared → Prop}
    (hclos : closureFor scope env = pure cl) (hcell : ∀ y ∈ scope.names, y.2 ≠ .cell) (hkind : scope.kind = .function) (hnames : ∀ y ∈ scope.names, y.2 = .local → scope.names.lookup y.1 = some .local) (hv : vars.Nodup)
    (h : wpAny (model P0 w) (AR d u) (eval iter env) (fun xv s₁ => ∃ X need n item Nx G l, ∃ Inv : Nat → List Value → Array GenState → Led → Prop, Iter w X need n item Nx ∧ xv = .ref X ∧ Ok w g os G l s₁ ∧ n ≤ 100000 ∧ Inv 0 [] G l ∧ (∀ i ys G l, Inv i ys G l → ∀ p ∈ need, p ∈ l) ∧
      (∀ i v ys C D I G l kv s, i < n → item i v → ys.length ≤ i → kv.map (·.1) = vars → Inv i ys G l → Ok w g os G ((C, .ns kv) :: (D, .lst ys) :: (I, Nx (i + 1)) :: l) s → wpAny (model P0 w) (AR d u) (assign target (compEnvC scope cl C env) v) (fun _ s₂ =>
        wpAny (model P0 w) (AR d u) (testsOf ifs (compEnvC scope cl C env)) (fun ok s₃ =>
          if ok = true then wpAny (model P0 w) (AR d u) (eval elt (compEnvC scope cl C env)) (fun y s₄ => ∃ kv' G' l', kv'.map (·.1) = vars ∧ Inv (i + 1) (ys ++ [y]) G' l' ∧ Ok w g os G' ((C, .ns kv') :: (D, .lst ys) :: (I, Nx (i + 1)) :: l') s₄) NoE s₃
          else ∃ kv' G' l', kv'.map (·.1) = vars ∧ Inv (i + 1) ys G' l' ∧ Ok w g os G' ((C, .ns kv') :: (D, .lst ys) :: (I, Nx (i + 1)) :: l') s₃) NoE s₂) NoE s) ∧
      (∀ C D ys G l kv s, Inv n ys G l → Ok w g os G ((C, .ns kv) :: (D, .lst ys) :: l) s → match use with
        | none => ∀ s', Ok w g os G ((D, .lst ys) :: l) s' → Q (.ref D) s'
        | some f => wpAny (model P0 w) (AR d u) (f (.ref D)) (fun _ s' => ∃ l', Ok w g os G ((C, .ns kv) :: l') s' ∧ ∀ s'', Ok w g os G l' s'' → Q .none s'') NoE s)) NoE s)
    (hs : ∀ x, foldedSetIterable iter env x = pure x := by intro _; rfl) (hb : 0 = env.builtins := by rfl) :
    wpAny (model P0 w) (AR d u) (comprehension (.ListComp elt [⟨target, iter, ifs, 0⟩] scope pos) scope env p1 (newList []) false (eval iter env) use) Q NoE s := by
  refine wpAny_comprehension_free (use := use) rfl hs hclos hkind hnames (wpAny_mono h (fun xv s₁ q => ?_) fun _ _ x => x.elim)
  obtain ⟨X, need, n, item, Nx, G, l, Inv, IT, rfl, H, hn, h0, hneed, step, last⟩ := q
  refine IT.start H (hneed 0 [] G l h0) (fun I s₂ H₂ => ?_)
  refine e_newList H₂ (fun D s₃ H₃ => ?_) (Nat.zero_le _)
  refine e_compEnv H₃ hcell hv hkind (fun C s₄ H₄ => ?_)
  show codeAny _ _ (.compStart _ 0 (.ref I) (.ref D) (compEnvC scope cl C env)) _ s₄
  have loop : codeAny (model P0 w) (AR d u) (.compLoop (.ListComp elt [⟨target, iter, ifs, 0⟩] scope pos) 0 (.ref I) (.ref D) (compEnvC scope cl C env)) (compPost (model P0 w) (AR d u) NoE use Q (.ref D) C) s₄ := by
    refine comp_loop (fun k s' => ∃ i ys kv G l, kv.map (·.1) = vars ∧ Inv i ys G l ∧ Ok w g os G ((C, .ns kv) :: (D, .lst ys) :: (I, Nx i) :: l) s' ∧ ys.length ≤ i ∧ i ≤ n ∧ k = n + 1 - i) ?_ (n + 1) ⟨0, [], _, G, l, by simp [Function.comp_def], h0, H₄, Nat.zero_le _, Nat.zero_le _, rfl⟩
    rintro k s' ⟨i, ys, kv, G', l', hkv, hI, H', hys, hi, rfl⟩
    have P : ∀ {c : Cell} {m : Led}, ((C, Cell.ns kv) :: (D, Cell.lst ys) :: (I, c) :: m).Perm ((I, c) :: (C, .ns kv) :: (D, .lst ys) :: m) := by
      intro c m
      exact ((List.Perm.swap _ _ _).cons _).trans (List.Perm.swap _ _ _)
    have hneed' : ∀ p ∈ need, p ∈ (C, Cell.ns kv) :: (D, Cell.lst ys) :: l' := fun p hp => .tail _ (.tail _ (hneed _ _ _ _ hI p hp))
    by_cases hlt : i < n
    · refine IT.next (H'.perm P) hneed' hlt (fun v s₅ hitem H₅ => ?_)
      refine IT.owned H₅ ?_
      refine wpAny_mono (step i v ys C D I G' l' kv s₅ hlt hitem hys hkv hI (H₅.perm P.symm)) (fun _ s₆ q => wpAny_mono q (fun ok s₇ q => ?_) fun _ _ x => x) fun _ _ x => x
      split
      · rename_i hok
        rw [if_pos hok] at q
        refine wpAny_mono q (fun y s₈ q => ?_) fun _ _ x => x
        obtain ⟨kv', G'', l'', e1, e2, e3⟩ := q
        refine b_append e3 (.tail .head) (by omega) (fun s₉ H₉ => ?_)
        exact ⟨n + 1 - (i + 1), by omega, i + 1, _, kv', G'', l'', e1, e2, H₉, by simp; omega, hlt, rfl⟩
      · rename_i hok
        rw [if_neg hok] at q
        obtain ⟨kv', G'', l'', e1, e2, e3⟩ := q
        exact ⟨n + 1 - (i + 1), by omega, i + 1, _, kv', G'', l'', e1, e2, e3, by omega, hlt, rfl⟩
    · have : i = n := by omega
      subst this
      refine IT.stop rfl (H'.perm P) hneed' (fun s₅ H₅ => ?_)
      have fin := last C D ys G' l' kv s₅ hI H₅
      unfold compPost
      cases use with
      | none =>
        refine ⟨_, H₅.ns (.head _), fun h' hs' => fin _ ?_⟩
        exact H₅.drop (t := s₅.toks) hs'.extBut
      | some f =>
        refine wpAny_mono fin (fun _ s₆ q => ?_) fun _ _ x => x
        obtain ⟨l'', H₆, q⟩ := q
        exact ⟨_, H₆.ns (.head _), fun h' hs' => q _ (H₆.drop (t := s₆.toks) hs'.extBut)⟩
  refine codeAny_compStart_list loop ?_
  exact IT.again (i := 0) (H₄.perm (((List.Perm.swap _ _ _).cons _).trans (List.Perm.swap _ _ _))) loop
end
end Mine
end
section
open PySem PySem.W PySem.Calls PyProof.Rows PySem.W.X
set_option Elab.async false
set_option maxRecDepth 100000
set_option maxHeartbeats 8000000
set_option linter.unusedVariables false
namespace Mine
local macro_rules | `(tactic| walk_at "mem") => `(tactic| first | assumption | exact List.Mem.head _ | (refine' List.Mem.tail _ ?_; walk_at "mem") | (refine' List.mem_append_right _ ?_; walk_at "mem") | (refine' List.mem_append_left _ ?_; walk_at "mem") | exact Zip.at' (by assumption) | exact Zip.keep (by assumption) (by walk_at "mem") (by intro e; cases e))
local macro_rules | `(tactic| walk_at "zip") => `(tactic| first | assumption | exact Zip.head | exact Zip.tail (by walk_at "zip") | exact Zip.again (by assumption))
local macro_rules | `(tactic| walk_at "kv") => `(tactic| first | with_reducible_and_instances exact List.Mem.head _ | (refine' List.Mem.tail _ ?_; walk_at "kv") | assumption)
local macro_rules | `(tactic| walk_at "put") => `(tactic| first | with_reducible exact Put.head | exact Put.tail (by walk_at "put"))
local macro_rules | `(tactic| walk_at "putd") => `(tactic| first | with_reducible exact PutD.head | with_reducible exact PutD.nil | exact PutD.tail (by decide) (by walk_at "putd"))
local macro_rules | `(tactic| walk_at "nm") => `(tactic| first
  | (refine e_local (by assumption) (by walk_at "mem") (by walk_at "kv") ?_)
  | (refine e_cell (by assumption) (by rfl) (by walk_at "mem") ?_)
  | (refine e_free (by assumption) (by rfl) (by walk_at "mem") ?_))
local macro_rules | `(tactic| walk_at "gl") => `(tactic| refine e_global (by assumption) (by assumption) (by first | with_reducible exact gl_Problem _ | with_reducible exact gl_BacktrackingSolver _ | with_reducible exact gl_Domain _ | with_reducible exact gl_Constraint _ | with_reducible exact gl_FunctionConstraint _ | with_reducible exact gl_law_yes _ | with_reducible exact gl_law_rule _ | with_reducible exact gl_law_due _) ?_)
local macro_rules | `(tactic| walk_at "bi") => `(tactic| refine e_builtin (by assumption) (by assumption) (by first | with_reducible exact bn_isinstance _ | with_reducible exact bn_callable _ | with_reducible exact bn_list _ | with_reducible exact bn_tuple _ | with_reducible exact bn_len _ | with_reducible exact bn_range _ | with_reducible exact bn_next _ | with_reducible exact bn_dict _ | with_reducible exact bn_sorted _ | with_reducible exact bn_iter _) (by first | with_reducible exact bb_isinstance | with_reducible exact bb_callable | with_reducible exact bb_list | with_reducible exact bb_tuple | with_reducible exact bb_len | with_reducible exact bb_range | with_reducible exact bb_next | with_reducible exact bb_dict | with_reducible exact bb_sorted | with_reducible exact bb_iter) ?_)
local macro_rules | `(tactic| walk_at "ns") => `(tactic| (show (_ : List Str).Nodup; dsimp only [List.map, List.nil_append, List.cons_append, List.append_nil]; decide +kernel))
local macro_rules | `(tactic| walk_at "lt") => `(tactic| (show _ < 1000; omega))
local macro_rules | `(tactic| x_close) => `(tactic| exact xq_of (by first | assumption | exact Mem.start _) (by first | rfl | assumption))
local macro_rules | `(tactic| walk_at "ga") => `(tactic| refine i_get (by assumption) (by assumption) (by walk_at "mem") (by exact rfl) (by walk_at "mem") (by first | exact cls110 _ | exact cls186 _ | exact cls336 _) (by kernel_rfl) (by walk_at "kv") (by exact rfl) ?_)
local macro_rules | `(tactic| walk_at "sa") => `(tactic| refine i_set (by assumption) (by assumption) (by walk_at "mem") (by walk_at "zip") (by first | exact cls110 _ | exact cls186 _ | exact cls336 _) (by kernel_rfl) (by kernel_rfl) (by walk_at "putd") (Nat.le_of_ble_eq_true rfl) ?_)
local macro_rules | `(tactic| walk_at "st") => `(tactic| refine e_store (by assumption) (by walk_at "zip") (by walk_at "put") ?_)
section
variable {w : World} {g : Heap} {os : OsState} {G : Array GenState} {l l' : Led} {s : Shared} {a : Addr} {c c' : Cell} {f : Cell → Led} {A : Around} {E : Value → Shared → Prop}
/-! ## comprehensions, by the statement they stand in -/
theorem x_listcomp {d u : Nat} {env : Env} {elt target iter : Expr} {ifs : List Expr} {scope : Scope} {cl : List (Str × Addr)} {vars : List Str} {pos : Pos} {Q : Value → Shared → Prop}
    (hclos : closureFor scope env = pure cl) (hcell : ∀ y ∈ scope.names, y.2 ≠ .cell) (hkind : scope.kind = .function) (hnames : ∀ y ∈ scope.names, y.2 = .local → scope.names.lookup y.1 = some .local) (hv : vars.Nodup)
    (h : wpAny (model P0 w) (AR d u) (eval iter env) (fun xv s₁ => ∃ X need n item Nx G l, ∃ Inv : Nat → List Value → Array GenState → Led → Prop, Iter w X need n item Nx ∧ xv = .ref X ∧ Ok w g os G l s₁ ∧ n ≤ 100000 ∧ Inv 0 [] G l ∧ (∀ i ys G l, Inv i ys G l → ∀ p ∈ need, p ∈ l) ∧
      (∀ i v ys C D I G l kv s, i < n → item i v → ys.length ≤ i → kv.map (·.1) = vars → Inv i ys G l → Ok w g os G ((C, .ns kv) :: (D, .lst ys) :: (I, Nx (i + 1)) :: l) s → wpAny (model P0 w) (AR d u) (assign target (compEnvC scope cl C env) v) (fun _ s₂ =>
        wpAny (model P0 w) (AR d u) (testsOf ifs (compEnvC scope cl C env)) (fun ok s₃ =>
          if ok = true then wpAny (model P0 w) (AR d u) (eval elt (compEnvC scope cl C env)) (fun y s₄ => ∃ kv' G' l', kv'.map (·.1) = vars ∧ Inv (i + 1) (ys ++ [y]) G' l' ∧ Ok w g os G' ((C, .ns kv') :: (D, .lst ys) :: (I, Nx (i + 1)) :: l') s₄) NoE s₃
          else ∃ kv' G' l', kv'.map (·.1) = vars ∧ Inv (i + 1) ys G' l' ∧ Ok w g os G' ((C, .ns kv') :: (D, .lst ys) :: (I, Nx (i + 1)) :: l') s₃) NoE s₂) NoE s) ∧
      (∀ D ys G l s, Inv n ys G l → Ok w g os G ((D, .lst ys) :: l) s → Q (.ref D) s)) NoE s)
    (hs : ∀ x, foldedSetIterable iter env x = pure x := by intro _; rfl) (hb : 0 = env.builtins := by rfl) :
    wpAny (model P0 w) (AR d u) (eval (.ListComp elt [⟨target, iter, ifs, 0⟩] scope pos) env) Q NoE s := by
  rw [eval_ListComp]
  refine x_comp (g := g) (os := os) (use := none) (vars := vars) hclos hcell hkind hnames hv (wpAny_mono h (fun xv s₁ q => ?_) fun _ _ x => x) hs hb
  obtain ⟨X, need, n, item, Nx, G, l, Inv, a1, a2, a3, a4, a5, a6, a7, a8⟩ := q
  exact ⟨X, need, n, item, Nx, G, l, Inv, a1, a2, a3, a4, a5, a6, a7, fun C D ys G l kv s hI H s' H' => a8 D ys G l s' hI H'⟩
theorem x_assign_comp {d u : Nat} {env : Env} {elt target iter : Expr} {ifs : List Expr} {scope : Scope} {cl : List (Str × Addr)} {vars : List Str} {pos spos py : Pos} {y : Str} {Q : Flow → Shared → Prop}
    (hsw : swapsWith (.ListComp elt [⟨target, iter, ifs, 0⟩] scope pos) (some (.Name y py)) spos.line env = pure true)
    (hclos : closureFor scope env = pure cl) (hcell : ∀ y ∈ scope.names, y.2 ≠ .cell) (hkind : scope.kind = .function) (hnames : ∀ y ∈ scope.names, y.2 = .local → scope.names.lookup y.1 = some .local) (hv : vars.Nodup)
    (h : wpAny (model P0 w) (AR d u) (eval iter env) (fun xv s₁ => ∃ X need n item Nx G l, ∃ Inv : Nat → List Value → Array GenState → Led → Prop, Iter w X need n item Nx ∧ xv = .ref X ∧ Ok w g os G l s₁ ∧ n ≤ 100000 ∧ Inv 0 [] G l ∧ (∀ i ys G l, Inv i ys G l → ∀ p ∈ need, p ∈ l) ∧
      (∀ i v ys C D I G l kv s, i < n → item i v → ys.length ≤ i → kv.map (·.1) = vars → Inv i ys G l → Ok w g os G ((C, .ns kv) :: (D, .lst ys) :: (I, Nx (i + 1)) :: l) s → wpAny (model P0 w) (AR d u) (assign target (compEnvC scope cl C env) v) (fun _ s₂ =>
        wpAny (model P0 w) (AR d u) (testsOf ifs (compEnvC scope cl C env)) (fun ok s₃ =>
          if ok = true then wpAny (model P0 w) (AR d u) (eval elt (compEnvC scope cl C env)) (fun y s₄ => ∃ kv' G' l', kv'.map (·.1) = vars ∧ Inv (i + 1) (ys ++ [y]) G' l' ∧ Ok w g os G' ((C, .ns kv') :: (D, .lst ys) :: (I, Nx (i + 1)) :: l') s₄) NoE s₃
          else ∃ kv' G' l', kv'.map (·.1) = vars ∧ Inv (i + 1) ys G' l' ∧ Ok w g os G' ((C, .ns kv') :: (D, .lst ys) :: (I, Nx (i + 1)) :: l') s₃) NoE s₂) NoE s) ∧
      (∀ D ys G l, Inv n ys G l → ∃ kvs kvs' f, Zip l env.locals (.ns kvs) f ∧ Put kvs y (.ref D) kvs' ∧ ∀ s, Ok w g os G ((D, .lst ys) :: f (.ns kvs')) s → Q .next s)) NoE s)
    (hs : ∀ x, foldedSetIterable iter env x = pure x := by intro _; rfl) (hb : 0 = env.builtins := by rfl) (hx : env.kindOf y = some .local := by rfl) (hk : env.scope.kind = .function := by rfl) :
    wpAny (model P0 w) (AR d u) (exec (.Assign [.Name y py] (.ListComp elt [⟨target, iter, ifs, 0⟩] scope pos) spos) env) Q NoE s := by
  rw [exec_Assign_Name_used _ _ _ _ hsw]
  refine wpAny_bind (wpAny_standAt (wpAny_bind ?_))
  show wpAny _ (AR d u) (do let _ ← comprehension (.ListComp elt [⟨target, iter, ifs, 0⟩] scope pos) scope env _ (newList []) false (eval iter env) (some (assign (.Name y py) env))) _ _ s
  refine wpAny_bind (wpAny_mono (x_comp (g := g) (os := os) (use := some (assign (.Name y py) env)) (vars := vars) (Q := fun _ s' => Q .next s') hclos hcell hkind hnames hv (wpAny_mono h (fun xv s₁ q => ?_) fun _ _ x => x) hs hb) (fun _ s' hq => wpAny_pure (wpAny_pure hq)) fun _ _ e => e)
  obtain ⟨X, need, n, item, Nx, G, l, Inv, a1, a2, a3, a4, a5, a6, a7, a8⟩ := q
  refine ⟨X, need, n, item, Nx, G, l, Inv, a1, a2, a3, a4, a5, a6, a7, fun C D ys G l kv s hI H => ?_⟩
  obtain ⟨kvs, kvs', f, z, p, fin⟩ := a8 D ys G l hI
  refine wpAny_assign_Name (e_store H (.tail (.tail z)) p (fun s' H' => ?_) hx hk)
  exact ⟨_, H', fun s'' H'' => fin _ H''⟩
/-! ## calls with a star, calls of an object of a class -/
theorem star_list {L : Addr} {vs : List Value} {d u : Nat} {Q : List Value → Shared → Prop} (H : Ok w g os G l s) (hm : (L, .lst vs) ∈ l) (hz : vs.length ≤ 1000) (h : ∀ s', Ok w g os G l s' → Q vs s') : StarOf (model P0 w) (AR d u) NoE (.ref L) Q s := by
  obtain ⟨n, hn⟩ := H.get hm
  have hT : s.TypeIs (.ref L) "list" := ⟨_, hn, rfl⟩
  have z : wpAny (model P0 w) (AR d u) (collect (.ref L)) Q NoE s := by
    refine wpAny_collect_seq L (.inl rfl) hn rfl rfl (fun h' hk => ?_) (by rw [List.size_toArray, sizeLine_eq]; omega)
    have := h _ (H.ext (h' := h') (t := s.toks) hk)
    simpa using this
  unfold StarOf notIterableAtAll
  exact wpAny_bind (wpAny_specialOf hT PySem.F.slot_list_iter.lookup (wpAny_pure ⟨rfl, z⟩))
theorem keeper_fn {M : Model} {h : Heap} {fn : Addr} {fd : FuncData} (hf : h.get? fn = some (fnO fd)) : Looks M h (keeperOf (.ref fn)) .frame := by
  refine (Looks.ld (part := none) hf).andThen ?_
  exact .now
theorem c_star {d u : Nat} {env : Env} {pos p : Pos} {fn : Addr} {fd : FuncData} {first : List Value} {e : Expr} {Q : Value → Shared → Prop}
    (h : wpAny (model P0 w) (AR d u) (eval e env) (fun v s₁ => ∃ L vs g os G l, v = .ref L ∧ Ok w g os G l s₁ ∧ (L, .lst vs) ∈ l ∧ vs.length ≤ 1000 ∧ (fn, .ob (fnO fd)) ∈ l ∧ ∀ s', Ok w g os G l s' → wpAny (model P0 w) (AR d u) (call (.ref fn) (first ++ vs)) Q NoE s') NoE s)
    (he : starEach [.Starred e p] env = [(true, eval e env)] := by rfl) : wpAny (model P0 w) (AR d u) (callWith pos (.ref fn) first (backTo pos (starEach [.Starred e p] env)) []) Q NoE s := by
  rw [he]
  refine ks_call (P := fun h => h.get? fn = some (fnO fd)) rfl (fun h hf => ⟨.frame, .inl rfl, keeper_fn hf⟩) (ks_lone (wpAny_mono h (fun v s₁ q => ?_) fun _ _ x => x))
  obtain ⟨L, vs, g, os, G, l, rfl, H, hm, hz, hf, q⟩ := q
  exact star_list H hm hz (fun s' H' => ⟨H'.get hf, q s' H'⟩)
theorem i_methval {x C dx : Addr} {kvs : List (Str × Value)} {name : Str} {v : Value} {pl : Sem Bool} {Q : Value × List Value → Shared → Prop} (B : Base w g) (H : Ok w g os G l s) (hx : (x, c) ∈ l) (hi : isInst c C dx) (hd : (dx, .sd kvs) ∈ l)
    (K : Cls w C) (ha : findIn (Kf w) (.ref C) name = some none) (hv : (name, v) ∈ kvs) (hh : handedIn v = true) (h : ∀ s', Ok w g os G l s' → Q (v, []) s') : wpAny (model P0 w) A (getMethod (.ref x) name pl) Q E s := by
  obtain ⟨ox, es, n, I, _, _, sd, nd⟩ := inst_at H hx hi hd
  exact method_usual (B.X' H) I K.ga K.gn ha rfl (i_get B H hx hi hd K ha hv hh h)
/-- an object of a class is called -/
theorem c_inst {d u : Nat} {env : Env} {pos : Pos} {x C dx f : Addr} {first : List Value} {e : Expr} {rest : List Expr} {Q : Value → Shared → Prop} (hs : findIn (Kf w) (.ref C) "__call__" = some (some (.ref f))) (hf : isFn (Kf w) (.ref f) = true) (hfn : fnIn (Kf w) f = true)
    (h : wpAny (model P0 w) (AR d u) (spliced (backTo pos (starEach (e :: rest) env))) (fun vs s₁ => ∃ g os G l kvs, Base w g ∧ Ok w g os G l s₁ ∧ (x, .ob (instObj C dx)) ∈ l ∧ (dx, .sd kvs) ∈ l ∧ codeAny (model P0 w) (AR d u) (.call (.ref f) ⟨.ref x :: (first ++ vs), []⟩) (fun r s' => match r with | .ok (.ret v) => Q v s' | _ => False) s₁) NoE s)
    (he : starEach (e :: rest) env = (false, eval e env) :: starEach rest env := by rfl) (hplain : (backTo pos (starEach rest env)).any (·.1) = false := by rfl) :
    wpAny (model P0 w) (AR d u) (callWith pos (.ref x) first (backTo pos (starEach (e :: rest) env)) []) Q NoE s := by
  rw [he] at h ⊢
  unfold callWith
  refine wpAny_bind (wpAny_holding (evalArgs_plain (wpAny_mono h (fun vs s₁ q => wpAny_bind (wpAny_standAt ?_)) fun _ _ y => y)))
  obtain ⟨g, os, G, l, kvs, B, H, hx, hd, q⟩ := q
  obtain ⟨ox, es, n, I, _, _, sd, nd⟩ := inst_at H hx (C := C) (dx := dx) rfl hd
  have ho := H.get hx
  have hox : ox = instObj C dx := by
    have := I.at_
    rw [ho] at this
    exact (Option.some.inj this).symm
  subst hox
  have L := kco_keeper (M := model P0 w) I rfl
  have hp : ((backTo pos ((false, eval e env) :: starEach rest env)).any (·.1) || (([] : List (Option Str × Sem Value))).any (·.1.isNone)) = false := by
    show ((false || (backTo pos (starEach rest env)).any (·.1)) || false) = false
    rw [hplain]; rfl
  simp only [hp]
  refine wpAny_bind (L.here ?_)
  refine wpAny_bind (wpAny_operateT ?_)
  refine wpAny_call (codeAny_mono (kco_code (B.X' H) I rfl hs hf hfn q) (fun r s' z => ?_))
  rcases r with e | (v | _ | _ | _) <;> first | exact z.elim | exact wpAny_bind (wpAny_holding (wpAny_point (wpAny_pure z)))
end
end Mine
end
section
open PySem PySem.W PySem.Calls PyProof.Rows PySem.W.X
set_option Elab.async false
set_option maxRecDepth 100000
set_option maxHeartbeats 8000000
set_option linter.unusedVariables false
namespace Mine
local macro_rules | `(tactic| walk_at "mem") => `(tactic| first | assumption | exact List.Mem.head _ | (refine' List.Mem.tail _ ?_; walk_at "mem") | (refine' List.mem_append_right _ ?_; walk_at "mem") | (refine' List.mem_append_left _ ?_; walk_at "mem") | exact Zip.at' (by assumption) | exact Zip.keep (by assumption) (by walk_at "mem") (by intro e; cases e))
local macro_rules | `(tactic| walk_at "zip") => `(tactic| first | assumption | exact Zip.head | exact Zip.tail (by walk_at "zip") | exact Zip.again (by assumption))
local macro_rules | `(tactic| walk_at "kv") => `(tactic| first | with_reducible_and_instances exact List.Mem.head _ | (refine' List.Mem.tail _ ?_; walk_at "kv") | assumption)
local macro_rules | `(tactic| walk_at "put") => `(tactic| first | with_reducible exact Put.head | exact Put.tail (by walk_at "put"))
local macro_rules | `(tactic| walk_at "putd") => `(tactic| first | with_reducible exact PutD.head | with_reducible exact PutD.nil | exact PutD.tail (by decide) (by walk_at "putd"))
local macro_rules | `(tactic| walk_at "nm") => `(tactic| first
  | (refine e_local (by assumption) (by walk_at "mem") (by walk_at "kv") ?_)
  | (refine e_cell (by assumption) (by rfl) (by walk_at "mem") ?_)
  | (refine e_free (by assumption) (by rfl) (by walk_at "mem") ?_))
local macro_rules | `(tactic| walk_at "gl") => `(tactic| refine e_global (by assumption) (by assumption) (by first | with_reducible exact gl_Problem _ | with_reducible exact gl_BacktrackingSolver _ | with_reducible exact gl_Domain _ | with_reducible exact gl_Constraint _ | with_reducible exact gl_FunctionConstraint _ | with_reducible exact gl_law_yes _ | with_reducible exact gl_law_rule _ | with_reducible exact gl_law_due _) ?_)
local macro_rules | `(tactic| walk_at "bi") => `(tactic| refine e_builtin (by assumption) (by assumption) (by first | with_reducible exact bn_isinstance _ | with_reducible exact bn_callable _ | with_reducible exact bn_list _ | with_reducible exact bn_tuple _ | with_reducible exact bn_len _ | with_reducible exact bn_range _ | with_reducible exact bn_next _ | with_reducible exact bn_dict _ | with_reducible exact bn_sorted _ | with_reducible exact bn_iter _) (by first | with_reducible exact bb_isinstance | with_reducible exact bb_callable | with_reducible exact bb_list | with_reducible exact bb_tuple | with_reducible exact bb_len | with_reducible exact bb_range | with_reducible exact bb_next | with_reducible exact bb_dict | with_reducible exact bb_sorted | with_reducible exact bb_iter) ?_)
local macro_rules | `(tactic| walk_at "ns") => `(tactic| (show (_ : List Str).Nodup; dsimp only [List.map, List.nil_append, List.cons_append, List.append_nil]; decide +kernel))
local macro_rules | `(tactic| walk_at "lt") => `(tactic| (show _ < 1000; omega))
local macro_rules | `(tactic| x_close) => `(tactic| exact xq_of (by first | assumption | exact Mem.start _) (by first | rfl | assumption))
local macro_rules | `(tactic| walk_at "ga") => `(tactic| refine i_get (by assumption) (by assumption) (by walk_at "mem") (by exact rfl) (by walk_at "mem") (by first | exact cls110 _ | exact cls186 _ | exact cls336 _) (by kernel_rfl) (by walk_at "kv") (by exact rfl) ?_)
local macro_rules | `(tactic| walk_at "sa") => `(tactic| refine i_set (by assumption) (by assumption) (by walk_at "mem") (by walk_at "zip") (by first | exact cls110 _ | exact cls186 _ | exact cls336 _) (by kernel_rfl) (by kernel_rfl) (by walk_at "putd") (Nat.le_of_ble_eq_true rfl) ?_)
local macro_rules | `(tactic| walk_at "st") => `(tactic| refine e_store (by assumption) (by walk_at "zip") (by walk_at "put") ?_)
local macro_rules | `(tactic| walk_at "nmc") => `(tactic| first
  | (refine e_local (by assumption) (List.Mem.head _) (by first | exact List.Mem.head _ | exact List.Mem.tail _ (List.Mem.head _) | exact List.Mem.tail _ (List.Mem.tail _ (List.Mem.head _))) ?_)
  | (refine e_cell (by assumption) (by rfl) (by walk_at "mem") ?_)
  | (refine e_free (by assumption) (by rfl) (by walk_at "mem") ?_))
local macro_rules | `(tactic| walk_at "subl") => `(tactic| first | exact List.Sublist.refl _ | (refine' List.Sublist.cons _ ?_; walk_at "subl"))
section
variable {w : World} {g : Heap} {os : OsState} {G : Array GenState} {l l' : Led} {s : Shared} {a : Addr} {c c' : Cell} {f : Cell → Led} {A : Around} {E : Value → Shared → Prop}
/-! ## FunctionConstraint.__call__ -/
theorem d_get2 {d : Addr} {kvs : List (Str × Value)} {x : Str} {t : Tok} {v : Value} {Q : Value → Shared → Prop} (H : Ok w g os G l s) (hm : (d, .sd kvs) ∈ l)
    (h : ∀ s', Ok w g os G l s' → Q ((valueAt kvs x).getD v) s') : wpAny (model P0 w) A (call (.builtin "dict.get") [.ref d, .str x t, v]) Q E s :=
  call_meetsIn PySem.F.slot_dict_get (H.dict hm).typeIs PySem.F.entry_dict_get (PySem.F.args_dict_get_3 _ _ _) (meets_dict_get_default (strKind P0 w) d (isStr x t) (H.notSys hm) v)
    ⟨_, (H.dict hm).mapOf, h _ (H.toks _)⟩
theorem l_len {L : Addr} {vs : List Value} {Q : Value → Shared → Prop} (H : Ok w g os G l s) (hm : (L, .lst vs) ∈ l) (hz : vs.length ≤ 100000) (h : ∀ t s', Ok w g os G l s' → Q (.int vs.length t) s') : wpAny (model P0 w) A (call (.builtin "len") [.ref L]) Q E s := by
  have := h (s.toks + 1) _ ((H.toks (s.toks + 1 + 1)))
  refine Calls.call_len_list (H.lst hm) (by rw [List.size_toArray]; omega) ?_
  simpa using this
def chk (m : Int) : Option Value → Option Value → Bool
  | some (.int a _), some (.int b _) => yes m a b
  | _, _ => true
def Held (v : Value) : Prop := v = .ref 218 ∨ ∃ i t, v = .int i t ∧ Sm i
theorem bindL_eq (K : Str → Option NameKind) (binds : List (Str × Value)) : ∀ (m : Str → Option Value) (x : Str), bindL K binds m x = (((binds.filter (fun b => decide (K b.1 = some .local))).reverse.lookup x).orElse fun _ => m x) := by
  induction binds with
  | nil => intro m x; rfl
  | cons b r ih =>
    intro m x
    obtain ⟨n, v⟩ := b
    unfold bindL
    by_cases q : K n = some .local
    · rw [if_pos q, ih, List.filter_cons_of_pos (p := fun b : Str × Value => decide (K b.1 = some .local)) (by simpa using q), List.reverse_cons, List.lookup_append]
      cases (List.filter (fun b => decide (K b.1 = some .local)) r).reverse.lookup x with
      | some v' => rfl
      | none =>
        simp only [Option.orElse_none, Option.none_or, List.lookup_cons, List.lookup_nil]
        by_cases e : x = n
        · subst e; simp
        · have : (x == n) = false := by simpa using e
          rw [if_neg e, this]; rfl
    · rw [if_neg q, ih, List.filter_cons_of_neg (p := fun b : Str × Value => decide (K b.1 = some .local)) (by simpa using q)]
theorem hL_of {K : Str → Option NameKind} {binds lb : List (Str × Value)} {rest : List Str} {kvs : List (Str × Option Value)} (h1 : binds.filter (fun b => decide (K b.1 = some .local)) = lb)
    (h2 : kvs = lb.map (fun b => (b.1, some b.2)) ++ rest.map (fun n => (n, none))) (nd : (kvs.map (·.1)).Nodup) (x : Str) : bindL K binds (fun _ => none) x = (kvs.lookup x).join := by
  rw [bindL_eq, h1, h2, lookup_names (by rw [← h2]; exact nd)]
  cases lb.reverse.lookup x <;> rfl
theorem kv1 {α β : Type} {kv : List (α × β)} {a : α} (h : kv.map (·.1) = [a]) : ∃ o, kv = [(a, o)] := by
  match kv, h with
  | [(x, c)], h => simp at h; subst h; exact ⟨c, rfl⟩
theorem kv3 {α β : Type} {kv : List (α × β)} {a b c : α} (h : kv.map (·.1) = [a, b, c]) : ∃ x y z, kv = [(a, x), (b, y), (c, z)] := by
  match kv, h with
  | [(x, p), (y, q), (z, r)], h => simp at h; obtain ⟨rfl, rfl, rfl⟩ := h; exact ⟨_, _, _, rfl⟩
theorem starCall {M : Model} {env : Env} {o e : Expr} {name : Str} {apos pos p : Pos} {Q : Value → Shared → Prop}
    (h : wpAny M A (eval o env) (fun ov s₁ => wpAny M A (getAttr ov name true) (fun f s₂ => wpAny M A (callWith pos f [] (backTo pos (starEach [.Starred e p] env)) []) Q E s₂) E s₁) E s)
    (he : eval (.Call (.Attribute o name apos) [.Starred e p] [] pos) env = (do
      let ov ← eval o env
      standAt apos.atName
      let (f, first) ← holding [ov] (do pure (← getAttr ov name true, []))
      callWith pos f first (backTo pos (starEach [.Starred e p] env)) []) := by rfl) :
    wpAny M A (eval (.Call (.Attribute o name apos) [.Starred e p] [] pos) env) Q E s := by
  rw [he]
  exact wpAny_bind (wpAny_mono h (fun ov s₁ h₁ => wpAny_bind (wpAny_standAt (wpAny_bind (wpAny_holding (wpAny_bind (wpAny_mono h₁ (fun f s₂ h₂ => wpAny_pure h₂) fun _ _ x => x)))))) fun _ _ x => x)
theorem spec_call {d u : Nat} {fc dfc fn vl a : Addr} {n1 n2 : Str} {t1 t2 : Tok} {m : Int} {need : Led} {fd : FuncData} {kvs : List (Str × Value)} {dm : Value} {R : Result → Shared → Prop} (B : Base w g) (H : Ok w g os G l s)
    (hfc : (fc, .ob (instObj 336 dfc)) ∈ l) (hdfc : (dfc, .sd [("_func", .ref fn), ("_assigned", .bool true)]) ∈ l) (hfn : (fn, .ob (fnO fd)) ∈ l) (hc : Calls w g need fn m) (hneed : ∀ p ∈ need, p ∈ l)
    (hvl : (vl, .lst [.str n1 t1, .str n2 t2]) ∈ l) (ha : (a, .sd kvs) ∈ l) (hv : ∀ n v, valueAt kvs n = some v → ∃ i t, v = .int i t ∧ Sm i) (hd : d ≤ 700)
    (h : ∀ s', Ok w g os G l s' → R (.ok (.ret (.bool (chk m (valueAt kvs n1) (valueAt kvs n2))))) s') :
    codeAny (model P0 w) (AR d u) (.call (.ref 333) ⟨[.ref fc, .ref vl, dm, .ref a, .none], []⟩) R s := by
  refine call_fnC (binds := [("self", .ref fc), ("variables", .ref vl), ("domains", dm), ("assignments", .ref a), ("forwardcheck", .none), ("_unassigned", .ref 218)])
    (kvs := [("self", some (.ref fc)), ("variables", some (.ref vl)), ("domains", some dm), ("forwardcheck", some .none), ("parms", none), ("missing", none)]) (cn := [("_unassigned", some (.ref 218)), ("assignments", some (.ref a))])
    B H rfl (by kernel_rfl) rfl (binds_K (B.X' H) (T := 328) rfl rfl rfl rfl rfl) rfl ?_ (fun n => rfl) (by walk_at "ns") (hL_of (lb := [("self", .ref fc), ("variables", .ref vl), ("domains", dm), ("forwardcheck", .none)]) (rest := ["parms", "missing"]) rfl rfl (by walk_at "ns")) (by walk_at "ns") ?_ (by walk_at "lt") (fun L cs s₁ e H₁ => ?_)
  · intro x hx
    simp only [List.mem_cons, List.not_mem_nil, or_false] at hx
    rcases hx with rfl | rfl | rfl | rfl | rfl | rfl
    · exact .inl rfl
    · exact .inl rfl
    · exact .inl rfl
    · exact .inr ⟨rfl, rfl⟩
    · exact .inl rfl
    · exact .inr ⟨rfl, rfl⟩
  · intro p hp
    simp only [List.mem_cons, List.not_mem_nil, or_false] at hp
    rcases hp with rfl | rfl
    · rfl
    · rfl
  obtain ⟨c1, c2, rfl⟩ := cs2 e
  dsimp only [cellsLed, List.zip_cons_cons, List.zip_nil_right, List.map_cons, List.map_nil, List.cons_append, List.nil_append] at H₁
  generalize hp1 : (valueAt kvs n1).getD (.ref 218) = p1
  generalize hp2 : (valueAt kvs n2).getD (.ref 218) = p2
  have held : ∀ n, Held ((valueAt kvs n).getD (.ref 218)) := by
    intro n
    cases q : valueAt kvs n with
    | none => exact .inl rfl
    | some v => exact .inr (hv n v q)
  have hh1 : Held p1 := hp1 ▸ held n1
  have hh2 : Held p2 := hp2 ▸ held n2
  have hvl1 : (vl, Cell.lst [.str n1 t1, .str n2 t2]) ∈ (L, Cell.ns [("self", some (.ref fc)), ("variables", some (.ref vl)), ("domains", some dm), ("forwardcheck", some .none), ("parms", none), ("missing", none)]) :: (c1, Cell.cl (some (.ref 218))) :: (c2, Cell.cl (some (.ref a))) :: l := .tail _ (.tail _ (.tail _ hvl))
  refine wpAny_execs_cons (x_assign_comp (g := g) (os := os) (vars := ["x"]) rfl rfl (by decide) rfl (by decide) (by decide) ?_)
  walk_at "nm"
  refine ⟨vl, _, _, _, _, G, _, fun i ys G' l' => G = G' ∧ l' = _ ∧ ys = [p1, p2].take i, Iter.list w vl [.str n1 t1, .str n2 t2], rfl, H₁, Nat.le_of_ble_eq_true rfl, ⟨rfl, rfl, rfl⟩, ?_, ?_, ?_⟩
  · rintro i ys G' l' ⟨rfl, rfl, rfl⟩ p hp
    simp only [List.mem_singleton] at hp
    subst hp
    exact hvl1
  · rintro i v ys C D I G' l' kv s₂ hi hitem hys hkv ⟨rfl, rfl, rfl⟩ H₂
    obtain ⟨o, rfl⟩ := kv1 hkv
    refine wpAny_assign_Name (e_store H₂ (by walk_at "zip") (by walk_at "put") (fun s₃ H₃ => ?_))
    refine wpAny_tests_nil ?_
    rw [if_pos rfl]
    refine m_bi PySem.F.plainAttrs_dict PySem.F.slot_dict_get PySem.F.type_dict_get ?_
    walk_at "nmc"
    refine ⟨_, _, _, _, _, _, H₃, rfl, .tail _ (.tail _ (.tail _ (.tail _ (.tail _ (.tail _ ha))))), rfl, args_cons ?_⟩
    walk_at "nmc"
    refine args_cons ?_
    walk_at "nmc"
    refine args_nil ?_
    have hi2 : i < 2 := hi
    have : i = 0 ∨ i = 1 := by omega
    rcases this with rfl | rfl
    · cases hitem
      refine d_get2 H₃ (.tail _ (.tail _ (.tail _ (.tail _ (.tail _ (.tail _ ha)))))) (fun s₄ H₄ => ?_)
      exact ⟨_, _, _, rfl, ⟨rfl, rfl, by rw [hp1]; rfl⟩, H₄⟩
    · cases hitem
      refine d_get2 H₃ (.tail _ (.tail _ (.tail _ (.tail _ (.tail _ (.tail _ ha)))))) (fun s₄ H₄ => ?_)
      exact ⟨_, _, _, rfl, ⟨rfl, rfl, by rw [hp2]; rfl⟩, H₄⟩
  rintro D ys G' l' ⟨rfl, rfl, rfl⟩
  refine ⟨_, _, _, .head, by walk_at "put", fun s₂ H₂ => ?_⟩
  have hD : (D, Cell.lst [p1, p2]) ∈ (D, Cell.lst [p1, p2]) :: (L, Cell.ns [("self", some (.ref fc)), ("variables", some (.ref vl)), ("domains", some dm), ("forwardcheck", some .none), ("parms", some (.ref D)), ("missing", none)]) :: (c1, Cell.cl (some (.ref 218))) :: (c2, Cell.cl (some (.ref a))) :: l := .head _
  refine wpAny_execs_cons (wpAny_Assign_Name (Call_ ?_))
  walk_at "bi"
  refine c_bi (args_cons (x_listcomp (g := g) (os := os) (vars := ["parm"]) rfl (by decide) rfl (by decide) (by decide) ?_))
  walk_at "nm"
  refine ⟨D, _, _, _, _, G, _, fun i ys G' l' => G = G' ∧ l' = _ ∧ ys = ([p1, p2].take i).filter (fun v => v == .ref 218), Iter.list w D [p1, p2], rfl, H₂, Nat.le_of_ble_eq_true rfl, ⟨rfl, rfl, rfl⟩, ?_, ?_, ?_⟩
  · rintro i ys G' l' ⟨rfl, rfl, rfl⟩ p hp
    simp only [List.mem_singleton] at hp
    subst hp
    exact hD
  · rintro i v ys C D' I G' l' kv s₃ hi hitem hys hkv ⟨rfl, rfl, rfl⟩ H₃
    obtain ⟨o, rfl⟩ := kv1 hkv
    refine wpAny_assign_Name (e_store H₃ (by walk_at "zip") (by walk_at "put") (fun s₄ H₄ => ?_))
    have hhv : Held v := by
      have hi2 : i < 2 := hi
      have : i = 0 ∨ i = 1 := by omega
      rcases this with rfl | rfl <;> cases hitem
      · exact hh1
      · exact hh2
    have htake : ([p1, p2].take (i + 1)).filter (fun v => v == .ref 218) = ([p1, p2].take i).filter (fun v => v == .ref 218) ++ (if v == .ref 218 then [v] else []) := take_succ_filter _ _ _ _ hitem
    refine wpAny_tests_one (wpAny_isTrue_Compare1 ?_)
    walk_at "nmc"
    walk_at "nmc"
    rcases hhv with rfl | ⟨k, t, rfl, -⟩
    · refine wpAny_is_ref_self (wpAny_truthy_bool ?_)
      rw [if_pos rfl]
      walk_at "nmc"
      refine ⟨_, _, _, rfl, ⟨rfl, rfl, ?_⟩, H₄⟩
      rw [htake, if_pos (by simp)]
    · refine wpAny_is_other (by rfl) (by intro e; cases e) (wpAny_truthy_bool ?_)
      rw [if_neg (by decide)]
      refine ⟨_, _, _, rfl, ⟨rfl, rfl, ?_⟩, H₄⟩
      rw [htake, if_neg (by simp), List.append_nil]
  rintro D2 ys G' l' s₃ ⟨rfl, rfl, rfl⟩ H₃
  refine args_nil (l_len H₃ (.head _) (Nat.le_trans (List.length_filter_le _ _) (Nat.le_of_ble_eq_true rfl)) (fun t s₄ H₄ => ?_))
  refine e_store H₄ (by walk_at "zip") (by walk_at "put") (fun s₅ H₅ => ?_)
  refine wpAny_execs_cons (wpAny_If (isTrue_plain ?_))
  walk_at "nm"
  refine P.truthy_int ?_
  have key : (∃ i1 k1 i2 k2, p1 = .int i1 k1 ∧ p2 = .int i2 k2 ∧ Sm i2 ∧ chk m (valueAt kvs n1) (valueAt kvs n2) = yes m i1 i2) ∨ (((([p1, p2].take 2).filter (fun v => v == Value.ref 218)).length : Int) != 0) = true ∧ chk m (valueAt kvs n1) (valueAt kvs n2) = true := by
    cases q1 : valueAt kvs n1 with
    | none =>
      rw [q1] at hp1
      refine .inr ⟨?_, rfl⟩
      subst hp1
      simp
      omega
    | some v1 =>
      obtain ⟨i1, k1, rfl, -⟩ := hv _ _ q1
      cases q2 : valueAt kvs n2 with
      | none =>
        rw [q2] at hp2
        refine .inr ⟨?_, rfl⟩
        subst hp2
        rw [q1] at hp1
        subst hp1
        simp
      | some v2 =>
        obtain ⟨i2, k2, rfl, sm2⟩ := hv _ _ q2
        rw [q1] at hp1
        rw [q2] at hp2
        exact .inl ⟨i1, k1, i2, k2, hp1.symm, hp2.symm, sm2, rfl⟩
  rcases key with ⟨i1, k1, i2, k2, rfl, rfl, sm2, kk⟩ | ⟨kk1, kk⟩
  · refine ite_neg (by simp) ?_
    refine wpAny_execs_nil ?_
    refine wpAny_execs_cons (wpAny_Return_some (starCall ?_))
    walk_at "nm"
    refine i_get B H₅ (by walk_at "mem") (by exact rfl) (by walk_at "mem") (cls336 _) (by kernel_rfl) (by walk_at "mem") (by exact rfl) (fun s₆ H₆ => ?_)
    refine c_star (fd := fd) ?_
    walk_at "nm"
    refine ⟨D, [.int i1 k1, .int i2 k2], _, _, _, _, rfl, H₆, by walk_at "mem", Nat.le_of_ble_eq_true rfl, by walk_at "mem", fun s₇ H₇ => ?_⟩
    refine wpAny_call (hc _ _ _ _ _ _ _ _ _ _ _ H₇ (fun p hp => .tail _ (.tail _ (.tail _ (.tail _ (.tail _ (hneed p hp)))))) sm2 (by omega) (fun s₈ H₈ => ?_))
    rw [← kk]
    exact h _ (H₈.sub (by walk_at "subl"))
  · refine ite_pos kk1 ?_
    refine wpAny_execs_cons (wpAny_Return_some (BoolOp_and (BoolOp_or (Attribute_name ?_))))
    walk_at "nm"
    refine i_get B H₅ (by walk_at "mem") (by exact rfl) (by walk_at "mem") (cls336 _) (by kernel_rfl) (by walk_at "mem") (by exact rfl) ?_
    intro s₆ H₆
    refine wpAny_truthy_bool ?_
    rw [if_pos rfl]
    refine wpAny_truthy_bool ?_
    rw [if_pos rfl]
    refine BoolOp_one (BoolOp_or (UnaryOp_ ?_))
    walk_at "nm"
    refine not_of (truthy_none ?_)
    refine wpAny_truthy_bool ?_
    refine ite_pos rfl ?_
    have := h _ (H₆.sub (l' := l) (by walk_at "subl"))
    rw [kk] at this
    exact this
end
end Mine
end
section
open PySem PySem.W PySem.Calls PyProof.Rows PySem.W.X
set_option Elab.async false
set_option maxRecDepth 100000
set_option maxHeartbeats 8000000
set_option linter.unusedVariables false
namespace Mine
local macro_rules | `(tactic| walk_at "mem") => `(tactic| first | assumption | exact List.Mem.head _ | (refine' List.Mem.tail _ ?_; walk_at "mem") | (refine' List.mem_append_right _ ?_; walk_at "mem") | (refine' List.mem_append_left _ ?_; walk_at "mem") | exact Zip.at' (by assumption) | exact Zip.keep (by assumption) (by walk_at "mem") (by intro e; cases e))
local macro_rules | `(tactic| walk_at "zip") => `(tactic| first | assumption | exact Zip.head | exact Zip.tail (by walk_at "zip") | exact Zip.again (by assumption))
local macro_rules | `(tactic| walk_at "kv") => `(tactic| first | with_reducible_and_instances exact List.Mem.head _ | (refine' List.Mem.tail _ ?_; walk_at "kv") | assumption)
local macro_rules | `(tactic| walk_at "put") => `(tactic| first | with_reducible exact Put.head | exact Put.tail (by walk_at "put"))
local macro_rules | `(tactic| walk_at "putd") => `(tactic| first | with_reducible exact PutD.head | with_reducible exact PutD.nil | exact PutD.tail (by decide) (by walk_at "putd"))
local macro_rules | `(tactic| walk_at "nm") => `(tactic| first
  | (refine e_local (by assumption) (by walk_at "mem") (by walk_at "kv") ?_)
  | (refine e_cell (by assumption) (by rfl) (by walk_at "mem") ?_)
  | (refine e_free (by assumption) (by rfl) (by walk_at "mem") ?_))
local macro_rules | `(tactic| walk_at "gl") => `(tactic| refine e_global (by assumption) (by assumption) (by first | with_reducible exact gl_Problem _ | with_reducible exact gl_BacktrackingSolver _ | with_reducible exact gl_Domain _ | with_reducible exact gl_Constraint _ | with_reducible exact gl_FunctionConstraint _ | with_reducible exact gl_law_yes _ | with_reducible exact gl_law_rule _ | with_reducible exact gl_law_due _) ?_)
local macro_rules | `(tactic| walk_at "bi") => `(tactic| refine e_builtin (by assumption) (by assumption) (by first | with_reducible exact bn_isinstance _ | with_reducible exact bn_callable _ | with_reducible exact bn_list _ | with_reducible exact bn_tuple _ | with_reducible exact bn_len _ | with_reducible exact bn_range _ | with_reducible exact bn_next _ | with_reducible exact bn_dict _ | with_reducible exact bn_sorted _ | with_reducible exact bn_iter _) (by first | with_reducible exact bb_isinstance | with_reducible exact bb_callable | with_reducible exact bb_list | with_reducible exact bb_tuple | with_reducible exact bb_len | with_reducible exact bb_range | with_reducible exact bb_next | with_reducible exact bb_dict | with_reducible exact bb_sorted | with_reducible exact bb_iter) ?_)
local macro_rules | `(tactic| walk_at "ns") => `(tactic| (show (_ : List Str).Nodup; dsimp only [List.map, List.nil_append, List.cons_append, List.append_nil]; decide +kernel))
local macro_rules | `(tactic| walk_at "lt") => `(tactic| (show _ < 1000; omega))
local macro_rules | `(tactic| x_close) => `(tactic| exact xq_of (by first | assumption | exact Mem.start _) (by first | rfl | assumption))
local macro_rules | `(tactic| walk_at "ga") => `(tactic| refine i_get (by assumption) (by assumption) (by walk_at "mem") (by exact rfl) (by walk_at "mem") (by first | exact cls110 _ | exact cls186 _ | exact cls336 _) (by kernel_rfl) (by walk_at "kv") (by exact rfl) ?_)
local macro_rules | `(tactic| walk_at "sa") => `(tactic| refine i_set (by assumption) (by assumption) (by walk_at "mem") (by walk_at "zip") (by first | exact cls110 _ | exact cls186 _ | exact cls336 _) (by kernel_rfl) (by kernel_rfl) (by walk_at "putd") (Nat.le_of_ble_eq_true rfl) ?_)
local macro_rules | `(tactic| walk_at "st") => `(tactic| refine e_store (by assumption) (by walk_at "zip") (by walk_at "put") ?_)
local macro_rules | `(tactic| walk_at "nmc") => `(tactic| first
  | (refine e_local (by assumption) (List.Mem.head _) (by first | exact List.Mem.head _ | exact List.Mem.tail _ (List.Mem.head _) | exact List.Mem.tail _ (List.Mem.tail _ (List.Mem.head _))) ?_)
  | (refine e_cell (by assumption) (by rfl) (by walk_at "mem") ?_)
  | (refine e_free (by assumption) (by rfl) (by walk_at "mem") ?_))
local macro_rules | `(tactic| walk_at "subl") => `(tactic| first | exact List.Sublist.refl _ | (refine' List.Sublist.cons _ ?_; walk_at "subl"))
section
variable {w : World} {g : Heap} {os : OsState} {G : Array GenState} {l l' : Led} {s : Shared} {a : Addr} {c c' : Cell} {f : Cell → Led} {A : Around} {E : Value → Shared → Prop}
/-! ## unpacking, copies, lists of keys -/
theorem Ok.ext1 (H : Ok w g os G l s) {h' : Heap} {t : Nat} (k : Heap.ExtBut s.heap.objs.size s.heap h') : Ok w g os G l { s with heap := h', toks := t } :=
  H.ext (fun b o e => k b o (Nat.ne_of_lt (Heap.lt_size e)) e)
theorem a_tup2 {d u : Nat} {env : Env} {x y : Str} {px py pos : Pos} {k : Nat} {T : Addr} {v1 v2 : Value} {Q : Unit → Shared → Prop} {E : Value → Shared → Prop} (H : Ok w g os G l s) (hm : (T, .tup [v1, v2]) ∈ l)
    (h : ∀ s', Ok w g os G l s' → wpAny (model P0 w) (AR d u) (storeName env x v1) (fun _ s₁ => wpAny (model P0 w) (AR d u) (storeName env y v2) Q E s₁) E s') :
    wpAny (model P0 w) (AR d u) (assign (.Tuple [.Name x px, .Name y py] k pos) env (.ref T)) Q E s := by
  refine wpAny_assign_Tuple (items := #[v1, v2]) rfl ?_ rfl rfl (fun h' hx => ?_)
  · obtain ⟨n, hn⟩ := H.get hm
    exact ⟨_, hn, rfl, n, rfl⟩
  refine wpAny_assignInOrder_more (wpAny_assign_Name (wpAny_mono (h _ (H.ext1 (t := s.toks) hx)) (fun _ s₁ q => ?_) fun _ _ x => x))
  exact wpAny_assignInOrder_more (wpAny_assign_Name (wpAny_mono q (fun _ s₂ q => wpAny_assignInOrder_none q) fun _ _ x => x))
theorem a_tup3 {d u : Nat} {env : Env} {x y z : Str} {px py pz pos : Pos} {k : Nat} {T : Addr} {v1 v2 v3 : Value} {Q : Unit → Shared → Prop} {E : Value → Shared → Prop} (H : Ok w g os G l s) (hm : (T, .tup [v1, v2, v3]) ∈ l)
    (h : ∀ s', Ok w g os G l s' → wpAny (model P0 w) (AR d u) (storeName env x v1) (fun _ s₁ => wpAny (model P0 w) (AR d u) (storeName env y v2) (fun _ s₂ => wpAny (model P0 w) (AR d u) (storeName env z v3) Q E s₂) E s₁) E s') :
    wpAny (model P0 w) (AR d u) (assign (.Tuple [.Name x px, .Name y py, .Name z pz] k pos) env (.ref T)) Q E s := by
  refine wpAny_assign_Tuple (items := #[v1, v2, v3]) rfl ?_ rfl rfl (fun h' hx => ?_)
  · obtain ⟨n, hn⟩ := H.get hm
    exact ⟨_, hn, rfl, n, rfl⟩
  refine wpAny_assignInOrder_more (wpAny_assign_Name (wpAny_mono (h _ (H.ext1 (t := s.toks) hx)) (fun _ s₁ q => ?_) fun _ _ x => x))
  refine wpAny_assignInOrder_more (wpAny_assign_Name (wpAny_mono q (fun _ s₂ q => ?_) fun _ _ x => x))
  exact wpAny_assignInOrder_more (wpAny_assign_Name (wpAny_mono q (fun _ s₂ q => wpAny_assignInOrder_none q) fun _ _ x => x))
/-- one object more, and the old ones kept -/
theorem Ok.more (H : Ok w g os G l s) {h' : Heap} {t : Nat} {a : Addr} {c : Cell} (hk : ∀ b o, s.heap.get? b = some o → h'.get? b = some o) (ha : s.heap.objs.size ≤ a) (hc : c.At w h' a) : Ok w g os G ((a, c) :: l) { s with heap := h', toks := t } := by
  have H₁ := H.ext (t := t) hk
  refine ⟨H₁.os, H₁.gens, H₁.keep, fun p hp => ?_, fun p hp => ?_, ?_, H.sm, fun p hp => ?_⟩
  · rcases List.mem_cons.mp hp with rfl | hp
    · exact hc
    · exact H₁.at_ p hp
  · rcases List.mem_cons.mp hp with rfl | hp
    · cases q : g.get? a with
      | none => rfl
      | some o' => exact absurd (Heap.lt_size (H.keep _ _ q)) (Nat.not_lt.mpr ha)
    · exact H₁.new p hp
  · rw [List.map_cons, List.nodup_cons]
    refine ⟨fun hm => ?_, H.nd⟩
    obtain ⟨p, hp, e⟩ := List.mem_map.mp hm
    exact absurd (H.lt hp) (by rw [e]; exact Nat.not_lt.mpr ha)
  · rcases List.mem_cons.mp hp with rfl | hp
    · obtain ⟨b, o, e, q⟩ := H.sm
      exact Nat.ne_of_gt (Nat.lt_of_lt_of_le (Nat.lt_trans q (Heap.lt_size (H.keep _ _ e))) ha)
    · exact H.ns' p hp
theorem d_copy {D : Addr} {kvs : List (Str × Value)} {Q : Value → Shared → Prop} (H : Ok w g os G l s) (hm : (D, .sd kvs) ∈ l) (hz : kvs.length ≤ 100000) (h : ∀ a s', Ok w g os G ((a, .sd kvs) :: l) s' → Q (.ref a) s') :
    wpAny (model P0 w) A (call (.builtin "dict.copy") [.ref D]) Q E s :=
  call_meetsIn PySem.F.slot_dict_copy (H.dict hm).typeIs PySem.F.entry_dict_copy (PySem.F.args_dict_copy_1 _) (meets_dict_copy (strKind P0 w) D (H.notSys hm))
    ⟨kvs, H.dict hm, by rw [sizeLine_eq]; omega, fun h' hd _ hk => h _ _ (H.more (t := s.toks) hk (Nat.le_refl _) (of_sd hd))⟩
theorem l_keys {d u : Nat} {D : Addr} {kvs : List (Str × Value)} {Q : Value → Shared → Prop} (H : Ok w g os G l s) (hm : (D, .sd kvs) ∈ l) (hz : kvs.length ≤ 100000)
    (h : ∀ a (vs : List Value) s', vs.length = kvs.length → (∀ (j : Nat) (v : Value), vs[j]? = some v → ∃ k x t, kvs[j]? = some (k, x) ∧ v = Value.str k t) → Ok w g os G ((a, .lst vs) :: l) s' → Q (.ref a) s') :
    wpAny (model P0 w) (AR d u) (call (.type "list") [.ref D]) Q E s := by
  obtain ⟨ep, hat⟩ := (H.dict hm).dictAt
  refine kdl_call (kdl_dict (knd := strKind P0 w) (H.notSys hm)) rfl hat (by rw [sizeLine_eq]; omega) (fun h' tk acc' c' hk hD hacc => ?_)
  refine h _ acc'.toList _ (by rw [Array.length_toList]; exact hacc.1) (fun j v e => ?_) (H.more (t := tk) (c := .lst acc'.toList) hk (Nat.le_refl _) ⟨c', by simpa using hD⟩)
  obtain ⟨k, x, e1, e2⟩ := hacc.2 j v (by rw [← Array.getElem?_toList]; exact e)
  obtain ⟨t, rfl⟩ := Value.isStrOf_shape e2
  exact ⟨k, x, t, e1, rfl⟩
/-! ## Constraint.preProcess: two variables, nothing done -/
theorem spec_preProcess {d u : Nat} {fc vl : Addr} {v1 v2 a b c' : Value} {R : Result → Shared → Prop} (B : Base w g) (H : Ok w g os G l s) (hvl : (vl, .lst [v1, v2]) ∈ l) (hd : d ≤ 900)
    (h : ∀ s', Ok w g os G l s' → R (.ok (.ret .none)) s') : codeAny (model P0 w) (AR d u) (.call (.ref 297) ⟨[.ref fc, .ref vl, a, b, c'], []⟩) R s := by
  refine call_fn (binds := [("self", .ref fc), ("variables", .ref vl), ("domains", a), ("constraints", b), ("vconstraints", c')]) (rest := ["variable", "domain", "value"]) B H rfl (by kernel_rfl) rfl (BindsTo.of_eq rfl) (by decide) (locs rfl) (by walk_at "ns") (by walk_at "lt") (fun L s₁ H₁ => ?_)
  dsimp only [List.map, List.append, List.nil_append, List.cons_append, List.append_nil] at H₁
  refine wpAny_execs_cons (wpAny_If (wpAny_isTrue_Compare1 (Call_ ?_)))
  walk_at "bi"
  refine c_bi (args_cons ?_)
  walk_at "nm"
  refine args_nil (l_len H₁ (.tail _ hvl) (Nat.le_of_ble_eq_true rfl) (fun t s₂ H₂ => ?_))
  refine e_int H₂ (fun t' s₃ H₃ => eq_int (wpAny_truthy_bool ?_))
  refine ite_neg (by simp) ?_
  exact wpAny_execs_nil (wpAny_execs_nil (h _ H₃.tail))
end
end Mine
end
section
open PySem PySem.W PySem.Calls PyProof.Rows PySem.W.X
set_option Elab.async false
set_option maxRecDepth 100000
set_option maxHeartbeats 8000000
set_option linter.unusedVariables false
namespace Mine
local macro_rules | `(tactic| walk_at "mem") => `(tactic| first | assumption | exact List.Mem.head _ | (refine' List.Mem.tail _ ?_; walk_at "mem") | (refine' List.mem_append_right _ ?_; walk_at "mem") | (refine' List.mem_append_left _ ?_; walk_at "mem") | exact Zip.at' (by assumption) | exact Zip.keep (by assumption) (by walk_at "mem") (by intro e; cases e))
local macro_rules | `(tactic| walk_at "zip") => `(tactic| first | assumption | exact Zip.head | exact Zip.tail (by walk_at "zip") | exact Zip.app (by walk_at "zip") | exact Zip.again (by assumption))
local macro_rules | `(tactic| walk_at "kv") => `(tactic| first | with_reducible_and_instances exact List.Mem.head _ | (refine' List.Mem.tail _ ?_; walk_at "kv") | assumption)
local macro_rules | `(tactic| walk_at "put") => `(tactic| first | with_reducible exact Put.head | exact Put.tail (by walk_at "put"))
local macro_rules | `(tactic| walk_at "putd") => `(tactic| first | with_reducible exact PutD.head | with_reducible exact PutD.nil | exact PutD.tail (by decide) (by walk_at "putd"))
local macro_rules | `(tactic| walk_at "nm") => `(tactic| first
  | (refine e_local (by assumption) (by walk_at "mem") (by walk_at "kv") ?_)
  | (refine e_cell (by assumption) (by rfl) (by walk_at "mem") ?_)
  | (refine e_free (by assumption) (by rfl) (by walk_at "mem") ?_))
local macro_rules | `(tactic| walk_at "gl") => `(tactic| refine e_global (by assumption) (by assumption) (by first | with_reducible exact gl_Problem _ | with_reducible exact gl_BacktrackingSolver _ | with_reducible exact gl_Domain _ | with_reducible exact gl_Constraint _ | with_reducible exact gl_FunctionConstraint _ | with_reducible exact gl_law_yes _ | with_reducible exact gl_law_rule _ | with_reducible exact gl_law_due _) ?_)
local macro_rules | `(tactic| walk_at "bi") => `(tactic| refine e_builtin (by assumption) (by assumption) (by first | with_reducible exact bn_isinstance _ | with_reducible exact bn_callable _ | with_reducible exact bn_list _ | with_reducible exact bn_tuple _ | with_reducible exact bn_len _ | with_reducible exact bn_range _ | with_reducible exact bn_next _ | with_reducible exact bn_dict _ | with_reducible exact bn_sorted _ | with_reducible exact bn_iter _) (by first | with_reducible exact bb_isinstance | with_reducible exact bb_callable | with_reducible exact bb_list | with_reducible exact bb_tuple | with_reducible exact bb_len | with_reducible exact bb_range | with_reducible exact bb_next | with_reducible exact bb_dict | with_reducible exact bb_sorted | with_reducible exact bb_iter) ?_)
local macro_rules | `(tactic| walk_at "ns") => `(tactic| (show (_ : List Str).Nodup; dsimp only [List.map, List.nil_append, List.cons_append, List.append_nil]; decide +kernel))
local macro_rules | `(tactic| walk_at "lt") => `(tactic| (show _ < 1000; omega))
local macro_rules | `(tactic| x_close) => `(tactic| exact xq_of (by first | assumption | exact Mem.start _) (by first | rfl | assumption))
local macro_rules | `(tactic| walk_at "ga") => `(tactic| refine i_get (by assumption) (by assumption) (by walk_at "mem") (by exact rfl) (by walk_at "mem") (by first | exact cls110 _ | exact cls186 _ | exact cls336 _) (by kernel_rfl) (by walk_at "kv") (by exact rfl) ?_)
local macro_rules | `(tactic| walk_at "sa") => `(tactic| refine i_set (by assumption) (by assumption) (by walk_at "mem") (by walk_at "zip") (by first | exact cls110 _ | exact cls186 _ | exact cls336 _) (by kernel_rfl) (by kernel_rfl) (by walk_at "putd") (Nat.le_of_ble_eq_true rfl) ?_)
local macro_rules | `(tactic| walk_at "st") => `(tactic| refine e_store (by assumption) (by walk_at "zip") (by walk_at "put") ?_)
local macro_rules | `(tactic| walk_at "nmc") => `(tactic| first
  | (refine e_local (by assumption) (List.Mem.head _) (by first | exact List.Mem.head _ | exact List.Mem.tail _ (List.Mem.head _) | exact List.Mem.tail _ (List.Mem.tail _ (List.Mem.head _))) ?_)
  | (refine e_cell (by assumption) (by rfl) (by walk_at "mem") ?_)
  | (refine e_free (by assumption) (by rfl) (by walk_at "mem") ?_))
local macro_rules | `(tactic| walk_at "subl") => `(tactic| first | exact List.Sublist.refl _ | (refine' List.Sublist.cons _ ?_; walk_at "subl"))
section
variable {w : World} {g : Heap} {os : OsState} {G : Array GenState} {l l' : Led} {s : Shared} {a : Addr} {c c' : Cell} {f : Cell → Led} {A : Around} {E : Value → Shared → Prop}
/-! ## what a problem holds -/
structure Con where
  (t fc dfc fn vl : Addr) (fd : FuncData) (n1 n2 : Str) (t1 t2 : Tok) (m : Int) (need : Led)
structure ConOk (w : World) (g : Heap) (P : Led) (c : Con) : Prop where
  t : (c.t, .tup [.ref c.fc, .ref c.vl]) ∈ P
  fc : (c.fc, .ob (instObj 336 c.dfc)) ∈ P
  dfc : (c.dfc, .sd [("_func", .ref c.fn), ("_assigned", .bool true)]) ∈ P
  fn : (c.fn, .ob (fnO c.fd)) ∈ P
  vl : (c.vl, .lst [.str c.n1 c.t1, .str c.n2 c.t2]) ∈ P
  calls : Calls w g c.need c.fn c.m
  need : ∀ p ∈ c.need, p ∈ P
  ne : c.n1 ≠ c.n2
structure Var where
  (n : Str) (D dD hi st : Addr) (vals : List Value)
structure VarOk (P : Led) (v : Var) : Prop where
  D : (v.D, .dom v.vals v.dD) ∈ P
  dD : (v.dD, .sd [("_hidden", .ref v.hi), ("_states", .ref v.st)]) ∈ P
  hi : (v.hi, .lst []) ∈ P
  st : (v.st, .lst []) ∈ P
  ne : v.vals.isEmpty = false
  le : v.vals.length ≤ 1000
  sm : ∀ x ∈ v.vals, ∃ i t, x = .int i t ∧ Sm i
theorem ConOk.mono {P P' : Led} {c : Con} (h : ConOk w g P c) (k : ∀ p ∈ P, p ∈ P') : ConOk w g P' c :=
  ⟨k _ h.t, k _ h.fc, k _ h.dfc, k _ h.fn, k _ h.vl, h.calls, fun p hp => k _ (h.need p hp), h.ne⟩
theorem VarOk.mono {P P' : Led} {v : Var} (h : VarOk P v) (k : ∀ p ∈ P, p ∈ P') : VarOk P' v :=
  ⟨k _ h.D, k _ h.dD, k _ h.hi, k _ h.st, h.ne, h.le, h.sm⟩
/-- lists under names -/
def seg (us : List (Str × Addr)) (f : Str → List Value) : Led := us.map fun p => (p.2, .lst (f p.1))
theorem seg_same {us : List (Str × Addr)} {f f' : Str → List Value} (h : ∀ p ∈ us, f p.1 = f' p.1) : seg us f = seg us f' := by
  unfold seg
  exact List.map_congr_left fun p hp => by rw [h p hp]
theorem seg_upd {us : List (Str × Addr)} {n : Str} {a : Addr} (nd : (us.map (·.1)).Nodup) (h : (n, a) ∈ us) (f : Str → List Value) : ∃ F, Zip (seg us f) a (.lst (f n)) F ∧ ∀ x, F (.lst x) = seg us (fun y => if y = n then x else f y) := by
  induction us with
  | nil => cases h
  | cons p r ih =>
    rw [List.map_cons, List.nodup_cons] at nd
    rcases List.mem_cons.mp h with e | h
    · subst e
      refine ⟨_, Zip.head, fun x => ?_⟩
      show (a, Cell.lst x) :: seg r f = (a, Cell.lst (if n = n then x else f n)) :: seg r (fun y => if y = n then x else f y)
      rw [if_pos rfl]
      congr 1
      refine seg_same fun q hq => ?_
      rw [if_neg]
      intro e
      exact nd.1 (by show n ∈ _; rw [← e]; exact List.mem_map_of_mem (f := (·.1)) hq)
    · obtain ⟨F, z, q⟩ := ih nd.2 h
      refine ⟨_, .tail z, fun x => ?_⟩
      show (p.2, Cell.lst (f p.1)) :: F (.lst x) = (p.2, Cell.lst (if p.1 = n then x else f p.1)) :: seg r (fun y => if y = n then x else f y)
      rw [q, if_neg]
      intro e
      exact nd.1 (by rw [e]; exact List.mem_map_of_mem (f := (·.1)) h)
theorem stored_new {kvs : List (Str × Value)} {k : Str} {v : Value} (h : k ∉ kvs.map (·.1)) : stored kvs k v = kvs ++ [(k, v)] := by
  unfold stored
  rw [if_neg]
  simp only [List.any_eq_true, decide_eq_true_eq, not_exists, not_and]
  intro x hx e
  exact h (by rw [← e]; exact List.mem_map_of_mem (f := (·.1)) hx)
theorem valueAt_mem {kvs : List (Str × Value)} {k : Str} {v : Value} (nd : (kvs.map (·.1)).Nodup) (h : (k, v) ∈ kvs) : valueAt kvs k = some v := by
  unfold valueAt
  induction kvs with
  | nil => cases h
  | cons p r ih =>
    rw [List.map_cons, List.nodup_cons] at nd
    rcases List.mem_cons.mp h with e | h
    · subst e; simp
    · rw [List.find?_cons_of_neg]
      · exact ih nd.2 h
      · simp only [decide_eq_true_eq]
        intro e
        exact nd.1 (by rw [e]; exact List.mem_map_of_mem (f := (·.1)) h)
theorem valueAt_none {kvs : List (Str × Value)} {k : Str} (h : k ∉ kvs.map (·.1)) : valueAt kvs k = none := by
  unfold valueAt
  rw [Option.map_eq_none_iff, List.find?_eq_none]
  intro x hx e
  simp only [decide_eq_true_eq] at e
  exact h (by rw [← e]; exact List.mem_map_of_mem (f := (·.1)) hx)
theorem Paired.mono {α β : Type} {F F' : α → β → Prop} {l₁ : List α} {l₂ : List β} (h : Paired F l₁ l₂) (k : ∀ a b, F a b → F' a b) : Paired F' l₁ l₂ := by
  induction h with
  | nil => exact .nil
  | cons a _ ih => exact .cons (k _ _ a) ih
theorem Paired.get {α β : Type} {F : α → β → Prop} {l₁ : List α} {l₂ : List β} (h : Paired F l₁ l₂) {i : Nat} {a : α} (ha : l₁[i]? = some a) : ∃ b, l₂[i]? = some b ∧ F a b := by
  induction h generalizing i with
  | nil => simp at ha
  | @cons x y r₁ r₂ f _ ih =>
    cases i with
    | zero => simp at ha; subst ha; exact ⟨y, by simp, f⟩
    | succ i => simp at ha; obtain ⟨b, e, q⟩ := ih ha; exact ⟨b, by simpa using e, q⟩
theorem l_truthy {L : Addr} {vs : List Value} {Q : Bool → Shared → Prop} (H : Ok w g os G l s) (hm : (L, .lst vs) ∈ l) (hz : vs.length ≤ 100000) (h : ∀ s', Ok w g os G l s' → Q (!vs.isEmpty) s') : wpAny (model P0 w) A (truthy (.ref L)) Q E s := by
  refine wpAny_truthy_list (H.lst hm) (by rw [List.size_toArray]; omega) ?_
  have := h _ (H.toks (s.toks + 1 + 1))
  cases vs <;> simpa using this
theorem Ok.toDk (H : Ok w g os G l s) {D : Addr} {kvs : List (Str × Value)} (z : Zip l D (.sd kvs) f) : ∃ n, Ok w g os G (f (.dk kvs n)) s := by
  obtain ⟨nd, es, n, hg, sd⟩ := H.get z.mem
  refine ⟨n, ?_⟩
  have := H.set (c' := .dk kvs n) (h' := s.heap) (t := s.toks) z (.refl ..) ⟨nd, es, hg, sd⟩
  exact this
theorem Ok.ofDk (H : Ok w g os G l s) {D : Addr} {kvs : List (Str × Value)} {n : Nat} (z : Zip l D (.dk kvs n) f) : Ok w g os G (f (.sd kvs)) s := by
  obtain ⟨nd, es, hg, sd⟩ := H.get z.mem
  have := H.set (c' := .sd kvs) (h' := s.heap) (t := s.toks) z (.refl ..) ⟨nd, es, n, hg, sd⟩
  exact this
theorem getItem_lstslice {x sl : Addr} {vs : List Value} {Q : Value → Shared → Prop} (H : Ok w g os G l s) (hx : (x, .lst vs) ∈ l) (hz : vs.length ≤ 100000) (hsl : s.heap.IsSliceOf sl .none .none .none)
    (h : ∀ a s', Ok w g os G ((a, .lst vs) :: l) s' → Q (.ref a) s') : wpAny (model P0 w) A (getItem (.ref x) (.ref sl)) Q E s := by
  refine wpAny_getItem_list_slice (H.lst hx) hsl .none .none .none (by decide) ?_ (by rw [List.size_toArray, sizeLine_eq]; omega)
  refine h _ _ (H.push (t := s.toks) (c := .lst vs) ⟨0, ?_⟩)
  refine (Heap.get?_push_size _ rfl).trans ?_
  rw [slice_all vs]
theorem x_all {env : Env} {p : Pos} {Q : Value → Shared → Prop} (H : Ok w g os G l s) (h : ∀ sl s', Ok w g os G l s' → s'.heap.IsSliceOf sl .none .none .none → Q (.ref sl) s') : wpAny (model P0 w) A (eval (.Slice none none none p) env) Q E s := by
  refine wpAny_Slice ?_
  simp only [evalPart_none]
  exact wpAny_pure (wpAny_pure (wpAny_pure (h _ _ (H.ext (t := s.toks) (fun b o e => Heap.get?_push_of_some _ e)) (Heap.IsSliceOf.new ..))))
theorem d_values {D : Addr} {kvs : List (Str × Value)} {n : Nat} {Q : Value → Shared → Prop} (H : Ok w g os G l s) (hm : (D, .dk kvs n) ∈ l) (h : ∀ a s', Ok w g os G ((a, .it "dict_values" (.fields #[.ref D])) :: l) s' → Q (.ref a) s') :
    wpAny (model P0 w) A (call (.builtin "dict.values") [.ref D]) Q E s := by
  have hd := (dk_at (H.get hm)).dictOf
  exact call_meetsIn PySem.F.slot_dict_values hd.typeIs PySem.F.entry_dict_values (PySem.F.args_dict_values_1 _) (meets_dict_values (strKind P0 w) D (H.notSys hm))
    ⟨⟨_, hd⟩, h _ _ (H.push (t := s.toks) ⟨_, Heap.get?_push_size _ rfl, rfl, rfl⟩)⟩
def touches (n : Str) (c : Con) : Bool := c.n1 == n || c.n2 == n
def dkvs (vs : List Var) : List (Str × Value) := vs.map fun v => (v.n, .ref v.D)
/-- the constraints of each variable -/
def VCok (P : Led) (vs : List Var) (cs : List Con) (vk : List (Str × Value)) : Prop := vk.map (·.1) = vs.map (·.n) ∧ ∀ v ∈ vs, ∃ VL ts, valueAt vk v.n = some (.ref VL) ∧ (VL, .lst ts) ∈ P ∧
  Paired (fun tv c => ∃ t, tv = .ref t ∧ (t, .tup [.ref c.fc, .ref c.vl]) ∈ P) ts (cs.filter (touches v.n))
abbrev frG (x : Addr) (a b c d e f g h : Option Value) : List (Str × Option Value) := [("self", some (.ref x)), ("domains", a), ("allvariables", b), ("constraints", c), ("constraint", d), ("variables", e), ("vconstraints", f), ("variable", g), ("domain", h)]
theorem to_front (F : Led) {p : Addr × Cell} {r : Led} : (p :: (F ++ r)).Perm (F ++ p :: r) := List.perm_middle.symm
theorem spec_getArgs {d u : Nat} {x dx C V S : Addr} {cs : List Con} {vs : List Var} {R : Result → Shared → Prop} (B : Base w g) (H : Ok w g os G l s) (hx : (x, .ob (instObj 110 dx)) ∈ l)
    (hdx : (dx, .sd [("_solver", .ref S), ("_constraints", .ref C), ("_variables", .ref V)]) ∈ l) (hC : (C, .lst (cs.map fun c => .ref c.t)) ∈ l) (hV : (V, .sd (dkvs vs)) ∈ l)
    (hcs : ∀ c ∈ cs, ConOk w g l c ∧ c.n1 ∈ vs.map (·.n) ∧ c.n2 ∈ vs.map (·.n)) (hvs : ∀ v ∈ vs, VarOk l v) (hlc : cs.length ≤ 100) (hlv : vs.length ≤ 100) (hd : d ≤ 600) (hu : u ≤ 6000)
    (h : ∀ tr dm cl vc vk ep New s', (tr, .tup [.ref dm, .ref cl, .ref vc]) ∈ New → (dm, .dk (dkvs vs) ep) ∈ New → (vc, .sd vk) ∈ New → VCok New vs cs vk → Ok w g os G (New ++ l) s' → R (.ok (.ret (.ref tr))) s') :
    codeAny (model P0 w) (AR d u) (.call (.ref 107) ⟨[.ref x], []⟩) R s := by
  refine call_fn (binds := [("self", .ref x)]) (rest := ["domains", "allvariables", "constraints", "constraint", "variables", "vconstraints", "variable", "domain"]) B H rfl (by kernel_rfl) rfl (BindsTo.of_eq rfl) (by decide) (locs rfl) (by walk_at "ns") (by walk_at "lt") (fun L s₁ H₁ => ?_)
  dsimp only [List.map, List.append, List.nil_append, List.cons_append, List.append_nil] at H₁
  have H₁' : Ok w g os G ((L, .ns (frG x none none none none none none none none)) :: l) s₁ := H₁
  clear H₁
  have ndv : (vs.map (·.n)).Nodup := by
    have := (H.get hV).1
    simpa [dkvs, Function.comp_def] using this
  have ldk : (dkvs vs).length = vs.length := by simp [dkvs]
  refine wpAny_execs_cons (wpAny_Assign_Name (m_bi0 PySem.F.plainAttrs_dict PySem.F.slot_dict_copy PySem.F.type_dict_copy (Attribute_name ?_)))
  walk_at "nm"
  walk_at "ga"
  intro s₂ H₂
  refine ⟨_, _, _, _, _, _, H₂, rfl, .tail _ hV, rfl, d_copy H₂ (.tail _ hV) (by omega) (fun dm s₃ H₃ => ?_)⟩
  refine e_store H₃ (by walk_at "zip") (by walk_at "put") (fun s₄ H₄ => ?_)
  refine wpAny_execs_cons (wpAny_Assign_Name (Call_ ?_))
  walk_at "bi"
  refine PyProof.Rows.callWith_type1 (args_cons ?_)
  walk_at "nm"
  refine args_nil (l_keys H₄ (by walk_at "mem") (by omega) (fun av ks s₅ hks1 hks2 H₅ => ?_))
  refine e_store H₅ (by walk_at "zip") (by walk_at "put") (fun s₆ H₆ => ?_)
  refine wpAny_execs_cons (wpAny_Assign_Name (List_ (args_nil (e_newList H₆ (fun cl s₇ H₇ => ?_) (by decide)))))
  refine e_store H₇ (by walk_at "zip") (by walk_at "put") (fun s₈ H₈ => ?_)
  have hCon : ∀ c ∈ cs, ConOk w g l c := fun c hc => (hcs c hc).1
  refine wpAny_execs_cons (x_for (g := g) (os := os) (Attribute_name ?_))
  walk_at "nm"
  walk_at "ga"
  intro s₉ H₉
  refine ⟨C, _, _, _, _, G, _, fun i G' l' => G = G' ∧ ∃ T ts o1 o2, l' = (cl, .lst ts) :: (av, .lst ks) :: (dm, .sd (dkvs vs)) :: (L, .ns (frG x (some (.ref dm)) (some (.ref av)) (some (.ref cl)) o1 o2 none none none)) :: (T ++ l) ∧
    Paired (fun tv c => ∃ t, tv = .ref t ∧ (t, .tup [.ref c.fc, .ref c.vl]) ∈ T) ts (cs.take i), Iter.list w C (cs.map fun c => .ref c.t), rfl, H₉, ⟨rfl, [], [], _, _, rfl, .nil⟩, ?_, ?_, ?_⟩
  · rintro i G' l' ⟨rfl, T, ts, o1, o2, rfl, -⟩ p hp
    simp only [List.mem_singleton] at hp
    subst hp
    walk_at "mem"
  · rintro i v I G' l' s₁₀ hi hitem ⟨rfl, T, ts, o1, o2, rfl, hP⟩ H₁₀
    rw [List.getElem?_map, Option.map_eq_some_iff] at hitem
    obtain ⟨c, hc, rfl⟩ := hitem
    have hcm : c ∈ cs := List.mem_of_getElem? hc
    have ht := (hCon c hcm).t
    have hvl := (hCon c hcm).vl
    refine a_tup2 H₁₀ (by walk_at "mem") (fun s₁₁ H₁₁ => ?_)
    refine e_store H₁₁ (by walk_at "zip") (by walk_at "put") (fun s₁₂ H₁₂ => ?_)
    refine e_store H₁₂ (by walk_at "zip") (by walk_at "put") (fun s₁₃ H₁₃ => ?_)
    refine wpAny_execs_cons (wpAny_If (wpAny_isTrue_Not (isTrue_plain ?_)))
    walk_at "nm"
    refine l_truthy H₁₃ (by walk_at "mem") (Nat.le_of_ble_eq_true rfl) (fun s₁₄ H₁₄ => ?_)
    refine ite_neg (by simp) ?_
    refine wpAny_execs_nil ?_
    refine wpAny_execs_cons (wpAny_Expr_any (m_bi PySem.F.plainAttrs_list PySem.F.slot_list_append PySem.F.type_list_append ?_))
    walk_at "nm"
    refine ⟨_, _, _, _, _, _, H₁₄, rfl, by walk_at "mem", rfl, args_cons (Tuple_ (args_cons ?_))⟩
    walk_at "nm"
    refine args_cons ?_
    walk_at "nm"
    refine args_nil (e_newTuple H₁₄ (fun t s₁₅ H₁₅ => ?_) (by rw [sizeLine_eq]; exact Nat.le_of_ble_eq_true rfl))
    have hl : ts.length ≤ 100000 := by
      have := hP.length
      rw [List.length_take] at this
      omega
    refine args_nil (b_append H₁₅ (.tail (.tail .head)) hl (fun s₁₆ H₁₆ => ?_))
    refine wpAny_execs_nil ⟨G, _, ⟨rfl, (t, .tup [.ref c.fc, .ref c.vl]) :: T, _, _, _, rfl, ?_⟩, H₁₆.perm (to_front [_, _, _, _, _])⟩
    rw [List.take_add_one, hc]
    exact (hP.mono fun tv c' q => by obtain ⟨t, e, q⟩ := q; exact ⟨t, e, .tail _ q⟩).snoc ⟨t, rfl, .head _⟩
  rintro G' l' s₁₀ ⟨rfl, T, ts, o1, o2, rfl, hP⟩ H₁₀
  rw [List.length_map, List.take_length] at hP
  refine wpAny_execs_nil ?_
  have hts : ts.length ≤ 100 := by rw [hP.length]; exact hlc
  obtain ⟨ep, H₁₁⟩ := H₁₀.toDk (.tail (.tail .head))
  refine wpAny_execs_cons (wpAny_Assign_Name (e_dict0 H₁₁ (fun vc s₁₂ H₁₂ => ?_)))
  refine e_store H₁₂ (by walk_at "zip") (by walk_at "put") (fun s₁₃ H₁₃ => ?_)
  refine wpAny_execs_cons (x_for (g := g) (os := os) ?_)
  walk_at "nm"
  refine ⟨dm, _, _, _, _, G, _, fun i G' l' => G = G' ∧ ∃ us o3, l' = (vc, .sd (us.reverse.map fun p => (p.1, .ref p.2))) :: (cl, .lst ts) :: (av, .lst ks) :: (dm, .dk (dkvs vs) ep) :: (L, .ns (frG x (some (.ref dm)) (some (.ref av)) (some (.ref cl)) o1 o2 (some (.ref vc)) o3 none)) :: (seg us (fun _ => []) ++ (T ++ l)) ∧
    (us.reverse.map (·.1)) = (vs.take i).map (·.n), Iter.keys w dm (dkvs vs) ep, rfl, H₁₃, ⟨rfl, [], none, rfl, rfl⟩, ?_, ?_, ?_⟩
  · rintro i G' l' ⟨rfl, us, o3, rfl, -⟩ p hp
    simp only [List.mem_singleton] at hp
    subst hp
    walk_at "mem"
  · rintro i v I G' l' s₁₄ hi ⟨k, xv, tk, hk, rfl⟩ ⟨rfl, us, o3, rfl, hus⟩ H₁₄
    have hi' : i < vs.length := by rw [← ldk]; exact hi
    have hkn : k = (vs[i]).n := by
      unfold dkvs at hk
      rw [List.getElem?_map, List.getElem?_eq_getElem hi'] at hk
      simp at hk
      exact hk.1.symm
    have hnew : k ∉ (us.reverse.map fun p => (p.1, Value.ref p.2)).map (·.1) := by
      rw [List.map_map]
      show k ∉ us.reverse.map (·.1)
      rw [hus, hkn]
      intro hm
      obtain ⟨q, hq, e⟩ := List.mem_map.mp hm
      obtain ⟨j, hj, e2⟩ := List.mem_take_iff_getElem.mp hq
      have hj2 : j < i := by omega
      have hj3 : j < vs.length := by omega
      have e3 : (vs.map (·.n))[j]? = (vs.map (·.n))[i]? := by
        rw [List.getElem?_map, List.getElem?_map, List.getElem?_eq_getElem hj3, List.getElem?_eq_getElem hi']
        simp only [Option.map_some]
        rw [← e, ← e2]
      have := (List.getElem?_inj (by rw [List.length_map]; exact hj3) ndv).mp e3
      omega
    refine wpAny_assign_Name (e_store H₁₄ (by walk_at "zip") (by walk_at "put") (fun s₁₅ H₁₅ => ?_))
    refine wpAny_execs_cons (wpAny_Assign_Subscript (List_ (args_nil (e_newList H₁₅ (fun ua s₁₆ H₁₆ => ?_) (by decide)))))
    walk_at "nm"
    walk_at "nm"
    refine d_set H₁₆ (.tail (.tail .head)) ?_ (fun s₁₇ H₁₇ => ?_)
    · have := congrArg List.length hus
      simp at this
      simp
      omega
    rw [stored_new hnew] at H₁₇
    refine wpAny_execs_nil ⟨G, _, ⟨rfl, (k, ua) :: us, some (.str k tk), ?_, ?_⟩, H₁₇.perm (to_front [_, _, _, _, _, _])⟩
    · rw [List.reverse_cons, List.map_append]
      rfl
    · rw [List.reverse_cons, List.map_append, hus, List.take_add_one, List.getElem?_eq_getElem hi', List.map_append, hkn]
      rfl
  rintro G' l' s₁₄ ⟨rfl, us, o3, rfl, hus⟩ H₁₄
  rw [ldk, List.take_length] at hus
  refine wpAny_execs_nil ?_
  have ndu : (us.map (·.1)).Nodup := by
    have : (us.reverse.map (·.1)).Nodup := by rw [hus]; exact ndv
    rw [List.map_reverse] at this
    exact (List.reverse_perm _).nodup_iff.mp this
  have ndk : ((us.reverse.map fun p => (p.1, Value.ref p.2)).map (·.1)).Nodup := by
    rw [List.map_map]
    show (us.reverse.map (·.1)).Nodup
    rw [hus]; exact ndv
  have hua : ∀ n ∈ vs.map (·.n), ∃ a, (n, a) ∈ us ∧ valueAt (us.reverse.map fun p => (p.1, Value.ref p.2)) n = some (.ref a) := by
    intro n hn
    rw [← hus] at hn
    obtain ⟨p, hp, rfl⟩ := List.mem_map.mp hn
    exact ⟨p.2, List.mem_reverse.mp hp, valueAt_mem ndk (List.mem_map_of_mem (f := fun p : Str × Addr => (p.1, Value.ref p.2)) hp)⟩
  generalize hvk : (us.reverse.map fun p => (p.1, Value.ref p.2)) = vk at H₁₄ hua ndk
  refine wpAny_execs_cons (x_for (g := g) (os := os) ?_)
  walk_at "nm"
  refine ⟨cl, _, _, _, _, G, _, fun i G' l' => G = G' ∧ ∃ T2 ff o1 o2 o3, l' = (vc, .sd vk) :: (cl, .lst ts) :: (av, .lst ks) :: (dm, .dk (dkvs vs) ep) :: (L, .ns (frG x (some (.ref dm)) (some (.ref av)) (some (.ref cl)) o1 o2 (some (.ref vc)) o3 none)) :: (T2 ++ (seg us ff ++ (T ++ l))) ∧
    ∀ n ∈ vs.map (·.n), Paired (fun tv c => ∃ t, tv = .ref t ∧ (t, .tup [.ref c.fc, .ref c.vl]) ∈ T2) (ff n) ((cs.take i).filter (touches n)), Iter.list w cl ts, rfl, H₁₄, ⟨rfl, [], fun _ => [], _, _, _, rfl, fun _ _ => .nil⟩, ?_, ?_, ?_⟩
  · rintro i G' l' ⟨rfl, T2, ff, o1, o2, o3, rfl, -⟩ p hp
    simp only [List.mem_singleton] at hp
    subst hp
    walk_at "mem"
  · rintro i v I G' l' s₁₅ hi hitem ⟨rfl, T2, ff, o1, o2, o3, rfl, hF⟩ H₁₅
    obtain ⟨c, hc, tm, rfl, htm⟩ := Paired.get hP hitem
    have hcm : c ∈ cs := List.mem_of_getElem? hc
    have htm' : (tm, Cell.tup [.ref c.fc, .ref c.vl]) ∈ T2 ++ (seg us ff ++ (T ++ l)) := List.mem_append_right _ (List.mem_append_right _ (List.mem_append_left _ htm))
    refine a_tup2 H₁₅ (.tail _ (.tail _ (.tail _ (.tail _ (.tail _ (.tail _ htm')))))) (fun s₁₆ H₁₆ => ?_)
    refine e_store H₁₆ (by walk_at "zip") (by walk_at "put") (fun s₁₇ H₁₇ => ?_)
    refine e_store H₁₇ (by walk_at "zip") (by walk_at "put") (fun s₁₈ H₁₈ => ?_)
    refine wpAny_execs_cons (x_for (g := g) (os := os) ?_)
    walk_at "nm"
    refine ⟨c.vl, _, _, _, _, G, _, fun j G' l' => G = G' ∧ ∃ T3 f3 o3, l' = (I, Cell.it "list_iterator" (.fields #[.ref cl, .int (i + 1 : Nat) 0])) :: (vc, .sd vk) :: (cl, .lst ts) :: (av, .lst ks) :: (dm, .dk (dkvs vs) ep) :: (L, .ns (frG x (some (.ref dm)) (some (.ref av)) (some (.ref cl)) (some (.ref c.fc)) (some (.ref c.vl)) (some (.ref vc)) o3 none)) :: (T3 ++ (seg us f3 ++ (T ++ l))) ∧
      ∀ n ∈ vs.map (·.n), Paired (fun tv c => ∃ t, tv = .ref t ∧ (t, .tup [.ref c.fc, .ref c.vl]) ∈ T3) (f3 n) ((cs.take i).filter (touches n) ++ if n ∈ [c.n1, c.n2].take j then [c] else []), Iter.list w c.vl [.str c.n1 c.t1, .str c.n2 c.t2], rfl, H₁₈, ⟨rfl, T2, ff, _, rfl, ?_⟩, ?_, ?_, ?_⟩
    · intro n hn
      rw [List.take_zero, if_neg (by simp), List.append_nil]
      exact hF n hn
    · rintro j G' l' ⟨rfl, T3, f3, o3, rfl, -⟩ p hp
      simp only [List.mem_singleton] at hp
      subst hp
      have := (hCon c hcm).vl
      exact .tail _ (.tail _ (.tail _ (.tail _ (.tail _ (.tail _ (List.mem_append_right _ (List.mem_append_right _ (List.mem_append_right _ this))))))))
    · rintro j v J G' l' s₁₉ hj hitem ⟨rfl, T3, f3, o3, rfl, hF3⟩ H₁₉
      obtain ⟨n, tk, rfl, hn, hnj⟩ : ∃ n tk, v = .str n tk ∧ n ∈ vs.map (·.n) ∧ [c.n1, c.n2][j]? = some n := by
        have hj2 : j < 2 := hj
        have : j = 0 ∨ j = 1 := by omega
        rcases this with rfl | rfl
        · cases hitem; exact ⟨_, _, rfl, (hcs c hcm).2.1, rfl⟩
        · cases hitem; exact ⟨_, _, rfl, (hcs c hcm).2.2, rfl⟩
      obtain ⟨ua, hua1, hua2⟩ := hua n hn
      refine wpAny_assign_Name (e_store H₁₉ (by walk_at "zip") (by walk_at "put") (fun s₂₀ H₂₀ => ?_))
      refine wpAny_execs_cons (wpAny_Expr_any (m_bi PySem.F.plainAttrs_list PySem.F.slot_list_append PySem.F.type_list_append (x_sub ?_ (fun o i => ⟨_, rfl⟩))))
      walk_at "nm"
      walk_at "nm"
      refine ⟨notpy_T (H₂₀.dict (d := vc) (kvs := vk) (by walk_at "mem")).typeIs PySem.F.slot_dict_getitem.lookup, ?_⟩
      obtain ⟨F, zF, hFF⟩ := seg_upd ndu hua1 f3
      refine d_get H₂₀ (by walk_at "mem") hua2 (fun s₂₁ H₂₁ => ?_)
      refine ⟨_, _, _, _, _, _, H₂₁, rfl, .tail _ (.tail _ (.tail _ (.tail _ (.tail _ (.tail _ (.tail _ (List.mem_append_right _ (List.mem_append_left _ zF.mem)))))))), rfl, args_cons (Tuple_ (args_cons ?_))⟩
      walk_at "nm"
      refine args_cons ?_
      walk_at "nm"
      refine args_nil (e_newTuple H₂₁ (fun t s₂₂ H₂₂ => ?_) (by rw [sizeLine_eq]; exact Nat.le_of_ble_eq_true rfl))
      have mono : ∀ (tv : Value) (c' : Con), (∃ t, tv = Value.ref t ∧ (t, Cell.tup [.ref c'.fc, .ref c'.vl]) ∈ T3) → ∃ t', tv = Value.ref t' ∧ (t', Cell.tup [.ref c'.fc, .ref c'.vl]) ∈ (t, Cell.tup [.ref c.fc, .ref c.vl]) :: T3 :=
        fun tv c' q => by obtain ⟨t', e, q⟩ := q; exact ⟨t', e, .tail _ q⟩
      have hlen : (f3 n).length ≤ 100000 := by
        rw [(hF3 n hn).length, List.length_append]
        have h1 : ((cs.take i).filter (touches n)).length ≤ 100 := Nat.le_trans (List.length_filter_le _ _) (by rw [List.length_take]; omega)
        split <;> simp <;> omega
      refine args_nil (b_append H₂₂ (.tail (.tail (.tail (.tail (.tail (.tail (.tail (.tail (Zip.app (Zip.left zF))))))))) ) hlen (fun s₂₃ H₂₃ => ?_))
      rw [hFF] at H₂₃
      refine wpAny_execs_nil ⟨G, _, ⟨rfl, (t, .tup [.ref c.fc, .ref c.vl]) :: T3, _, _, rfl, fun n' hn' => ?_⟩, H₂₃.perm (to_front [_, _, _, _, _, _, _])⟩
      have hcne := (hCon c hcm).ne
      have hj2 : j < 2 := hj
      have hj01 : j = 0 ∨ j = 1 := by omega
      by_cases e : n' = n
      · subst e
        have h3 := hF3 n' hn
        have hno : n' ∉ [c.n1, c.n2].take j := by
          rcases hj01 with rfl | rfl
          · simp
          · simp at hnj; subst hnj; simpa using Ne.symm hcne
        have hyes : n' ∈ [c.n1, c.n2].take (j + 1) := by
          rcases hj01 with rfl | rfl
          · simp at hnj; simp [hnj]
          · simp at hnj; simp [hnj]
        rw [if_neg hno, List.append_nil] at h3
        rw [if_pos rfl, if_pos hyes]
        exact (Paired.mono h3 mono).snoc ⟨t, rfl, .head _⟩
      · have h3 := hF3 n' hn'
        rw [if_neg e]
        have : (n' ∈ [c.n1, c.n2].take (j + 1)) ↔ (n' ∈ [c.n1, c.n2].take j) := by
          rcases hj01 with rfl | rfl
          · simp at hnj; subst hnj; simp [e]
          · simp at hnj; subst hnj; simp [e]
        simp only [this]
        exact Paired.mono h3 mono
    rintro G' l' s₁₉ ⟨rfl, T3, f3, o3, rfl, hF3⟩ H₁₉
    refine wpAny_execs_nil (wpAny_execs_nil ⟨G, _, ⟨rfl, T3, f3, _, _, _, rfl, fun n hn => ?_⟩, H₁₉⟩)
    have h3 := hF3 n hn
    rw [List.take_add_one, hc, List.filter_append]
    have e : (if n ∈ [c.n1, c.n2].take [Value.str c.n1 c.t1, .str c.n2 c.t2].length then [c] else []) = [c].filter (touches n) := by
      by_cases q : n = c.n1 ∨ n = c.n2
      · rw [if_pos (by simpa using q), List.filter_cons_of_pos]
        · rfl
        · unfold touches
          rcases q with rfl | rfl <;> simp
      · rw [if_neg (by simpa using q), List.filter_cons_of_neg]
        · rfl
        · unfold touches
          simp only [not_or] at q
          simp [Ne.symm q.1, Ne.symm q.2]
    rw [e] at h3
    exact h3
  rintro G' l' s₁₅ ⟨rfl, T2, ff, o1, o2, o3, rfl, hF⟩ H₁₅
  rw [show ts.length = cs.length from hP.length, List.take_length] at hF
  refine wpAny_execs_nil ?_
  refine wpAny_execs_cons (x_for (g := g) (os := os) (x_sub ?_ (fun o i => ⟨_, rfl⟩)))
  walk_at "nm"
  refine x_all H₁₅ (fun sl s₁₆ H₁₆ hsl => ⟨notpy_T (H₁₆.lst (D := cl) (vs := ts) (by walk_at "mem")).typeIs list_getitem_lookup, ?_⟩)
  refine getItem_lstslice H₁₆ (by walk_at "mem") (by omega) hsl (fun cp s₁₇ H₁₇ => ?_)
  refine ⟨cp, _, _, _, _, G, _, fun i G' l' => G = G' ∧ ∃ o1 o2, l' = (cp, .lst ts) :: (vc, .sd vk) :: (cl, .lst ts) :: (av, .lst ks) :: (dm, .dk (dkvs vs) ep) :: (L, .ns (frG x (some (.ref dm)) (some (.ref av)) (some (.ref cl)) o1 o2 (some (.ref vc)) o3 none)) :: (T2 ++ (seg us ff ++ (T ++ l))), Iter.list w cp ts, rfl, H₁₇, ⟨rfl, _, _, rfl⟩, ?_, ?_, ?_⟩
  · rintro i G' l' ⟨rfl, o1, o2, rfl⟩ p hp
    simp only [List.mem_singleton] at hp
    subst hp
    exact .head _
  · rintro i v I G' l' s₁₈ hi hitem ⟨rfl, o1, o2, rfl⟩ H₁₈
    obtain ⟨c, hc, tm, rfl, htm⟩ := Paired.get hP hitem
    have hcm : c ∈ cs := List.mem_of_getElem? hc
    have inl : ∀ {p : Addr × Cell}, p ∈ l → p ∈ T2 ++ (seg us ff ++ (T ++ l)) := fun h => List.mem_append_right _ (List.mem_append_right _ (List.mem_append_right _ h))
    have htm' : (tm, Cell.tup [.ref c.fc, .ref c.vl]) ∈ T2 ++ (seg us ff ++ (T ++ l)) := List.mem_append_right _ (List.mem_append_right _ (List.mem_append_left _ htm))
    have hfc := inl (hCon c hcm).fc
    have hdfc := inl (hCon c hcm).dfc
    have hvl := inl (hCon c hcm).vl
    refine a_tup2 H₁₈ (.tail _ (.tail _ (.tail _ (.tail _ (.tail _ (.tail _ (.tail _ htm'))))))) (fun s₁₉ H₁₉ => ?_)
    refine e_store H₁₉ (by walk_at "zip") (by walk_at "put") (fun s₂₀ H₂₀ => ?_)
    refine e_store H₂₀ (by walk_at "zip") (by walk_at "put") (fun s₂₁ H₂₁ => ?_)
    refine wpAny_execs_cons (wpAny_Expr_any (MethodCall_ ?_))
    walk_at "nm"
    refine i_meth (fa := 297) B H₂₁ (.tail _ (.tail _ (.tail _ (.tail _ (.tail _ (.tail _ (.tail _ hfc))))))) rfl (.tail _ (.tail _ (.tail _ (.tail _ (.tail _ (.tail _ (.tail _ hdfc))))))) (cls336 _) (by kernel_rfl) (by kernel_rfl) rfl ?_
    refine c_fn B (by kernel_rfl) (args_cons ?_)
    walk_at "nm"
    refine args_cons ?_
    walk_at "nm"
    refine args_cons ?_
    walk_at "nm"
    refine args_cons ?_
    walk_at "nm"
    refine args_nil ⟨⟨_, _, _, H₂₁⟩, wpAny_call (spec_preProcess B H₂₁ (.tail _ (.tail _ (.tail _ (.tail _ (.tail _ (.tail _ (.tail _ hvl))))))) (by omega) (fun s₂₂ H₂₂ => ?_))⟩
    exact wpAny_execs_nil ⟨G, _, ⟨rfl, _, _, rfl⟩, H₂₂⟩
  rintro G' l' s₁₈ ⟨rfl, o1, o2, rfl⟩ H₁₈
  refine wpAny_execs_nil ?_
  refine wpAny_execs_cons (x_for (g := g) (os := os) (m_bi0 PySem.F.plainAttrs_dict PySem.F.slot_dict_values PySem.F.type_dict_values ?_))
  walk_at "nm"
  refine ⟨_, _, _, _, _, _, H₁₈, rfl, by walk_at "mem", rfl, d_values H₁₈ (by walk_at "mem") (fun V' s₁₉ H₁₉ => ?_)⟩
  refine ⟨V', _, _, _, _, G, _, fun i G' l' => G = G' ∧ ∃ o4, l' = (V', .it "dict_values" (.fields #[.ref dm])) :: (cp, .lst ts) :: (vc, .sd vk) :: (cl, .lst ts) :: (av, .lst ks) :: (dm, .dk (dkvs vs) ep) :: (L, .ns (frG x (some (.ref dm)) (some (.ref av)) (some (.ref cl)) o1 o2 (some (.ref vc)) o3 o4)) :: (T2 ++ (seg us ff ++ (T ++ l))), Iter.vals w V' dm (dkvs vs) ep, rfl, H₁₉, ⟨rfl, _, rfl⟩, ?_, ?_, ?_⟩
  · rintro i G' l' ⟨rfl, o4, rfl⟩ p hp
    simp only [List.mem_cons, List.not_mem_nil, or_false] at hp
    rcases hp with rfl | rfl
    · exact .head _
    · walk_at "mem"
  · rintro i v I G' l' s₂₀ hi ⟨k, hk⟩ ⟨rfl, o4, rfl⟩ H₂₀
    have hi' : i < vs.length := by rw [← ldk]; exact hi
    have hvv : v = .ref (vs[i]).D := by
      unfold dkvs at hk
      rw [List.getElem?_map, List.getElem?_eq_getElem hi'] at hk
      simp at hk
      exact hk.2.symm
    subst hvv
    have hv := hvs _ (List.getElem_mem hi')
    generalize vs[i] = vv at hv
    have inl : ∀ {p : Addr × Cell}, p ∈ l → p ∈ T2 ++ (seg us ff ++ (T ++ l)) := fun h => List.mem_append_right _ (List.mem_append_right _ (List.mem_append_right _ h))
    have h1 := inl hv.D
    have h2 := inl hv.dD
    have h3 := inl hv.hi
    have h4 := inl hv.st
    refine wpAny_assign_Name (e_store H₂₀ (by walk_at "zip") (by walk_at "put") (fun s₂₁ H₂₁ => ?_))
    refine wpAny_execs_cons (wpAny_Expr_any (MethodCall_ ?_))
    walk_at "nm"
    have g1 := List.Mem.tail (I, Cell.it "dict_valueiterator" (.fields #[.ref dm, .int (i + 1 : Nat) 0, .int (dkvs vs).length 0, .int ep 0])) (List.Mem.tail (V', Cell.it "dict_values" (.fields #[.ref dm])) (List.Mem.tail (cp, Cell.lst ts) (List.Mem.tail (vc, Cell.sd vk) h1)))
    refine dom_meth (f := .ref 240) (T := .type "function") B H₂₁ (.tail _ (.tail _ (.tail _ (.tail _ (.tail _ (.tail _ (.tail _ (.tail _ h1)))))))) (.tail _ (.tail _ (.tail _ (.tail _ (.tail _ (.tail _ (.tail _ (.tail _ h2)))))))) (by kernel_rfl) (by kernel_rfl) (by decide +kernel) rfl ?_
    refine c_fn0 B H₂₁ (by kernel_rfl) (wpAny_call (spec_resetState B H₂₁ (.tail _ (.tail _ (.tail _ (.tail _ (.tail _ (.tail _ (.tail _ (.tail _ h1)))))))) (.tail _ (.tail _ (.tail _ (.tail _ (.tail _ (.tail _ (.tail _ (.tail _ h2)))))))) (.tail _ (.tail _ (.tail _ (.tail _ (.tail _ (.tail _ (.tail _ (.tail _ h3)))))))) (.tail _ (.tail _ (.tail _ (.tail _ (.tail _ (.tail _ (.tail _ (.tail _ h4)))))))) hv.le (by omega) (fun s₂₂ H₂₂ => ?_)))
    refine wpAny_execs_cons (wpAny_If (wpAny_isTrue_Not (isTrue_plain ?_)))
    walk_at "nm"
    refine dom_truthy B H₂₂ (.tail _ (.tail _ (.tail _ (.tail _ (.tail _ (.tail _ (.tail _ (.tail _ h1)))))))) (Nat.le_trans hv.le (by decide)) (fun s₂₃ H₂₃ => ?_)
    rw [hv.ne]
    refine ite_neg (by decide) ?_
    exact wpAny_execs_nil (wpAny_execs_nil ⟨G, _, ⟨rfl, _, rfl⟩, H₂₃⟩)
  rintro G' l' s₂₀ ⟨rfl, o4, rfl⟩ H₂₀
  refine wpAny_execs_nil ?_
  refine wpAny_execs_cons (wpAny_Return_some (Tuple_ (args_cons ?_)))
  walk_at "nm"
  refine args_cons ?_
  walk_at "nm"
  refine args_cons ?_
  walk_at "nm"
  refine args_nil (e_newTuple H₂₀ (fun tr s₂₁ H₂₁ => ?_) (by rw [sizeLine_eq]; exact Nat.le_of_ble_eq_true rfl))
  refine h tr dm cl vc vk ep ((tr, .tup [.ref dm, .ref cl, .ref vc]) :: (cp, .lst ts) :: (vc, .sd vk) :: (cl, .lst ts) :: (dm, .dk (dkvs vs) ep) :: (T2 ++ (seg us ff ++ T))) _ (.head _) (by walk_at "mem") (by walk_at "mem") ⟨?_, ?_⟩ (H₂₁.sub ?_)
  · rw [← hvk, List.map_map]
    exact hus
  · intro v hv
    have hn : v.n ∈ vs.map (·.n) := List.mem_map_of_mem hv
    obtain ⟨a, ha1, ha2⟩ := hua _ hn
    refine ⟨a, ff v.n, ha2, ?_, Paired.mono (hF _ hn) fun tv c q => ?_⟩
    · refine .tail _ (.tail _ (.tail _ (.tail _ (.tail _ (List.mem_append_right _ (List.mem_append_left _ ?_))))))
      exact List.mem_map_of_mem (f := fun p : Str × Addr => (p.2, Cell.lst (ff p.1))) ha1
    · obtain ⟨t, e, q⟩ := q
      exact ⟨t, e, .tail _ (.tail _ (.tail _ (.tail _ (.tail _ (List.mem_append_left _ q)))))⟩
  · have e : ((tr, Cell.tup [.ref dm, .ref cl, .ref vc]) :: (cp, Cell.lst ts) :: (vc, Cell.sd vk) :: (cl, Cell.lst ts) :: (dm, Cell.dk (dkvs vs) ep) :: (T2 ++ (seg us ff ++ T))) ++ l = (tr, Cell.tup [.ref dm, .ref cl, .ref vc]) :: (cp, .lst ts) :: (vc, .sd vk) :: (cl, .lst ts) :: (dm, .dk (dkvs vs) ep) :: (T2 ++ (seg us ff ++ (T ++ l))) := by
      simp [List.append_assoc]
    rw [e]
    refine List.Sublist.cons₂ _ (List.Sublist.cons _ (List.Sublist.cons₂ _ (List.Sublist.cons₂ _ (List.Sublist.cons₂ _ (List.Sublist.cons _ (List.Sublist.cons₂ _ (List.Sublist.cons _ (List.Sublist.refl _))))))))
end
end Mine
end
section
open PySem PySem.W PySem.Calls PyProof.Rows PySem.W.X
set_option Elab.async false
set_option maxRecDepth 100000
set_option maxHeartbeats 8000000
set_option linter.unusedVariables false
namespace Mine
local macro_rules | `(tactic| walk_at "mem") => `(tactic| first | assumption | exact List.Mem.head _ | (refine' List.Mem.tail _ ?_; walk_at "mem") | (refine' List.mem_append_right _ ?_; walk_at "mem") | (refine' List.mem_append_left _ ?_; walk_at "mem") | exact Zip.at' (by assumption) | exact Zip.keep (by assumption) (by walk_at "mem") (by intro e; cases e))
local macro_rules | `(tactic| walk_at "zip") => `(tactic| first | assumption | exact Zip.head | exact Zip.tail (by walk_at "zip") | exact Zip.app (by walk_at "zip") | exact Zip.again (by assumption))
local macro_rules | `(tactic| walk_at "kv") => `(tactic| first | with_reducible_and_instances exact List.Mem.head _ | (refine' List.Mem.tail _ ?_; walk_at "kv") | assumption)
local macro_rules | `(tactic| walk_at "put") => `(tactic| first | with_reducible exact Put.head | exact Put.tail (by walk_at "put"))
local macro_rules | `(tactic| walk_at "putd") => `(tactic| first | with_reducible exact PutD.head | with_reducible exact PutD.nil | exact PutD.tail (by decide) (by walk_at "putd"))
local macro_rules | `(tactic| walk_at "nm") => `(tactic| first
  | (refine e_local (by assumption) (by walk_at "mem") (by walk_at "kv") ?_)
  | (refine e_cell (by assumption) (by rfl) (by walk_at "mem") ?_)
  | (refine e_free (by assumption) (by rfl) (by walk_at "mem") ?_))
local macro_rules | `(tactic| walk_at "gl") => `(tactic| refine e_global (by assumption) (by assumption) (by first | with_reducible exact gl_Problem _ | with_reducible exact gl_BacktrackingSolver _ | with_reducible exact gl_Domain _ | with_reducible exact gl_Constraint _ | with_reducible exact gl_FunctionConstraint _ | with_reducible exact gl_law_yes _ | with_reducible exact gl_law_rule _ | with_reducible exact gl_law_due _) ?_)
local macro_rules | `(tactic| walk_at "bi") => `(tactic| refine e_builtin (by assumption) (by assumption) (by first | with_reducible exact bn_isinstance _ | with_reducible exact bn_callable _ | with_reducible exact bn_list _ | with_reducible exact bn_tuple _ | with_reducible exact bn_len _ | with_reducible exact bn_range _ | with_reducible exact bn_next _ | with_reducible exact bn_dict _ | with_reducible exact bn_sorted _ | with_reducible exact bn_iter _) (by first | with_reducible exact bb_isinstance | with_reducible exact bb_callable | with_reducible exact bb_list | with_reducible exact bb_tuple | with_reducible exact bb_len | with_reducible exact bb_range | with_reducible exact bb_next | with_reducible exact bb_dict | with_reducible exact bb_sorted | with_reducible exact bb_iter) ?_)
local macro_rules | `(tactic| walk_at "ns") => `(tactic| (show (_ : List Str).Nodup; dsimp only [List.map, List.nil_append, List.cons_append, List.append_nil]; decide +kernel))
local macro_rules | `(tactic| walk_at "lt") => `(tactic| (show _ < 1000; omega))
local macro_rules | `(tactic| x_close) => `(tactic| exact xq_of (by first | assumption | exact Mem.start _) (by first | rfl | assumption))
local macro_rules | `(tactic| walk_at "ga") => `(tactic| refine i_get (by assumption) (by assumption) (by walk_at "mem") (by exact rfl) (by walk_at "mem") (by first | exact cls110 _ | exact cls186 _ | exact cls336 _) (by kernel_rfl) (by walk_at "kv") (by exact rfl) ?_)
local macro_rules | `(tactic| walk_at "sa") => `(tactic| refine i_set (by assumption) (by assumption) (by walk_at "mem") (by walk_at "zip") (by first | exact cls110 _ | exact cls186 _ | exact cls336 _) (by kernel_rfl) (by kernel_rfl) (by walk_at "putd") (Nat.le_of_ble_eq_true rfl) ?_)
local macro_rules | `(tactic| walk_at "st") => `(tactic| refine e_store (by assumption) (by walk_at "zip") (by walk_at "put") ?_)
local macro_rules | `(tactic| walk_at "nmc") => `(tactic| first
  | (refine e_local (by assumption) (List.Mem.head _) (by first | exact List.Mem.head _ | exact List.Mem.tail _ (List.Mem.head _) | exact List.Mem.tail _ (List.Mem.tail _ (List.Mem.head _))) ?_)
  | (refine e_cell (by assumption) (by rfl) (by walk_at "mem") ?_)
  | (refine e_free (by assumption) (by rfl) (by walk_at "mem") ?_))
local macro_rules | `(tactic| walk_at "subl") => `(tactic| first | exact List.Sublist.refl _ | (refine' List.Sublist.cons _ ?_; walk_at "subl"))
section
variable {w : World} {g : Heap} {os : OsState} {G : Array GenState} {l l' : Led} {s : Shared} {a : Addr} {c c' : Cell} {f : Cell → Led} {A : Around} {E : Value → Shared → Prop}
/-! ## a generator, segment by segment: what holds at its end -/
def SG (w : World) (A : Around) (Φ : End → Shared → Prop) (c : Code) (t : Sem Fin) (fs : List Frame) (s : Shared) : Prop :=
  ∀ Γ p, Γ.code = c → Γ.Woken A → ∃ e s', Runs (model P0 w) Γ p t fs s e s' ∧ Φ e s'
section
variable {Φ : End → Shared → Prop} {cd cd' : Code} {fs : List Frame} {A : Around}
theorem sg_wrap {α : Type} {m : Sem α} {K : α → Sem Fin} {Hd : Value → Sem Fin} {gd lv}
    (h : wpAny (model P0 w) (A.over cd fs) m (fun a s' => SG w A Φ cd (K a) fs s') NoE s) : SG w A Φ cd (m.wrap K Hd gd lv) fs s := by
  rintro Γ p rfl hΓ
  exact runs_wrap_of_wp K Hd gd lv m (h (Γ.over fs) p (hΓ.over fs)) (fun a p' s' h' => h' Γ p' rfl hΓ) (fun x p' s' h' => h'.elim)
theorem sg_bind {α : Type} {m : Sem α} {K : α → Sem Fin} (h : wpAny (model P0 w) (A.over cd fs) m (fun a s' => SG w A Φ cd (K a) fs s') NoE s) : SG w A Φ cd (m >>= K) fs s := by
  rw [Sem.bind_eq_wrap']; exact sg_wrap h
theorem sg_at {p' : Pos} {k : Unit → Sem Fin} (h : SG w A Φ cd (k ()) fs s) : SG w A Φ cd (.at p' k) fs s :=
  sg_wrap (m := standAt p') (K := k) (Hd := .raise) (gd := id) (lv := id) (wpAny_standAt h)
theorem sg_point {l : List Value} {k : Unit → Sem Fin} (h : SG w A Φ cd (k ()) fs s) : SG w A Φ cd (.point l k) fs s :=
  sg_wrap (m := point) (K := k) (Hd := .raise) (gd := id) (lv := fun _ => l) (wpAny_point h)
theorem sg_call {h g l} {k : Result → Sem Fin} (hc : ∀ p, SG w A Φ cd' ((model P0 w).den cd') (.ret k h g l cd p [] :: fs) s) : SG w A Φ cd (.call cd' h g l k) fs s := by
  rintro Γ p rfl hΓ
  obtain ⟨e, s', hr, he⟩ := hc p (Γ.goto cd') p rfl (hΓ.goto cd')
  exact ⟨e, s', runs_call_seg hr, he⟩
theorem sg_leaf {k h g l c₁ p₁ kp} (r : Result) (hk : SG w A Φ c₁ (k r) fs s) : SG w A Φ cd (leafOf r) (.ret k h g l c₁ p₁ kp :: fs) s := by
  rintro Γ p rfl hΓ
  obtain ⟨e, s', hr, he⟩ := hk (Γ.goto c₁) p₁ rfl (hΓ.goto c₁)
  exact ⟨e, s', Runs.pop r hr, he⟩
theorem sg_again (hq : cd'.quiet = true) (hc : SG w A Φ cd' ((model P0 w).den cd') fs s) : SG w A Φ cd (.pure (.again cd')) fs s := by
  rintro Γ p rfl hΓ
  obtain ⟨e, s', hr, he⟩ := hc (Γ.goto cd') p rfl (hΓ.goto cd')
  exact ⟨e, s', Runs.head (c₁ := cd') (fun _ _ x => .again hq x) hr, he⟩
theorem sg_end (r : Result) (h : Φ (.ret r) s) : SG w A Φ cd (leafOf r) [] s := by
  rintro Γ p rfl _
  exact ⟨.ret r, s, Runs.leaf r, h⟩
theorem sg_yield {v g l} {k : Resume → Sem Fin} (hfs : splitAtGen fs = none) (h : ∀ p, Φ (.susp v g l k cd p fs) s) : SG w A Φ cd (.yield v g l k) fs s := by
  rintro Γ p rfl _
  exact ⟨_, s, Runs.yield' fs hfs, h p⟩
section
variable {env : Env} {K : Flow → Sem Fin} {Hd : Value → Sem Fin} {gd : Bool → Bool} {lv : List Value → List Value}
theorem sg_nil (h : SG w A Φ cd (K .next) fs s) : SG w A Φ cd ((execs [] env).wrap K Hd gd lv) fs s := h
theorem sg_cons {st : Stmt} {rest : List Stmt}
    (h : SG w A Φ cd ((exec st env).wrap (fun f => match f with | .next => (execs rest env).wrap K Hd gd lv | f => K f) Hd gd lv) fs s) : SG w A Φ cd ((execs (st :: rest) env).wrap K Hd gd lv) fs s := by
  rw [execs_cons_wrap]; exact h
theorem sg_Yield {e : Expr} {ypos pos : Pos} (hfs : splitAtGen fs = none) (hgd : gd false = false)
    (h : wpAny (model P0 w) (A.over cd fs) (eval e env) (fun v s' => ∀ l k p, (∀ A' Φ' s'', SG w A' Φ' cd (K .next) fs s'' → SG w A' Φ' cd (k (.send .none)) fs s'') → Φ (.susp v false l k cd p fs) s') NoE s)
    (hco : env.scope.isCoroutine = false := by rfl) (hi : interactive env = false := by rfl) :
    SG w A Φ cd ((exec (.Expr (.Yield (some e) ypos) pos) env).wrap K Hd gd lv) fs s := by
  rw [exec_Expr env _ pos hi rfl]
  show SG w A Φ cd (.at pos fun _ => ((eval e env >>= fun v => (standAt ypos >>= fun _ => yieldOut env v)) >>= fun x =>
    dropValue (.Yield (some e) ypos) pos x).wrap K Hd gd lv) fs s
  have hy : ∀ v, yieldOut env v = yieldValue v := fun v => by simp only [yieldOut, hco, Bool.false_eq_true, if_false]
  simp only [hy]
  refine sg_at ?_
  rw [Sem.bind_eq_wrap', Sem.bind_eq_wrap', Sem.wrap_wrap, Sem.wrap_wrap]
  refine sg_wrap (wpAny_mono h (fun v s' h' => ?_) fun _ _ x => x)
  refine sg_at (sg_yield hfs (fun p => ?_))
  rw [show (fun g => gd (id g)) false = false from hgd]
  exact h' _ _ p (fun A' Φ' s'' hx => hx)
theorem sg_While {test : Expr} {body orelse : List Stmt} {pos : Pos}
    (h : ∀ p, SG w A Φ (.whileLoop test body orelse env) ((model P0 w).den (.whileLoop test body orelse env))
      (.ret (fun r => ((match r with | .ok f => (.pure f : Sem Flow) | .error e => .raise e).onRaise fun (x : Value) => do
        if (← field x 1) == Value.none then unsupported "frame.own-activation:exception-without-traceback"
        setFlight x env.frame).wrap K Hd gd lv) none (gd false) (lv []) cd p [] :: fs) s) :
    SG w A Φ cd ((exec (.While test body orelse pos) env).wrap K Hd gd lv) fs s := sg_at (sg_call h)
theorem sg_exec {st : Stmt} (h : wpAny (model P0 w) (A.over cd fs) (exec st env) (fun f s' => SG w A Φ cd (K f) fs s') NoE s) : SG w A Φ cd ((exec st env).wrap K Hd gd lv) fs s := sg_wrap h
end
theorem sg_whileTrue {env : Env} {test : Expr} {body orelse : List Stmt}
    (h : wpAny (model P0 w) (A.over (.whileLoop test body orelse env) fs) (isTrue test env (eval test env)) (fun b s' => b = true ∧
        SG w A Φ (.whileLoop test body orelse env) ((execs body env).wrap (fun f => match f with
            | .next | .cont => .pure (.again (.whileLoop test body orelse env))
            | .brk => .pure (.done .next)
            | .ret v => .pure (.done (.ret v))) (fun e => (do noteFrame e env; theTreesLotGoes e : Sem Unit).wrap (fun _ => .raise e) .raise id id) id id) fs s') NoE s) :
    SG w A Φ (.whileLoop test body orelse env) ((model P0 w).den (.whileLoop test body orelse env)) fs s := by
  show SG w A Φ _ ((whileTurn test body orelse env).onRaise (fun x => do noteFrame x env; theTreesLotGoes x)) fs s
  unfold whileTurn
  rw [Sem.onRaise_eq_wrap, Sem.bind_eq_wrap', Sem.wrap_wrap]
  refine sg_wrap (wpAny_mono h (fun b s' hb => ?_) fun x s' hx => hx)
  obtain ⟨rfl, hb⟩ := hb
  show SG w A Φ _ (Sem.wrap _ _ _ _ (if true = true then _ else _)) fs s'
  rw [if_pos rfl, Sem.bind_eq_wrap', Sem.wrap_wrap]
  rw [Sem.wrap_congr (execs body env) _ _ (K' := fun f => match f with
        | .next | .cont => .pure (.again (.whileLoop test body orelse env))
        | .brk => .pure (.done .next)
        | .ret v => .pure (.done (.ret v))) (H' := (fun e => (do noteFrame e env; theTreesLotGoes e : Sem Unit).wrap (fun _ => .raise e) .raise id id))
    (fun f => by cases f <;> rfl)
    (fun e => by first | exact Sem.bind_eq_wrap _ _ | (show (do noteFrame e env; theTreesLotGoes e : Sem Unit).bind (fun _ => .raise e) = _; rw [Sem.bind_eq_wrap]))]
  exact hb
theorem sg_func {env : Env} {body : List Stmt}
    (h : SG w A Φ (.func body env) ((execs body env).wrap (fun f => .pure (.done (.ret (match f with | .ret v => v | _ => .none))))
      (fun e => (leaving env e).wrap (fun _ => .raise e) .raise id id) id id) fs s) : SG w A Φ (.func body env) ((model P0 w).den (.func body env)) fs s := by
  show SG w A Φ (.func body env) (.point [] fun _ => ((execs body env).onRaise (leaving env)) >>= _) fs s
  refine sg_point ?_
  rw [Sem.onRaise_eq_wrap, Sem.bind_eq_wrap', Sem.wrap_wrap]
  rw [Sem.wrap_congr (execs body env) _ _ (K' := fun f => .pure (.done (.ret (match f with | .ret v => v | _ => .none))))
    (H' := fun e => (leaving env e).wrap (fun _ => .raise e) .raise id id) (fun f => by cases f <;> rfl)
    (fun e => by rw [Sem.bind_eq_wrap, Sem.wrap_wrap]; rfl)]
  exact h
end
def Starts (w : World) (A : Around) (gs : GenState) (Φ : End → Shared → Prop) (s : Shared) : Prop := match gs with
  | .fresh c => SG w A Φ c ((model P0 w).den c) [] s
  | .suspended k _ c _ fs _ => SG w A Φ c (k (.send .none)) fs s
  | _ => False
theorem resume_SG {d u d' u' : Nat} {α : Type} {gn : Nat} {gs : GenState} {lv : List Value} {k : GenResult → Sem α} {Φ : End → Shared → Prop} {Q : α → Shared → Prop} {E : Value → Shared → Prop} (hg : s.gens[gn]? = some gs)
    (hst : Starts w (AR d' u') gs Φ (s.setGen gn .running)) (hd : d ≤ d') (hu : u ≤ u') (hq : ∀ e s', Φ e s' → e.quiet = true)
    (h : ∀ e s', Φ e s' → wpAny (model P0 w) (AR d u) (k e.result) Q E (s'.setGen gn e.genState)) : wpAny (model P0 w) (AR d u) (.resume gn (.send .none) lv k) Q E s := by
  intro Γ p hΓ
  rw [Sem.wp_resume]
  have hΓ' : Γ.In (AR d' u') := in_AR hΓ rfl hd hu
  have hB : ∀ c, (Γ.wake c p).Woken (AR d' u') := fun c => hΓ'.wake c p
  cases gs with
  | fresh c =>
    obtain ⟨e₁, s₁, hr, he⟩ := hst (Γ.wake c p) p rfl (hB c)
    exact ⟨_, _, by unfold Wakes; rw [hg]; exact ⟨e₁, s₁, hr, hq e₁ s₁ he, rfl, rfl⟩, h e₁ s₁ he Γ p hΓ⟩
  | suspended k₀ l₀ c₀ p₀ fs₀ cl =>
    obtain ⟨e₁, s₁, hr, he⟩ := hst (Γ.wake c₀ p) p₀ rfl (hB c₀)
    exact ⟨_, _, by unfold Wakes; rw [hg]; exact ⟨e₁, s₁, hr, hq e₁ s₁ he, rfl, rfl⟩, h e₁ s₁ he Γ p hΓ⟩
  | running => exact hst.elim
  | finished => exact hst.elim
end
end Mine
end
section
open PySem PySem.W PySem.Calls PyProof.Rows PySem.W.X
set_option Elab.async false
set_option maxRecDepth 100000
set_option maxHeartbeats 8000000
set_option linter.unusedVariables false
namespace Mine
local macro_rules | `(tactic| walk_at "mem") => `(tactic| first | assumption | exact List.Mem.head _ | (refine' List.Mem.tail _ ?_; walk_at "mem") | (refine' List.mem_append_right _ ?_; walk_at "mem") | (refine' List.mem_append_left _ ?_; walk_at "mem") | exact Zip.at' (by assumption) | exact Zip.keep (by assumption) (by walk_at "mem") (by intro e; cases e))
local macro_rules | `(tactic| walk_at "zip") => `(tactic| first | assumption | exact Zip.head | exact Zip.tail (by walk_at "zip") | exact Zip.app (by walk_at "zip") | exact Zip.again (by assumption))
local macro_rules | `(tactic| walk_at "kv") => `(tactic| first | with_reducible_and_instances exact List.Mem.head _ | (refine' List.Mem.tail _ ?_; walk_at "kv") | assumption)
local macro_rules | `(tactic| walk_at "put") => `(tactic| first | with_reducible exact Put.head | exact Put.tail (by walk_at "put"))
local macro_rules | `(tactic| walk_at "putd") => `(tactic| first | with_reducible exact PutD.head | with_reducible exact PutD.nil | exact PutD.tail (by decide) (by walk_at "putd"))
local macro_rules | `(tactic| walk_at "nm") => `(tactic| first
  | (refine e_local (by assumption) (by walk_at "mem") (by walk_at "kv") ?_)
  | (refine e_cell (by assumption) (by rfl) (by walk_at "mem") ?_)
  | (refine e_free (by assumption) (by rfl) (by walk_at "mem") ?_))
local macro_rules | `(tactic| walk_at "gl") => `(tactic| refine e_global (by assumption) (by assumption) (by first | with_reducible exact gl_Problem _ | with_reducible exact gl_BacktrackingSolver _ | with_reducible exact gl_Domain _ | with_reducible exact gl_Constraint _ | with_reducible exact gl_FunctionConstraint _ | with_reducible exact gl_law_yes _ | with_reducible exact gl_law_rule _ | with_reducible exact gl_law_due _) ?_)
local macro_rules | `(tactic| walk_at "bi") => `(tactic| refine e_builtin (by assumption) (by assumption) (by first | with_reducible exact bn_isinstance _ | with_reducible exact bn_callable _ | with_reducible exact bn_list _ | with_reducible exact bn_tuple _ | with_reducible exact bn_len _ | with_reducible exact bn_range _ | with_reducible exact bn_next _ | with_reducible exact bn_dict _ | with_reducible exact bn_sorted _ | with_reducible exact bn_iter _) (by first | with_reducible exact bb_isinstance | with_reducible exact bb_callable | with_reducible exact bb_list | with_reducible exact bb_tuple | with_reducible exact bb_len | with_reducible exact bb_range | with_reducible exact bb_next | with_reducible exact bb_dict | with_reducible exact bb_sorted | with_reducible exact bb_iter) ?_)
local macro_rules | `(tactic| walk_at "ns") => `(tactic| (show (_ : List Str).Nodup; dsimp only [List.map, List.nil_append, List.cons_append, List.append_nil]; decide +kernel))
local macro_rules | `(tactic| walk_at "lt") => `(tactic| (show _ < 1000; omega))
local macro_rules | `(tactic| x_close) => `(tactic| exact xq_of (by first | assumption | exact Mem.start _) (by first | rfl | assumption))
local macro_rules | `(tactic| walk_at "ga") => `(tactic| refine i_get (by assumption) (by assumption) (by walk_at "mem") (by exact rfl) (by walk_at "mem") (by first | exact cls110 _ | exact cls186 _ | exact cls336 _) (by kernel_rfl) (by walk_at "kv") (by exact rfl) ?_)
local macro_rules | `(tactic| walk_at "sa") => `(tactic| refine i_set (by assumption) (by assumption) (by walk_at "mem") (by walk_at "zip") (by first | exact cls110 _ | exact cls186 _ | exact cls336 _) (by kernel_rfl) (by kernel_rfl) (by walk_at "putd") (Nat.le_of_ble_eq_true rfl) ?_)
local macro_rules | `(tactic| walk_at "st") => `(tactic| refine e_store (by assumption) (by walk_at "zip") (by walk_at "put") ?_)
local macro_rules | `(tactic| walk_at "nmc") => `(tactic| first
  | (refine e_local (by assumption) (List.Mem.head _) (by first | exact List.Mem.head _ | exact List.Mem.tail _ (List.Mem.head _) | exact List.Mem.tail _ (List.Mem.tail _ (List.Mem.head _))) ?_)
  | (refine e_cell (by assumption) (by rfl) (by walk_at "mem") ?_)
  | (refine e_free (by assumption) (by rfl) (by walk_at "mem") ?_))
local macro_rules | `(tactic| walk_at "subl") => `(tactic| first | exact List.Sublist.refl _ | (refine' List.Sublist.cons _ ?_; walk_at "subl"))
section
variable {w : World} {g : Heap} {os : OsState} {G : Array GenState} {l l' : Led} {s : Shared} {a : Addr} {c c' : Cell} {f : Cell → Led} {A : Around} {E : Value → Shared → Prop}
/-! ## a generator that still has solutions to tell -/
abbrev genO (gi : Nat) (nm qn : Value) : Obj := { cls := .type "generator", data := .fields #[.int gi 0, nm, qn] }
def Ready (w : World) (g : Heap) (need : Led) : List (List (Str × Value)) → GenState → Led → Prop
  | [], gs, IL => ∀ os G l2 s, Ok w g os G (IL ++ l2) s → (∀ p ∈ need, p ∈ l2) → Starts w (AR 500 5000) gs (fun e s' => e = .ret (.ok (.ret .none)) ∧ Ok w g os G l2 s') s
  | sol :: r, gs, IL => ∀ os G l2 s, Ok w g os G (IL ++ l2) s → (∀ p ∈ need, p ∈ l2) → Starts w (AR 500 5000) gs (fun e s' => e.quiet = true ∧ ∃ dd IL', e.result = .yielded (.ref dd) ∧
      Ok w g os G ((dd, .sd sol) :: (IL' ++ l2)) s' ∧ Ready w g need r e.genState IL') s
theorem Ok.gen (H : Ok w g os G l s) (gi : Nat) (x : GenState) : Ok w g os (G.setIfInBounds gi x) l (s.setGen gi x) :=
  ⟨H.os, by show s.gens.setIfInBounds gi x = _; rw [H.gens], H.keep, H.at_, H.new, H.nd, H.sm, H.ns'⟩
theorem genO_is {h : Heap} {ga : Addr} {gi : Nat} {nm qn : Value} (x : h.get? ga = some (genO gi nm qn)) : h.IsGen ga gi := ⟨_, nm, qn, x, rfl, rfl, rfl⟩
theorem set_set (G : Array GenState) (i : Nat) (a b : GenState) : (G.setIfInBounds i a).setIfInBounds i b = G.setIfInBounds i b := by
  apply Array.ext
  · simp
  · intro j h1 h2
    simp only [Array.size_setIfInBounds] at h1 h2
    by_cases e : i = j
    · subst e; simp
    · simp [Array.getElem_setIfInBounds, e]
theorem g_next {d u gi : Nat} {ga : Addr} {nm qn : Value} {gs : GenState} {IL l2 need : Led} {sols : List (List (Str × Value))} {Q : Option Value → Shared → Prop} {E : Value → Shared → Prop} (B : Base w g) (H : Ok w g os G (IL ++ l2) s) (hga : (ga, .ob (genO gi nm qn)) ∈ l2) (hgs : G[gi]? = some gs)
    (hR : Ready w g need sols gs IL) (hneed : ∀ p ∈ need, p ∈ l2) (hd : d ≤ 450) (hu : u ≤ 4000)
    (h0 : sols = [] → ∀ s', Ok w g os (G.setIfInBounds gi .finished) l2 s' → Q none s')
    (h1 : ∀ sol r, sols = sol :: r → ∀ dd IL' gs' s', Ready w g need r gs' IL' → gs'.bare = true → Ok w g os (G.setIfInBounds gi gs') ((dd, .sd sol) :: (IL' ++ l2)) s' → Q (some (.ref dd)) s') :
    wpAny (model P0 w) (AR d u) (pyNext (.ref ga)) Q E s := by
  have hg : s.heap.IsGen ga gi := genO_is (H.get (List.mem_append_right _ hga))
  have hgs' : s.gens[gi]? = some gs := by rw [H.gens]; exact hgs
  have Hr := H.gen gi .running
  unfold pyNext
  refine wpAny_bind (wpAny_attempt (wpAny_callSpecial?_slot (name := Str.ofString "__next__") hg.typeIs slot_gen_next
    (wpAny_call_entry slot_gen_next hg.typeIs entry_gen_next ?_ (args_gen_next _))))
  show wpAny _ _ (Builtin.Generator.genWake (.ref ga) (.send .none)) _ _ s
  unfold Builtin.Generator.genWake
  refine wpAny_bind (wpAny_holding (wpAny_genNumber hg (wpAny_bind (wpAny_genState hgs' ?_))))
  have room : ∀ {α : Type} {m : Sem α} {Q' : α → Shared → Prop} {E' : Value → Shared → Prop}, wpAny (model P0 w) (AR d u).in1 m Q' E' s → wpAny (model P0 w) (AR d u).in1 (roomToWake >>= fun _ => m) Q' E' s := by
    intro α m Q' E' hm
    exact wpAny_bind (wpAny_roomToWake (B.lim' H) (Nat.lt_of_le_of_lt hd (by decide)) hm)
  cases gs with
  | running => cases sols <;> exact (hR _ _ _ _ Hr hneed).elim
  | finished => cases sols <;> exact (hR _ _ _ _ Hr hneed).elim
  | _ =>
    refine room ?_
    show wpAny _ _ (.resume gi (.send .none) [] _) _ _ s
    cases sols with
    | nil =>
      refine resume_SG (d := d) (u := u + 1) hgs' (hR _ _ _ _ Hr hneed) (by omega) (by omega) (fun e s' q => by rw [q.1]; rfl) (fun e s' q => ?_)
      obtain ⟨rfl, H'⟩ := q
      have H'' := H'.gen gi .finished
      rw [set_set] at H''
      show wpAny _ _ (newExc (.type "StopIteration") [] >>= _) _ _ _
      refine wpAny_bind ?_
      simp only [newExc, newTuple]
      refine wpAny_bind (wpAny_newObj_type ?_ (by size_fits))
      refine wpAny_bind (m := firstArgMember _ _) (wpAny_of_eq (a := Value.none) (by first | rfl | (simp only [firstArgMember]; rfl)) ?_)
      refine wpAny_newObj_type ?_ (by size_fits)
      simp only [raiseNew]
      refine wpAny_bind (wpAny_bind (wpAny_handled ?_))
      refine wpAny_throw ?_
      refine wpAny_bind (wpAny_isInstance (T := "StopIteration") (b := true) ⟨_, Heap.get?_push_size _ rfl, rfl⟩ isSubtype_stop ?_)
      exact wpAny_pure (h0 rfl _ (H''.ext (t := _) (fun b o hb => Heap.get?_push_of_some _ (Heap.get?_push_of_some _ hb))))
    | cons sol r =>
      refine resume_SG (d := d) (u := u + 1) hgs' (hR _ _ _ _ Hr hneed) (by omega) (by omega) (fun e s' q => q.1) (fun e s' q => ?_)
      obtain ⟨q0, dd, IL', q1, q3, q4⟩ := q
      have H'' := q3.gen gi e.genState
      rw [set_set] at H''
      rw [q1]
      exact wpAny_pure ⟨_, rfl, wpAny_pure (h1 sol r rfl dd IL' _ _ q4 (End.bare_of_quiet q0) H'')⟩
/-- nothing more -/
theorem g_next_fin {d u gi : Nat} {ga : Addr} {nm qn : Value} {Q : Option Value → Shared → Prop} {E : Value → Shared → Prop} (H : Ok w g os G l s) (hga : (ga, .ob (genO gi nm qn)) ∈ l) (hgs : G[gi]? = some .finished)
    (h0 : ∀ s', Ok w g os G l s' → Q none s') : wpAny (model P0 w) (AR d u) (pyNext (.ref ga)) Q E s := by
  have hg : s.heap.IsGen ga gi := genO_is (H.get hga)
  have hgs' : s.gens[gi]? = some .finished := by rw [H.gens]; exact hgs
  unfold pyNext
  refine wpAny_bind (wpAny_attempt (wpAny_callSpecial?_slot (name := Str.ofString "__next__") hg.typeIs slot_gen_next
    (wpAny_call_entry slot_gen_next hg.typeIs entry_gen_next ?_ (args_gen_next _))))
  show wpAny _ _ (Builtin.Generator.genWake (.ref ga) (.send .none)) _ _ s
  unfold Builtin.Generator.genWake
  refine wpAny_bind (wpAny_holding (wpAny_genNumber hg (wpAny_bind (wpAny_genState hgs' ?_))))
  show wpAny _ _ (.resume gi (.send .none) [] _) _ _ s
  intro Γ p hΓ
  rw [Sem.wp_resume]
  refine ⟨.finished, s, by unfold Wakes; rw [hgs']; exact ⟨rfl, rfl⟩, ?_⟩
  refine (show wpAny (model P0 w) (AR d u).in1 _ _ _ s from ?_) Γ p hΓ
  show wpAny _ _ (newExc (.type "StopIteration") [] >>= _) _ _ _
  refine wpAny_bind ?_
  simp only [newExc, newTuple]
  refine wpAny_bind (wpAny_newObj_type ?_ (by size_fits))
  refine wpAny_bind (m := firstArgMember _ _) (wpAny_of_eq (a := Value.none) (by first | rfl | (simp only [firstArgMember]; rfl)) ?_)
  refine wpAny_newObj_type ?_ (by size_fits)
  simp only [raiseNew]
  refine wpAny_bind (wpAny_bind (wpAny_handled (wpAny_pure ?_)))
  refine wpAny_throw ?_
  refine wpAny_bind (wpAny_isInstance (T := "StopIteration") (b := true) ⟨_, Heap.get?_push_size _ rfl, rfl⟩ isSubtype_stop ?_)
  exact wpAny_pure (h0 _ (H.ext (t := _) (fun b o hb => Heap.get?_push_of_some _ (Heap.get?_push_of_some _ hb))))
/-- what the end of a segment is to be -/
def GEnd (w : World) (g : Heap) (need : Led) (sols : List (List (Str × Value))) (os : OsState) (G : Array GenState) (l2 : Led) (e : End) (s' : Shared) : Prop := match sols with
  | [] => e = .ret (.ok (.ret .none)) ∧ Ok w g os G l2 s'
  | sol :: r => e.quiet = true ∧ ∃ dd IL', e.result = .yielded (.ref dd) ∧ Ok w g os G ((dd, .sd sol) :: (IL' ++ l2)) s' ∧ Ready w g need r e.genState IL'
theorem ready_of {need : Led} {sols : List (List (Str × Value))} {gs : GenState} {IL : Led} (h : ∀ os G l2 s, Ok w g os G (IL ++ l2) s → (∀ p ∈ need, p ∈ l2) → Starts w (AR 500 5000) gs (GEnd w g need sols os G l2) s) : Ready w g need sols gs IL := by
  cases sols <;> exact h
end
end Mine
end
section
open PySem PySem.W PySem.Calls PyProof.Rows PySem.W.X
set_option Elab.async false
set_option maxRecDepth 100000
set_option maxHeartbeats 8000000
set_option linter.unusedVariables false
namespace Mine
local macro_rules | `(tactic| walk_at "mem") => `(tactic| first | assumption | exact List.Mem.head _ | (refine' List.Mem.tail _ ?_; walk_at "mem") | (refine' List.mem_append_right _ ?_; walk_at "mem") | (refine' List.mem_append_left _ ?_; walk_at "mem") | exact Zip.at' (by assumption) | exact Zip.keep (by assumption) (by walk_at "mem") (by intro e; cases e))
local macro_rules | `(tactic| walk_at "zip") => `(tactic| first | assumption | exact Zip.head | exact Zip.tail (by walk_at "zip") | exact Zip.app (by walk_at "zip") | exact Zip.again (by assumption))
local macro_rules | `(tactic| walk_at "kv") => `(tactic| first | with_reducible_and_instances exact List.Mem.head _ | (refine' List.Mem.tail _ ?_; walk_at "kv") | assumption)
local macro_rules | `(tactic| walk_at "put") => `(tactic| first | with_reducible exact Put.head | exact Put.tail (by walk_at "put"))
local macro_rules | `(tactic| walk_at "putd") => `(tactic| first | with_reducible exact PutD.head | with_reducible exact PutD.nil | exact PutD.tail (by decide) (by walk_at "putd"))
local macro_rules | `(tactic| walk_at "nm") => `(tactic| first
  | (refine e_local (by assumption) (by walk_at "mem") (by walk_at "kv") ?_)
  | (refine e_cell (by assumption) (by rfl) (by walk_at "mem") ?_)
  | (refine e_free (by assumption) (by rfl) (by walk_at "mem") ?_))
local macro_rules | `(tactic| walk_at "gl") => `(tactic| refine e_global (by assumption) (by assumption) (by first | with_reducible exact gl_Problem _ | with_reducible exact gl_BacktrackingSolver _ | with_reducible exact gl_Domain _ | with_reducible exact gl_Constraint _ | with_reducible exact gl_FunctionConstraint _ | with_reducible exact gl_law_yes _ | with_reducible exact gl_law_rule _ | with_reducible exact gl_law_due _) ?_)
local macro_rules | `(tactic| walk_at "bi") => `(tactic| refine e_builtin (by assumption) (by assumption) (by first | with_reducible exact bn_isinstance _ | with_reducible exact bn_callable _ | with_reducible exact bn_list _ | with_reducible exact bn_tuple _ | with_reducible exact bn_len _ | with_reducible exact bn_range _ | with_reducible exact bn_next _ | with_reducible exact bn_dict _ | with_reducible exact bn_sorted _ | with_reducible exact bn_iter _) (by first | with_reducible exact bb_isinstance | with_reducible exact bb_callable | with_reducible exact bb_list | with_reducible exact bb_tuple | with_reducible exact bb_len | with_reducible exact bb_range | with_reducible exact bb_next | with_reducible exact bb_dict | with_reducible exact bb_sorted | with_reducible exact bb_iter) ?_)
local macro_rules | `(tactic| walk_at "ns") => `(tactic| (show (_ : List Str).Nodup; dsimp only [List.map, List.nil_append, List.cons_append, List.append_nil]; decide +kernel))
local macro_rules | `(tactic| walk_at "lt") => `(tactic| (show _ < 1000; omega))
local macro_rules | `(tactic| x_close) => `(tactic| exact xq_of (by first | assumption | exact Mem.start _) (by first | rfl | assumption))
local macro_rules | `(tactic| walk_at "ga") => `(tactic| refine i_get (by assumption) (by assumption) (by walk_at "mem") (by exact rfl) (by walk_at "mem") (by first | exact cls110 _ | exact cls186 _ | exact cls336 _) (by kernel_rfl) (by walk_at "kv") (by exact rfl) ?_)
local macro_rules | `(tactic| walk_at "sa") => `(tactic| refine i_set (by assumption) (by assumption) (by walk_at "mem") (by walk_at "zip") (by first | exact cls110 _ | exact cls186 _ | exact cls336 _) (by kernel_rfl) (by kernel_rfl) (by walk_at "putd") (Nat.le_of_ble_eq_true rfl) ?_)
local macro_rules | `(tactic| walk_at "st") => `(tactic| refine e_store (by assumption) (by walk_at "zip") (by walk_at "put") ?_)
local macro_rules | `(tactic| walk_at "nmc") => `(tactic| first
  | (refine e_local (by assumption) (List.Mem.head _) (by first | exact List.Mem.head _ | exact List.Mem.tail _ (List.Mem.head _) | exact List.Mem.tail _ (List.Mem.tail _ (List.Mem.head _))) ?_)
  | (refine e_cell (by assumption) (by rfl) (by walk_at "mem") ?_)
  | (refine e_free (by assumption) (by rfl) (by walk_at "mem") ?_))
local macro_rules | `(tactic| walk_at "subl") => `(tactic| first | exact List.Sublist.refl _ | (refine' List.Sublist.cons _ ?_; walk_at "subl"))
section
variable {w : World} {g : Heap} {os : OsState} {G : Array GenState} {l l' : Led} {s : Shared} {a : Addr} {c c' : Cell} {f : Cell → Led} {A : Around} {E : Value → Shared → Prop}
/-! ## sorting: the order that the comparisons give -/
section
variable {α : Type}
def kev (lt : Nat → Nat → Bool) : KasT α → α
  | .ret a => a
  | .ask i j k => kev lt (k (lt i j))
def ksafe (n : Nat) (lt : Nat → Nat → Bool) : KasT α → Bool
  | .ret _ => true
  | .ask i j k => decide (i < n) && decide (j < n) && ksafe n lt (k (lt i j))
theorem kas_ev {n : Nat} {lt : Nat → Nat → Bool} {ask : Nat → Nat → (Bool → Shared → Prop) → Shared → Prop} {I : Shared → Prop} {G : α → Shared → Prop}
    (hask : ∀ i j C s, i < n → j < n → I s → (∀ s', I s' → C (lt i j) s') → ask i j C s) : ∀ (t : KasT α) (s : Shared), ksafe n lt t = true → I s → (∀ s', I s' → G (kev lt t) s') → t.kasWp ask G s
  | .ret a, s, _, hI, h => h s hI
  | .ask i j k, s, hs, hI, h => by
    simp only [ksafe, Bool.and_eq_true, decide_eq_true_eq] at hs
    exact hask i j _ s hs.1.1 hs.1.2 hI fun s' hI' => kas_ev hask (k (lt i j)) s' hs.2 hI' h
theorem kev_congr {n : Nat} {lt lt' : Nat → Nat → Bool} (e : ∀ i j, i < n → j < n → lt i j = lt' i j) : ∀ t : KasT α, ksafe n lt' t = true → kev lt t = kev lt' t ∧ ksafe n lt t = true
  | .ret a, _ => ⟨rfl, rfl⟩
  | .ask i j k, hs => by
    simp only [ksafe, Bool.and_eq_true, decide_eq_true_eq] at hs
    have ij := e i j hs.1.1 hs.1.2
    obtain ⟨a, b⟩ := kev_congr e (k (lt' i j)) hs.2
    simp only [kev, ksafe, ij]
    exact ⟨a, by simp [hs.1.1, hs.1.2, b]⟩
end
def tab3 (b0 b1 b2 b3 b4 b5 b6 b7 b8 : Bool) (i j : Nat) : Bool := match i, j with
  | 0, 0 => b0 | 0, 1 => b1 | 0, 2 => b2 | 1, 0 => b3 | 1, 1 => b4 | 1, 2 => b5 | 2, 0 => b6 | 2, 1 => b7 | 2, 2 => b8 | _, _ => false
def isPerm (n : Nat) (p : List Nat) : Bool := p.isPerm (List.range n)
theorem sort3 : ∀ b0 b1 b2 b3 b4 b5 b6 b7 b8 : Bool, (ksafe 3 (tab3 b0 b1 b2 b3 b4 b5 b6 b7 b8) (kas_sort 3) && isPerm 3 (kev (tab3 b0 b1 b2 b3 b4 b5 b6 b7 b8) (kas_sort 3)).toList) = true := by decide +kernel
theorem sort2 : ∀ b0 b1 b3 b4 : Bool, (ksafe 2 (tab3 b0 b1 false b3 b4 false false false false) (kas_sort 2) && isPerm 2 (kev (tab3 b0 b1 false b3 b4 false false false false) (kas_sort 2)).toList) = true := by decide +kernel
theorem sort_ok (n : Nat) (h2 : 2 ≤ n) (h3 : n ≤ 3) (lt : Nat → Nat → Bool) : ksafe n lt (kas_sort n) = true ∧ (kev lt (kas_sort n)).toList.Perm (List.range n) := by
  have : n = 2 ∨ n = 3 := by omega
  rcases this with rfl | rfl
  · have h := sort2 (lt 0 0) (lt 0 1) (lt 1 0) (lt 1 1)
    simp only [Bool.and_eq_true] at h
    obtain ⟨a, b⟩ := kev_congr (lt := lt) (fun i j hi hj => by
      have hi' : i = 0 ∨ i = 1 := by omega
      have hj' : j = 0 ∨ j = 1 := by omega
      rcases hi' with rfl | rfl <;> rcases hj' with rfl | rfl <;> rfl) _ h.1
    exact ⟨b, by rw [a]; exact List.isPerm_iff.mp h.2⟩
  · have h := sort3 (lt 0 0) (lt 0 1) (lt 0 2) (lt 1 0) (lt 1 1) (lt 1 2) (lt 2 0) (lt 2 1) (lt 2 2)
    simp only [Bool.and_eq_true] at h
    obtain ⟨a, b⟩ := kev_congr (lt := lt) (fun i j hi hj => by
      have hi' : i = 0 ∨ i = 1 ∨ i = 2 := by omega
      have hj' : j = 0 ∨ j = 1 ∨ j = 2 := by omega
      rcases hi' with rfl | rfl | rfl <;> rcases hj' with rfl | rfl | rfl <;> rfl) _ h.1
    exact ⟨b, by rw [a]; exact List.isPerm_iff.mp h.2⟩
/-- the order of n things -/
def ord (n : Nat) (lt : Nat → Nat → Bool) : List Nat := if n < 2 then List.range n else (kev lt (kas_sort n)).toList
theorem ord_perm {n : Nat} (h3 : n ≤ 3) (lt : Nat → Nat → Bool) : (ord n lt).Perm (List.range n) := by
  unfold ord
  split
  · exact List.Perm.refl _
  · exact (sort_ok n (by omega) h3 lt).2
/-! ## list.sort of tuples (int, int, str) -/
structure Key where
  (a b : Int) (c : Str) (ta tb tc : Tok)
def Key.lt (x y : Key) : Bool := if x.a == y.a then (if x.b == y.b then (if x.c == y.c then false else decide (x.c.cps.toList < y.c.cps.toList)) else decide (x.b < y.b)) else decide (x.a < y.a)
abbrev Key.cell (k : Key) : Cell := .tup [.int k.a k.ta, .int k.b k.tb, .str k.c k.tc]
theorem b_lsort2 {D : Addr} {vs : List Value} {Q : Value → Shared → Prop} {E : Value → Shared → Prop} (H : Ok w g os G l s) (z : Zip l D (.lst vs) f) (h2 : 2 ≤ vs.length) (h64 : vs.length < 64)
    (h : ∀ e1 s', Ok w g os G (f (.ob (lstO [] e1))) s' → wpAny (model P0 w) A.in1 (keyKind' vs.toArray) (fun κ s'' => (kas_sort vs.length).kasWp (kas_ask P0 w A.in1 κ vs) (fun p s₃ => Ok w g os G (f (.ob (lstO [] e1))) s₃ ∧ ∀ s₄, Ok w g os G (f (.lst (p.toList.map fun i => vs.getD i .none))) s₄ → Q .none s₄) s'') NoE s') :
    wpAny (model P0 w) A (call (.builtin "list.sort") [.ref D]) Q E s := by
  obtain ⟨n, hn⟩ := H.get z.mem
  refine wpAny_call_entry slot_list_sort ⟨_, hn, rfl⟩ entry_list_sort ?_ (args_list_sort _)
  obtain ⟨l1, l2, rfl, q⟩ := z.split
  obtain ⟨e1, ho1⟩ : ∃ e1, (s.heap.update D (Obj.mapSeq fun _ => (#[] : Array Value))).get? D = some (seqObj "list" #[] e1) := ⟨_, get?_update_seq hn fun _ => #[]⟩
  have H1 := H.set (t := s.toks) (c' := .ob (lstO [] e1)) z (Heap.SameBut.update s.heap D (Obj.mapSeq fun _ => (#[] : Array Value))) ho1
  have H3 := (H1.ext (t := s.toks) (h' := ((s.heap.update D (Obj.mapSeq fun _ => (#[] : Array Value))).push (seqObj "tuple" vs.toArray 0)).push (seqObj "list" #[] 0)) (fun b x e => Heap.get?_push_of_some _ (Heap.get?_push_of_some _ e)))
  have ask := h e1 _ H3
  rw [list_sort_plain]
  refine wpAny_bind (listItems_at hn rfl ?_)
  refine wpAny_bind (listUpdate_at hn rfl ?_ (by rw [List.size_toArray, sizeLine_eq]; omega) (Nat.zero_le _))
  refine wpAny_bind (seqEpoch_at ho1 rfl ?_)
  refine wpAny_bind (wpAny_newTuple ?_ (by show vs.length ≤ _; rw [sizeLine_eq]; omega))
  refine wpAny_bind (wpAny_newList ?_ (Nat.zero_le _))
  refine wpAny_holding ?_
  show wpAny (model P0 w) A.in1 _ _ _ { s with heap := ((s.heap.update D (Obj.mapSeq fun _ => (#[] : Array Value))).push (seqObj "tuple" vs.toArray 0)).push (seqObj "list" #[] 0) }
  dsimp only
  have hn2 : ¬ vs.toArray.size < 2 := by rw [List.size_toArray]; omega
  rw [if_neg hn2, if_neg hn2]
  refine wpAny_bind (wpAny_mono ask (fun κ s0 hk => ?_) fun _ _ x => x.elim)
  rw [kat_ask_eq rfl] at hk
  refine wpAny_bind (wpAny_mono (kat_run (Q := fun st' s' => ∃ p : Array Nat, p.size = vs.length ∧ arrOf st' = p.map (kas_item (vs.toArray.zip vs.toArray)) ∧ failedOf st' = none ∧ Ok w g os G (f (.ob (lstO [] e1))) s' ∧ ∀ s₄, Ok w g os G (f (.lst (p.toList.map fun i => vs.getD i .none))) s₄ → Q .none s₄)
    rfl h2 h64 (fun p' st' s' a1 a2 a3 a4 => ⟨p', a1, a2, a3, a4⟩) (by rw [kat_ask_eq rfl]; exact hk)) ?_ fun _ _ e => e)
  rintro ⟨⟨⟩, st'⟩ s' ⟨p, hp, har, hf, H', k⟩
  dsimp only
  have zz : Zip (f (.ob (lstO [] e1))) D (.ob (lstO [] e1)) f := by
    have e : f = fun c' => l1 ++ (D, c') :: l2 := funext q
    rw [e]; exact Zip.of_split
  have na := H'.get zz.mem
  have hout := kat_snds rfl har
  have hsz : (List.toArray (p.toList.map fun i => vs.getD i Value.none)).size = vs.length := by rw [List.size_toArray, List.length_map, Array.length_toList, hp]
  rw [hout]
  have s2 := Heap.SameBut.update s'.heap D (Obj.mapSeq fun _ => List.toArray (p.toList.map fun i => vs.getD i Value.none))
  obtain ⟨c2, hc2⟩ : ∃ c2, (s'.heap.update D (Obj.mapSeq fun _ => List.toArray (p.toList.map fun i => vs.getD i Value.none))).get? D = some (seqObj "list" (List.toArray (p.toList.map fun i => vs.getD i Value.none)) c2) := ⟨_, get?_update_seq na fun _ => List.toArray (p.toList.map fun i => vs.getD i Value.none)⟩
  refine wpAny_bind (seqEpoch_at na rfl ?_)
  refine wpAny_bind (listUpdate_at na rfl ?_ (Nat.zero_le _) (Nat.le_trans (Nat.le_of_eq hsz) (by rw [sizeLine_eq]; omega)))
  rw [hf]
  simp only [bne_self_eq_false, Bool.false_eq_true, if_false]
  exact wpAny_pure ⟨_, rfl, k _ (H'.set (t := s'.toks) (c' := .lst (p.toList.map fun i => vs.getD i Value.none)) zz s2 ⟨c2, hc2⟩)⟩
theorem e_keylt {x y : Addr} {kx ky : Key} {C : Bool → Shared → Prop} (H : Ok w g os G l s) (hx : (x, kx.cell) ∈ l) (hy : (y, ky.cell) ∈ l) (h : ∀ s', Ok w g os G l s' → C (kx.lt ky) s') :
    wpAny (model P0 w) A (keyLt' (tuples' true) (.ref x) (.ref y)) C NoE s := by
  obtain ⟨n, hn⟩ := H.get hx
  obtain ⟨m, hm⟩ := H.get hy
  refine kat_lt hn rfl hm rfl ?_
  show KatLex P0 w A true false C [(.int kx.a kx.ta, .int ky.a ky.ta), (.int kx.b kx.tb, .int ky.b ky.tb), (.str kx.c kx.tc, .str ky.c ky.tc)] 0 s
  refine kat_cons (wpAny_eqBool_int (kat_go (fun e1 => kat_yes (kat_cons (wpAny_eqBool_int (kat_go (fun e2 => kat_yes (kat_cons (wpAny_eqBool_str (kat_go (fun e3 => kat_yes (kat_nil ?_)) fun e3 => kat_no (kat_one _ _ (lt_str ?_)))))) fun e2 => kat_no (kat_one _ _ (lt_int ?_)))))) fun e1 => kat_no ?_))
  · have := h s H
    unfold Key.lt at this
    rw [if_pos e1, if_pos e2, if_pos (by simpa using e3)] at this
    exact this
  · have := h s H
    unfold Key.lt at this
    rw [if_pos e1, if_pos e2, if_neg (by simpa using e3)] at this
    exact this
  · have := h s H
    unfold Key.lt at this
    rw [if_pos e1, if_neg (by simpa using e2)] at this
    exact this
  · have := h s H
    unfold Key.lt at this
    rw [if_neg (by simpa using e1)] at this
    exact kat_lt_int this
theorem int_ty (i : Int) (t : Tok) {M : Model} {h : Heap} : Looks M h (typeOf (.int i t)) (.type "int") := Looks.of_pure rfl
theorem b_lsort1 {D : Addr} {v : Value} {Q : Value → Shared → Prop} {E : Value → Shared → Prop} (H : Ok w g os G l s) (z : Zip l D (.lst [v]) f)
    (h : ∀ s', Ok w g os G (f (.lst [v])) s' → Q .none s') : wpAny (model P0 w) A (call (.builtin "list.sort") [.ref D]) Q E s := by
  obtain ⟨n, hn⟩ := H.get z.mem
  refine wpAny_call_entry slot_list_sort ⟨_, hn, rfl⟩ entry_list_sort ?_ (args_list_sort _)
  obtain ⟨l1, l2, rfl, q⟩ := z.split
  obtain ⟨e1, ho1⟩ : ∃ e1, (s.heap.update D (Obj.mapSeq fun _ => (#[] : Array Value))).get? D = some (seqObj "list" #[] e1) := ⟨_, get?_update_seq hn fun _ => #[]⟩
  have H1 := H.set (t := s.toks) (c' := .ob (lstO [] e1)) z (Heap.SameBut.update s.heap D (Obj.mapSeq fun _ => (#[] : Array Value))) ho1
  have H3 := (H1.ext (t := s.toks) (h' := ((s.heap.update D (Obj.mapSeq fun _ => (#[] : Array Value))).push (seqObj "tuple" [v].toArray 0)).push (seqObj "list" #[] 0)) (fun b x e => Heap.get?_push_of_some _ (Heap.get?_push_of_some _ e)))
  have zz : Zip (f (.ob (lstO [] e1))) D (.ob (lstO [] e1)) f := by
    have e : f = fun c' => l1 ++ (D, c') :: l2 := funext q
    rw [e]; exact Zip.of_split
  have na := H3.get zz.mem
  rw [list_sort_plain]
  refine wpAny_bind (listItems_at hn rfl ?_)
  refine wpAny_bind (listUpdate_at hn rfl ?_ (by rw [sizeLine_eq]; exact Nat.le_of_ble_eq_true rfl) (Nat.zero_le _))
  refine wpAny_bind (seqEpoch_at ho1 rfl ?_)
  refine wpAny_bind (wpAny_newTuple ?_ (by rw [sizeLine_eq]; exact Nat.le_of_ble_eq_true rfl))
  refine wpAny_bind (wpAny_newList ?_ (Nat.zero_le _))
  refine wpAny_holding ?_
  show wpAny (model P0 w) A.in1 _ _ _ { s with heap := ((s.heap.update D (Obj.mapSeq fun _ => (#[] : Array Value))).push (seqObj "tuple" [v].toArray 0)).push (seqObj "list" #[] 0) }
  dsimp only
  have h2 : ([v].toArray : Array Value).size < 2 := by simp
  rw [if_pos h2, if_pos h2]
  refine wpAny_bind (wpAny_pure ?_)
  rw [StateT.run_pure]
  refine wpAny_bind (wpAny_pure ?_)
  dsimp only
  have eo : (arrOf (SortSt.mk' general' (([v].toArray : Array Value).zip [v].toArray) #[] 7 none)).map (·.2) = [v].toArray := by
    show (([v].toArray : Array Value).zip [v].toArray).map (·.2) = _
    simp
  rw [eo]
  have s2 := Heap.SameBut.update (((s.heap.update D (Obj.mapSeq fun _ => (#[] : Array Value))).push (seqObj "tuple" [v].toArray 0)).push (seqObj "list" #[] 0)) D (Obj.mapSeq fun _ => List.toArray [v])
  obtain ⟨c2, hc2⟩ : ∃ c2, ((((s.heap.update D (Obj.mapSeq fun _ => (#[] : Array Value))).push (seqObj "tuple" [v].toArray 0)).push (seqObj "list" #[] 0)).update D (Obj.mapSeq fun _ => List.toArray [v])).get? D = some (seqObj "list" (List.toArray [v]) c2) := ⟨_, get?_update_seq na fun _ => List.toArray [v]⟩
  refine wpAny_bind (seqEpoch_at na rfl ?_)
  refine wpAny_bind (listUpdate_at na rfl ?_ (Nat.zero_le _) (by rw [sizeLine_eq]; exact Nat.le_of_ble_eq_true rfl))
  simp only [bne_self_eq_false, Bool.false_eq_true, if_false]
  exact wpAny_pure ⟨_, rfl, h _ (H3.set (t := s.toks) (c' := .lst [v]) zz s2 ⟨c2, hc2⟩)⟩
def ltOf (ks : List Key) (i j : Nat) : Bool := match ks[i]?, ks[j]? with | some x, some y => x.lt y | _, _ => false
def ordK (ks : List Key) : List Nat := ord ks.length (ltOf ks)
/-- list.sort on tuples of the ledger: up to three -/
theorem b_lsort {D : Addr} {ks : List Key} {as : List Addr} {Q : Value → Shared → Prop} {E : Value → Shared → Prop} (H : Ok w g os G l s) (z : Zip l D (.lst (as.map .ref)) f) (hlen : as.length = ks.length) (h1 : 1 ≤ ks.length) (h3 : ks.length ≤ 3)
    (hk : ∀ (i : Nat) (a : Addr) (k : Key), as[i]? = some a → ks[i]? = some k → ∀ c, (a, k.cell) ∈ f c)
    (h : ∀ s', Ok w g os G (f (.lst ((ordK ks).map fun i => .ref (as.getD i 0)))) s' → Q .none s') :
    wpAny (model P0 w) A (call (.builtin "list.sort") [.ref D]) Q E s := by
  by_cases h2 : 2 ≤ ks.length
  · have hl2 : (as.map Value.ref).length = ks.length := by simp [hlen]
    refine b_lsort2 H z (by rw [hl2]; exact h2) (by rw [hl2]; omega) (fun e1 s' H' => ?_)
    have ha : ∀ i, i < ks.length → ∃ a k, as[i]? = some a ∧ ks[i]? = some k ∧ (as.map Value.ref).getD i .none = .ref a := by
      intro i hi
      have hi' : i < as.length := by omega
      refine ⟨as[i], ks[i], List.getElem?_eq_getElem hi', List.getElem?_eq_getElem hi, ?_⟩
      rw [List.getD_eq_getElem?_getD, List.getElem?_map, List.getElem?_eq_getElem hi']
      rfl
    have ht : ∀ {h' : Heap}, (∀ (i : Nat) (a : Addr) (k : Key), as[i]? = some a → ks[i]? = some k → k.cell.At w h' a) → KatTups h' (as.map .ref) (ks.map fun k => .int k.a k.ta) := by
      intro h' hh
      clear hk z h H ha hl2 h1 h3 h2
      induction as generalizing ks with
      | nil => cases ks with
        | nil => exact .nil
        | cons => cases hlen
      | cons a as ih => cases ks with
        | nil => cases hlen
        | cons k ks =>
          obtain ⟨n, hn⟩ := hh 0 a k rfl rfl
          exact .cons hn rfl rfl rfl (ih (by simpa using hlen) fun i a k e1 e2 => hh (i + 1) a k e1 e2)
    have hkind := ht fun i a k e1 e2 => H'.get (hk i a k e1 e2 _)
    refine kat_kind (T := .type "int") hkind (by rw [List.length_map]; omega) (fun v hv => ?_) (by simp) ?_
    · obtain ⟨k, -, rfl⟩ := List.mem_map.mp hv
      exact int_ty _ _
    rw [show (Value.type "int" != Value.type "tuple") = true by decide, hl2]
    refine kas_ev (n := ks.length) (lt := ltOf ks) (I := fun s => Ok w g os G (f (.ob (lstO [] e1))) s) (fun i j C s' hi hj hI hC => ?_) _ _ (sort_ok _ h2 h3 _).1 H' (fun s'' H'' => ⟨H'', fun s₄ H₄ => ?_⟩)
    · obtain ⟨a1, k1, e1, e2, e3⟩ := ha i hi
      obtain ⟨a2, k2, e4, e5, e6⟩ := ha j hj
      unfold kas_ask
      rw [e3, e6]
      refine e_keylt hI (hk i a1 k1 e1 e2 _) (hk j a2 k2 e4 e5 _) (fun s'' H'' => ?_)
      have := hC s'' H''
      unfold ltOf at this
      rw [e2, e5] at this
      exact this
    · refine h s₄ ?_
      have e : ((kev (ltOf ks) (kas_sort ks.length)).toList.map fun i => (as.map Value.ref).getD i .none) = (ordK ks).map fun i => Value.ref (as.getD i 0) := by
        unfold ordK ord
        rw [if_neg (by omega)]
        refine List.map_congr_left fun i hi => ?_
        have hi' : i < ks.length := by
          have := (sort_ok _ h2 h3 (ltOf ks)).2.mem_iff.mp hi
          simpa using this
        obtain ⟨a1, k1, e1, e2, e3⟩ := ha i hi'
        rw [e3, List.getD_eq_getElem?_getD, e1]
        rfl
      rw [← e]
      exact H₄
  · have : ks.length = 1 := by omega
    obtain ⟨a, rfl⟩ : ∃ a, as = [a] := by
      match as, hlen.trans this with
      | [a], _ => exact ⟨a, rfl⟩
    refine b_lsort1 H z (fun s' H' => h s' ?_)
    have e : (ordK ks).map (fun i => Value.ref ([a].getD i 0)) = [.ref a] := by
      unfold ordK ord
      rw [this, if_pos (by decide)]
      rfl
    rw [e]
    exact H'
end
end Mine
end
section
open PySem PySem.W PySem.Calls PyProof.Rows PySem.W.X
set_option Elab.async false
set_option maxRecDepth 100000
set_option maxHeartbeats 8000000
set_option linter.unusedVariables false
namespace Mine
local macro_rules | `(tactic| walk_at "mem") => `(tactic| first | assumption | exact List.Mem.head _ | (refine' List.Mem.tail _ ?_; walk_at "mem") | (refine' List.mem_append_right _ ?_; walk_at "mem") | (refine' List.mem_append_left _ ?_; walk_at "mem") | exact Zip.at' (by assumption) | exact Zip.keep (by assumption) (by walk_at "mem") (by intro e; cases e))
local macro_rules | `(tactic| walk_at "zip") => `(tactic| first | assumption | exact Zip.head | exact Zip.tail (by walk_at "zip") | exact Zip.app (by walk_at "zip") | exact Zip.again (by assumption))
local macro_rules | `(tactic| walk_at "kv") => `(tactic| first | with_reducible_and_instances exact List.Mem.head _ | (refine' List.Mem.tail _ ?_; walk_at "kv") | assumption)
local macro_rules | `(tactic| walk_at "put") => `(tactic| first | with_reducible exact Put.head | exact Put.tail (by walk_at "put"))
local macro_rules | `(tactic| walk_at "putd") => `(tactic| first | with_reducible exact PutD.head | with_reducible exact PutD.nil | exact PutD.tail (by decide) (by walk_at "putd"))
local macro_rules | `(tactic| walk_at "nm") => `(tactic| first
  | (refine e_local (by assumption) (by walk_at "mem") (by walk_at "kv") ?_)
  | (refine e_cell (by assumption) (by rfl) (by walk_at "mem") ?_)
  | (refine e_free (by assumption) (by rfl) (by walk_at "mem") ?_))
local macro_rules | `(tactic| walk_at "gl") => `(tactic| refine e_global (by assumption) (by assumption) (by first | with_reducible exact gl_Problem _ | with_reducible exact gl_BacktrackingSolver _ | with_reducible exact gl_Domain _ | with_reducible exact gl_Constraint _ | with_reducible exact gl_FunctionConstraint _ | with_reducible exact gl_law_yes _ | with_reducible exact gl_law_rule _ | with_reducible exact gl_law_due _) ?_)
local macro_rules | `(tactic| walk_at "bi") => `(tactic| refine e_builtin (by assumption) (by assumption) (by first | with_reducible exact bn_isinstance _ | with_reducible exact bn_callable _ | with_reducible exact bn_list _ | with_reducible exact bn_tuple _ | with_reducible exact bn_len _ | with_reducible exact bn_range _ | with_reducible exact bn_next _ | with_reducible exact bn_dict _ | with_reducible exact bn_sorted _ | with_reducible exact bn_iter _) (by first | with_reducible exact bb_isinstance | with_reducible exact bb_callable | with_reducible exact bb_list | with_reducible exact bb_tuple | with_reducible exact bb_len | with_reducible exact bb_range | with_reducible exact bb_next | with_reducible exact bb_dict | with_reducible exact bb_sorted | with_reducible exact bb_iter) ?_)
local macro_rules | `(tactic| walk_at "ns") => `(tactic| (show (_ : List Str).Nodup; dsimp only [List.map, List.nil_append, List.cons_append, List.append_nil]; decide +kernel))
local macro_rules | `(tactic| walk_at "lt") => `(tactic| (show _ < 1000; omega))
local macro_rules | `(tactic| x_close) => `(tactic| exact xq_of (by first | assumption | exact Mem.start _) (by first | rfl | assumption))
local macro_rules | `(tactic| walk_at "ga") => `(tactic| refine i_get (by assumption) (by assumption) (by walk_at "mem") (by exact rfl) (by walk_at "mem") (by first | exact cls110 _ | exact cls186 _ | exact cls336 _) (by kernel_rfl) (by walk_at "kv") (by exact rfl) ?_)
local macro_rules | `(tactic| walk_at "sa") => `(tactic| refine i_set (by assumption) (by assumption) (by walk_at "mem") (by walk_at "zip") (by first | exact cls110 _ | exact cls186 _ | exact cls336 _) (by kernel_rfl) (by kernel_rfl) (by walk_at "putd") (Nat.le_of_ble_eq_true rfl) ?_)
local macro_rules | `(tactic| walk_at "st") => `(tactic| refine e_store (by assumption) (by walk_at "zip") (by walk_at "put") ?_)
local macro_rules | `(tactic| walk_at "nmc") => `(tactic| first
  | (refine e_local (by assumption) (List.Mem.head _) (by first | exact List.Mem.head _ | exact List.Mem.tail _ (List.Mem.head _) | exact List.Mem.tail _ (List.Mem.tail _ (List.Mem.head _))) ?_)
  | (refine e_cell (by assumption) (by rfl) (by walk_at "mem") ?_)
  | (refine e_free (by assumption) (by rfl) (by walk_at "mem") ?_))
local macro_rules | `(tactic| walk_at "subl") => `(tactic| first | exact List.Sublist.refl _ | (refine' List.Sublist.cons _ ?_; walk_at "subl"))
section
variable {w : World} {g : Heap} {os : OsState} {G : Array GenState} {l l' : Led} {s : Shared} {a : Addr} {c c' : Cell} {f : Cell → Led} {A : Around} {E : Value → Shared → Prop}
/-! ## the search, in plain words -/
structure Node where
  (asg : List (Str × Value)) (x : Var) (rem : List Value) (xs : List Var)
def okAt (cs : List Con) (asg : List (Str × Value)) (x : Var) (v : Value) : Bool :=
  (cs.filter (touches x.n)).all fun c => chk c.m (valueAt (asg ++ [(x.n, v)]) c.n1) (valueAt (asg ++ [(x.n, v)]) c.n2)
/-- all the solutions that lie below -/
def comps (cs : List Con) : List Var → List (Str × Value) → List (List (Str × Value))
  | [], asg => [asg]
  | x :: xs, asg => x.vals.reverse.flatMap fun v => if okAt cs asg x v then comps cs xs (asg ++ [(x.n, v)]) else []
def tries (cs : List Con) (n : Node) : List (List (Str × Value)) := n.rem.reverse.flatMap fun v => if okAt cs n.asg n.x v then comps cs n.xs (n.asg ++ [(n.x.n, v)]) else []
def backs (cs : List Con) (st : List Node) : List (List (Str × Value)) := st.flatMap (tries cs)
theorem comps_cons {cs : List Con} {x : Var} {xs : List Var} {asg : List (Str × Value)} : comps cs (x :: xs) asg = tries cs ⟨asg, x, x.vals, xs⟩ := rfl
theorem tries_snoc {cs : List Con} {asg : List (Str × Value)} {x : Var} {rem : List Value} {v : Value} {xs : List Var} :
    tries cs ⟨asg, x, rem ++ [v], xs⟩ = (if okAt cs asg x v then comps cs xs (asg ++ [(x.n, v)]) else []) ++ tries cs ⟨asg, x, rem, xs⟩ := by
  unfold tries
  simp
def costc : List Var → Nat
  | [] => 1
  | x :: xs => 1 + x.vals.length * (1 + costc xs)
def Node.cost (n : Node) : Nat := n.rem.length * (1 + costc n.xs)
def costs (st : List Node) : Nat := (st.map Node.cost).sum
theorem d_getk {d : Addr} {kvs : List (Str × Value)} {n : Nat} {x : Str} {t : Tok} {v : Value} {Q : Value → Shared → Prop} (H : Ok w g os G l s) (hm : (d, .dk kvs n) ∈ l) (hv : valueAt kvs x = some v)
    (h : ∀ s', Ok w g os G l s' → Q v s') : wpAny (model P0 w) A (getItem (.ref d) (.str x t)) Q E s :=
  wpAny_getItem_of (isStr x t) (dk_at (H.get hm)).dictOf.mapOf hv (h _ (H.toks _))
theorem l_item {L : Addr} {vs : List Value} {k : Int} {t : Tok} {v : Value} {Q : Value → Shared → Prop} (H : Ok w g os G l s) (hm : (L, .lst vs) ∈ l) (h0 : 0 ≤ k) (hk : vs[k.toNat]? = some v) (h63 : k < 2 ^ 63) (h : Q v s) : wpAny (model P0 w) A (getItem (.ref L) (.int k t)) Q E s :=
  wpAny_getItem_list (H.lst hm) h0 h63 (by simpa using hk) h
/-- the stack of the search, as it lies in the heap -/
structure SN where
  (nd : Node) (t vl : Addr) (tok : Tok)
def stackLed (st : List SN) : Led := st.flatMap fun e => [(e.t, .tup [.str e.nd.x.n e.tok, .ref e.vl, .none]), (e.vl, .lst e.nd.rem)]
def queueOf (st : List SN) : List Value := st.reverse.map fun e => .ref e.t
abbrev frS (bs cl : Value) (a b c d e f g h i : Option Value) : List (Str × Option Value) := [("self", some bs), ("constraints", some cl), ("forwardcheck", a), ("queue", b), ("lst", c), ("item", d), ("values", e), ("pushdomains", f), ("domain", g), ("constraint", h), ("variables", i)]
end
end Mine
end
section
open PySem PySem.W PySem.Calls PyProof.Rows PySem.W.X
set_option Elab.async false
set_option maxRecDepth 100000
set_option maxHeartbeats 8000000
set_option linter.unusedVariables false
namespace Mine
local macro_rules | `(tactic| walk_at "mem") => `(tactic| first | assumption | exact List.Mem.head _ | (refine' List.Mem.tail _ ?_; walk_at "mem") | (refine' List.mem_append_right _ ?_; walk_at "mem") | (refine' List.mem_append_left _ ?_; walk_at "mem") | exact Zip.at' (by assumption) | exact Zip.keep (by assumption) (by walk_at "mem") (by intro e; cases e))
local macro_rules | `(tactic| walk_at "zip") => `(tactic| first | assumption | exact Zip.head | exact Zip.tail (by walk_at "zip") | exact Zip.app (by walk_at "zip") | exact Zip.again (by assumption))
local macro_rules | `(tactic| walk_at "kv") => `(tactic| first | with_reducible_and_instances exact List.Mem.head _ | (refine' List.Mem.tail _ ?_; walk_at "kv") | assumption)
local macro_rules | `(tactic| walk_at "put") => `(tactic| first | with_reducible exact Put.head | exact Put.tail (by walk_at "put"))
local macro_rules | `(tactic| walk_at "putd") => `(tactic| first | with_reducible exact PutD.head | with_reducible exact PutD.nil | exact PutD.tail (by decide) (by walk_at "putd"))
local macro_rules | `(tactic| walk_at "nm") => `(tactic| first
  | (refine e_local (by assumption) (by walk_at "mem") (by walk_at "kv") ?_)
  | (refine e_cell (by assumption) (by rfl) (by walk_at "mem") ?_)
  | (refine e_free (by assumption) (by rfl) (by walk_at "mem") ?_))
local macro_rules | `(tactic| walk_at "gl") => `(tactic| refine e_global (by assumption) (by assumption) (by first | with_reducible exact gl_Problem _ | with_reducible exact gl_BacktrackingSolver _ | with_reducible exact gl_Domain _ | with_reducible exact gl_Constraint _ | with_reducible exact gl_FunctionConstraint _ | with_reducible exact gl_law_yes _ | with_reducible exact gl_law_rule _ | with_reducible exact gl_law_due _) ?_)
local macro_rules | `(tactic| walk_at "bi") => `(tactic| refine e_builtin (by assumption) (by assumption) (by first | with_reducible exact bn_isinstance _ | with_reducible exact bn_callable _ | with_reducible exact bn_list _ | with_reducible exact bn_tuple _ | with_reducible exact bn_len _ | with_reducible exact bn_range _ | with_reducible exact bn_next _ | with_reducible exact bn_dict _ | with_reducible exact bn_sorted _ | with_reducible exact bn_iter _) (by first | with_reducible exact bb_isinstance | with_reducible exact bb_callable | with_reducible exact bb_list | with_reducible exact bb_tuple | with_reducible exact bb_len | with_reducible exact bb_range | with_reducible exact bb_next | with_reducible exact bb_dict | with_reducible exact bb_sorted | with_reducible exact bb_iter) ?_)
local macro_rules | `(tactic| walk_at "ns") => `(tactic| (show (_ : List Str).Nodup; dsimp only [List.map, List.nil_append, List.cons_append, List.append_nil]; decide +kernel))
local macro_rules | `(tactic| walk_at "lt") => `(tactic| (show _ < 1000; omega))
local macro_rules | `(tactic| x_close) => `(tactic| exact xq_of (by first | assumption | exact Mem.start _) (by first | rfl | assumption))
local macro_rules | `(tactic| walk_at "ga") => `(tactic| refine i_get (by assumption) (by assumption) (by walk_at "mem") (by exact rfl) (by walk_at "mem") (by first | exact cls110 _ | exact cls186 _ | exact cls336 _) (by kernel_rfl) (by walk_at "kv") (by exact rfl) ?_)
local macro_rules | `(tactic| walk_at "sa") => `(tactic| refine i_set (by assumption) (by assumption) (by walk_at "mem") (by walk_at "zip") (by first | exact cls110 _ | exact cls186 _ | exact cls336 _) (by kernel_rfl) (by kernel_rfl) (by walk_at "putd") (Nat.le_of_ble_eq_true rfl) ?_)
local macro_rules | `(tactic| walk_at "st") => `(tactic| refine e_store (by assumption) (by walk_at "zip") (by walk_at "put") ?_)
local macro_rules | `(tactic| walk_at "nmc") => `(tactic| first
  | (refine e_local (by assumption) (List.Mem.head _) (by first | exact List.Mem.head _ | exact List.Mem.tail _ (List.Mem.head _) | exact List.Mem.tail _ (List.Mem.tail _ (List.Mem.head _))) ?_)
  | (refine e_cell (by assumption) (by rfl) (by walk_at "mem") ?_)
  | (refine e_free (by assumption) (by rfl) (by walk_at "mem") ?_))
local macro_rules | `(tactic| walk_at "subl") => `(tactic| first | exact List.Sublist.refl _ | (refine' List.Sublist.cons _ ?_; walk_at "subl"))
section
variable {w : World} {g : Heap} {os : OsState} {G : Array GenState} {l l' : Led} {s : Shared} {a : Addr} {c c' : Cell} {f : Cell → Led} {A : Around} {E : Value → Shared → Prop}
/-! ## the for loop of a generator whose else part yields -/
section
variable {Φ : End → Shared → Prop} {cd : Code} {fs : List Frame} {A : Around} {env : Env} {K : Flow → Sem Fin} {Hd : Value → Sem Fin} {gd : Bool → Bool} {lv : List Value → List Value}
theorem sg_For {target iter : Expr} {body orelse : List Stmt} {pos : Pos}
    (h : wpAny (model P0 w) (A.over cd fs) (eval iter env) (fun xv s₁ => wpAny (model P0 w) (A.over cd fs) (pyIter xv) (fun it s₂ => ∀ p, SG w A Φ (.forLoop target it body orelse env) ((model P0 w).den (.forLoop target it body orelse env))
      (.ret (fun r => ((match r with | .ok f => (.pure f : Sem Flow) | .error e => .raise e).onRaise fun (x : Value) => do
        if (← field x 1) == Value.none then unsupported "frame.own-activation:exception-without-traceback"
        setFlight x env.frame).wrap K Hd gd lv) none (gd false) (lv []) cd p [] :: fs) s₂) NoE s₁) NoE s)
    (hs : ∀ x, foldedSetIterable iter env x = pure x := by intro _; rfl) :
    SG w A Φ cd ((exec (.For target iter body orelse pos) env).wrap K Hd gd lv) fs s := by
  rw [exec_For]
  refine sg_at ?_
  show SG w A Φ cd ((eval iter env >>= fun x0 => (foldedSetIterable iter env x0 >>= fun x => (standAt iter.pos >>= fun _ => (holding [x] (pyIter x) >>= fun it => runOwn (.forLoop target it body orelse env) env)))).wrap K Hd gd lv) fs s
  rw [Sem.bind_eq_wrap', Sem.wrap_wrap]
  refine sg_wrap (wpAny_mono h (fun xv s₁ h₁ => ?_) fun _ _ x => x)
  rw [hs]
  show SG w A Φ cd (.at iter.pos fun _ => ((holding [xv] (pyIter xv) >>= fun it => runOwn (.forLoop target it body orelse env) env)).wrap K Hd gd lv) fs s₁
  refine sg_at ?_
  rw [Sem.bind_eq_wrap', Sem.wrap_wrap]
  refine sg_wrap (wpAny_holding (wpAny_mono h₁ (fun it s₂ h₂ => ?_) fun _ _ x => x))
  exact sg_call h₂
theorem sg_block {stmts : List Stmt}
    (h : SG w A Φ (.block stmts env) ((execs stmts env).wrap (fun f => .pure (.done f)) (fun e => (do noteFrame e env; theTreesLotGoes e : Sem Unit).wrap (fun _ => .raise e) .raise id id) id id) fs s) :
    SG w A Φ (.block stmts env) ((model P0 w).den (.block stmts env)) fs s := by
  show SG w A Φ _ (((execs stmts env).onRaise (fun x => do noteFrame x env; theTreesLotGoes x)) >>= fun f => pure (Fin.done f)) fs s
  rw [Sem.onRaise_eq_wrap, Sem.bind_eq_wrap', Sem.wrap_wrap]
  rw [Sem.wrap_congr (execs stmts env) _ _ (K' := fun f => .pure (.done f)) (H' := (fun e => (do noteFrame e env; theTreesLotGoes e : Sem Unit).wrap (fun _ => .raise e) .raise id id)) (fun f => by rfl)
    (fun e => by first | exact Sem.bind_eq_wrap _ _ | (show (do noteFrame e env; theTreesLotGoes e : Sem Unit).bind (fun _ => .raise e) = _; rw [Sem.bind_eq_wrap]) | (rw [Sem.bind_eq_wrap, Sem.wrap_wrap]; rfl))]
  exact h
theorem sg_forLoop {target : Expr} {it : Value} {body orelse : List Stmt} (I : Nat → Shared → Prop)
    (turn : ∀ n s, I n s → wpAny (model P0 w) (A.over (.forLoop target it body orelse env) fs) (pyNext it) (fun r s₁ => match r with
      | none => SG w A Φ (.block orelse env) ((model P0 w).den (.block orelse env)) fs s₁
      | some v => wpAny (model P0 w) (A.over (.forLoop target it body orelse env) fs) (letOwnedTupleGo target it v) (fun _ s₁' => wpAny (model P0 w) (A.over (.forLoop target it body orelse env) fs) (assign target env v) (fun _ s₂ =>
          wpAny (model P0 w) (A.over (.forLoop target it body orelse env) fs) (execs body env) (fun f s₃ => (f = .next ∨ f = .cont) ∧ ∃ m, m < n ∧ I m s₃) NoE s₂) NoE s₁') NoE s₁) NoE s) :
    ∀ (n : Nat) (s : Shared), I n s → SG w A Φ (.forLoop target it body orelse env) ((model P0 w).den (.forLoop target it body orelse env)) fs s := by
  intro n
  induction n using Nat.strongRecOn with
  | ind n ih =>
    intro s hI
    show SG w A Φ _ ((forTurn target it body orelse env).onRaise (fun x => do noteFrame x env; theTreesLotGoes x)) fs s
    rw [Sem.onRaise_eq_wrap]
    refine sg_wrap ?_
    simp only [forTurn]
    refine wpAny_bind (wpAny_standAt (wpAny_bind (wpAny_onRaise (wpAny_mono (turn n s hI) (fun r s₁ h₁ => ?_) fun _ _ h' => h'.elim))))
    cases r with
    | none => exact wpAny_pure (sg_again rfl h₁)
    | some v =>
      refine wpAny_bind (wpAny_mono h₁ (fun _ s₁' h₁' => ?_) fun _ _ h' => h')
      refine wpAny_bind (wpAny_mono h₁' (fun _ s₂ h₂ => wpAny_bind (wpAny_mono h₂ (fun f s₃ h₃ => ?_) fun _ _ h' => h')) fun _ _ h' => h')
      obtain ⟨hf, m, hm, hI'⟩ := h₃
      rcases hf with rfl | rfl
      · exact wpAny_pure (sg_again rfl (ih m hm s₃ hI'))
      · exact wpAny_pure (sg_again rfl (ih m hm s₃ hI'))
end
end
end Mine
end
section
open PySem PySem.W PySem.Calls PyProof.Rows PySem.W.X
set_option Elab.async false
set_option maxRecDepth 100000
set_option maxHeartbeats 8000000
set_option linter.unusedVariables false
namespace Mine
local macro_rules | `(tactic| walk_at "mem") => `(tactic| first | assumption | exact List.Mem.head _ | (refine' List.Mem.tail _ ?_; walk_at "mem") | (refine' List.mem_append_right _ ?_; walk_at "mem") | (refine' List.mem_append_left _ ?_; walk_at "mem") | exact Zip.at' (by assumption) | exact Zip.keep (by assumption) (by walk_at "mem") (by intro e; cases e))
local macro_rules | `(tactic| walk_at "zip") => `(tactic| first | assumption | exact Zip.head | exact Zip.tail (by walk_at "zip") | exact Zip.app (by walk_at "zip") | exact Zip.again (by assumption))
local macro_rules | `(tactic| walk_at "kv") => `(tactic| first | with_reducible_and_instances exact List.Mem.head _ | (refine' List.Mem.tail _ ?_; walk_at "kv") | assumption)
local macro_rules | `(tactic| walk_at "put") => `(tactic| first | with_reducible exact Put.head | exact Put.tail (by walk_at "put"))
local macro_rules | `(tactic| walk_at "putd") => `(tactic| first | with_reducible exact PutD.head | with_reducible exact PutD.nil | exact PutD.tail (by decide) (by walk_at "putd"))
local macro_rules | `(tactic| walk_at "nm") => `(tactic| first
  | (refine e_local (by assumption) (by walk_at "mem") (by walk_at "kv") ?_)
  | (refine e_cell (by assumption) (by rfl) (by walk_at "mem") ?_)
  | (refine e_free (by assumption) (by rfl) (by walk_at "mem") ?_))
local macro_rules | `(tactic| walk_at "gl") => `(tactic| refine e_global (by assumption) (by assumption) (by first | with_reducible exact gl_Problem _ | with_reducible exact gl_BacktrackingSolver _ | with_reducible exact gl_Domain _ | with_reducible exact gl_Constraint _ | with_reducible exact gl_FunctionConstraint _ | with_reducible exact gl_law_yes _ | with_reducible exact gl_law_rule _ | with_reducible exact gl_law_due _) ?_)
local macro_rules | `(tactic| walk_at "bi") => `(tactic| refine e_builtin (by assumption) (by assumption) (by first | with_reducible exact bn_isinstance _ | with_reducible exact bn_callable _ | with_reducible exact bn_list _ | with_reducible exact bn_tuple _ | with_reducible exact bn_len _ | with_reducible exact bn_range _ | with_reducible exact bn_next _ | with_reducible exact bn_dict _ | with_reducible exact bn_sorted _ | with_reducible exact bn_iter _) (by first | with_reducible exact bb_isinstance | with_reducible exact bb_callable | with_reducible exact bb_list | with_reducible exact bb_tuple | with_reducible exact bb_len | with_reducible exact bb_range | with_reducible exact bb_next | with_reducible exact bb_dict | with_reducible exact bb_sorted | with_reducible exact bb_iter) ?_)
local macro_rules | `(tactic| walk_at "ns") => `(tactic| (show (_ : List Str).Nodup; dsimp only [List.map, List.nil_append, List.cons_append, List.append_nil]; decide +kernel))
local macro_rules | `(tactic| walk_at "lt") => `(tactic| (show _ < 1000; omega))
local macro_rules | `(tactic| x_close) => `(tactic| exact xq_of (by first | assumption | exact Mem.start _) (by first | rfl | assumption))
local macro_rules | `(tactic| walk_at "ga") => `(tactic| refine i_get (by assumption) (by assumption) (by walk_at "mem") (by exact rfl) (by walk_at "mem") (by first | exact cls110 _ | exact cls186 _ | exact cls336 _) (by kernel_rfl) (by walk_at "kv") (by exact rfl) ?_)
local macro_rules | `(tactic| walk_at "sa") => `(tactic| refine i_set (by assumption) (by assumption) (by walk_at "mem") (by walk_at "zip") (by first | exact cls110 _ | exact cls186 _ | exact cls336 _) (by kernel_rfl) (by kernel_rfl) (by walk_at "putd") (Nat.le_of_ble_eq_true rfl) ?_)
local macro_rules | `(tactic| walk_at "st") => `(tactic| refine e_store (by assumption) (by walk_at "zip") (by walk_at "put") ?_)
local macro_rules | `(tactic| walk_at "nmc") => `(tactic| first
  | (refine e_local (by assumption) (List.Mem.head _) (by first | exact List.Mem.head _ | exact List.Mem.tail _ (List.Mem.head _) | exact List.Mem.tail _ (List.Mem.tail _ (List.Mem.head _))) ?_)
  | (refine e_cell (by assumption) (by rfl) (by walk_at "mem") ?_)
  | (refine e_free (by assumption) (by rfl) (by walk_at "mem") ?_))
local macro_rules | `(tactic| walk_at "subl") => `(tactic| first | exact List.Sublist.refl _ | (refine' List.Sublist.cons _ ?_; walk_at "subl"))
section
variable {w : World} {g : Heap} {os : OsState} {G : Array GenState} {l l' : Led} {s : Shared} {a : Addr} {c c' : Cell} {f : Cell → Led} {A : Around} {E : Value → Shared → Prop}
/-! ## the outer loop of the search, with no program text in sight -/
theorem sg_exec' {Φ : End → Shared → Prop} {cd : Code} {fs : List Frame} {A : Around} {env : Env} {K : Flow → Sem Fin} {Hd : Value → Sem Fin} {gd : Bool → Bool} {lv : List Value → List Value} {st : Stmt}
    (h : wpAny (model P0 w) (AR 520 5100) (exec st env) (fun f s' => SG w A Φ cd (K f) fs s') NoE s) (hh : (A.over cd fs).handled = none := by rfl) (hd : (A.over cd fs).depth ≤ 520 := by exact Nat.le_of_ble_eq_true rfl) (hu : (A.over cd fs).units ≤ 5100 := by exact Nat.le_of_ble_eq_true rfl) :
    SG w A Φ cd ((exec st env).wrap K Hd gd lv) fs s := sg_exec (weaken h hh hd hu)
structure GA where
  (L cv ca cc cd A Q : Addr) (bs cl : Value) (dm vc : Addr)
def GIL (a : GA) (ov : Option Value) (fr : List (Str × Option Value)) (asg : List (Str × Value)) (st : List SN) : Led :=
  (a.L, .ns fr) :: (a.cv, .cl ov) :: (a.ca, .cl (some (.ref a.A))) :: (a.cc, .cl (some (.ref a.vc))) :: (a.cd, .cl (some (.ref a.dm))) :: (a.A, .sd asg) :: (a.Q, .lst (queueOf st)) :: stackLed st
abbrev frT (a : GA) (c d e f g h i : Option Value) : List (Str × Option Value) := frS a.bs a.cl (some (.bool false)) (some (.ref a.Q)) c d e f g h i
/-- the stack fits the order -/
def StOk (order : List Var) : List Var → List Var → List (Str × Value) → List SN → Prop
  | done, xs, asg, [] => done ++ xs = order ∧ asg = [] ∧ done = []
  | done, xs, asg, e :: st => ∃ done' v, done = done' ++ [e.nd.x] ∧ asg = e.nd.asg ++ [(e.nd.x.n, v)] ∧ e.nd.xs = xs ∧ StOk order done' (e.nd.x :: xs) e.nd.asg st ∧ (∀ y ∈ e.nd.rem, y ∈ e.nd.x.vals) ∧ e.nd.rem.length ≤ 1000 ∧ v ∈ e.nd.x.vals
theorem StOk.order {order : List Var} : ∀ {st : List SN} {done xs : List Var} {asg : List (Str × Value)}, StOk order done xs asg st → done ++ xs = order
  | [], _, _, _, h => h.1
  | e :: st, done, xs, asg, ⟨done', v, h1, h2, h3, h4, _⟩ => by
    rw [h1, List.append_assoc]
    exact StOk.order h4
theorem StOk.names {order : List Var} : ∀ {st : List SN} {done xs : List Var} {asg : List (Str × Value)}, StOk order done xs asg st → asg.map (·.1) = done.map (·.n)
  | [], _, _, _, h => by rw [h.2.1, h.2.2]; rfl
  | e :: st, done, xs, asg, ⟨done', v, h1, h2, h3, h4, _⟩ => by
    rw [h1, h2, List.map_append, List.map_append, StOk.names h4]
    rfl
theorem StOk.len {order : List Var} : ∀ {st : List SN} {done xs : List Var} {asg : List (Str × Value)}, StOk order done xs asg st → st.length = done.length
  | [], _, _, _, h => by rw [h.2.2]; rfl
  | e :: st, done, xs, asg, ⟨done', v, h1, h2, h3, h4, _⟩ => by
    rw [h1, List.length_append, List.length_cons, StOk.len h4]
    rfl
theorem StOk.vals {order : List Var} : ∀ {st : List SN} {done xs : List Var} {asg : List (Str × Value)}, StOk order done xs asg st → ∀ p ∈ asg, ∃ x ∈ order, p.2 ∈ x.vals
  | [], _, _, _, h => by rw [h.2.1]; intro p hp; cases hp
  | e :: st, done, xs, asg, ⟨done', v, h1, h2, h3, h4, _, _, h5⟩ => by
    intro p hp
    rw [h2] at hp
    rcases List.mem_append.mp hp with hp | hp
    · exact StOk.vals h4 p hp
    · simp only [List.mem_singleton] at hp
      subst hp
      exact ⟨e.nd.x, by rw [← h4.order]; simp, h5⟩
theorem mem_valueAt {kvs : List (Str × Value)} {k : Str} {v : Value} (h : valueAt kvs k = some v) : ∃ p ∈ kvs, p.2 = v := by
  unfold valueAt at h
  obtain ⟨p, hp, rfl⟩ := Option.map_eq_some_iff.mp h
  exact ⟨p, List.mem_of_find?_eq_some hp, rfl⟩
abbrev nodes (st : List SN) : List Node := st.map (·.nd)
section
variable {need : Led} {cs : List Con} {order : List Var} {a : GA} {env : Env} {test : Expr} {s1 s2 s3 s4 s5 : Stmt} {orelse : List Stmt} {F1 : Frame}
abbrev Wc (env : Env) (test : Expr) (s1 s2 s3 s4 s5 : Stmt) (orelse : List Stmt) : Code := .whileLoop test [s1, s2, s3, s4, s5] orelse env
abbrev Kb (W : Code) : Flow → Sem Fin := fun f => match f with
  | .next | .cont => .pure (.again W)
  | .brk => .pure (.done .next)
  | .ret v => .pure (.done (.ret v))
abbrev Hb (env : Env) : Value → Sem Fin := fun e => (do noteFrame e env; theTreesLotGoes e : Sem Unit).wrap (fun _ => .raise e) .raise id id
/-- before the inner loop: the variable x, its values in the list vl -/
def Mid (w : World) (g : Heap) (order : List Var) (a : GA) (os : OsState) (G : Array GenState) (l2 : Led) (x : Var) (xs : List Var) (asg : List (Str × Value)) (rem : List Value) (st : List SN) (s : Shared) : Prop :=
  ∃ tok vl c d g' h i kvs done, Ok w g os G (GIL a (some (.str x.n tok)) (frT a c d (some (.ref vl)) (some .none) g' h i) kvs st ++ ((vl, .lst rem) :: l2)) s ∧
    ((kvs = asg ∧ rem ≠ []) ∨ ∃ v, kvs = asg ++ [(x.n, v)]) ∧ StOk order done (x :: xs) asg st ∧ (∀ y ∈ rem, y ∈ x.vals) ∧ rem.length ≤ 1000
/-- at the head of the outer loop -/
def Top (w : World) (g : Heap) (order : List Var) (a : GA) (os : OsState) (G : Array GenState) (l2 : Led) (xs : List Var) (asg : List (Str × Value)) (st : List SN) (s : Shared) : Prop :=
  ∃ ov c d e f g' h i done, Ok w g os G (GIL a ov (frT a c d e f g' h i) asg st ++ l2) s ∧ StOk order done xs asg st
/-- the inner loop has found a value v for x -/
def Mid5 (w : World) (g : Heap) (order : List Var) (a : GA) (os : OsState) (G : Array GenState) (l2 : Led) (x : Var) (xs : List Var) (asg : List (Str × Value)) (v : Value) (rem : List Value) (st : List SN) (s : Shared) : Prop :=
  ∃ tok vl c d g' h i done, Ok w g os G (GIL a (some (.str x.n tok)) (frT a c d (some (.ref vl)) (some .none) g' h i) (asg ++ [(x.n, v)]) st ++ ((vl, .lst rem) :: l2)) s ∧
    StOk order done (x :: xs) asg st ∧ (∀ y ∈ rem, y ∈ x.vals) ∧ rem.length ≤ 1000 ∧ v ∈ x.vals
/-- what is to be had when the generator is woken after a yield -/
def Wakes2 (w : World) (g : Heap) (need : Led) (order : List Var) (a : GA) (env : Env) (W : Code) (s4 s5 : Stmt) (F1 : Frame) (st : List SN) (gs : GenState) (IL : Led) : Prop := ∀ (Φ' : End → Shared → Prop) (os' : OsState) (G' : Array GenState) (l2' : Led) (s₂ : Shared), (∀ p ∈ need, p ∈ l2') → Ok w g os' G' (IL ++ l2') s₂ →
  (st = [] → ∀ s₃, Ok w g os' G' l2' s₃ → Φ' (.ret (.ok (.ret .none))) s₃) →
  (∀ e0 st', st = e0 :: st' → ∀ s₃, Mid w g order a os' G' l2' e0.nd.x e0.nd.xs e0.nd.asg e0.nd.rem st' s₃ → SG w (AR 500 5000) Φ' W ((execs [s4, s5] env).wrap (Kb W) (Hb env) id id) [F1] s₃) →
  Starts w (AR 500 5000) gs Φ' s₂
theorem gen_loop (hret : ∀ (Φ : End → Shared → Prop) s, Φ (.ret (.ok (.ret .none))) s → SG w (AR 500 5000) Φ (Wc env test s1 s2 s3 s4 s5 orelse) (.pure (.done (.ret .none))) [F1] s)
    (hhi : ((AR 500 5000).over (Wc env test s1 s2 s3 s4 s5 orelse) [F1]).handled = none) (hde : ((AR 500 5000).over (Wc env test s1 s2 s3 s4 s5 orelse) [F1]).depth ≤ 520) (hun : ((AR 500 5000).over (Wc env test s1 s2 s3 s4 s5 orelse) [F1]).units ≤ 5100)
    (htest : ∀ (s : Shared) (Q : Bool → Shared → Prop), Q true s → wpAny (model P0 w) (AR 520 5100) (isTrue test env (eval test env)) Q NoE s)
    (hN : ∀ os G l2 x xs asg st s, (∀ p ∈ need, p ∈ l2) → Top w g order a os G l2 (x :: xs) asg st s → wpAny (model P0 w) (AR 520 5100) (exec s1 env) (fun f1 s' => f1 = .next ∧ wpAny (model P0 w) (AR 520 5100) (exec s2 env) (fun f2 s'' => f2 = .next ∧
      wpAny (model P0 w) (AR 520 5100) (exec s3 env) (fun f3 s₃ => f3 = .next ∧ Mid w g order a os G l2 x xs asg x.vals st s₃) NoE s'') NoE s') NoE s)
    (hE : ∀ (Φ : End → Shared → Prop) os G l2 asg st s, (∀ p ∈ need, p ∈ l2) → Top w g order a os G l2 [] asg st s →
      (∀ e s' dd IL', e.quiet = true → e.result = .yielded (.ref dd) → Ok w g os G ((dd, .sd asg) :: (IL' ++ l2)) s' → Wakes2 w g need order a env (Wc env test s1 s2 s3 s4 s5 orelse) s4 s5 F1 st e.genState IL' → Φ e s') →
      SG w (AR 500 5000) Φ (Wc env test s1 s2 s3 s4 s5 orelse) ((execs [s1, s2, s3, s4, s5] env).wrap (Kb (Wc env test s1 s2 s3 s4 s5 orelse)) (Hb env) id id) [F1] s)
    (h4 : ∀ os G l2 x xs asg rem st s, (∀ p ∈ need, p ∈ l2) → Mid w g order a os G l2 x xs asg rem st s → wpAny (model P0 w) (AR 520 5100) (exec s4 env) (fun f s' =>
      (f = .ret .none ∧ tries cs ⟨asg, x, rem, xs⟩ ++ backs cs (nodes st) = [] ∧ Ok w g os G l2 s') ∨
      (f = .next ∧ ∃ asg' x' v rem' xs' st', tries cs ⟨asg, x, rem, xs⟩ ++ backs cs (nodes st) = comps cs xs' (asg' ++ [(x'.n, v)]) ++ (tries cs ⟨asg', x', rem', xs'⟩ ++ backs cs (nodes st')) ∧
        costc xs' + ((⟨asg', x', rem', xs'⟩ : Node).cost + costs (nodes st')) < (⟨asg, x, rem, xs⟩ : Node).cost + costs (nodes st) ∧ Mid5 w g order a os G l2 x' xs' asg' v rem' st' s')) NoE s)
    (h5 : ∀ os G l2 x xs asg v rem st s, (∀ p ∈ need, p ∈ l2) → Mid5 w g order a os G l2 x xs asg v rem st s → wpAny (model P0 w) (AR 520 5100) (exec s5 env) (fun f s' => f = .next ∧ ∃ e : SN, e.nd = ⟨asg, x, rem, xs⟩ ∧ Top w g order a os G l2 xs (asg ++ [(x.n, v)]) (e :: st) s') NoE s) :
    ∀ n, (∀ os G l2 xs asg st s, costc xs + costs (nodes st) = n → (∀ p ∈ need, p ∈ l2) → Top w g order a os G l2 xs asg st s →
        SG w (AR 500 5000) (GEnd w g need (comps cs xs asg ++ backs cs (nodes st)) os G l2) (Wc env test s1 s2 s3 s4 s5 orelse) ((model P0 w).den (Wc env test s1 s2 s3 s4 s5 orelse)) [F1] s) ∧
      (∀ os G l2 x xs asg rem st s, (⟨asg, x, rem, xs⟩ : Node).cost + costs (nodes st) = n → (∀ p ∈ need, p ∈ l2) → Mid w g order a os G l2 x xs asg rem st s →
        SG w (AR 500 5000) (GEnd w g need (tries cs ⟨asg, x, rem, xs⟩ ++ backs cs (nodes st)) os G l2) (Wc env test s1 s2 s3 s4 s5 orelse) ((execs [s4, s5] env).wrap (Kb (Wc env test s1 s2 s3 s4 s5 orelse)) (Hb env) id id) [F1] s) := by
  intro n
  induction n using Nat.strongRecOn with
  | ind n ih =>
    refine ⟨fun os G l2 xs asg st s hn hneed hT => ?_, fun os G l2 x xs asg rem st s hn hneed hM => ?_⟩
    · refine sg_whileTrue (weaken (htest s _ ⟨rfl, ?_⟩) hhi hde hun)
      cases xs with
      | cons x xs =>
        refine sg_cons (sg_exec' (wpAny_mono (hN os G l2 x xs asg st s hneed hT) (fun f1 s' q => ?_) fun _ _ x => x) hhi hde hun)
        obtain ⟨rfl, q⟩ := q
        refine sg_cons (sg_exec' (wpAny_mono q (fun f2 s'' q => ?_) fun _ _ x => x) hhi hde hun)
        obtain ⟨rfl, q⟩ := q
        refine sg_cons (sg_exec' (wpAny_mono q (fun f3 s₃ q => ?_) fun _ _ x => x) hhi hde hun)
        obtain ⟨rfl, q⟩ := q
        rw [comps_cons]
        refine (ih _ ?_).2 os G l2 x xs asg x.vals st s₃ rfl hneed q
        rw [← hn]
        show x.vals.length * (1 + costc xs) + _ < 1 + x.vals.length * (1 + costc xs) + _
        omega
      | nil =>
        refine hE _ os G l2 asg st s hneed hT (fun e s' dd IL' he1 he2 H' hw => ?_)
        refine ⟨he1, dd, IL', he2, H', ready_of fun os' G' l2' s₂ H₂ hneed' => ?_⟩
        refine hw _ os' G' l2' s₂ hneed' H₂ (fun h0 s₃ H₃ => ?_) (fun e0 st' h0 s₃ hm => ?_)
        · subst h0
          exact ⟨rfl, H₃⟩
        · subst h0
          have e1 : backs cs (nodes (e0 :: st')) = tries cs ⟨e0.nd.asg, e0.nd.x, e0.nd.rem, e0.nd.xs⟩ ++ backs cs (nodes st') := by
            simp [backs, nodes]
          show SG w (AR 500 5000) (GEnd w g need (backs cs (nodes (e0 :: st'))) os' G' l2') _ _ _ _
          rw [e1]
          refine (ih _ ?_).2 os' G' l2' _ _ _ _ _ s₃ rfl hneed' hm
          rw [← hn]
          show _ < 1 + costs (nodes (e0 :: st'))
          have : costs (nodes (e0 :: st')) = e0.nd.cost + costs (nodes st') := by simp [costs, nodes]
          rw [this]
          exact Nat.lt_add_of_pos_left (by decide)
    · refine sg_cons (sg_exec' (wpAny_mono (h4 os G l2 x xs asg rem st s hneed hM) (fun f s' q => ?_) fun _ _ x => x) hhi hde hun)
      rcases q with ⟨rfl, q1, q2⟩ | ⟨rfl, asg', x', v, rem', xs', st', q1, q2, q3⟩
      · rw [q1]
        exact hret _ _ ⟨rfl, q2⟩
      · rw [q1]
        refine sg_cons (sg_exec' (wpAny_mono (h5 os G l2 x' xs' asg' v rem' st' s' hneed q3) (fun f s'' q => ?_) fun _ _ x => x) hhi hde hun)
        obtain ⟨rfl, e, he, hT⟩ := q
        refine sg_nil (sg_again rfl ?_)
        have e1 : tries cs ⟨asg', x', rem', xs'⟩ ++ backs cs (nodes st') = backs cs (nodes (e :: st')) := by
          simp [backs, nodes, he]
        rw [e1]
        refine (ih _ ?_).1 os G l2 xs' _ _ s'' rfl hneed hT
        rw [← hn]
        have e2 : costs (nodes (e :: st')) = (⟨asg', x', rem', xs'⟩ : Node).cost + costs (nodes st') := by simp [costs, nodes, he]
        rw [e2]
        exact q2
end
end
end Mine
end
section
open PySem PySem.W PySem.Calls PyProof.Rows PySem.W.X
set_option Elab.async false
set_option maxRecDepth 100000
set_option maxHeartbeats 8000000
set_option linter.unusedVariables false
namespace Mine
local macro_rules | `(tactic| walk_at "mem") => `(tactic| first | assumption | exact List.Mem.head _ | (refine' List.Mem.tail _ ?_; walk_at "mem") | (refine' List.mem_append_right _ ?_; walk_at "mem") | (refine' List.mem_append_left _ ?_; walk_at "mem") | exact Zip.at' (by assumption) | exact Zip.keep (by assumption) (by walk_at "mem") (by intro e; cases e))
local macro_rules | `(tactic| walk_at "zip") => `(tactic| first | assumption | exact Zip.head | exact Zip.tail (by walk_at "zip") | exact Zip.app (by walk_at "zip") | exact Zip.again (by assumption))
local macro_rules | `(tactic| walk_at "kv") => `(tactic| first | with_reducible_and_instances exact List.Mem.head _ | (refine' List.Mem.tail _ ?_; walk_at "kv") | assumption)
local macro_rules | `(tactic| walk_at "put") => `(tactic| first | with_reducible exact Put.head | exact Put.tail (by walk_at "put"))
local macro_rules | `(tactic| walk_at "putd") => `(tactic| first | with_reducible exact PutD.head | with_reducible exact PutD.nil | exact PutD.tail (by decide) (by walk_at "putd"))
local macro_rules | `(tactic| walk_at "nm") => `(tactic| first
  | (refine e_local (by assumption) (by walk_at "mem") (by walk_at "kv") ?_)
  | (refine e_cell (by assumption) (by rfl) (by walk_at "mem") ?_)
  | (refine e_free (by assumption) (by rfl) (by walk_at "mem") ?_))
local macro_rules | `(tactic| walk_at "gl") => `(tactic| refine e_global (by assumption) (by assumption) (by first | with_reducible exact gl_Problem _ | with_reducible exact gl_BacktrackingSolver _ | with_reducible exact gl_Domain _ | with_reducible exact gl_Constraint _ | with_reducible exact gl_FunctionConstraint _ | with_reducible exact gl_law_yes _ | with_reducible exact gl_law_rule _ | with_reducible exact gl_law_due _) ?_)
local macro_rules | `(tactic| walk_at "bi") => `(tactic| refine e_builtin (by assumption) (by assumption) (by first | with_reducible exact bn_isinstance _ | with_reducible exact bn_callable _ | with_reducible exact bn_list _ | with_reducible exact bn_tuple _ | with_reducible exact bn_len _ | with_reducible exact bn_range _ | with_reducible exact bn_next _ | with_reducible exact bn_dict _ | with_reducible exact bn_sorted _ | with_reducible exact bn_iter _) (by first | with_reducible exact bb_isinstance | with_reducible exact bb_callable | with_reducible exact bb_list | with_reducible exact bb_tuple | with_reducible exact bb_len | with_reducible exact bb_range | with_reducible exact bb_next | with_reducible exact bb_dict | with_reducible exact bb_sorted | with_reducible exact bb_iter) ?_)
local macro_rules | `(tactic| walk_at "ns") => `(tactic| (show (_ : List Str).Nodup; dsimp only [List.map, List.nil_append, List.cons_append, List.append_nil]; decide +kernel))
local macro_rules | `(tactic| walk_at "lt") => `(tactic| (show _ < 1000; omega))
local macro_rules | `(tactic| x_close) => `(tactic| exact xq_of (by first | assumption | exact Mem.start _) (by first | rfl | assumption))
local macro_rules | `(tactic| walk_at "ga") => `(tactic| refine i_get (by assumption) (by assumption) (by walk_at "mem") (by exact rfl) (by walk_at "mem") (by first | exact cls110 _ | exact cls186 _ | exact cls336 _) (by kernel_rfl) (by walk_at "kv") (by exact rfl) ?_)
local macro_rules | `(tactic| walk_at "sa") => `(tactic| refine i_set (by assumption) (by assumption) (by walk_at "mem") (by walk_at "zip") (by first | exact cls110 _ | exact cls186 _ | exact cls336 _) (by kernel_rfl) (by kernel_rfl) (by walk_at "putd") (Nat.le_of_ble_eq_true rfl) ?_)
local macro_rules | `(tactic| walk_at "st") => `(tactic| refine e_store (by assumption) (by walk_at "zip") (by walk_at "put") ?_)
local macro_rules | `(tactic| walk_at "nmc") => `(tactic| first
  | (refine e_local (by assumption) (List.Mem.head _) (by first | exact List.Mem.head _ | exact List.Mem.tail _ (List.Mem.head _) | exact List.Mem.tail _ (List.Mem.tail _ (List.Mem.head _))) ?_)
  | (refine e_cell (by assumption) (by rfl) (by walk_at "mem") ?_)
  | (refine e_free (by assumption) (by rfl) (by walk_at "mem") ?_))
local macro_rules | `(tactic| walk_at "subl") => `(tactic| first | exact List.Sublist.refl _ | (refine' List.Sublist.cons _ ?_; walk_at "subl"))
section
variable {w : World} {g : Heap} {os : OsState} {G : Array GenState} {l l' : Led} {s : Shared} {a : Addr} {c c' : Cell} {f : Cell → Led} {A : Around} {E : Value → Shared → Prop}
/-! ## pop, del, while -/
theorem b_pop {D : Addr} {vs : List Value} {v : Value} {Q : Value → Shared → Prop} {E : Value → Shared → Prop} (H : Ok w g os G l s) (z : Zip l D (.lst (vs ++ [v])) f) (hz : vs.length ≤ 100000) (h : ∀ s', Ok w g os G (f (.lst vs)) s' → Q v s') :
    wpAny (model P0 w) A (call (.builtin "list.pop") [.ref D]) Q E s := by
  obtain ⟨n, hn⟩ := H.get z.mem
  refine wpAny_call_entry PySem.F.slot_list_pop ⟨_, hn, rfl⟩ PySem.F.entry_list_pop ?_ (PySem.F.args_list_pop_1 _)
  unfold Builtin.«list.pop»
  refine wpAny_bind (wpAny_pure ?_)
  dsimp only
  refine wpAny_bind (wpAny_pure ?_)
  rw [if_neg (by decide)]
  refine wpAny_bind ?_
  unfold Builtin.List.listItems
  refine wpAny_bind (wpAny_seqItems hn rfl (wpAny_pure ?_))
  have hsz : (vs ++ [v]).toArray.size = vs.length + 1 := by simp
  rw [if_neg (by unfold Array.isEmpty; rw [hsz]; simp)]
  have hi : (seqIndex? (-1) (vs ++ [v]).toArray.size).bind (fun k => (vs ++ [v]).toArray[k]?.map (k, ·)) = some (vs.length, v) := by
    rw [hsz]
    have : seqIndex? (-1) (vs.length + 1) = some vs.length := by
      unfold seqIndex?
      simp
      omega
    rw [this]
    simp
  have he : (vs ++ [v]).toArray.eraseIdxIfInBounds vs.length = vs.toArray := by
    rw [List.eraseIdxIfInBounds_toArray, List.eraseIdx_append_of_length_le (Nat.le_refl _)]
    simp
  rw [hi]
  refine wpAny_bind (wpAny_updateSeq hn rfl ?_ (by rw [hsz, sizeLine_eq]; omega) (by rw [he, sizeLine_eq, List.size_toArray]; omega))
  have hS := Heap.get?_update_self (Obj.mapSeq (·.eraseIdxIfInBounds vs.length)) hn rfl
  refine wpAny_pure ⟨_, rfl, h _ (H.set (t := s.toks) (c' := .lst vs) z (Heap.SameBut.update ..) ?_)⟩
  show ∃ m, _ = some (lstO vs m)
  rw [hS]
  unfold Obj.mapSeq
  dsimp only
  rw [he]
  exact ⟨_, rfl⟩
theorem d_del {d : Addr} {kvs : List (Str × Value)} {x : Str} {t : Tok} {Q : Unit → Shared → Prop} {E : Value → Shared → Prop} (H : Ok w g os G l s) (z : Zip l d (.sd kvs) f) (hz : kvs.length ≤ 100000) (hv : (valueAt kvs x).isSome = true)
    (h : ∀ s', Ok w g os G (f (.sd (without kvs x))) s' → Q () s') : wpAny (model P0 w) A (delItem (.ref d) (.str x t)) Q E s := by
  refine wpAny_delItem_slot (H.dict z.mem).typeIs (by decide) PySem.F.slot_dict_delitem (call_meetsIn PySem.F.slot_dict_delitem (H.dict z.mem).typeIs PySem.F.entry_dict_delitem (PySem.F.args_dict_delitem_2 _ _) (meets_dict_delitem_pairs (strKind P0 w) d (isStr x t))
    ⟨kvs, H.dict z.mem, by rw [sizeLine_eq]; omega, hv, fun h' hd hs => h _ (H.dset z hd hs)⟩)
theorem without_last {kvs : List (Str × Value)} {x : Str} {v : Value} (h : x ∉ kvs.map (·.1)) : without (kvs ++ [(x, v)]) x = kvs := by
  have := without_of_not_mem kvs x h
  unfold without at this ⊢
  rw [List.filter_append, this]
  simp
theorem stored_last {kvs : List (Str × Value)} {x : Str} {v v' : Value} (h : x ∉ kvs.map (·.1)) : stored (kvs ++ [(x, v)]) x v' = kvs ++ [(x, v')] := by
  unfold stored
  rw [if_pos (by simp), List.map_append]
  congr 1
  · conv => rhs; rw [← List.map_id kvs]
    refine List.map_congr_left fun p hp => ?_
    rw [if_neg]
    · rfl
    · intro e
      exact h (by rw [← e]; exact List.mem_map_of_mem (f := (·.1)) hp)
  · simp
theorem valueAt_last {kvs : List (Str × Value)} {x : Str} {v : Value} (h : x ∉ kvs.map (·.1)) : valueAt (kvs ++ [(x, v)]) x = some v := by
  unfold valueAt
  rw [List.find?_append]
  have : kvs.find? (fun kv => decide (kv.1 = x)) = none := by
    rw [List.find?_eq_none]
    intro p hp e
    simp only [decide_eq_true_eq] at e
    exact h (by rw [← e]; exact List.mem_map_of_mem (f := (·.1)) hp)
  rw [this]
  simp
theorem x_while {d u : Nat} {env : Env} {test : Expr} {body orelse : List Stmt} {pos : Pos} {Q : Flow → Shared → Prop} (I : Nat → Shared → Prop)
    (turn : ∀ n s, I n s → wpAny (model P0 w) (AR d u) (isTrue test env (eval test env)) (fun b s₂ =>
        if b then wpAny (model P0 w) (AR d u) (execs body env) (fun f s₃ => match f with
            | .next | .cont => ∃ m, m < n ∧ I m s₃
            | .brk => Q .next s₃
            | .ret v => Q (.ret v) s₃) NoE s₂
        else wpAny (model P0 w) (AR d u) (execs orelse env) Q NoE s₂) NoE s)
    (n : Nat) (h : I n s) : wpAny (model P0 w) (AR d u) (exec (.While test body orelse pos) env) Q NoE s := by
  refine wpAny_While (codeAny_whileLoop I (fun n s hI => ?_) n h)
  refine wpAny_mono (turn n s hI) (fun b s₂ q => ?_) fun _ _ x => x.elim
  cases b with
  | true => exact wpAny_mono q (fun f s₃ q => by cases f <;> exact q) fun _ _ x => x.elim
  | false => exact wpAny_mono q (fun f s₃ q => q) fun _ _ x => x.elim
end
end Mine
end
section
open PySem PySem.W PySem.Calls PyProof.Rows PySem.W.X
set_option Elab.async false
set_option maxRecDepth 100000
set_option maxHeartbeats 8000000
set_option linter.unusedVariables false
namespace Mine
local macro_rules | `(tactic| walk_at "mem") => `(tactic| first | assumption | exact List.Mem.head _ | (refine' List.Mem.tail _ ?_; walk_at "mem") | (refine' List.mem_append_right _ ?_; walk_at "mem") | (refine' List.mem_append_left _ ?_; walk_at "mem") | exact Zip.at' (by assumption) | exact Zip.keep (by assumption) (by walk_at "mem") (by intro e; cases e))
local macro_rules | `(tactic| walk_at "zip") => `(tactic| first | assumption | exact Zip.head | exact Zip.tail (by walk_at "zip") | exact Zip.app (by walk_at "zip") | exact Zip.again (by assumption))
local macro_rules | `(tactic| walk_at "kv") => `(tactic| first | with_reducible_and_instances exact List.Mem.head _ | (refine' List.Mem.tail _ ?_; walk_at "kv") | assumption)
local macro_rules | `(tactic| walk_at "put") => `(tactic| first | with_reducible exact Put.head | exact Put.tail (by walk_at "put"))
local macro_rules | `(tactic| walk_at "putd") => `(tactic| first | with_reducible exact PutD.head | with_reducible exact PutD.nil | exact PutD.tail (by decide) (by walk_at "putd"))
local macro_rules | `(tactic| walk_at "nm") => `(tactic| first
  | (refine e_local (by assumption) (by walk_at "mem") (by walk_at "kv") ?_)
  | (refine e_cell (by assumption) (by rfl) (by walk_at "mem") ?_)
  | (refine e_free (by assumption) (by rfl) (by walk_at "mem") ?_))
local macro_rules | `(tactic| walk_at "gl") => `(tactic| refine e_global (by assumption) (by assumption) (by first | with_reducible exact gl_Problem _ | with_reducible exact gl_BacktrackingSolver _ | with_reducible exact gl_Domain _ | with_reducible exact gl_Constraint _ | with_reducible exact gl_FunctionConstraint _ | with_reducible exact gl_law_yes _ | with_reducible exact gl_law_rule _ | with_reducible exact gl_law_due _) ?_)
local macro_rules | `(tactic| walk_at "bi") => `(tactic| refine e_builtin (by assumption) (by assumption) (by first | with_reducible exact bn_isinstance _ | with_reducible exact bn_callable _ | with_reducible exact bn_list _ | with_reducible exact bn_tuple _ | with_reducible exact bn_len _ | with_reducible exact bn_range _ | with_reducible exact bn_next _ | with_reducible exact bn_dict _ | with_reducible exact bn_sorted _ | with_reducible exact bn_iter _) (by first | with_reducible exact bb_isinstance | with_reducible exact bb_callable | with_reducible exact bb_list | with_reducible exact bb_tuple | with_reducible exact bb_len | with_reducible exact bb_range | with_reducible exact bb_next | with_reducible exact bb_dict | with_reducible exact bb_sorted | with_reducible exact bb_iter) ?_)
local macro_rules | `(tactic| walk_at "ns") => `(tactic| (show (_ : List Str).Nodup; dsimp only [List.map, List.nil_append, List.cons_append, List.append_nil]; decide +kernel))
local macro_rules | `(tactic| walk_at "lt") => `(tactic| (show _ < 1000; omega))
local macro_rules | `(tactic| x_close) => `(tactic| exact xq_of (by first | assumption | exact Mem.start _) (by first | rfl | assumption))
local macro_rules | `(tactic| walk_at "ga") => `(tactic| refine i_get (by assumption) (by assumption) (by walk_at "mem") (by exact rfl) (by walk_at "mem") (by first | exact cls110 _ | exact cls186 _ | exact cls336 _) (by kernel_rfl) (by walk_at "kv") (by exact rfl) ?_)
local macro_rules | `(tactic| walk_at "sa") => `(tactic| refine i_set (by assumption) (by assumption) (by walk_at "mem") (by walk_at "zip") (by first | exact cls110 _ | exact cls186 _ | exact cls336 _) (by kernel_rfl) (by kernel_rfl) (by walk_at "putd") (Nat.le_of_ble_eq_true rfl) ?_)
local macro_rules | `(tactic| walk_at "st") => `(tactic| refine e_store (by assumption) (by walk_at "zip") (by walk_at "put") ?_)
local macro_rules | `(tactic| walk_at "nmc") => `(tactic| first
  | (refine e_local (by assumption) (List.Mem.head _) (by first | exact List.Mem.head _ | exact List.Mem.tail _ (List.Mem.head _) | exact List.Mem.tail _ (List.Mem.tail _ (List.Mem.head _))) ?_)
  | (refine e_cell (by assumption) (by rfl) (by walk_at "mem") ?_)
  | (refine e_free (by assumption) (by rfl) (by walk_at "mem") ?_))
local macro_rules | `(tactic| walk_at "subl") => `(tactic| first | exact List.Sublist.refl _ | (refine' List.Sublist.cons _ ?_; walk_at "subl"))
section
variable {w : World} {g : Heap} {os : OsState} {G : Array GenState} {l l' : Led} {s : Shared} {a : Addr} {c c' : Cell} {f : Cell → Led} {A : Around} {E : Value → Shared → Prop}
/-! ## the head of the outer loop: the list is made and sorted -/
theorem e_neg {a : Int} {t : Tok} {Q : Value → Shared → Prop} {E : Value → Shared → Prop} (H : Ok w g os G l s) (h : ∀ t s', Ok w g os G l s' → Q (.int (-a) t) s') : wpAny (model P0 w) A (unaryOp .USub (.int a t)) Q E s :=
  PyProof.Rows.neg_int (h _ _ (H.toks _))
theorem t_item {T : Addr} {vs : List Value} {k : Int} {t : Tok} {j : Nat} {v : Value} {Q : Value → Shared → Prop} {E : Value → Shared → Prop} (H : Ok w g os G l s) (hm : (T, .tup vs) ∈ l) (hlo : -(2 ^ 63) ≤ k) (hhi : k < 2 ^ 63) (hj : seqIndex? k vs.length = some j) (hv : vs[j]? = some v) (h : Q v s) : wpAny (model P0 w) A (getItem (.ref T) (.int k t)) Q E s :=
  PyProof.Rows.getItem_tuple (H.tup hm) hlo hhi (by rw [List.size_toArray]; exact hj) (by simpa using hv) h
theorem valueAt_in {kvs : List (Str × Value)} {k : Str} (h : k ∈ kvs.map (·.1)) : (valueAt kvs k).isSome = true := by
  rw [PyProof.Rows.valueAt_isSome_eq_any, List.any_eq_true]
  obtain ⟨p, hp, e⟩ := List.mem_map.mp h
  exact ⟨p, hp, by simpa using e⟩
def Key.strip (k : Key) : Key := ⟨k.a, k.b, k.c, 0, 0, 0⟩
theorem ltOf_strip (ks : List Key) : ltOf (ks.map Key.strip) = ltOf ks := by
  funext i j
  unfold ltOf
  rw [List.getElem?_map, List.getElem?_map]
  cases ks[i]? <;> cases ks[j]? <;> rfl
theorem ordK_strip (ks : List Key) : ordK (ks.map Key.strip) = ordK ks := by
  unfold ordK
  rw [ltOf_strip, List.length_map]
def keysOf (vs : List Var) (cs : List Con) : List Key := vs.map fun v => ⟨-(((cs.filter (touches v.n)).length : Nat) : Int), (v.vals.length : Nat), v.n, 0, 0, 0⟩
def ordV (vs : List Var) (cs : List Con) : List Var := (ordK (keysOf vs cs)).filterMap (vs[·]?)
theorem keys_len {vs : List Var} {cs : List Con} : (keysOf vs cs).length = vs.length := by simp [keysOf]
theorem ordK_perm {vs : List Var} {cs : List Con} (h : vs.length ≤ 3) : (ordK (keysOf vs cs)).Perm (List.range vs.length) := by
  have := ord_perm (n := (keysOf vs cs).length) (by rw [keys_len]; exact h) (ltOf (keysOf vs cs))
  rw [keys_len] at this
  unfold ordK
  rw [keys_len]
  exact this
theorem ordV_perm {vs : List Var} {cs : List Con} (h : vs.length ≤ 3) : (ordV vs cs).Perm vs := by
  have q := (ordK_perm (cs := cs) h).filterMap (vs[·]?)
  have e : (List.range vs.length).filterMap (vs[·]?) = vs := by
    have := pick_run vs.toArray 0 vs.length
    simpa using this
  rw [e] at q
  exact q
theorem ordV_len {vs : List Var} {cs : List Con} (h : vs.length ≤ 3) : (ordV vs cs).length ≤ 3 := by rw [(ordV_perm h).length_eq]; exact h
abbrev Named (T : Led) (v : Value) (x : Var) : Prop := ∃ t p q tok, v = .ref t ∧ (t, Cell.tup [p, q, .str x.n tok]) ∈ T
theorem sorted_paired {vs : List Var} {cs : List Con} {ps : List (Addr × Key)} {T : Led} (h : ps.map (fun p => p.2.strip) = keysOf vs cs) (hT : ∀ p ∈ ps, (p.1, p.2.cell) ∈ T) (h3 : vs.length ≤ 3) :
    Paired (Named T) ((ordK (ps.map (·.2))).map fun i => Value.ref ((ps.map (·.1)).getD i 0)) (ordV vs cs) := by
  have e : ordK (ps.map (·.2)) = ordK (keysOf vs cs) := by
    rw [← h, ← ordK_strip (ps.map (·.2)), List.map_map]
    rfl
  rw [e]
  unfold ordV
  have hr : ∀ i ∈ ordK (keysOf vs cs), i < vs.length := fun i hi => by simpa using (ordK_perm h3).mem_iff.mp hi
  generalize ordK (keysOf vs cs) = is at hr
  have hlen : ps.length = vs.length := by
    have := congrArg List.length h
    rw [List.length_map, keys_len] at this
    exact this
  induction is with
  | nil => exact .nil
  | cons i is ih =>
    have hi := hr i (.head _)
    have hi' : i < ps.length := by omega
    rw [List.map_cons, List.filterMap_cons, List.getElem?_eq_getElem hi]
    refine .cons ?_ (ih fun j hj => hr j (.tail _ hj))
    have hk : (ps[i]).2.c = (vs[i]).n := by
      have := congrArg (fun l => l[i]?) h
      simp only [List.getElem?_map, keysOf, List.getElem?_eq_getElem hi, List.getElem?_eq_getElem hi', Option.map_some, Option.some.injEq] at this
      have := congrArg Key.c this
      exact this
    refine ⟨(ps[i]).1, .int (ps[i]).2.a (ps[i]).2.ta, .int (ps[i]).2.b (ps[i]).2.tb, (ps[i]).2.tc, ?_, ?_⟩
    · rw [List.getD_eq_getElem?_getD, List.getElem?_map, List.getElem?_eq_getElem hi']
      rfl
    · rw [← hk]
      exact hT _ (List.getElem_mem hi')
/-- the list is made and sorted -/
def TopS (w : World) (g : Heap) (order : List Var) (a : GA) (os : OsState) (G : Array GenState) (l2 : Led) (xs : List Var) (asg : List (Str × Value)) (st : List SN) (s : Shared) : Prop :=
  ∃ ov d e f g' h i done D vs T, Ok w g os G (GIL a ov (frT a (some (.ref D)) d e f g' h i) asg st ++ ((D, .lst vs) :: (T ++ l2))) s ∧ StOk order done xs asg st ∧ Paired (Named T) vs order
theorem gen_loop2 {need : Led} {cs : List Con} {order : List Var} {a : GA} {env : Env} {test : Expr} {s1 s2 s3 s4 s5 : Stmt} {orelse : List Stmt} {F1 : Frame}
    (hret : ∀ (Φ : End → Shared → Prop) s, Φ (.ret (.ok (.ret .none))) s → SG w (AR 500 5000) Φ (Wc env test s1 s2 s3 s4 s5 orelse) (.pure (.done (.ret .none))) [F1] s)
    (hhi : ((AR 500 5000).over (Wc env test s1 s2 s3 s4 s5 orelse) [F1]).handled = none) (hde : ((AR 500 5000).over (Wc env test s1 s2 s3 s4 s5 orelse) [F1]).depth ≤ 520) (hun : ((AR 500 5000).over (Wc env test s1 s2 s3 s4 s5 orelse) [F1]).units ≤ 5100)
    (htest : ∀ (s : Shared) (Q : Bool → Shared → Prop), Q true s → wpAny (model P0 w) (AR 520 5100) (isTrue test env (eval test env)) Q NoE s)
    (hS : ∀ os G l2 xs asg st s, (∀ p ∈ need, p ∈ l2) → Top w g order a os G l2 xs asg st s → wpAny (model P0 w) (AR 520 5100) (exec s1 env) (fun f1 s' => f1 = .next ∧ wpAny (model P0 w) (AR 520 5100) (exec s2 env) (fun f2 s'' => f2 = .next ∧ TopS w g order a os G l2 xs asg st s'') NoE s') NoE s)
    (hN : ∀ os G l2 x xs asg st s, (∀ p ∈ need, p ∈ l2) → TopS w g order a os G l2 (x :: xs) asg st s → wpAny (model P0 w) (AR 520 5100) (exec s3 env) (fun f3 s₃ => f3 = .next ∧ Mid w g order a os G l2 x xs asg x.vals st s₃) NoE s)
    (hE : ∀ (Φ : End → Shared → Prop) os G l2 asg st s, (∀ p ∈ need, p ∈ l2) → TopS w g order a os G l2 [] asg st s →
      (∀ e s' dd IL', e.quiet = true → e.result = .yielded (.ref dd) → Ok w g os G ((dd, .sd asg) :: (IL' ++ l2)) s' → Wakes2 w g need order a env (Wc env test s1 s2 s3 s4 s5 orelse) s4 s5 F1 st e.genState IL' → Φ e s') →
      SG w (AR 500 5000) Φ (Wc env test s1 s2 s3 s4 s5 orelse) ((exec s3 env).wrap (fun f => match f with | .next => (execs [s4, s5] env).wrap (Kb (Wc env test s1 s2 s3 s4 s5 orelse)) (Hb env) id id | f => Kb (Wc env test s1 s2 s3 s4 s5 orelse) f) (Hb env) id id) [F1] s)
    (h4 : ∀ os G l2 x xs asg rem st s, (∀ p ∈ need, p ∈ l2) → Mid w g order a os G l2 x xs asg rem st s → wpAny (model P0 w) (AR 520 5100) (exec s4 env) (fun f s' =>
      (f = .ret .none ∧ tries cs ⟨asg, x, rem, xs⟩ ++ backs cs (nodes st) = [] ∧ Ok w g os G l2 s') ∨
      (f = .next ∧ ∃ asg' x' v rem' xs' st', tries cs ⟨asg, x, rem, xs⟩ ++ backs cs (nodes st) = comps cs xs' (asg' ++ [(x'.n, v)]) ++ (tries cs ⟨asg', x', rem', xs'⟩ ++ backs cs (nodes st')) ∧
        costc xs' + ((⟨asg', x', rem', xs'⟩ : Node).cost + costs (nodes st')) < (⟨asg, x, rem, xs⟩ : Node).cost + costs (nodes st) ∧ Mid5 w g order a os G l2 x' xs' asg' v rem' st' s')) NoE s)
    (h5 : ∀ os G l2 x xs asg v rem st s, (∀ p ∈ need, p ∈ l2) → Mid5 w g order a os G l2 x xs asg v rem st s → wpAny (model P0 w) (AR 520 5100) (exec s5 env) (fun f s' => f = .next ∧ ∃ e : SN, e.nd = ⟨asg, x, rem, xs⟩ ∧ Top w g order a os G l2 xs (asg ++ [(x.n, v)]) (e :: st) s') NoE s) :
    ∀ n, (∀ os G l2 xs asg st s, costc xs + costs (nodes st) = n → (∀ p ∈ need, p ∈ l2) → Top w g order a os G l2 xs asg st s →
        SG w (AR 500 5000) (GEnd w g need (comps cs xs asg ++ backs cs (nodes st)) os G l2) (Wc env test s1 s2 s3 s4 s5 orelse) ((model P0 w).den (Wc env test s1 s2 s3 s4 s5 orelse)) [F1] s) ∧
      (∀ os G l2 x xs asg rem st s, (⟨asg, x, rem, xs⟩ : Node).cost + costs (nodes st) = n → (∀ p ∈ need, p ∈ l2) → Mid w g order a os G l2 x xs asg rem st s →
        SG w (AR 500 5000) (GEnd w g need (tries cs ⟨asg, x, rem, xs⟩ ++ backs cs (nodes st)) os G l2) (Wc env test s1 s2 s3 s4 s5 orelse) ((execs [s4, s5] env).wrap (Kb (Wc env test s1 s2 s3 s4 s5 orelse)) (Hb env) id id) [F1] s) := by
  refine gen_loop hret hhi hde hun htest ?_ ?_ h4 h5
  · intro os G l2 x xs asg st s hneed hT
    refine wpAny_mono (hS os G l2 (x :: xs) asg st s hneed hT) (fun f1 s' q => ⟨q.1, ?_⟩) fun _ _ x => x
    refine wpAny_mono q.2 (fun f2 s'' q => ⟨q.1, ?_⟩) fun _ _ x => x
    exact hN os G l2 x xs asg st s'' hneed q.2
  · intro Φ os G l2 asg st s hneed hT hΦ
    refine sg_cons (sg_exec' (wpAny_mono (hS os G l2 [] asg st s hneed hT) (fun f1 s' q => ?_) fun _ _ x => x) hhi hde hun)
    obtain ⟨rfl, q⟩ := q
    refine sg_cons (sg_exec' (wpAny_mono q (fun f2 s'' q => ?_) fun _ _ x => x) hhi hde hun)
    obtain ⟨rfl, q⟩ := q
    exact sg_cons (hE Φ os G l2 asg st s'' hneed q hΦ)
end
end Mine
end
section
open PySem PySem.W PySem.Calls PyProof.Rows PySem.W.X
set_option Elab.async false
set_option maxRecDepth 100000
set_option maxHeartbeats 8000000
set_option linter.unusedVariables false
namespace Mine
local macro_rules | `(tactic| walk_at "mem") => `(tactic| first | assumption | exact List.Mem.head _ | (refine' List.Mem.tail _ ?_; walk_at "mem") | (refine' List.mem_append_right _ ?_; walk_at "mem") | (refine' List.mem_append_left _ ?_; walk_at "mem") | exact Zip.at' (by assumption) | exact Zip.keep (by assumption) (by walk_at "mem") (by intro e; cases e))
local macro_rules | `(tactic| walk_at "zip") => `(tactic| first | assumption | exact Zip.head | exact Zip.tail (by walk_at "zip") | exact Zip.app (by walk_at "zip") | exact Zip.again (by assumption))
local macro_rules | `(tactic| walk_at "kv") => `(tactic| first | with_reducible_and_instances exact List.Mem.head _ | (refine' List.Mem.tail _ ?_; walk_at "kv") | assumption)
local macro_rules | `(tactic| walk_at "put") => `(tactic| first | with_reducible exact Put.head | exact Put.tail (by walk_at "put"))
local macro_rules | `(tactic| walk_at "putd") => `(tactic| first | with_reducible exact PutD.head | with_reducible exact PutD.nil | exact PutD.tail (by decide) (by walk_at "putd"))
local macro_rules | `(tactic| walk_at "nm") => `(tactic| first
  | (refine e_local (by assumption) (by walk_at "mem") (by walk_at "kv") ?_)
  | (refine e_cell (by assumption) (by rfl) (by walk_at "mem") ?_)
  | (refine e_free (by assumption) (by rfl) (by walk_at "mem") ?_))
local macro_rules | `(tactic| walk_at "gl") => `(tactic| refine e_global (by assumption) (by assumption) (by first | with_reducible exact gl_Problem _ | with_reducible exact gl_BacktrackingSolver _ | with_reducible exact gl_Domain _ | with_reducible exact gl_Constraint _ | with_reducible exact gl_FunctionConstraint _ | with_reducible exact gl_law_yes _ | with_reducible exact gl_law_rule _ | with_reducible exact gl_law_due _) ?_)
local macro_rules | `(tactic| walk_at "bi") => `(tactic| refine e_builtin (by assumption) (by assumption) (by first | with_reducible exact bn_isinstance _ | with_reducible exact bn_callable _ | with_reducible exact bn_list _ | with_reducible exact bn_tuple _ | with_reducible exact bn_len _ | with_reducible exact bn_range _ | with_reducible exact bn_next _ | with_reducible exact bn_dict _ | with_reducible exact bn_sorted _ | with_reducible exact bn_iter _) (by first | with_reducible exact bb_isinstance | with_reducible exact bb_callable | with_reducible exact bb_list | with_reducible exact bb_tuple | with_reducible exact bb_len | with_reducible exact bb_range | with_reducible exact bb_next | with_reducible exact bb_dict | with_reducible exact bb_sorted | with_reducible exact bb_iter) ?_)
local macro_rules | `(tactic| walk_at "ns") => `(tactic| (show (_ : List Str).Nodup; dsimp only [List.map, List.nil_append, List.cons_append, List.append_nil]; decide +kernel))
local macro_rules | `(tactic| walk_at "lt") => `(tactic| (show _ < 1000; omega))
local macro_rules | `(tactic| x_close) => `(tactic| exact xq_of (by first | assumption | exact Mem.start _) (by first | rfl | assumption))
local macro_rules | `(tactic| walk_at "ga") => `(tactic| refine i_get (by assumption) (by assumption) (by walk_at "mem") (by exact rfl) (by walk_at "mem") (by first | exact cls110 _ | exact cls186 _ | exact cls336 _) (by kernel_rfl) (by walk_at "kv") (by exact rfl) ?_)
local macro_rules | `(tactic| walk_at "sa") => `(tactic| refine i_set (by assumption) (by assumption) (by walk_at "mem") (by walk_at "zip") (by first | exact cls110 _ | exact cls186 _ | exact cls336 _) (by kernel_rfl) (by kernel_rfl) (by walk_at "putd") (Nat.le_of_ble_eq_true rfl) ?_)
local macro_rules | `(tactic| walk_at "st") => `(tactic| refine e_store (by assumption) (by walk_at "zip") (by walk_at "put") ?_)
local macro_rules | `(tactic| walk_at "nmc") => `(tactic| first
  | (refine e_local (by assumption) (List.Mem.head _) (by first | exact List.Mem.head _ | exact List.Mem.tail _ (List.Mem.head _) | exact List.Mem.tail _ (List.Mem.tail _ (List.Mem.head _))) ?_)
  | (refine e_cell (by assumption) (by rfl) (by walk_at "mem") ?_)
  | (refine e_free (by assumption) (by rfl) (by walk_at "mem") ?_))
local macro_rules | `(tactic| walk_at "subl") => `(tactic| first | exact List.Sublist.refl _ | (refine' List.Sublist.cons _ ?_; walk_at "subl"))
section
variable {w : World} {g : Heap} {os : OsState} {G : Array GenState} {l l' : Led} {s : Shared} {a : Addr} {c c' : Cell} {f : Cell → Led} {A : Around} {E : Value → Shared → Prop}
/-! ## BacktrackingSolver.getSolutionIter, not looking ahead -/
theorem Ok.newgen (H : Ok w g os G l s) (x : GenState) : Ok w g os (G.push x) l { s with gens := s.gens.push x } :=
  ⟨H.os, by show s.gens.push x = _; rw [H.gens], H.keep, H.at_, H.new, H.nd, H.sm, H.ns'⟩
structure GNeed (w : World) (g : Heap) (need : Led) (vs : List Var) (cs : List Con) (bs dbs dm vc : Addr) (vk : List (Str × Value)) (ep : Nat) : Prop where
  bs : (bs, .ob (instObj 186 dbs)) ∈ need
  dbs : (dbs, .sd [("_forwardcheck", .bool false)]) ∈ need
  dm : (dm, .dk (dkvs vs) ep) ∈ need
  vc : (vc, .sd vk) ∈ need
  vk : VCok need vs cs vk
  con : ∀ c ∈ cs, ConOk w g need c
  var : ∀ v ∈ vs, VarOk need v
  nd : (vs.map (·.n)).Nodup
  one : 1 ≤ vs.length
  three : vs.length ≤ 3
  few : cs.length ≤ 100
theorem GNeed.dknd {w : World} {g : Heap} {need : Led} {vs : List Var} {cs : List Con} {bs dbs dm vc : Addr} {vk : List (Str × Value)} {ep : Nat} (N : GNeed w g need vs cs bs dbs dm vc vk ep) : ((dkvs vs).map (·.1)).Nodup := by
  unfold dkvs
  rw [List.map_map]
  exact N.nd
theorem cost_snoc {asg : List (Str × Value)} {x : Var} {rem : List Value} {v : Value} {xs : List Var} : (⟨asg, x, rem ++ [v], xs⟩ : Node).cost = (⟨asg, x, rem, xs⟩ : Node).cost + (1 + costc xs) := by
  show (rem ++ [v]).length * (1 + costc xs) = rem.length * (1 + costc xs) + _
  rw [List.length_append, List.length_singleton, Nat.add_mul, Nat.one_mul]
theorem spec_gen {d u : Nat} {vs : List Var} {cs : List Con} {bs dbs dm vc : Addr} {cl : Value} {vk : List (Str × Value)} {ep : Nat} {need : Led} {R : Result → Shared → Prop} (B : Base w g) (H : Ok w g os G l s) (N : GNeed w g need vs cs bs dbs dm vc vk ep) (hneed : ∀ p ∈ need, p ∈ l) (hd : d ≤ 450)
    (h : ∀ ga nm qn IL gs s', Ready w g need (comps cs (ordV vs cs) []) gs IL → gs.bare = true → Ok w g os (G.push gs) ((ga, .ob (genO G.size nm qn)) :: (IL ++ l)) s' → R (.ok (.ret (.ref ga))) s') :
    codeAny (model P0 w) (AR d u) (.call (.ref 169) ⟨[.ref bs, .ref dm, cl, .ref vc], []⟩) R s := by
  have X := B.X' H
  have hf : ∃ oc od fd osl, (Kf w).lookup 169 = some ⟨oc, od, .func fd, osl⟩ := ⟨_, _, _, _, rfl⟩
  refine codeAny_call_generator (A := AR d u) (Nat.lt_of_le_of_lt hd (by decide)) (X 169 _ rfl) rfl rfl rfl rfl (codeRec_of X (by kernel_rfl)) ?_
  refine (BindsTo.of_eq (binds := [("self", .ref bs), ("domains", .ref dm), ("constraints", cl), ("vconstraints", .ref vc)]) rfl : BindsTo s _ _ _) _ _ _ _ ?_
  refine e_envC (kvs := frS (.ref bs) cl none none none none none none none none none) (cn := [("variable", none), ("assignments", none), ("vconstraints", some (.ref vc)), ("domains", some (.ref dm))]) H ?_ (fun n => rfl) (by walk_at "ns") (hL_of (lb := [("self", .ref bs), ("constraints", cl)]) (rest := ["forwardcheck", "queue", "lst", "item", "values", "pushdomains", "domain", "constraint", "variables"]) rfl rfl (by walk_at "ns")) (by walk_at "ns") ?_ (fun L cs' s₁ e k H₁ => ?_)
  · intro x hx
    simp only [List.mem_cons, List.not_mem_nil, or_false] at hx
    rcases hx with rfl | rfl | rfl | rfl
    · exact .inl rfl
    · exact .inr ⟨rfl, rfl⟩
    · exact .inl rfl
    · exact .inr ⟨rfl, rfl⟩
  · intro p hp
    simp only [List.mem_cons, List.not_mem_nil, or_false] at hp
    rcases hp with rfl | rfl | rfl | rfl <;> rfl
  obtain ⟨cv, ca, cc, cdm, rfl⟩ := cs4 e
  dsimp only [cellsLed, List.zip_cons_cons, List.zip_nil_right, List.map_cons, List.map_nil, List.cons_append, List.nil_append] at H₁
  refine ⟨B.lim' H₁, ?_⟩
  have hsz : s₁.gens.size = G.size := by rw [H₁.gens]
  rw [hsz]
  refine h _ _ _ ((L, .ns (frS (.ref bs) cl none none none none none none none none none)) :: (cv, .cl none) :: (ca, .cl none) :: (cc, .cl (some (.ref vc))) :: (cdm, .cl (some (.ref dm))) :: []) _ _ (ready_of fun os G l2 s₂ H₂ hn => ?_) rfl ((H₁.newgen _).push (t := s₁.toks + 1 + 1) (Heap.get?_push_size _ rfl))
  clear H₁ k e X hf
  have H₂' : Ok w g os G ((L, .ns (frS (.ref bs) cl none none none none none none none none none)) :: (cv, .cl none) :: (ca, .cl none) :: (cc, .cl (some (.ref vc))) :: (cdm, .cl (some (.ref dm))) :: l2) s₂ := H₂
  clear H₂
  have hbs := hn _ N.bs
  have hdbs := hn _ N.dbs
  show SG w (AR 500 5000) _ (.func _ _) _ [] s₂
  refine sg_func (sg_cons (sg_exec' ?_))
  refine wpAny_Assign_Name (Attribute_name ?_)
  walk_at "nm"
  walk_at "ga"
  intro s₃ H₃
  refine e_store H₃ (by walk_at "zip") (by walk_at "put") (fun s₄ H₄ => ?_)
  refine sg_cons (sg_exec' ?_)
  refine wpAny_Assign_Name (e_dict0 H₄ (fun A s₅ H₅ => ?_))
  refine e_storeC (ca := ca) H₅ (by rfl) (by walk_at "zip") (fun s₆ H₆ => ?_)
  refine sg_cons (sg_exec' ?_)
  refine wpAny_Assign_Name (List_ (args_nil (e_newList H₆ (fun Q s₇ H₇ => ?_) (by decide))))
  refine e_store H₇ (by walk_at "zip") (by walk_at "put") (fun s₈ H₈ => ?_)
  have e0 : comps cs (ordV vs cs) [] = comps cs (ordV vs cs) [] ++ backs cs (nodes []) := by simp [backs, nodes]
  rw [e0]
  refine sg_cons (sg_While (fun p => ?_))
  have H₉ : Ok w g os G (GIL ⟨L, cv, ca, cc, cdm, A, Q, .ref bs, cl, dm, vc⟩ none (frT ⟨L, cv, ca, cc, cdm, A, Q, .ref bs, cl, dm, vc⟩ none none none none none none none) [] [] ++ l2) s₈ := by
    exact H₈.perm ((to_front [_, _, _, _, _, _]).trans (to_front [_, _, _, _, _]))
  clear H₈ H₇ H₆ H₅ H₄ H₃ H₂'
  refine (gen_loop2 (need := need) (cs := cs) (order := ordV vs cs) (a := ⟨L, cv, ca, cc, cdm, A, Q, .ref bs, cl, dm, vc⟩) ?hret rfl ?hde ?hun ?htest ?hS ?hN ?hE ?h4 ?h5 _).1 os G l2 (ordV vs cs) [] [] s₈ rfl hn ⟨_, _, _, _, _, _, _, _, [], H₉, rfl, rfl, rfl⟩
  case hret =>
    intro Φ s hΦ
    refine sg_leaf (.ok (.ret .none)) ?_
    exact sg_end (.ok (.ret .none)) hΦ
  case hde => exact Nat.le_of_ble_eq_true rfl
  case hun => exact Nat.le_of_ble_eq_true rfl
  case htest =>
    intro s Q q
    refine isTrue_plain ?_
    rw [eval_Constant]
    exact wpAny_pure (wpAny_truthy_bool q)
  case hS =>
    intro os G l2 xs asg st s hneed hT
    obtain ⟨ov, c, d, e, f, g', h', i, done, H₁, hst⟩ := hT
    unfold GIL at H₁
    simp only [List.cons_append] at H₁
    have hdm := hneed _ N.dm
    have hvc := hneed _ N.vc
    refine x_assign_comp (g := g) (os := os) (vars := ["variable"]) rfl rfl (by decide) rfl (by decide) (by decide) ?_
    walk_at "nm"
    have dml : ∀ {T : Led} {p : Addr × Cell}, p ∈ l2 → p ∈ stackLed st ++ (T ++ l2) := fun h => List.mem_append_right _ (List.mem_append_right _ h)
    have ldk : (dkvs vs).length = vs.length := by simp [dkvs]
    refine ⟨dm, _, _, _, _, G, _, fun k ys G' l' => G = G' ∧ ∃ (T : Led) (ps : List (Addr × Key)), l' = (L, .ns (frT ⟨L, cv, ca, cc, cdm, A, Q, .ref bs, cl, dm, vc⟩ c d e f g' h' i)) :: (cv, .cl ov) :: (ca, .cl (some (.ref A))) :: (cc, .cl (some (.ref vc))) :: (cdm, .cl (some (.ref dm))) :: (A, .sd asg) :: (Q, .lst (queueOf st)) :: (stackLed st ++ (T ++ l2)) ∧
      ys = (ps.map (·.1)).map .ref ∧ ps.map (fun p => p.2.strip) = (keysOf vs cs).take k ∧ (∀ p ∈ ps, (p.1, p.2.cell) ∈ T), Iter.keys w dm (dkvs vs) ep, rfl, H₁, by rw [ldk]; have := N.three; omega, ⟨rfl, [], [], rfl, rfl, rfl, by intro p hp; cases hp⟩, ?_, ?_, ?_⟩
    · rintro i ys G' l' ⟨rfl, T, ps, rfl, -⟩ p hp
      simp only [List.mem_singleton] at hp
      subst hp
      exact .tail _ (.tail _ (.tail _ (.tail _ (.tail _ (.tail _ (.tail _ (dml hdm)))))))
    · rintro k v ys C D I G' l' kv s₂ hk ⟨nm, xv, tk, hnm, rfl⟩ hys hkv ⟨rfl, T, ps, rfl, rfl, hps, hpT⟩ H₂
      have hk' : k < vs.length := by rw [← ldk]; exact hk
      obtain ⟨o, rfl⟩ := kv1 hkv
      have hxm : vs[k] ∈ vs := List.getElem_mem hk'
      have hnmx : nm = (vs[k]).n ∧ xv = .ref (vs[k]).D := by
        unfold dkvs at hnm
        rw [List.getElem?_map, List.getElem?_eq_getElem hk'] at hnm
        simp at hnm
        exact ⟨hnm.1.symm, hnm.2.symm⟩
      obtain ⟨rfl, rfl⟩ := hnmx
      have hVo := N.var _ hxm
      obtain ⟨VL, ts, hVL1, hVL2, hVL3⟩ := N.vk.2 _ hxm
      refine wpAny_assign_Name (e_store H₂ (by walk_at "zip") (by walk_at "put") (fun s₃ H₃ => ?_))
      refine wpAny_tests_nil ?_
      rw [if_pos rfl]
      have t10 : ∀ {p q1 q2 q3 q4 q5 q6 q7 q8 q9 q10 : Addr × Cell}, p ∈ l2 → p ∈ q1 :: q2 :: q3 :: q4 :: q5 :: q6 :: q7 :: q8 :: q9 :: q10 :: (stackLed st ++ (T ++ l2)) := fun h => .tail _ (.tail _ (.tail _ (.tail _ (.tail _ (.tail _ (.tail _ (.tail _ (.tail _ (.tail _ (dml h))))))))))
      refine Tuple_ (args_cons (UnaryOp_ (Call_ ?_)))
      walk_at "bi"
      refine c_bi (args_cons (x_sub ?_ (fun o i => ⟨_, rfl⟩)))
      walk_at "nmc"
      walk_at "nmc"
      refine ⟨notpy_T (H₃.dict (d := vc) (kvs := vk) (t10 hvc)).typeIs PySem.F.slot_dict_getitem.lookup, ?_⟩
      refine d_get H₃ (t10 hvc) hVL1 (fun s₄ H₄ => ?_)
      refine args_nil (l_len H₄ (t10 (hneed _ hVL2)) ?_ (fun t1 s₅ H₅ => ?_))
      · rw [hVL3.length]
        exact Nat.le_trans (List.length_filter_le _ _) (Nat.le_trans N.few (by decide))
      refine e_neg H₅ (fun t2 s₆ H₆ => ?_)
      refine args_cons (Call_ ?_)
      walk_at "bi"
      refine c_bi (args_cons (x_sub ?_ (fun o i => ⟨_, rfl⟩)))
      walk_at "nmc"
      walk_at "nmc"
      refine ⟨notpy_T (dk_at (H₆.get (t10 hdm))).dictOf.typeIs PySem.F.slot_dict_getitem.lookup, ?_⟩
      refine d_getk H₆ (t10 hdm) (valueAt_mem N.dknd (List.mem_map_of_mem (f := fun v : Var => (v.n, Value.ref v.D)) hxm)) (fun s₇ H₇ => ?_)
      refine args_nil (dom_len B H₇ (t10 (hneed _ hVo.D)) (Nat.le_trans hVo.le (by decide)) (fun t3 s₈ H₈ => ?_))
      refine args_cons ?_
      walk_at "nmc"
      refine args_nil (e_newTuple H₈ (fun t s₉ H₉ => ?_) (by rw [sizeLine_eq]; exact Nat.le_of_ble_eq_true rfl))
      refine ⟨_, G, _, rfl, ⟨rfl, (t, _) :: T, ps ++ [(t, ⟨-(ts.length : Int), ((vs[k]).vals.length : Nat), (vs[k]).n, t2, t3, tk⟩)], rfl, by simp, ?_, ?_⟩, H₉.perm ((to_front [_, _, _, _, _, _, _, _, _, _]).trans (List.Perm.append_left [_, _, _, _, _, _, _, _, _, _] List.perm_middle.symm))⟩
      · rw [List.map_append, hps, List.take_add_one]
        congr 1
        unfold keysOf
        rw [List.getElem?_map, List.getElem?_eq_getElem hk', hVL3.length]
        rfl
      · intro p hp
        rcases List.mem_append.mp hp with hp | hp
        · exact .tail _ (hpT p hp)
        · simp only [List.mem_singleton] at hp
          subst hp
          exact .head _
    rintro D ys G' l' ⟨rfl, T, ps, rfl, rfl, hps, hpT⟩
    refine ⟨_, _, _, .head, by walk_at "put", fun s₂ H₂ => ⟨rfl, ?_⟩⟩
    rw [ldk, List.take_of_length_le (by rw [keys_len]; exact Nat.le_refl _)] at hps
    have hlen : ps.length = vs.length := by
      have := congrArg List.length hps
      rw [List.length_map, keys_len] at this
      exact this
    refine wpAny_Expr_any (m_bi0 PySem.F.plainAttrs_list PyProof.Rows.slot_list_sort PySem.F.type_list_sort ?_)
    walk_at "nm"
    refine ⟨_, _, _, _, _, _, H₂, rfl, by walk_at "mem", rfl, b_lsort (ks := ps.map (·.2)) (as := ps.map (·.1)) H₂ .head (by simp) (by rw [List.length_map, hlen]; exact N.one) (by rw [List.length_map, hlen]; exact N.three) ?_ (fun s₃ H₃ => ?_)⟩
    · intro j a k e1 e2 c
      rw [List.getElem?_map, Option.map_eq_some_iff] at e1 e2
      obtain ⟨p, hp, rfl⟩ := e1
      obtain ⟨p', hp', rfl⟩ := e2
      rw [hp] at hp'
      cases hp'
      exact .tail _ (.tail _ (.tail _ (.tail _ (.tail _ (.tail _ (.tail _ (.tail _ (List.mem_append_right _ (List.mem_append_left _ (hpT p (List.mem_of_getElem? hp)))))))))))
    · refine ⟨rfl, ov, d, e, f, g', h', i, done, D, _, T, H₃.perm ?_, hst, sorted_paired hps hpT N.three⟩
      exact (to_front [_, _, _, _, _, _, _]).trans (List.Perm.append_left [_, _, _, _, _, _, _] List.perm_middle.symm)
  case hN =>
    intro os G l2 x xs asg st s hneed hT
    obtain ⟨ov, d, e, f, g', h', i, done, D, vl0, T, H₁, hst, hP⟩ := hT
    have hord := hst.order
    have hnm := hst.names
    have hxv : x ∈ vs := (ordV_perm N.three).mem_iff.mp (by rw [← hord]; simp)
    have hVo := N.var _ hxv
    have hxn : x.n ∉ asg.map (·.1) := by
      rw [hnm]
      have nd : ((ordV vs cs).map (·.n)).Nodup := ((ordV_perm N.three).map (·.n)).nodup_iff.mpr N.nd
      rw [← hord, List.map_append, List.map_cons, List.nodup_append] at nd
      intro hm
      exact nd.2.2 x.n hm x.n (.head _) rfl
    unfold GIL at H₁
    simp only [List.cons_append] at H₁
    have hdm := hneed _ N.dm
    have dml : ∀ {p : Addr × Cell}, p ∈ l2 → p ∈ stackLed st ++ (D, Cell.lst vl0) :: (T ++ l2) := fun h => List.mem_append_right _ (.tail _ (List.mem_append_right _ h))
    have hDm : (D, Cell.lst vl0) ∈ stackLed st ++ (D, Cell.lst vl0) :: (T ++ l2) := List.mem_append_right _ (.head _)
    have tm : ∀ {p : Addr × Cell}, p ∈ T → p ∈ stackLed st ++ (D, Cell.lst vl0) :: (T ++ l2) := fun h => List.mem_append_right _ (.tail _ (List.mem_append_left _ h))
    refine x_for (g := g) (os := os) ?_
    walk_at "nm"
    refine ⟨D, _, _, _, _, G, _, fun k G' l' => G = G' ∧ k ≤ done.length ∧ ∃ it, l' = (L, .ns (frT ⟨L, cv, ca, cc, cdm, A, Q, .ref bs, cl, dm, vc⟩ (some (.ref D)) it e f g' h' i)) :: (cv, .cl ov) :: (ca, .cl (some (.ref A))) :: (cc, .cl (some (.ref vc))) :: (cdm, .cl (some (.ref dm))) :: (A, .sd asg) :: (Q, .lst (queueOf st)) :: (stackLed st ++ (D, .lst vl0) :: (T ++ l2)), Iter.list w D vl0, rfl, H₁, ⟨rfl, Nat.zero_le _, d, rfl⟩, ?_, ?_, ?_⟩
    · rintro k G' l' ⟨rfl, -, it, rfl⟩ p hp
      simp only [List.mem_singleton] at hp
      subst hp
      exact .tail _ (.tail _ (.tail _ (.tail _ (.tail _ (.tail _ (.tail _ hDm))))))
    · rintro k v I G' l' s₂ hk hitem ⟨rfl, hkd, it, rfl⟩ H₂
      obtain ⟨y, hy, t, p, q, tok, rfl, ht⟩ := Paired.get hP hitem
      have t8 : ∀ {p q1 q2 q3 q4 q5 q6 q7 q8 : Addr × Cell}, p ∈ stackLed st ++ (D, Cell.lst vl0) :: (T ++ l2) → p ∈ q1 :: q2 :: q3 :: q4 :: q5 :: q6 :: q7 :: q8 :: (stackLed st ++ (D, Cell.lst vl0) :: (T ++ l2)) := fun h => .tail _ (.tail _ (.tail _ (.tail _ (.tail _ (.tail _ (.tail _ (.tail _ h)))))))
      have ht8 := fun q1 q2 q3 q4 q5 q6 q7 q8 => t8 (q1 := q1) (q2 := q2) (q3 := q3) (q4 := q4) (q5 := q5) (q6 := q6) (q7 := q7) (q8 := q8) (tm ht)
      refine wpAny_assign_Name (e_store H₂ (by walk_at "zip") (by walk_at "put") (fun s₃ H₃ => ?_))
      refine wpAny_execs_cons (wpAny_If (wpAny_isTrue_Compare1 (x_sub ?_ (fun o i => ⟨_, rfl⟩))))
      walk_at "nm"
      refine UnaryOp_ (e_int H₃ (fun t1 s₄ H₄ => e_neg H₄ (fun t2 s₅ H₅ => ⟨notpy_T (H₅.tup (ht8 _ _ _ _ _ _ _ _)).typeIs PySem.F.slot_tuple_getitem.lookup, ?_⟩)))
      refine t_item H₅ (ht8 _ _ _ _ _ _ _ _) (by decide) (by decide) (j := 2) rfl rfl ?_
      walk_at "nm"
      refine d_notin H₅ (by walk_at "mem") (fun s₆ H₆ => wpAny_truthy_bool ?_)
      rcases Nat.lt_or_ge k done.length with hlt | hge
      · have hyd : y ∈ done := by
          rw [← hord, List.getElem?_append_left hlt] at hy
          exact List.mem_of_getElem? hy
        refine ite_neg (by rw [valueAt_in (by rw [hnm]; exact List.mem_map_of_mem (f := fun v : Var => v.n) hyd)]; decide) ?_
        exact wpAny_execs_nil (wpAny_execs_nil ⟨G, _, ⟨rfl, hlt, _, rfl⟩, H₆⟩)
      · have : k = done.length := Nat.le_antisymm hkd hge
        subst this
        have hyx : y = x := by
          rw [← hord, List.getElem?_append_right (Nat.le_refl _), Nat.sub_self] at hy
          exact (Option.some.inj hy).symm
        subst hyx
        refine ite_pos (by rw [valueAt_none hxn]; rfl) ?_
        refine wpAny_execs_cons (wpAny_Assign_Name (x_sub ?_ (fun o i => ⟨_, rfl⟩)))
        walk_at "nm"
        refine UnaryOp_ (e_int H₆ (fun t1 s₇ H₇ => e_neg H₇ (fun t2 s₈ H₈ => ⟨notpy_T (H₈.tup (ht8 _ _ _ _ _ _ _ _)).typeIs PySem.F.slot_tuple_getitem.lookup, ?_⟩)))
        refine t_item H₈ (ht8 _ _ _ _ _ _ _ _) (by decide) (by decide) (j := 2) rfl rfl ?_
        refine e_storeC (ca := cv) H₈ (by rfl) (by walk_at "zip") (fun s₉ H₉ => ?_)
        refine wpAny_execs_cons (wpAny_Assign_Name (x_sub (x_sub ?_ (fun o i => ⟨_, rfl⟩)) (fun o i => ⟨_, rfl⟩)))
        walk_at "nm"
        walk_at "nm"
        refine ⟨notpy_T (dk_at (H₉.get (t8 (dml hdm)))).dictOf.typeIs PySem.F.slot_dict_getitem.lookup, ?_⟩
        refine d_getk H₉ (t8 (dml hdm)) (valueAt_mem N.dknd (List.mem_map_of_mem (f := fun v : Var => (v.n, Value.ref v.D)) hxv)) (fun s₁₀ H₁₀ => ?_)
        refine x_all H₁₀ (fun sl s₁₁ H₁₁ hsl => ⟨notpy_dom B H₁₁ (t8 (dml (hneed _ hVo.D))), ?_⟩)
        refine getItem_domslice B H₁₁ (t8 (dml (hneed _ hVo.D))) (Nat.le_trans hVo.le (by decide)) hsl (fun vl s₁₂ H₁₂ => ?_)
        refine e_store H₁₂ (by walk_at "zip") (by walk_at "put") (fun s₁₃ H₁₃ => ?_)
        refine wpAny_execs_cons (wpAny_If (isTrue_plain ?_))
        walk_at "nm"
        refine wpAny_truthy_bool ?_
        refine ite_neg (by decide) ?_
        refine wpAny_execs_cons (wpAny_Assign_Name (wpAny_Constant_none ?_))
        refine e_store H₁₃ (by walk_at "zip") (by walk_at "put") (fun s₁₄ H₁₄ => ?_)
        refine wpAny_execs_nil ?_
        refine wpAny_execs_cons (wpAny_Break ?_)
        refine ⟨rfl, tok, vl, some (.ref D), some (.ref t), g', h', i, asg, done, (H₁₄.sub (l' := (vl, .lst y.vals) :: (L, .ns (frT ⟨L, cv, ca, cc, cdm, A, Q, .ref bs, cl, dm, vc⟩ (some (.ref D)) (some (.ref t)) (some (.ref vl)) (some .none) g' h' i)) :: (cv, .cl (some (.str y.n tok))) :: (ca, .cl (some (.ref A))) :: (cc, .cl (some (.ref vc))) :: (cdm, .cl (some (.ref dm))) :: (A, .sd asg) :: (Q, .lst (queueOf st)) :: (stackLed st ++ l2)) ?_).perm ?_, .inl ⟨rfl, ?_⟩, hst, fun _ h => h, hVo.le⟩
        · refine List.Sublist.cons₂ _ (List.Sublist.cons _ ?_)
          repeat refine List.Sublist.cons₂ _ ?_
          exact (List.Sublist.refl _).append (.cons _ (List.sublist_append_right _ _))
        · exact (to_front [_, _, _, _, _, _, _]).trans (List.Perm.append_left [_, _, _, _, _, _, _] List.perm_middle.symm)
        · intro e
          have := hVo.ne
          rw [e] at this
          cases this
    · rintro G' l' s₂ ⟨rfl, hkd, -⟩ -
      have := hP.length
      rw [← hord, List.length_append, List.length_cons] at this
      omega
  case hE =>
    intro Φ os G l2 asg st s hneed hT hΦ
    obtain ⟨ov, d, e, f, g', h', i, done, D, vl0, T, H₁, hst, hP⟩ := hT
    have hord := hst.order
    have hnm := hst.names
    rw [List.append_nil] at hord
    unfold GIL at H₁
    simp only [List.cons_append] at H₁
    have hDm : (D, Cell.lst vl0) ∈ stackLed st ++ (D, Cell.lst vl0) :: (T ++ l2) := List.mem_append_right _ (.head _)
    have tm : ∀ {p : Addr × Cell}, p ∈ T → p ∈ stackLed st ++ (D, Cell.lst vl0) :: (T ++ l2) := fun h => List.mem_append_right _ (.tail _ (List.mem_append_left _ h))
    have t8 : ∀ {p q1 q2 q3 q4 q5 q6 q7 q8 : Addr × Cell}, p ∈ stackLed st ++ (D, Cell.lst vl0) :: (T ++ l2) → p ∈ q1 :: q2 :: q3 :: q4 :: q5 :: q6 :: q7 :: q8 :: (stackLed st ++ (D, Cell.lst vl0) :: (T ++ l2)) := fun h => .tail _ (.tail _ (.tail _ (.tail _ (.tail _ (.tail _ (.tail _ (.tail _ h)))))))
    have hneedD : ∀ it, ∀ p ∈ [(D, Cell.lst vl0)], p ∈ (L, Cell.ns (frT ⟨L, cv, ca, cc, cdm, A, Q, .ref bs, cl, dm, vc⟩ (some (.ref D)) it e f g' h' i)) :: (cv, Cell.cl ov) :: (ca, Cell.cl (some (.ref A))) :: (cc, Cell.cl (some (.ref vc))) :: (cdm, Cell.cl (some (.ref dm))) :: (A, Cell.sd asg) :: (Q, Cell.lst (queueOf st)) :: (stackLed st ++ (D, Cell.lst vl0) :: (T ++ l2)) := by
      intro it p hp
      simp only [List.mem_singleton] at hp
      subst hp
      exact .tail _ (.tail _ (.tail _ (.tail _ (.tail _ (.tail _ (.tail _ hDm))))))
    refine sg_For ?_
    walk_at "nm"
    refine (Iter.list w D vl0).start H₁ (hneedD _) (fun I s₂ H₂ p => ?_)
    refine sg_forLoop (fun n s => ∃ k it, n + k = vl0.length ∧ Ok w g os G ((I, .it "list_iterator" (.fields #[.ref D, .int (k : Nat) 0])) :: (L, .ns (frT ⟨L, cv, ca, cc, cdm, A, Q, .ref bs, cl, dm, vc⟩ (some (.ref D)) it e f g' h' i)) :: (cv, .cl ov) :: (ca, .cl (some (.ref A))) :: (cc, .cl (some (.ref vc))) :: (cdm, .cl (some (.ref dm))) :: (A, .sd asg) :: (Q, .lst (queueOf st)) :: (stackLed st ++ (D, .lst vl0) :: (T ++ l2))) s) ?_ vl0.length s₂ ⟨0, _, rfl, H₂⟩
    rintro n s₃ ⟨k, it, hnk, H₃⟩
    rcases Nat.lt_or_ge k vl0.length with hk | hk
    · refine (Iter.list w D vl0).next H₃ (hneedD _) hk (fun v s₄ hitem H₄ => ?_)
      refine (Iter.list w D vl0).owned H₄ ?_
      obtain ⟨y, hy, t, p', q, tok, rfl, ht⟩ := Paired.get hP hitem
      have ht8 := fun q1 q2 q3 q4 q5 q6 q7 q8 => t8 (q1 := q1) (q2 := q2) (q3 := q3) (q4 := q4) (q5 := q5) (q6 := q6) (q7 := q7) (q8 := q8) (tm ht)
      refine wpAny_assign_Name (e_store H₄ (by walk_at "zip") (by walk_at "put") (fun s₅ H₅ => ?_))
      refine wpAny_execs_cons (wpAny_If (wpAny_isTrue_Compare1 (x_sub ?_ (fun o i => ⟨_, rfl⟩))))
      walk_at "nm"
      refine UnaryOp_ (e_int H₅ (fun t1 s₆ H₆ => e_neg H₆ (fun t2 s₇ H₇ => ⟨notpy_T (H₇.tup (ht8 _ _ _ _ _ _ _ _)).typeIs PySem.F.slot_tuple_getitem.lookup, ?_⟩)))
      refine t_item H₇ (ht8 _ _ _ _ _ _ _ _) (by decide) (by decide) (j := 2) rfl rfl ?_
      walk_at "nm"
      refine d_notin H₇ (by walk_at "mem") (fun s₈ H₈ => wpAny_truthy_bool ?_)
      have hyd : y ∈ done := by
        rw [← hord] at hy
        exact List.mem_of_getElem? hy
      refine ite_neg (by rw [valueAt_in (by rw [hnm]; exact List.mem_map_of_mem (f := fun v : Var => v.n) hyd)]; decide) ?_
      exact wpAny_execs_nil (wpAny_execs_nil ⟨.inl rfl, n - 1, by omega, k + 1, _, by omega, H₈⟩)
    · have : k = vl0.length := by omega
      subst this
      refine (Iter.list w D vl0).stop rfl H₃ (hneedD _) (fun s₄ H₄ => ?_)
      clear H₃ H₂ H₁
      refine sg_block (sg_cons (sg_Yield rfl rfl ?_))
      refine m_bi0 PySem.F.plainAttrs_dict PySem.F.slot_dict_copy PySem.F.type_dict_copy ?_
      walk_at "nm"
      have hasg : asg.length ≤ 3 := by
        have e1 := congrArg List.length hnm
        have e2 := congrArg List.length hord
        have e3 := ordV_len (cs := cs) N.three
        simp only [List.length_map] at e1
        omega
      refine ⟨_, _, _, _, _, _, H₄, rfl, by walk_at "mem", rfl, d_copy H₄ (by walk_at "mem") (by omega) (fun dd s₅ H₅ => ?_)⟩
      intro lv k' p1 hk'
      refine hΦ _ _ dd (GIL ⟨L, cv, ca, cc, cdm, A, Q, .ref bs, cl, dm, vc⟩ ov (frT ⟨L, cv, ca, cc, cdm, A, Q, .ref bs, cl, dm, vc⟩ (some (.ref D)) it e f g' h' i) asg st) rfl rfl (H₅.sub ?_) ?_
      · unfold GIL
        simp only [List.cons_append]
        repeat refine List.Sublist.cons₂ _ ?_
        exact (List.Sublist.refl _).append (.cons _ (List.sublist_append_right _ _))
      intro Φ' os' G' l2' s₆ hneed' H₆ h0 h1
      clear H₅ H₄
      unfold GIL at H₆
      simp only [List.cons_append] at H₆
      show SG w (AR 500 5000) Φ' _ (k' (.send .none)) _ s₆
      refine hk' _ _ _ ?_
      refine sg_cons (sg_exec' (wpAny_If (wpAny_isTrue_Not (isTrue_plain ?_))))
      have hlen2 : st.length ≤ 3 := by
        have e1 := hst.len
        have e2 := congrArg List.length hord
        have e3 := ordV_len (cs := cs) N.three
        omega
      walk_at "nm"
      refine l_truthy H₆ (by walk_at "mem") (by simp [queueOf]; omega) (fun s₇ H₇ => ?_)
      cases st with
      | nil =>
        refine ite_pos (by rfl) ?_
        refine wpAny_execs_cons (wpAny_Return_none ?_)
        refine sg_leaf (.ok (.ret .none)) ?_
        refine sg_leaf (.ok (.ret .none)) ?_
        refine sg_end (.ok (.ret .none)) (h0 rfl _ (H₇.sub ?_))
        show List.Sublist l2' (_ :: _ :: _ :: _ :: _ :: _ :: _ :: ([] ++ l2'))
        rw [List.nil_append]
        walk_at "subl"
      | cons e0 st2 =>
        refine ite_neg (by simp [queueOf]) ?_
        refine wpAny_execs_nil ?_
        have eq1 : queueOf (e0 :: st2) = queueOf st2 ++ [.ref e0.t] := by simp [queueOf]
        have eq2 : stackLed (e0 :: st2) ++ l2' = (e0.t, .tup [.str e0.nd.x.n e0.tok, .ref e0.vl, .none]) :: (e0.vl, .lst e0.nd.rem) :: (stackLed st2 ++ l2') := by simp [stackLed]
        rw [eq1, eq2] at H₇
        obtain ⟨done3, v3, hd3, ha3, hx3, hst3, hr3, hl3, -⟩ := hst
        refine sg_cons (sg_exec' (Assign_Tuple (m_bi0 PySem.F.plainAttrs_list PySem.F.slot_list_pop PySem.F.type_list_pop ?_)))
        walk_at "nm"
        refine ⟨_, _, _, _, _, _, H₇, rfl, by walk_at "mem", rfl, b_pop H₇ (by walk_at "zip") (by simp [queueOf]; simp at hlen2; omega) (fun s₈ H₈ => ?_)⟩
        refine a_tup3 H₈ (by walk_at "mem") (fun s₉ H₉ => ?_)
        refine e_storeC (ca := cv) H₉ (by rfl) (by walk_at "zip") (fun s₁₀ H₁₀ => ?_)
        refine e_store H₁₀ (by walk_at "zip") (by walk_at "put") (fun s₁₁ H₁₁ => ?_)
        refine e_store H₁₁ (by walk_at "zip") (by walk_at "put") (fun s₁₂ H₁₂ => ?_)
        refine sg_cons (sg_exec' (wpAny_If (isTrue_plain ?_)))
        walk_at "nm"
        refine truthy_none ?_
        refine ite_neg (by decide) ?_
        refine wpAny_execs_nil ?_
        refine sg_nil ?_
        refine sg_leaf (.ok .next) ?_
        refine h1 e0 st2 rfl _ ⟨e0.tok, e0.vl, some (.ref D), it, g', h', i, asg, done3, (H₁₂.sub (l' := (L, .ns (frT ⟨L, cv, ca, cc, cdm, A, Q, .ref bs, cl, dm, vc⟩ (some (.ref D)) it (some (.ref e0.vl)) (some .none) g' h' i)) :: (cv, .cl (some (.str e0.nd.x.n e0.tok))) :: (ca, .cl (some (.ref A))) :: (cc, .cl (some (.ref vc))) :: (cdm, .cl (some (.ref dm))) :: (A, .sd asg) :: (Q, .lst (queueOf st2)) :: (e0.vl, .lst e0.nd.rem) :: (stackLed st2 ++ l2')) ?_).perm ?_, .inr ⟨v3, ha3⟩, by rw [hx3]; exact hst3, hr3, hl3⟩
        · repeat refine List.Sublist.cons₂ _ ?_
          exact .cons _ (List.Sublist.refl _)
        · unfold GIL
          simp only [List.cons_append]
          repeat refine List.Perm.cons _ ?_
          exact List.perm_middle.symm
  case h4 =>
    intro os G l2 x xs asg rem st s hneed hM
    have nod : ∀ {st : List SN} {done xs : List Var} {asg : List (Str × Value)} {x : Var}, StOk (ordV vs cs) done (x :: xs) asg st → x.n ∉ asg.map (·.1) := by
      intro st done xs asg x hst
      rw [hst.names]
      have e := hst.order
      have nd : ((ordV vs cs).map (·.n)).Nodup := ((ordV_perm N.three).map (·.n)).nodup_iff.mpr N.nd
      rw [← e, List.map_append, List.map_cons, List.nodup_append] at nd
      intro hm
      exact nd.2.2 x.n hm x.n (.head _) rfl
    refine x_while (fun k s' => ∃ x' xs' asg' rem' st', k = (⟨asg', x', rem', xs'⟩ : Node).cost + costs (nodes st') ∧ k ≤ (⟨asg, x, rem, xs⟩ : Node).cost + costs (nodes st) ∧ Mid w g (ordV vs cs) ⟨L, cv, ca, cc, cdm, A, Q, .ref bs, cl, dm, vc⟩ os G l2 x' xs' asg' rem' st' s' ∧
      tries cs ⟨asg, x, rem, xs⟩ ++ backs cs (nodes st) = tries cs ⟨asg', x', rem', xs'⟩ ++ backs cs (nodes st')) ?_ _ ⟨x, xs, asg, rem, st, rfl, Nat.le_refl _, hM, rfl⟩
    rintro k s₁ ⟨x1, xs1, asg1, rem1, st1, rfl, hk, hM1, hsol⟩
    refine isTrue_plain ?_
    rw [eval_Constant]
    refine wpAny_pure (wpAny_truthy_bool ?_)
    rw [if_pos rfl]
    refine wpAny_execs_cons (wpAny_mono (Q := fun f s' => (f = .ret .none ∧ tries cs ⟨asg1, x1, rem1, xs1⟩ ++ backs cs (nodes st1) = [] ∧ Ok w g os G l2 s') ∨ (f = .next ∧ ∃ x2 xs2 asg2 rem2 v2 st2, (⟨asg2, x2, rem2 ++ [v2], xs2⟩ : Node).cost + costs (nodes st2) ≤ (⟨asg1, x1, rem1, xs1⟩ : Node).cost + costs (nodes st1) ∧ Mid w g (ordV vs cs) ⟨L, cv, ca, cc, cdm, A, Q, .ref bs, cl, dm, vc⟩ os G l2 x2 xs2 asg2 (rem2 ++ [v2]) st2 s' ∧
      tries cs ⟨asg1, x1, rem1, xs1⟩ ++ backs cs (nodes st1) = tries cs ⟨asg2, x2, rem2 ++ [v2], xs2⟩ ++ backs cs (nodes st2))) ?ifp (fun f s' q => ?_) fun _ _ x => x)
    case ifp =>
      have hM1' := hM1
      obtain ⟨tok, vl, c, d, g', h', i, kvs, done, H₁, hkv, hst, hr1, hr2⟩ := hM1
      unfold GIL at H₁
      simp only [List.cons_append] at H₁
      refine wpAny_If (wpAny_isTrue_Not (isTrue_plain ?_))
      walk_at "nm"
      have hvl : (vl, Cell.lst rem1) ∈ stackLed st1 ++ (vl, Cell.lst rem1) :: l2 := List.mem_append_right _ (.head _)
      refine l_truthy H₁ (.tail _ (.tail _ (.tail _ (.tail _ (.tail _ (.tail _ (.tail _ hvl))))))) (by omega) (fun s₂ H₂ => ?_)
      rcases List.eq_nil_or_concat rem1 with rfl | ⟨rem2, v2, rfl⟩
      · refine ite_pos (by simp) ?_
        obtain ⟨v0, rfl⟩ : ∃ v, kvs = asg1 ++ [(x1.n, v)] := by
          rcases hkv with ⟨-, h0⟩ | h0
          · exact absurd rfl h0
          · exact h0
        have hno := nod hst
        have hlen1 : asg1.length ≤ 3 := by
          have e1 := congrArg List.length hst.names
          have e2 := congrArg List.length hst.order
          have e3 := ordV_len (cs := cs) N.three
          simp only [List.length_map] at e1
          rw [List.length_append] at e2
          omega
        refine wpAny_execs_cons (wpAny_Delete (wpAny_deleteEach_cons (wpAny_delete_Subscript ?_)))
        walk_at "nm"
        walk_at "nm"
        refine d_del H₂ (by walk_at "zip") (by simp; omega) (by rw [valueAt_last hno]; rfl) (fun s₃ H₃ => ?_)
        rw [without_last hno] at H₃
        refine wpAny_deleteEach_nil ?_
        have hT : Top w g (ordV vs cs) ⟨L, cv, ca, cc, cdm, A, Q, .ref bs, cl, dm, vc⟩ os G l2 (x1 :: xs1) asg1 st1 s₃ := ⟨some (.str x1.n tok), c, d, some (.ref vl), some .none, g', h', i, done, H₃.sub (by
          unfold GIL
          simp only [List.cons_append]
          repeat refine List.Sublist.cons₂ _ ?_
          exact (List.Sublist.refl _).append (List.sublist_cons_self ..)), hst⟩
        clear H₃ H₂ H₁
        refine wpAny_execs_cons (x_while (fun k2 s' => ∃ xs' asg' st', k2 = st'.length ∧ Top w g (ordV vs cs) ⟨L, cv, ca, cc, cdm, A, Q, .ref bs, cl, dm, vc⟩ os G l2 xs' asg' st' s' ∧ costs (nodes st') ≤ costs (nodes st1) ∧ backs cs (nodes st1) = backs cs (nodes st')) ?_ _ ⟨_, _, st1, rfl, hT, Nat.le_refl _, rfl⟩)
        rintro k2 s₄ ⟨xs2, asg2, st2, rfl, ⟨ov2, c2, d2, e2, f2, g2, h2, i2, done2, H₄, hst2⟩, hc2, hb2⟩
        unfold GIL at H₄
        simp only [List.cons_append] at H₄
        have hlen2 : st2.length ≤ 3 := by
          have e1 := hst2.len
          have e2 := congrArg List.length hst2.order
          have e3 := ordV_len (cs := cs) N.three
          rw [List.length_append] at e2
          omega
        refine isTrue_plain ?_
        walk_at "nm"
        refine l_truthy H₄ (by walk_at "mem") (by simp [queueOf]; omega) (fun s₅ H₅ => ?_)
        cases st2 with
        | nil =>
          rw [show (!(queueOf []).isEmpty) = false from rfl]
          rw [if_neg (by decide)]
          refine wpAny_execs_cons (wpAny_Return_none (.inl ⟨rfl, ?_, H₅.sub ?_⟩))
          · rw [hb2]
            simp [tries, backs, nodes]
          · show List.Sublist l2 (_ :: _ :: _ :: _ :: _ :: _ :: _ :: ([] ++ l2))
            rw [List.nil_append]
            walk_at "subl"
        | cons e0 st2 =>
          rw [show (!(queueOf (e0 :: st2)).isEmpty) = true by simp [queueOf]]
          rw [if_pos rfl]
          have eq1 : queueOf (e0 :: st2) = queueOf st2 ++ [.ref e0.t] := by simp [queueOf]
          have eq2 : stackLed (e0 :: st2) ++ l2 = (e0.t, .tup [.str e0.nd.x.n e0.tok, .ref e0.vl, .none]) :: (e0.vl, .lst e0.nd.rem) :: (stackLed st2 ++ l2) := by simp [stackLed]
          rw [eq1, eq2] at H₅
          obtain ⟨done3, v3, hd3, ha3, hx3, hst3, hr3, hl3, -⟩ := hst2
          have hno3 := nod hst3
          have hlen3 : e0.nd.asg.length ≤ 3 := by
            have e1 := congrArg List.length hst3.names
            have e2 := congrArg List.length hst3.order
            have e3 := ordV_len (cs := cs) N.three
            simp only [List.length_map] at e1
            rw [List.length_append] at e2
            omega
          subst ha3
          refine wpAny_execs_cons (Assign_Tuple (m_bi0 PySem.F.plainAttrs_list PySem.F.slot_list_pop PySem.F.type_list_pop ?_))
          walk_at "nm"
          refine ⟨_, _, _, _, _, _, H₅, rfl, by walk_at "mem", rfl, b_pop H₅ (by walk_at "zip") (by simp [queueOf]; simp at hlen2; omega) (fun s₆ H₆ => ?_)⟩
          refine a_tup3 H₆ (by walk_at "mem") (fun s₇ H₇ => ?_)
          refine e_storeC (ca := cv) H₇ (by rfl) (by walk_at "zip") (fun s₈ H₈ => ?_)
          refine e_store H₈ (by walk_at "zip") (by walk_at "put") (fun s₉ H₉ => ?_)
          refine e_store H₉ (by walk_at "zip") (by walk_at "put") (fun s₁₀ H₁₀ => ?_)
          refine wpAny_execs_cons (wpAny_If (isTrue_plain ?_))
          walk_at "nm"
          refine truthy_none ?_
          refine ite_neg (by decide) ?_
          refine wpAny_execs_nil ?_
          refine wpAny_execs_cons (wpAny_If (isTrue_plain ?_))
          walk_at "nm"
          refine l_truthy H₁₀ (by walk_at "mem") (by omega) (fun s₁₁ H₁₁ => ?_)
          have ec : costs (nodes (e0 :: st2)) = e0.nd.cost + costs (nodes st2) := by simp [costs, nodes]
          have eb : backs cs (nodes (e0 :: st2)) = tries cs e0.nd ++ backs cs (nodes st2) := by simp [backs, nodes]
          rw [ec] at hc2
          rw [eb] at hb2
          subst hx3
          rcases List.eq_nil_or_concat e0.nd.rem with hrem | ⟨rem3, v4, hrem⟩
          · rw [hrem]
            refine ite_neg (by decide) ?_
            refine wpAny_execs_nil ?_
            refine wpAny_execs_cons (wpAny_Delete (wpAny_deleteEach_cons (wpAny_delete_Subscript ?_)))
            walk_at "nm"
            walk_at "nm"
            refine d_del H₁₁ (by walk_at "zip") (by simp; omega) (by rw [valueAt_last hno3]; rfl) (fun s₁₂ H₁₂ => ?_)
            rw [without_last hno3] at H₁₂
            refine wpAny_deleteEach_nil (wpAny_execs_nil ⟨st2.length, by simp, e0.nd.x :: e0.nd.xs, e0.nd.asg, st2, rfl, ⟨some (.str e0.nd.x.n e0.tok), c2, d2, some (.ref e0.vl), some .none, g2, h2, i2, done3, H₁₂.sub ?_, hst3⟩, by omega, ?_⟩)
            · unfold GIL
              simp only [List.cons_append]
              repeat refine List.Sublist.cons₂ _ ?_
              exact .cons _ (.cons _ (List.Sublist.refl _))
            · rw [hb2]
              simp [tries, hrem]
          · rw [List.concat_eq_append] at hrem
            refine ite_pos (by rw [hrem]; simp) ?_
            refine wpAny_execs_cons (wpAny_Break ?_)
            refine wpAny_execs_nil (.inr ⟨rfl, e0.nd.x, e0.nd.xs, e0.nd.asg, rem3, v4, st2, ?_, ⟨e0.tok, e0.vl, c2, d2, g2, h2, i2, _, done3, (H₁₁.sub (l' := (L, .ns (frT ⟨L, cv, ca, cc, cdm, A, Q, .ref bs, cl, dm, vc⟩ c2 d2 (some (.ref e0.vl)) (some .none) g2 h2 i2)) :: (cv, .cl (some (.str e0.nd.x.n e0.tok))) :: (ca, .cl (some (.ref A))) :: (cc, .cl (some (.ref vc))) :: (cdm, .cl (some (.ref dm))) :: (A, .sd (e0.nd.asg ++ [(e0.nd.x.n, v3)])) :: (Q, .lst (queueOf st2)) :: (e0.vl, .lst (rem3 ++ [v4])) :: (stackLed st2 ++ l2)) ?_).perm ?_, .inr ⟨v3, rfl⟩, hst3, by rw [← hrem]; exact hr3, by rw [← hrem]; exact hl3⟩, ?_⟩)
            · rw [← hrem]
              show e0.nd.cost + _ ≤ _
              exact Nat.le_trans hc2 (Nat.le_add_left _ _)
            · rw [hrem]
              repeat refine List.Sublist.cons₂ _ ?_
              exact .cons _ (List.Sublist.refl _)
            · unfold GIL
              simp only [List.cons_append]
              repeat refine List.Perm.cons _ ?_
              exact List.perm_middle.symm
            · rw [← hrem, show tries cs ⟨asg1, x1, [], xs1⟩ = [] from rfl, List.nil_append, hb2]
      · rw [List.concat_eq_append] at *
        refine ite_neg (by simp) ?_
        refine wpAny_execs_nil (.inr ⟨rfl, x1, xs1, asg1, rem2, v2, st1, Nat.le_refl _, ⟨tok, vl, c, d, g', h', i, kvs, done, H₂, hkv, hst, hr1, hr2⟩, rfl⟩)
    rcases q with ⟨rfl, q1, q2⟩ | ⟨rfl, x2, xs2, asg2, rem2, v2, st2, hc2, hM2, hs2⟩
    · exact .inl ⟨rfl, by rw [hsol]; exact q1, q2⟩
    clear hM1
    obtain ⟨tok, vl, c, d, g', h', i, kvs, done, H₁, hkv, hst, hr1, hr2⟩ := hM2
    unfold GIL at H₁
    simp only [List.cons_append] at H₁
    have hno := nod hst
    have hlen : asg2.length ≤ 3 := by
      have e1 := congrArg List.length hst.names
      have e2 := congrArg List.length hst.order
      have e3 := ordV_len (cs := cs) N.three
      simp only [List.length_map] at e1
      rw [List.length_append] at e2
      omega
    have hstore : stored kvs x2.n v2 = asg2 ++ [(x2.n, v2)] ∧ kvs.length ≤ 4 := by
      rcases hkv with ⟨rfl, -⟩ | ⟨v0, rfl⟩
      · exact ⟨stored_new hno, by omega⟩
      · exact ⟨stored_last hno, by simp; omega⟩
    have hvl : (vl, Cell.lst (rem2 ++ [v2])) ∈ stackLed st2 ++ (vl, Cell.lst (rem2 ++ [v2])) :: l2 := List.mem_append_right _ (.head _)
    have hlr : rem2.length ≤ 100000 := by
      rw [List.length_append] at hr2
      omega
    refine wpAny_execs_cons (wpAny_Assign_Subscript (m_bi0 PySem.F.plainAttrs_list PySem.F.slot_list_pop PySem.F.type_list_pop ?_))
    walk_at "nm"
    refine ⟨_, _, _, _, _, _, H₁, rfl, .tail _ (.tail _ (.tail _ (.tail _ (.tail _ (.tail _ (.tail _ hvl)))))), rfl, b_pop H₁ (.tail (.tail (.tail (.tail (.tail (.tail (.tail (Zip.app Zip.head)))))))) hlr (fun s₂ H₂ => ?_)⟩
    walk_at "nm"
    walk_at "nm"
    refine d_set H₂ (by walk_at "zip") (by omega) (fun s₃ H₃ => ?_)
    rw [hstore.1] at H₃
    refine wpAny_execs_cons (wpAny_If (isTrue_plain ?_))
    walk_at "nm"
    refine truthy_none ?_
    refine ite_neg (by decide) ?_
    refine wpAny_execs_nil ?_
    have hxv : x2 ∈ vs := (ordV_perm N.three).mem_iff.mp (by rw [← hst.order]; simp)
    obtain ⟨VL, ts, hVL1, hVL2, hVL3⟩ := N.vk.2 x2 hxv
    have hVLm := hneed _ hVL2
    have hvcm := hneed _ N.vc
    have hVLc : (VL, Cell.lst ts) ∈ stackLed st2 ++ (vl, Cell.lst rem2) :: l2 := List.mem_append_right _ (.tail _ hVLm)
    have hvcc : (vc, Cell.sd vk) ∈ stackLed st2 ++ (vl, Cell.lst rem2) :: l2 := List.mem_append_right _ (.tail _ hvcm)
    refine wpAny_execs_cons (x_for (g := g) (os := os) (x_sub ?_ (fun o i => ⟨_, rfl⟩)))
    walk_at "nm"
    walk_at "nm"
    refine ⟨notpy_T (H₃.dict (d := vc) (kvs := vk) (.tail _ (.tail _ (.tail _ (.tail _ (.tail _ (.tail _ (.tail _ hvcc)))))))).typeIs PySem.F.slot_dict_getitem.lookup, ?_⟩
    refine d_get H₃ (.tail _ (.tail _ (.tail _ (.tail _ (.tail _ (.tail _ (.tail _ hvcc))))))) hVL1 (fun s₄ H₄ => ?_)
    refine ⟨VL, _, _, _, _, G, _, fun k G' l' => G = G' ∧ ∃ hh ii, l' = (L, .ns (frT ⟨L, cv, ca, cc, cdm, A, Q, .ref bs, cl, dm, vc⟩ c d (some (.ref vl)) (some .none) g' hh ii)) :: (cv, .cl (some (.str x2.n tok))) :: (ca, .cl (some (.ref A))) :: (cc, .cl (some (.ref vc))) :: (cdm, .cl (some (.ref dm))) :: (A, .sd (asg2 ++ [(x2.n, v2)])) :: (Q, .lst (queueOf st2)) :: (stackLed st2 ++ (vl, .lst rem2) :: l2) ∧
      ∀ c ∈ (cs.filter (touches x2.n)).take k, chk c.m (valueAt (asg2 ++ [(x2.n, v2)]) c.n1) (valueAt (asg2 ++ [(x2.n, v2)]) c.n2) = true, Iter.list w VL ts, rfl, H₄, ⟨rfl, _, _, rfl, fun c hc => by simp at hc⟩, ?_, ?_, ?_⟩
    · rintro k G' l' ⟨rfl, hh, ii, rfl, -⟩ p hp
      simp only [List.mem_singleton] at hp
      subst hp
      exact .tail _ (.tail _ (.tail _ (.tail _ (.tail _ (.tail _ (.tail _ hVLc))))))
    · rintro k v I G' l' s₅ hk hitem ⟨rfl, hh, ii, rfl, hall⟩ H₅
      obtain ⟨cn, hcn, t, rfl, ht⟩ := Paired.get hVL3 hitem
      have hcm : cn ∈ cs := (List.mem_filter.mp (List.mem_of_getElem? hcn)).1
      have hCo := N.con cn hcm
      have inl : ∀ {p : Addr × Cell}, p ∈ need → p ∈ stackLed st2 ++ (vl, Cell.lst rem2) :: l2 := fun h => List.mem_append_right _ (.tail _ (hneed _ h))
      refine a_tup2 H₅ (.tail _ (.tail _ (.tail _ (.tail _ (.tail _ (.tail _ (.tail _ (.tail _ (inl ht))))))))) (fun s₆ H₆ => ?_)
      refine e_store H₆ (by walk_at "zip") (by walk_at "put") (fun s₇ H₇ => ?_)
      refine e_store H₇ (by walk_at "zip") (by walk_at "put") (fun s₈ H₈ => ?_)
      have t8 : ∀ {p : Addr × Cell} {q1 q2 q3 q4 q5 q6 q7 q8 : Addr × Cell} {r : Led}, p ∈ r → p ∈ q1 :: q2 :: q3 :: q4 :: q5 :: q6 :: q7 :: q8 :: r := fun h => .tail _ (.tail _ (.tail _ (.tail _ (.tail _ (.tail _ (.tail _ (.tail _ h)))))))
      refine wpAny_execs_cons (wpAny_If (wpAny_isTrue_Not (isTrue_plain (Call_ ?_))))
      walk_at "nm"
      refine c_inst (C := 336) (f := 333) (dx := cn.dfc) (by kernel_rfl) (by kernel_rfl) (by kernel_rfl) (args_cons ?_)
      walk_at "nm"
      refine args_cons ?_
      walk_at "nm"
      refine args_cons ?_
      walk_at "nm"
      refine args_cons ?_
      walk_at "nm"
      refine args_nil ⟨g, os, G, _, _, B, H₈, t8 (inl hCo.fc), t8 (inl hCo.dfc), spec_call B H₈ (t8 (inl hCo.fc)) (t8 (inl hCo.dfc)) (t8 (inl hCo.fn)) hCo.calls (fun p hp => t8 (inl (hCo.need p hp))) (t8 (inl hCo.vl)) (by walk_at "mem") ?_ (by omega) (fun s₉ H₉ => ?_)⟩
      · intro n v hv
        obtain ⟨p, hp, rfl⟩ := mem_valueAt hv
        have : ∃ y ∈ ordV vs cs, p.2 ∈ y.vals := by
          rcases List.mem_append.mp hp with hp | hp
          · exact hst.vals p hp
          · simp only [List.mem_singleton] at hp
            subst hp
            exact ⟨x2, by rw [← hst.order]; simp, hr1 v2 (by simp)⟩
        obtain ⟨y, hy, hp⟩ := this
        exact (N.var y ((ordV_perm N.three).mem_iff.mp hy)).sm _ hp
      · refine wpAny_truthy_bool ?_
        cases hchk : chk cn.m (valueAt (asg2 ++ [(x2.n, v2)]) cn.n1) (valueAt (asg2 ++ [(x2.n, v2)]) cn.n2) with
        | true =>
          refine ite_neg (by decide) ?_
          refine wpAny_execs_nil (wpAny_execs_nil ⟨G, _, ⟨rfl, _, _, rfl, fun c' hc' => ?_⟩, H₉⟩)
          rw [List.take_add_one, hcn] at hc'
          rcases List.mem_append.mp hc' with hc' | hc'
          · exact hall c' hc'
          · simp at hc'
            subst hc'
            exact hchk
        | false =>
          refine ite_pos rfl ?_
          refine wpAny_execs_cons (wpAny_Break ?_)
          refine wpAny_execs_cons (wpAny_If (isTrue_plain ?_))
          walk_at "nm"
          refine truthy_none ?_
          refine ite_neg (by decide) ?_
          refine wpAny_execs_nil (wpAny_execs_nil ?_)
          have hok : okAt cs asg2 x2 v2 = false := by
            unfold okAt
            rw [List.all_eq_false]
            exact ⟨cn, List.mem_of_getElem? hcn, by rw [hchk]; decide⟩
          refine ⟨(⟨asg2, x2, rem2, xs2⟩ : Node).cost + costs (nodes st2), ?_, x2, xs2, asg2, rem2, st2, rfl, ?_, ⟨tok, vl, c, d, g', _, _, _, done, H₉.tail, .inr ⟨v2, rfl⟩, hst, fun y hy => hr1 y (List.mem_append_left _ hy), by rw [List.length_append] at hr2; omega⟩, ?_⟩
          · rw [cost_snoc] at hc2
            omega
          · rw [cost_snoc] at hc2
            omega
          · rw [hsol, hs2, tries_snoc, hok]
            rfl
    · rintro G' l' s₅ ⟨rfl, hh, ii, rfl, hall⟩ H₅
      have hok : okAt cs asg2 x2 v2 = true := by
        unfold okAt
        rw [List.all_eq_true]
        rw [hVL3.length, List.take_length] at hall
        exact hall
      refine wpAny_execs_cons (wpAny_Break ?_)
      refine .inr ⟨rfl, asg2, x2, v2, rem2, xs2, st2, ?_, ?_, ⟨tok, vl, c, d, g', hh, ii, done, H₅, hst, fun y hy => hr1 y (List.mem_append_left _ hy), by rw [List.length_append] at hr2; omega, hr1 v2 (by simp)⟩⟩
      · rw [hsol, hs2, tries_snoc, hok, if_pos rfl, List.append_assoc]
      · rw [cost_snoc] at hc2
        omega
  case h5 =>
    intro os G l2 x xs asg v rem st s hneed hM
    obtain ⟨tok, vl, c, d, g', h', i, done, H₁, hst, hr1, hr2, hvx⟩ := hM
    have hlen : (queueOf st).length ≤ 100000 := by
      have e1 := hst.len
      have e2 := congrArg List.length hst.order
      have e3 : (ordV vs cs).length ≤ 3 := by
        exact ordV_len N.three
      unfold queueOf
      rw [List.length_map, List.length_reverse, e1]
      rw [List.length_append] at e2
      omega
    unfold GIL at H₁
    simp only [List.cons_append] at H₁
    refine wpAny_Expr_any (m_bi PySem.F.plainAttrs_list PySem.F.slot_list_append PySem.F.type_list_append ?_)
    walk_at "nm"
    refine ⟨_, _, _, _, _, _, H₁, rfl, by walk_at "mem", rfl, args_cons (Tuple_ (args_cons ?_))⟩
    walk_at "nm"
    refine args_cons ?_
    walk_at "nm"
    refine args_cons ?_
    walk_at "nm"
    refine args_nil (e_newTuple H₁ (fun t s₂ H₂ => ?_) (by rw [sizeLine_eq]; exact Nat.le_of_ble_eq_true rfl))
    refine args_nil (b_append H₂ (.tail (.tail (.tail (.tail (.tail (.tail (.tail .head))))))) hlen (fun s₃ H₃ => ?_))
    refine ⟨rfl, ⟨⟨asg, x, rem, xs⟩, t, vl, tok⟩, rfl, ?_⟩
    refine ⟨some (.str x.n tok), c, d, some (.ref vl), some .none, g', h', i, done ++ [x], ?_, done, v, rfl, rfl, rfl, hst, hr1, hr2, hvx⟩
    have eq : queueOf ((⟨⟨asg, x, rem, xs⟩, t, vl, tok⟩ : SN) :: st) = queueOf st ++ [.ref t] := by simp [queueOf]
    unfold GIL
    rw [eq]
    exact H₃.perm ((to_front [_, _, _, _, _, _, _]).trans (List.Perm.append_left [_, _, _, _, _, _, _] (List.Perm.cons _ List.perm_middle)))
end
end Mine
end
section
open PySem PySem.W PySem.Calls PyProof.Rows PySem.W.X
set_option Elab.async false
set_option maxRecDepth 100000
set_option maxHeartbeats 8000000
set_option linter.unusedVariables false
namespace Mine
local macro_rules | `(tactic| walk_at "mem") => `(tactic| first | assumption | exact List.Mem.head _ | (refine' List.Mem.tail _ ?_; walk_at "mem") | (refine' List.mem_append_right _ ?_; walk_at "mem") | (refine' List.mem_append_left _ ?_; walk_at "mem") | exact Zip.at' (by assumption) | exact Zip.keep (by assumption) (by walk_at "mem") (by intro e; cases e))
local macro_rules | `(tactic| walk_at "zip") => `(tactic| first | assumption | exact Zip.head | exact Zip.tail (by walk_at "zip") | exact Zip.app (by walk_at "zip") | exact Zip.again (by assumption))
local macro_rules | `(tactic| walk_at "kv") => `(tactic| first | with_reducible_and_instances exact List.Mem.head _ | (refine' List.Mem.tail _ ?_; walk_at "kv") | assumption)
local macro_rules | `(tactic| walk_at "put") => `(tactic| first | with_reducible exact Put.head | exact Put.tail (by walk_at "put"))
local macro_rules | `(tactic| walk_at "putd") => `(tactic| first | with_reducible exact PutD.head | with_reducible exact PutD.nil | exact PutD.tail (by decide) (by walk_at "putd"))
local macro_rules | `(tactic| walk_at "nm") => `(tactic| first
  | (refine e_local (by assumption) (by walk_at "mem") (by walk_at "kv") ?_)
  | (refine e_cell (by assumption) (by rfl) (by walk_at "mem") ?_)
  | (refine e_free (by assumption) (by rfl) (by walk_at "mem") ?_))
local macro_rules | `(tactic| walk_at "gl") => `(tactic| refine e_global (by assumption) (by assumption) (by first | with_reducible exact gl_Problem _ | with_reducible exact gl_BacktrackingSolver _ | with_reducible exact gl_Domain _ | with_reducible exact gl_Constraint _ | with_reducible exact gl_FunctionConstraint _ | with_reducible exact gl_law_yes _ | with_reducible exact gl_law_rule _ | with_reducible exact gl_law_due _) ?_)
local macro_rules | `(tactic| walk_at "bi") => `(tactic| refine e_builtin (by assumption) (by assumption) (by first | with_reducible exact bn_isinstance _ | with_reducible exact bn_callable _ | with_reducible exact bn_list _ | with_reducible exact bn_tuple _ | with_reducible exact bn_len _ | with_reducible exact bn_range _ | with_reducible exact bn_next _ | with_reducible exact bn_dict _ | with_reducible exact bn_sorted _ | with_reducible exact bn_iter _) (by first | with_reducible exact bb_isinstance | with_reducible exact bb_callable | with_reducible exact bb_list | with_reducible exact bb_tuple | with_reducible exact bb_len | with_reducible exact bb_range | with_reducible exact bb_next | with_reducible exact bb_dict | with_reducible exact bb_sorted | with_reducible exact bb_iter) ?_)
local macro_rules | `(tactic| walk_at "ns") => `(tactic| (show (_ : List Str).Nodup; dsimp only [List.map, List.nil_append, List.cons_append, List.append_nil]; decide +kernel))
local macro_rules | `(tactic| walk_at "lt") => `(tactic| (show _ < 1000; omega))
local macro_rules | `(tactic| x_close) => `(tactic| exact xq_of (by first | assumption | exact Mem.start _) (by first | rfl | assumption))
local macro_rules | `(tactic| walk_at "ga") => `(tactic| refine i_get (by assumption) (by assumption) (by walk_at "mem") (by exact rfl) (by walk_at "mem") (by first | exact cls110 _ | exact cls186 _ | exact cls336 _) (by kernel_rfl) (by walk_at "kv") (by exact rfl) ?_)
local macro_rules | `(tactic| walk_at "sa") => `(tactic| refine i_set (by assumption) (by assumption) (by walk_at "mem") (by walk_at "zip") (by first | exact cls110 _ | exact cls186 _ | exact cls336 _) (by kernel_rfl) (by kernel_rfl) (by walk_at "putd") (Nat.le_of_ble_eq_true rfl) ?_)
local macro_rules | `(tactic| walk_at "st") => `(tactic| refine e_store (by assumption) (by walk_at "zip") (by walk_at "put") ?_)
local macro_rules | `(tactic| walk_at "nmc") => `(tactic| first
  | (refine e_local (by assumption) (List.Mem.head _) (by first | exact List.Mem.head _ | exact List.Mem.tail _ (List.Mem.head _) | exact List.Mem.tail _ (List.Mem.tail _ (List.Mem.head _))) ?_)
  | (refine e_cell (by assumption) (by rfl) (by walk_at "mem") ?_)
  | (refine e_free (by assumption) (by rfl) (by walk_at "mem") ?_))
local macro_rules | `(tactic| walk_at "subl") => `(tactic| first | exact List.Sublist.refl _ | (refine' List.Sublist.cons _ ?_; walk_at "subl"))
section
variable {w : World} {g : Heap} {os : OsState} {G : Array GenState} {l l' : Led} {s : Shared} {a : Addr} {c c' : Cell} {f : Cell → Led} {A : Around} {E : Value → Shared → Prop}
/-! ## walkers: a generator, or the iterator of an empty tuple -/
structure Wk where
  (a : Addr) (gi : Option Nat) (need own : Led) (sols : List (List (Str × Value)))
inductive WkOk (w : World) (g : Heap) (G : Array GenState) (k : Wk) : Prop
  | gen (gi : Nat) (nm qn : Value) (IL : Led) (gs : GenState) (e : k.gi = some gi) (o : k.own = (k.a, .ob (genO gi nm qn)) :: IL) (h : G[gi]? = some gs) (r : Ready w g k.need k.sols gs IL)
  | fin (gi : Nat) (nm qn : Value) (e : k.gi = some gi) (o : k.own = [(k.a, .ob (genO gi nm qn))]) (h : G[gi]? = some .finished) (r : k.sols = [])
  | it0 (tp : Addr) (e : k.gi = none) (o : k.own = [(k.a, .it "tuple_iterator" (.fields #[.ref tp, .int 0 0])), (tp, .tup [])]) (r : k.sols = [])
  | it1 (e : k.gi = none) (o : k.own = [(k.a, .it "tuple_iterator" (.fields #[.none, .int 0 0]))]) (r : k.sols = [])
/-- the other generators are as they were -/
theorem bare_set {G : Array GenState} {gi : Nat} {x : GenState} (h : AllBare G) (hx : x.bare = true) : AllBare (G.setIfInBounds gi x) := by
  intro y hy
  obtain ⟨j, hj⟩ := Array.mem_iff_getElem?.mp hy
  rw [Array.getElem?_setIfInBounds] at hj
  split at hj
  · split at hj
    · cases hj; exact hx
    · cases hj
  · exact h y (Array.mem_iff_getElem?.mpr ⟨j, hj⟩)
def GEx (gi : Option Nat) (G G' : Array GenState) : Prop := G'.size = G.size ∧ (∀ j, some j ≠ gi → G'[j]? = G[j]?) ∧ (AllBare G → AllBare G')
theorem GEx.set (G : Array GenState) (gi : Nat) (x : GenState) (hx : x.bare = true) : GEx (some gi) G (G.setIfInBounds gi x) := by
  refine ⟨by simp, fun j hj => ?_, fun h => bare_set h hx⟩
  rw [Array.getElem?_setIfInBounds]
  rw [if_neg (fun e => hj (by rw [e]))]
theorem GEx.refl (gi : Option Nat) (G : Array GenState) : GEx gi G G := ⟨rfl, fun _ _ => rfl, id⟩
theorem set_get {G : Array GenState} {gi : Nat} {x y : GenState} (h : G[gi]? = some y) : (G.setIfInBounds gi x)[gi]? = some x := by
  rw [Array.getElem?_setIfInBounds]
  have : gi < G.size := by
    rcases Nat.lt_or_ge gi G.size with h' | h'
    · exact h'
    · rw [Array.getElem?_eq_none h'] at h; cases h
  simp [this]
theorem it_next1 {d u : Nat} {I : Addr} {Q : Option Value → Shared → Prop} {E : Value → Shared → Prop} (H : Ok w g os G l s) (hI : (I, .it "tuple_iterator" (.fields #[.none, .int 0 0])) ∈ l) (h : ∀ s', Ok w g os G l s' → Q none s') :
    wpAny (model P0 w) (AR d u) (pyNext (.ref I)) Q E s := by
  obtain ⟨o, ho, hc, hd⟩ := H.get hI
  unfold pyNext
  refine wpAny_bind (wpAny_attempt (wpAny_callSpecial?_slot (name := Str.ofString "__next__") ⟨o, ho, hc⟩ PySem.F.slot_tuple_iterator_next
    (wpAny_call_entry PySem.F.slot_tuple_iterator_next ⟨o, ho, hc⟩ PySem.F.entry_tuple_iterator_next ?_ (PySem.F.args_tuple_iterator_next_1 _))))
  show wpAny _ _ (field (.ref I) 0 >>= _) _ _ s
  refine wpAny_bind (wpAny_field ho hd (x := .none) rfl ?_)
  show wpAny _ _ (if (Value.none == Value.none) = true then _ else _) _ _ s
  rw [if_pos (by decide)]
  refine wpAny_bind (wpAny_rule (wpAny_bind ?_))
  show wpAny _ _ (newExc (.type "StopIteration") [] >>= _) _ _ _
  refine wpAny_bind ?_
  simp only [newExc, newTuple]
  refine wpAny_bind (wpAny_newObj_type ?_ (by size_fits))
  refine wpAny_bind (m := firstArgMember _ _) (wpAny_of_eq (a := Value.none) (by first | rfl | (simp only [firstArgMember]; rfl)) ?_)
  refine wpAny_newObj_type ?_ (by size_fits)
  simp only [raiseNew]
  refine wpAny_bind (wpAny_handled (wpAny_bind (wpAny_pure (wpAny_throw ?_))))
  refine wpAny_bind (wpAny_isInstance (T := "StopIteration") (b := true) ⟨_, Heap.get?_push_size _ rfl, rfl⟩ isSubtype_stop ?_)
  exact wpAny_pure (h _ (H.ext (t := s.toks) (fun b o hb => Heap.get?_push_of_some _ (Heap.get?_push_of_some _ hb))))
theorem it_next0 {d u : Nat} {I tp : Addr} {Q : Option Value → Shared → Prop} {E : Value → Shared → Prop} (H : Ok w g os G ((I, .it "tuple_iterator" (.fields #[.ref tp, .int 0 0])) :: l) s) (htp : (tp, .tup []) ∈ l)
    (h : ∀ s', Ok w g os G ((I, .it "tuple_iterator" (.fields #[.none, .int 0 0])) :: l) s' → Q none s') :
    wpAny (model P0 w) (AR d u) (pyNext (.ref I)) Q E s := by
  obtain ⟨o, ho, hc, hd⟩ := H.get (.head _)
  obtain ⟨n, hn⟩ := H.get (.tail _ htp)
  unfold pyNext
  refine wpAny_bind (wpAny_attempt (wpAny_callSpecial?_slot (name := Str.ofString "__next__") ⟨o, ho, hc⟩ PySem.F.slot_tuple_iterator_next
    (wpAny_call_entry PySem.F.slot_tuple_iterator_next ⟨o, ho, hc⟩ PySem.F.entry_tuple_iterator_next ?_ (PySem.F.args_tuple_iterator_next_1 _))))
  show wpAny _ _ (field (.ref I) 0 >>= _) _ _ s
  refine wpAny_bind (wpAny_field ho hd (x := .ref tp) rfl ?_)
  show wpAny _ _ (if (Value.ref tp == Value.none) = true then _ else _) _ _ s
  rw [if_neg (show ¬ ((Value.ref tp == Value.none) = true) from Bool.false_ne_true)]
  show wpAny _ _ (field (.ref I) 1 >>= _) _ _ s
  refine wpAny_bind (wpAny_field ho hd (x := .int 0 0) rfl ?_)
  show wpAny _ _ (seqItems? (.ref tp) >>= _) _ _ s
  refine wpAny_bind (wpAny_seqItems hn rfl ?_)
  show wpAny _ _ (rule _ >>= _) _ _ s
  refine wpAny_bind (wpAny_rule (wpAny_bind (wpAny_setField ho hd (by simp) ?_)))
  have H' : Ok w g os G ((I, .it "tuple_iterator" (.fields #[.none, .int 0 0])) :: l) { s with heap := s.heap.update I (Obj.mapFields (·.setIfInBounds 0 Value.none)) } := by
    refine H.set (t := s.toks) (c' := .it "tuple_iterator" (.fields #[.none, .int 0 0])) .head (Heap.SameBut.update ..) ?_
    exact ⟨_, Heap.get?_update_self _ ho (Obj.isFreed_of_fields (Obj.data_mapFields hd _)), (Obj.cls_mapFields ..).trans hc, by rw [Obj.data_mapFields hd]; rfl⟩
  show wpAny _ _ (newExc (.type "StopIteration") [] >>= _) _ _ _
  refine wpAny_bind ?_
  simp only [newExc, newTuple]
  refine wpAny_bind (wpAny_newObj_type ?_ (by size_fits))
  refine wpAny_bind (m := firstArgMember _ _) (wpAny_of_eq (a := Value.none) (by first | rfl | (simp only [firstArgMember]; rfl)) ?_)
  refine wpAny_newObj_type ?_ (by size_fits)
  simp only [raiseNew]
  refine wpAny_bind (wpAny_handled (wpAny_bind (wpAny_pure (wpAny_throw ?_))))
  refine wpAny_bind (wpAny_isInstance (T := "StopIteration") (b := true) ⟨_, Heap.get?_push_size _ rfl, rfl⟩ isSubtype_stop ?_)
  exact wpAny_pure (h _ (H'.ext (t := s.toks) (fun b o hb => Heap.get?_push_of_some _ (Heap.get?_push_of_some _ hb))))
/-- the next solution of a walker -/
theorem w_next {d u : Nat} {k : Wk} {Q : Option Value → Shared → Prop} {E : Value → Shared → Prop} (B : Base w g) (H : Ok w g os G (k.own ++ l) s) (hk : WkOk w g G k) (hneed : ∀ p ∈ k.need, p ∈ l) (hd : d ≤ 450) (hu : u ≤ 4000)
    (h0 : k.sols = [] → ∀ G' own' s', GEx k.gi G G' → WkOk w g G' { k with own := own' } → Ok w g os G' (own' ++ l) s' → Q none s')
    (h1 : ∀ sol r, k.sols = sol :: r → ∀ dd G' own' s', GEx k.gi G G' → WkOk w g G' { k with own := own', sols := r } → Ok w g os G' ((dd, .sd sol) :: (own' ++ l)) s' → Q (some (.ref dd)) s') :
    wpAny (model P0 w) (AR d u) (pyNext (.ref k.a)) Q E s := by
  cases hk with
  | gen gi nm qn IL gs e o hG r =>
    rw [o] at H
    refine g_next B (l2 := (k.a, .ob (genO gi nm qn)) :: l) (H.perm (to_front IL)) (.head _) hG r (fun p hp => .tail _ (hneed p hp)) hd hu (fun he s' H' => ?_) (fun sol rr he dd IL' gs' s' R' hb H' => ?_)
    · exact h0 he _ [(k.a, .ob (genO gi nm qn))] s' (by rw [e]; exact GEx.set G gi _ rfl) (.fin gi nm qn e rfl (set_get hG) he) H'
    · exact h1 sol rr he dd _ ((k.a, .ob (genO gi nm qn)) :: IL') s' (by rw [e]; exact GEx.set G gi _ hb) (.gen gi nm qn IL' gs' e rfl (set_get hG) R') (H'.perm (List.Perm.cons _ List.perm_middle))
  | fin gi nm qn e o hG r =>
    refine g_next_fin H (by rw [o]; exact .head _) hG (fun s' H' => ?_)
    exact h0 r G k.own s' (GEx.refl _ _) (.fin gi nm qn e o hG r) H'
  | it0 tp e o r =>
    rw [o] at H
    refine it_next0 (l := (tp, .tup []) :: l) H (.head _) (fun s' H' => ?_)
    exact h0 r G [(k.a, .it "tuple_iterator" (.fields #[.none, .int 0 0]))] s' (GEx.refl _ _) (.it1 e rfl r) (H'.sub (List.Sublist.cons₂ _ (List.sublist_cons_self ..)))
  | it1 e o r =>
    refine it_next1 H (by rw [o]; exact .head _) (fun s' H' => ?_)
    exact h0 r G k.own s' (GEx.refl _ _) (.it1 e o r) H'
theorem w_iter {d u : Nat} {k : Wk} {Q : Value → Shared → Prop} {E : Value → Shared → Prop} (H : Ok w g os G (k.own ++ l) s) (hk : WkOk w g G k) (h : Q (.ref k.a) s) : wpAny (model P0 w) (AR d u) (pyIter (.ref k.a)) Q E s := by
  have it : ∀ x, (k.a, Cell.it "tuple_iterator" (.fields #[x, .int 0 0])) ∈ k.own → wpAny (model P0 w) (AR d u) (pyIter (.ref k.a)) Q E s := by
    intro x hx
    obtain ⟨o, ho, hc, hd⟩ := H.get (List.mem_append_left _ hx)
    refine wpAny_pyIter_slot ⟨o, ho, hc⟩ PySem.F.slot_tuple_iterator_iter (wpAny_call_entry PySem.F.slot_tuple_iterator_iter ⟨o, ho, hc⟩ PySem.F.entry_tuple_iterator_iter ?_ (PySem.F.args_tuple_iterator_iter_1 _))
    exact wpAny_pure ⟨_, rfl, "tuple_iterator", _, ⟨o, ho, hc⟩, PySem.F.slot_tuple_iterator_next.lookup, h⟩
  cases hk with
  | gen gi nm qn IL gs e o hG r => exact wpAny_pyIter_gen (genO_is (gi := gi) (nm := nm) (qn := qn) (H.get (c := .ob (genO gi nm qn)) (List.mem_append_left _ (by rw [o]; exact .head _)))) h
  | fin gi nm qn e o hG r => exact wpAny_pyIter_gen (genO_is (gi := gi) (nm := nm) (qn := qn) (H.get (c := .ob (genO gi nm qn)) (List.mem_append_left _ (by rw [o]; exact .head _)))) h
  | it0 tp e o r => exact it _ (by rw [o]; exact .head _)
  | it1 e o r => exact it _ (by rw [o]; exact .head _)
theorem WkOk.ex {G' : Array GenState} {k k' : Wk} {gi : Option Nat} (h : WkOk w g G k) (e : GEx gi G G') (n : k.gi ≠ gi ∨ gi = none) : WkOk w g G' k := by
  have key : ∀ j, k.gi = some j → G'[j]? = G[j]? := by
    intro j hj
    refine e.2.1 j ?_
    rcases n with n | n
    · rw [← hj]; exact n
    · rw [n]; intro h; cases h
  cases h with
  | gen gi nm qn IL gs e o hG r => exact .gen gi nm qn IL gs e o ((key gi e).trans hG) r
  | fin gi nm qn e o hG r => exact .fin gi nm qn e o ((key gi e).trans hG) r
  | it0 tp e o r => exact .it0 tp e o r
  | it1 e o r => exact .it1 e o r
theorem WkOk.push {k : Wk} (h : WkOk w g G k) (x : GenState) : WkOk w g (G.push x) k := by
  have key : ∀ (j : Nat) (y : GenState), G[j]? = some y → (G.push x)[j]? = some y := by
    intro j y hj
    have : j < G.size := by
      rcases Nat.lt_or_ge j G.size with h' | h'
      · exact h'
      · rw [Array.getElem?_eq_none h'] at hj; cases hj
    rw [Array.getElem?_push_lt this, ← hj, Array.getElem?_eq_getElem this]
  cases h with
  | gen gi nm qn IL gs e o hG r => exact .gen gi nm qn IL gs e o (key _ _ hG) r
  | fin gi nm qn e o hG r => exact .fin gi nm qn e o (key _ _ hG) r
  | it0 tp e o r => exact .it0 tp e o r
  | it1 e o r => exact .it1 e o r
/-- next(walk, None) -/
theorem w_next2 {d u : Nat} {k : Wk} {Q : Value → Shared → Prop} {E : Value → Shared → Prop} (B : Base w g) (H : Ok w g os G (k.own ++ l) s) (hk : WkOk w g G k) (hneed : ∀ p ∈ k.need, p ∈ l) (hd : d ≤ 440) (hu : u ≤ 3900)
    (h0 : k.sols = [] → ∀ G' own' s', GEx k.gi G G' → WkOk w g G' { k with own := own' } → Ok w g os G' (own' ++ l) s' → Q .none s')
    (h1 : ∀ sol r, k.sols = sol :: r → ∀ dd G' own' s', GEx k.gi G G' → WkOk w g G' { k with own := own', sols := r } → Ok w g os G' ((dd, .sd sol) :: (own' ++ l)) s' → Q (.ref dd) s') :
    wpAny (model P0 w) (AR d u) (call (.builtin "next") [.ref k.a, .none]) Q E s := by
  refine call_function_entry (by decide +kernel) (by decide +kernel) kdk_entry_next (kdk_args_next2 _ _) ?_
  unfold Builtin.«next»
  refine wpAny_bind (m := someArgs "next" 1 2 _) (wpAny_of_eq (a := [Value.ref k.a, .none]) (by first | rfl | kernel_rfl!) ?_)
  dsimp only
  have hT : ∃ T id, s.TypeIs (.ref k.a) T ∧ typeLookup (.type T) "__next__" = pure (some (.builtin id)) := by
    have it : ∀ x, (k.a, Cell.it "tuple_iterator" (.fields #[x, .int 0 0])) ∈ k.own → ∃ T id, s.TypeIs (.ref k.a) T ∧ typeLookup (.type T) "__next__" = pure (some (.builtin id)) := by
      intro x hx
      obtain ⟨o, ho, hc, hd⟩ := H.get (List.mem_append_left _ hx)
      exact ⟨"tuple_iterator", _, ⟨o, ho, hc⟩, PySem.F.slot_tuple_iterator_next.lookup⟩
    cases hk with
    | gen gi nm qn IL gs e o hG r => exact ⟨"generator", _, (genO_is (gi := gi) (nm := nm) (qn := qn) (H.get (c := .ob (genO gi nm qn)) (List.mem_append_left _ (by rw [o]; exact .head _)))).typeIs, slot_gen_next.lookup⟩
    | fin gi nm qn e o hG r => exact ⟨"generator", _, (genO_is (gi := gi) (nm := nm) (qn := qn) (H.get (c := .ob (genO gi nm qn)) (List.mem_append_left _ (by rw [o]; exact .head _)))).typeIs, slot_gen_next.lookup⟩
    | it0 tp e o r => exact it _ (by rw [o]; exact .head _)
    | it1 e o r => exact it _ (by rw [o]; exact .head _)
  obtain ⟨T, id, hT, hl⟩ := hT
  refine wpAny_bind (wpAny_specialOf (name := Str.ofString "__next__") hT hl ?_)
  refine wpAny_ite_split (fun hab => by cases hab) (fun _ => ?_)
  refine wpAny_bind ?_
  show wpAny (model P0 w) (AR d (u + 1)) _ _ _ s
  refine w_next B H hk hneed (by omega) (by omega) (fun e G' own' s' a b H' => ?_) (fun sol r e dd G' own' s' a b H' => ?_)
  · exact wpAny_pure ⟨_, rfl, h0 e G' own' s' a b H'⟩
  · exact wpAny_pure ⟨_, rfl, h1 sol r e dd G' own' s' a b H'⟩
end
end Mine
end
section
open PySem PySem.W PySem.Calls PyProof.Rows PySem.W.X
set_option Elab.async false
set_option maxRecDepth 100000
set_option maxHeartbeats 8000000
set_option linter.unusedVariables false
namespace Mine
local macro_rules | `(tactic| walk_at "mem") => `(tactic| first | assumption | exact List.Mem.head _ | (refine' List.Mem.tail _ ?_; walk_at "mem") | (refine' List.mem_append_right _ ?_; walk_at "mem") | (refine' List.mem_append_left _ ?_; walk_at "mem") | exact Zip.at' (by assumption) | exact Zip.keep (by assumption) (by walk_at "mem") (by intro e; cases e))
local macro_rules | `(tactic| walk_at "zip") => `(tactic| first | assumption | exact Zip.head | exact Zip.tail (by walk_at "zip") | exact Zip.app (by walk_at "zip") | exact Zip.again (by assumption))
local macro_rules | `(tactic| walk_at "kv") => `(tactic| first | with_reducible_and_instances exact List.Mem.head _ | (refine' List.Mem.tail _ ?_; walk_at "kv") | assumption)
local macro_rules | `(tactic| walk_at "put") => `(tactic| first | with_reducible exact Put.head | exact Put.tail (by walk_at "put"))
local macro_rules | `(tactic| walk_at "putd") => `(tactic| first | with_reducible exact PutD.head | with_reducible exact PutD.nil | exact PutD.tail (by decide) (by walk_at "putd"))
local macro_rules | `(tactic| walk_at "nm") => `(tactic| first
  | (refine e_local (by assumption) (by walk_at "mem") (by walk_at "kv") ?_)
  | (refine e_cell (by assumption) (by rfl) (by walk_at "mem") ?_)
  | (refine e_free (by assumption) (by rfl) (by walk_at "mem") ?_))
local macro_rules | `(tactic| walk_at "gl") => `(tactic| refine e_global (by assumption) (by assumption) (by first | with_reducible exact gl_Problem _ | with_reducible exact gl_BacktrackingSolver _ | with_reducible exact gl_Domain _ | with_reducible exact gl_Constraint _ | with_reducible exact gl_FunctionConstraint _ | with_reducible exact gl_law_yes _ | with_reducible exact gl_law_rule _ | with_reducible exact gl_law_due _) ?_)
local macro_rules | `(tactic| walk_at "bi") => `(tactic| refine e_builtin (by assumption) (by assumption) (by first | with_reducible exact bn_isinstance _ | with_reducible exact bn_callable _ | with_reducible exact bn_list _ | with_reducible exact bn_tuple _ | with_reducible exact bn_len _ | with_reducible exact bn_range _ | with_reducible exact bn_next _ | with_reducible exact bn_dict _ | with_reducible exact bn_sorted _ | with_reducible exact bn_iter _) (by first | with_reducible exact bb_isinstance | with_reducible exact bb_callable | with_reducible exact bb_list | with_reducible exact bb_tuple | with_reducible exact bb_len | with_reducible exact bb_range | with_reducible exact bb_next | with_reducible exact bb_dict | with_reducible exact bb_sorted | with_reducible exact bb_iter) ?_)
local macro_rules | `(tactic| walk_at "ns") => `(tactic| (show (_ : List Str).Nodup; dsimp only [List.map, List.nil_append, List.cons_append, List.append_nil]; decide +kernel))
local macro_rules | `(tactic| walk_at "lt") => `(tactic| (show _ < 1000; omega))
local macro_rules | `(tactic| x_close) => `(tactic| exact xq_of (by first | assumption | exact Mem.start _) (by first | rfl | assumption))
local macro_rules | `(tactic| walk_at "ga") => `(tactic| refine i_get (by assumption) (by assumption) (by walk_at "mem") (by exact rfl) (by walk_at "mem") (by first | exact cls110 _ | exact cls186 _ | exact cls336 _) (by kernel_rfl) (by walk_at "kv") (by exact rfl) ?_)
local macro_rules | `(tactic| walk_at "sa") => `(tactic| refine i_set (by assumption) (by assumption) (by walk_at "mem") (by walk_at "zip") (by first | exact cls110 _ | exact cls186 _ | exact cls336 _) (by kernel_rfl) (by kernel_rfl) (by walk_at "putd") (Nat.le_of_ble_eq_true rfl) ?_)
local macro_rules | `(tactic| walk_at "st") => `(tactic| refine e_store (by assumption) (by walk_at "zip") (by walk_at "put") ?_)
local macro_rules | `(tactic| walk_at "nmc") => `(tactic| first
  | (refine e_local (by assumption) (List.Mem.head _) (by first | exact List.Mem.head _ | exact List.Mem.tail _ (List.Mem.head _) | exact List.Mem.tail _ (List.Mem.tail _ (List.Mem.head _))) ?_)
  | (refine e_cell (by assumption) (by rfl) (by walk_at "mem") ?_)
  | (refine e_free (by assumption) (by rfl) (by walk_at "mem") ?_))
local macro_rules | `(tactic| walk_at "subl") => `(tactic| first | exact List.Sublist.refl _ | (refine' List.Sublist.cons _ ?_; walk_at "subl"))
section
variable {w : World} {g : Heap} {os : OsState} {G : Array GenState} {l l' : Led} {s : Shared} {a : Addr} {c c' : Cell} {f : Cell → Led} {A : Around} {E : Value → Shared → Prop}
/-! ## list(generator) -/
abbrev dLed (ds : List (Addr × List (Str × Value))) : Led := ds.map fun p => (p.1, Cell.sd p.2)
abbrev dRefs (ds : List (Addr × List (Str × Value))) : List Value := ds.map fun p => .ref p.1
theorem l_extend_loop {d u : Nat} {S ga : Addr} {gi : Nat} {nm qn : Value} {need : Led} (B : Base w g) (hd : d ≤ 440) (hu : u ≤ 3900) : ∀ (sols : List (List (Str × Value))) (gs : GenState) (IL : Led) (G : Array GenState) (ds : List (Addr × List (Str × Value))) (l2 : Led) (s : Shared) (R : Result → Shared → Prop),
    Ok w g os G (IL ++ ((ga, .ob (genO gi nm qn)) :: (S, .lst (dRefs ds)) :: (dLed ds ++ l2))) s → G[gi]? = some gs → Ready w g need sols gs IL → (∀ p ∈ need, p ∈ l2) → ds.length + sols.length ≤ 100000 →
    (∀ ds' G' s', ds'.map (·.2) = ds.map (·.2) ++ sols → GEx (some gi) G G' → Ok w g os G' ((S, .lst (dRefs ds')) :: (dLed ds' ++ l2)) s' → R (.ok (.ret .none)) s') →
    codeAny (model P0 w) (AR d u) (.builtin "list.extend.loop" ⟨[.ref S, .ref ga, .none], []⟩) R s := by
  intro sols
  induction sols with
  | nil =>
    intro gs IL G ds l2 s R H hG hR hneed hz h
    refine codeAny_builtin PySem.F.entry_extend_loop ?_
    rw [Around.under_plainId PySem.F.plain_extend_loop _]
    show wpAny _ (AR d (u + 1)) (pyNext (.ref ga) >>= _) _ _ s
    refine wpAny_bind (g_next B H (.head _) hG hR (fun p hp => .tail _ (.tail _ (List.mem_append_right _ (hneed p hp)))) (by omega) (by omega) (fun e s' H' => ?_) (fun sol r e => by cases e))
    exact wpAny_pure (h ds _ s' (by simp) (GEx.set G gi _ rfl) H'.tail)
  | cons sol r ih =>
    intro gs IL G ds l2 s R H hG hR hneed hz h
    refine codeAny_builtin PySem.F.entry_extend_loop ?_
    rw [Around.under_plainId PySem.F.plain_extend_loop _]
    show wpAny _ (AR d (u + 1)) (pyNext (.ref ga) >>= _) _ _ s
    refine wpAny_bind (g_next B H (.head _) hG hR (fun p hp => .tail _ (.tail _ (List.mem_append_right _ (hneed p hp)))) (by omega) (by omega) (fun e => by cases e) (fun sol' r' e dd IL' gs' s' R' hb H' => ?_))
    cases e
    have z : Zip ((dd, Cell.sd sol) :: (IL' ++ ((ga, .ob (genO gi nm qn)) :: (S, .lst (dRefs ds)) :: (dLed ds ++ l2)))) S (.lst (dRefs ds)) _ := .tail (Zip.app (.tail .head))
    obtain ⟨n, hS⟩ := H'.get z.mem
    show wpAny _ _ (updateSeq S (·.push (.ref dd)) >>= _) _ _ _
    have hlen : ds.length ≤ 100000 := by simp at hz; omega
    refine wpAny_bind (wpAny_updateSeq hS rfl (wpAny_pure ⟨plainId_quiet PySem.F.plain_extend_loop _, ?_⟩) (by rw [List.size_toArray, List.length_map, sizeLine_eq]; omega) (by rw [Array.size_push, List.size_toArray, List.length_map, sizeLine_eq]; omega))
    have H'' := H'.set (t := s'.toks) (c' := .lst (dRefs (ds ++ [(dd, sol)]))) z (Heap.SameBut.update ..) ⟨_, by rw [Heap.get?_update_self (Obj.mapSeq (·.push (Value.ref dd))) hS rfl]; simp [Obj.mapSeq]; rfl⟩
    refine ih gs' IL' _ (ds ++ [(dd, sol)]) l2 _ R (H''.perm ?_) (set_get hG) R' hneed (by simp at hz ⊢; omega) (fun ds' G' s₃ e x H₃ => h ds' G' s₃ (by rw [e]; simp) ?_ H₃)
    · refine (to_front IL').trans (List.Perm.append_left IL' ((to_front [_, _]).trans (List.Perm.append_left [_, _] ?_)))
      have e : dLed (ds ++ [(dd, sol)]) ++ l2 = dLed ds ++ ((dd, .sd sol) :: l2) := by simp [dLed]
      have q : ((dd, Cell.sd sol) :: (dLed ds ++ l2)).Perm (dLed (ds ++ [(dd, sol)]) ++ l2) := by rw [e]; exact List.perm_middle.symm
      exact q
    · refine ⟨x.1.trans (by simp), fun j hj => (x.2.1 j hj).trans ?_, fun h => x.2.2 (bare_set h hb)⟩
      exact (GEx.set G gi gs' hb).2.1 j hj
theorem l_list_gen {d u : Nat} {ga : Addr} {gi : Nat} {nm qn : Value} {gs : GenState} {IL l2 need : Led} {sols : List (List (Str × Value))} {Q : Value → Shared → Prop} {E : Value → Shared → Prop} (B : Base w g) (H : Ok w g os G (IL ++ ((ga, .ob (genO gi nm qn)) :: l2)) s) (hG : G[gi]? = some gs)
    (hR : Ready w g need sols gs IL) (hneed : ∀ p ∈ need, p ∈ l2) (hd : d ≤ 440) (hu : u ≤ 3800) (hz : sols.length ≤ 100000)
    (h : ∀ D ds G' s', ds.map (·.2) = sols → GEx (some gi) G G' → Ok w g os G' ((D, .lst (dRefs ds)) :: (dLed ds ++ l2)) s' → Q (.ref D) s') :
    wpAny (model P0 w) (AR d u) (call (.type "list") [.ref ga]) Q E s := by
  refine callType_codes (Q₁ := fun obj s₁ => obj = .ref s.heap.objs.size ∧ s₁ = { s with heap := s.heap.push { cls := .type "list", data := .seq #[] } }) PySem.F.called_list (PySem.F.typeCall_list_1 _) PySem.F.entry_list_init
    (code_list_new _ ⟨rfl, rfl⟩) fun obj s₁ h₁ => ?_
  obtain ⟨rfl, rfl⟩ := h₁
  have hS : (s.heap.push { cls := .type "list", data := .seq #[] }).get? s.heap.objs.size = some { cls := .type "list", data := .seq #[] } := Heap.get?_push_size _ rfl
  have H1 := H.push (c := .lst []) (t := s.toks) (o := { cls := .type "list", data := .seq #[] }) ⟨0, hS⟩
  generalize hSz : s.heap.objs.size = S at hS H1
  have hSg : S ≠ ga := by
    have := H.lt (p := (ga, .ob (genO gi nm qn))) (List.mem_append_right _ (.head _))
    rw [← hSz]
    exact Nat.ne_of_gt this
  refine ⟨⟨_, hS, rfl⟩, PySem.F.args_list_init_2 _ _, ?_⟩
  show wpAny _ (AR d (u + 2)) (do let old ← Builtin.List.listItems (.ref S); Builtin.List.listUpdate (.ref S) (fun _ => #[]); letGo old.toList.reverse; Builtin.List.listExtendWith (.ref S) (.ref ga) .none) _ _ _
  refine wpAny_bind ?_
  unfold Builtin.List.listItems
  refine wpAny_bind (wpAny_seqItems hS rfl (wpAny_pure ?_))
  show wpAny _ _ (updateSeq S (fun _ => #[]) >>= fun _ => letGo (#[] : Array Value).toList.reverse >>= fun _ => Builtin.List.listExtendWith (.ref S) (.ref ga) .none) _ _ _
  refine wpAny_bind (wpAny_updateSeq hS rfl ?_)
  have hS₂ := Heap.get?_update_self (Obj.mapSeq (fun _ => (#[] : Array Value))) hS rfl
  have H2 := H1.set (t := s.toks) (c' := .lst []) .head (Heap.SameBut.update ..) ⟨_, hS₂⟩
  refine wpAny_bind (wpAny_letGo ?_)
  have hgen := genO_is (gi := gi) (nm := nm) (qn := qn) (H2.get (c := .ob (genO gi nm qn)) (.tail _ (List.mem_append_right _ (.head _))))
  unfold Builtin.List.listExtendWith
  refine wpAny_bind (wpAny_typeOf hgen.typeIs ?_)
  have h1 : Builtin.List.listSameRef (.ref S) (.ref ga) = false := by simp [Builtin.List.listSameRef, hSg]
  have h2 : (Value.type "generator" == Value.type "list") = false := by decide
  have h3 : (Value.type "generator" == Value.type "tuple") = false := by decide
  simp only [h1, h2, h3, Bool.or_false, Bool.false_eq_true, if_false]
  refine wpAny_bind (wpAny_pyIter_gen hgen ?_)
  refine wpAny_bind (wpAny_holding ?_)
  unfold Builtin.List.listLengthHint
  refine wpAny_bind (wpAny_specialOf hgen.typeIs PySem.F.gen_no_len ?_)
  show wpAny _ _ (specialOf (Value.ref ga) (Str.ofString "__length_hint__") >>= _) _ _ _
  refine wpAny_bind (wpAny_specialOf hgen.typeIs PySem.F.gen_no_hint ?_)
  refine wpAny_pure ?_
  show wpAny _ _ (rule "list.extend.makes-room" >>= fun _ => Builtin.List.listTouch (.ref S) >>= fun _ =>
    again (.builtin "list.extend.loop" ⟨[.ref S, .ref ga, .none], []⟩)) _ _ _
  refine wpAny_bind (wpAny_rule ?_)
  refine wpAny_bind ?_
  show wpAny _ _ (updateSeq S (·.push .none) >>= fun _ => updateSeq S (·.pop)) _ _ _
  refine wpAny_bind (wpAny_updateSeq hS₂ rfl ?_)
  have hS₃ := Heap.get?_update_self (Obj.mapSeq (·.push Value.none)) hS₂ rfl
  refine wpAny_updateSeq (hz := by seq_fits) hS₃ rfl ?_
  have hS₄ := Heap.get?_update_self (Obj.mapSeq (·.pop)) hS₃ rfl
  have H3 := H2.set (t := s.toks) (c' := .lst []) .head (sameBut_trans (Heap.SameBut.update ..) (Heap.SameBut.update ..)) ⟨_, hS₄⟩
  refine wpAny_pure ⟨plainId_quiet PySem.F.plain_extend_loop _, ?_⟩
  show codeAny (model P0 w) (AR d (u + 1)) _ _ _
  refine l_extend_loop (need := need) (nm := nm) (qn := qn) B hd (by omega) sols gs IL G [] l2 _ _ (H3.perm (l' := IL ++ ((ga, .ob (genO gi nm qn)) :: (S, .lst []) :: l2)) ?_) hG hR hneed (by simpa using hz) (fun ds' G' s' e x H' => ?_)
  · exact (to_front IL (p := (S, Cell.lst [])) (r := (ga, .ob (genO gi nm qn)) :: l2)).trans (List.Perm.append_left IL (List.Perm.swap ..))
  · exact ⟨rfl, h _ ds' G' s' (by simpa using e) x H'⟩
end
end Mine
end
section
open PySem PySem.W PySem.Calls PyProof.Rows PySem.W.X
set_option Elab.async false
set_option maxRecDepth 100000
set_option maxHeartbeats 8000000
set_option linter.unusedVariables false
namespace Mine
local macro_rules | `(tactic| walk_at "mem") => `(tactic| first | assumption | exact List.Mem.head _ | (refine' List.Mem.tail _ ?_; walk_at "mem") | (refine' List.mem_append_right _ ?_; walk_at "mem") | (refine' List.mem_append_left _ ?_; walk_at "mem") | exact Zip.at' (by assumption) | exact Zip.keep (by assumption) (by walk_at "mem") (by intro e; cases e))
local macro_rules | `(tactic| walk_at "zip") => `(tactic| first | assumption | exact Zip.head | exact Zip.tail (by walk_at "zip") | exact Zip.app (by walk_at "zip") | exact Zip.again (by assumption))
local macro_rules | `(tactic| walk_at "kv") => `(tactic| first | with_reducible_and_instances exact List.Mem.head _ | (refine' List.Mem.tail _ ?_; walk_at "kv") | assumption)
local macro_rules | `(tactic| walk_at "put") => `(tactic| first | with_reducible exact Put.head | exact Put.tail (by walk_at "put"))
local macro_rules | `(tactic| walk_at "putd") => `(tactic| first | with_reducible exact PutD.head | with_reducible exact PutD.nil | exact PutD.tail (by decide) (by walk_at "putd"))
local macro_rules | `(tactic| walk_at "nm") => `(tactic| first
  | (refine e_local (by assumption) (by walk_at "mem") (by walk_at "kv") ?_)
  | (refine e_cell (by assumption) (by rfl) (by walk_at "mem") ?_)
  | (refine e_free (by assumption) (by rfl) (by walk_at "mem") ?_))
local macro_rules | `(tactic| walk_at "gl") => `(tactic| refine e_global (by assumption) (by assumption) (by first | with_reducible exact gl_Problem _ | with_reducible exact gl_BacktrackingSolver _ | with_reducible exact gl_Domain _ | with_reducible exact gl_Constraint _ | with_reducible exact gl_FunctionConstraint _ | with_reducible exact gl_law_yes _ | with_reducible exact gl_law_rule _ | with_reducible exact gl_law_due _) ?_)
local macro_rules | `(tactic| walk_at "bi") => `(tactic| refine e_builtin (by assumption) (by assumption) (by first | with_reducible exact bn_isinstance _ | with_reducible exact bn_callable _ | with_reducible exact bn_list _ | with_reducible exact bn_tuple _ | with_reducible exact bn_len _ | with_reducible exact bn_range _ | with_reducible exact bn_next _ | with_reducible exact bn_dict _ | with_reducible exact bn_sorted _ | with_reducible exact bn_iter _) (by first | with_reducible exact bb_isinstance | with_reducible exact bb_callable | with_reducible exact bb_list | with_reducible exact bb_tuple | with_reducible exact bb_len | with_reducible exact bb_range | with_reducible exact bb_next | with_reducible exact bb_dict | with_reducible exact bb_sorted | with_reducible exact bb_iter) ?_)
local macro_rules | `(tactic| walk_at "ns") => `(tactic| (show (_ : List Str).Nodup; dsimp only [List.map, List.nil_append, List.cons_append, List.append_nil]; decide +kernel))
local macro_rules | `(tactic| walk_at "lt") => `(tactic| (show _ < 1000; omega))
local macro_rules | `(tactic| x_close) => `(tactic| exact xq_of (by first | assumption | exact Mem.start _) (by first | rfl | assumption))
local macro_rules | `(tactic| walk_at "ga") => `(tactic| refine i_get (by assumption) (by assumption) (by walk_at "mem") (by exact rfl) (by walk_at "mem") (by first | exact cls110 _ | exact cls186 _ | exact cls336 _) (by kernel_rfl) (by walk_at "kv") (by exact rfl) ?_)
local macro_rules | `(tactic| walk_at "sa") => `(tactic| refine i_set (by assumption) (by assumption) (by walk_at "mem") (by walk_at "zip") (by first | exact cls110 _ | exact cls186 _ | exact cls336 _) (by kernel_rfl) (by kernel_rfl) (by walk_at "putd") (Nat.le_of_ble_eq_true rfl) ?_)
local macro_rules | `(tactic| walk_at "st") => `(tactic| refine e_store (by assumption) (by walk_at "zip") (by walk_at "put") ?_)
local macro_rules | `(tactic| walk_at "nmc") => `(tactic| first
  | (refine e_local (by assumption) (List.Mem.head _) (by first | exact List.Mem.head _ | exact List.Mem.tail _ (List.Mem.head _) | exact List.Mem.tail _ (List.Mem.tail _ (List.Mem.head _))) ?_)
  | (refine e_cell (by assumption) (by rfl) (by walk_at "mem") ?_)
  | (refine e_free (by assumption) (by rfl) (by walk_at "mem") ?_))
local macro_rules | `(tactic| walk_at "subl") => `(tactic| first | exact List.Sublist.refl _ | (refine' List.Sublist.cons _ ?_; walk_at "subl"))
section
variable {w : World} {g : Heap} {os : OsState} {G : Array GenState} {l l' : Led} {s : Shared} {a : Addr} {c c' : Cell} {f : Cell → Led} {A : Around} {E : Value → Shared → Prop}
/-! ## getSolutionIter and getSolutions of a problem -/
def solsOf (vs : List Var) (cs : List Con) : List (List (Str × Value)) := if vs.isEmpty then [] else comps cs (ordV vs cs) []
structure PNeed (w : World) (g : Heap) (P : Led) (x dx C V S dS : Addr) (vs : List Var) (cs : List Con) : Prop where
  x : (x, .ob (instObj 110 dx)) ∈ P
  dx : (dx, .sd [("_solver", .ref S), ("_constraints", .ref C), ("_variables", .ref V)]) ∈ P
  S : (S, .ob (instObj 186 dS)) ∈ P
  dS : (dS, .sd [("_forwardcheck", .bool false)]) ∈ P
  con : ∀ c ∈ cs, ConOk w g P c ∧ c.n1 ∈ vs.map (·.n) ∧ c.n2 ∈ vs.map (·.n)
  var : ∀ v ∈ vs, VarOk P v
  nd : (vs.map (·.n)).Nodup
  three : vs.length ≤ 3
  few : cs.length ≤ 4
theorem dk_truthy {D : Addr} {kvs : List (Str × Value)} {n : Nat} {Q : Bool → Shared → Prop} (H : Ok w g os G l s) (hm : (D, .dk kvs n) ∈ l) (hz : kvs.length ≤ 100000) (h : ∀ s', Ok w g os G l s' → Q (!kvs.isEmpty) s') : wpAny (model P0 w) A (truthy (.ref D)) Q E s := by
  refine wpAny_truthy_dict (H.notSys hm) (dk_at (H.get hm)).dictOf (by omega) ?_
  have := h _ (H.toks (s.toks + 1 + 1))
  cases kvs <;> simpa using this
theorem it_iter {tp : Addr} {Q : Value → Shared → Prop} (H : Ok w g os G l s) (htp : (tp, .tup []) ∈ l) (h : ∀ I s', Ok w g os G ((I, .it "tuple_iterator" (.fields #[.ref tp, .int 0 0])) :: l) s' → Q (.ref I) s') :
    wpAny (model P0 w) A (call (.builtin "iter") [.ref tp]) Q E s := by
  refine call_function_entry (by decide +kernel) (by decide +kernel) kdk_entry_iter (kdk_args_iter _) ?_
  unfold Builtin.«iter»
  refine wpAny_bind (m := someArgs "iter" 1 2 _) (wpAny_of_eq (a := [Value.ref tp]) (by first | rfl | kernel_rfl!) ?_)
  show wpAny _ _ (pyIter (.ref tp) >>= _) _ _ _
  refine wpAny_bind (PyProof.Rows.iter_tuple (H.tup htp) ?_)
  exact wpAny_pure ⟨_, rfl, h _ _ (H.push (t := s.toks) ⟨_, Heap.get?_push_size _ rfl, rfl, rfl⟩)⟩
theorem PNeed.gneed {P New : Led} {x dx C V S dS dm vc : Addr} {vs : List Var} {cs : List Con} {vk : List (Str × Value)} {ep : Nat} (N : PNeed w g P x dx C V S dS vs cs) (h1 : 1 ≤ vs.length) (hdm : (dm, .dk (dkvs vs) ep) ∈ New) (hvc : (vc, .sd vk) ∈ New) (hvk : VCok New vs cs vk) :
    GNeed w g (New ++ P) vs cs S dS dm vc vk ep where
  bs := List.mem_append_right _ N.S
  dbs := List.mem_append_right _ N.dS
  dm := List.mem_append_left _ hdm
  vc := List.mem_append_left _ hvc
  vk := ⟨hvk.1, fun v hv => by
    obtain ⟨VL, ts, a, b, c⟩ := hvk.2 v hv
    exact ⟨VL, ts, a, List.mem_append_left _ b, Paired.mono c fun tv c q => by obtain ⟨t, e, q⟩ := q; exact ⟨t, e, List.mem_append_left _ q⟩⟩⟩
  con := fun c hc => (N.con c hc).1.mono fun p hp => List.mem_append_right _ hp
  var := fun v hv => (N.var v hv).mono fun p hp => List.mem_append_right _ hp
  nd := N.nd
  one := h1
  three := N.three
  few := Nat.le_trans N.few (by decide)
/-- the other generators are as they were, maybe there are more -/
def GLe (G G' : Array GenState) : Prop := (∀ (j : Nat) (y : GenState), G[j]? = some y → G'[j]? = some y) ∧ (AllBare G → AllBare G')
theorem GLe.refl (G : Array GenState) : GLe G G := ⟨fun _ _ h => h, id⟩
theorem GLe.lt' {G : Array GenState} {j : Nat} {y : GenState} (h : G[j]? = some y) : j < G.size := by
  rcases Nat.lt_or_ge j G.size with h' | h'
  · exact h'
  · rw [Array.getElem?_eq_none h'] at h; cases h
theorem GLe.push (G : Array GenState) (x : GenState) (hx : x.bare = true) : GLe G (G.push x) := by
  refine ⟨fun j y hj => ?_, fun h => AllBare.push h hx⟩
  rw [Array.getElem?_push_lt (GLe.lt' hj), ← hj, Array.getElem?_eq_getElem (GLe.lt' hj)]
theorem GLe.lt {G : Array GenState} {j : Nat} {y : GenState} (h : G[j]? = some y) : j < G.size := by
  rcases Nat.lt_or_ge j G.size with h' | h'
  · exact h'
  · rw [Array.getElem?_eq_none h'] at h; cases h
theorem WkOk.le {G' : Array GenState} {k : Wk} (h : WkOk w g G k) (key : GLe G G') : WkOk w g G' k := by
  cases h with
  | gen gi nm qn IL gs e o hG r => exact .gen gi nm qn IL gs e o (key.1 _ _ hG) r
  | fin gi nm qn e o hG r => exact .fin gi nm qn e o (key.1 _ _ hG) r
  | it0 tp e o r => exact .it0 tp e o r
  | it1 e o r => exact .it1 e o r
theorem spec_piter {d u : Nat} {x dx C V S dS : Addr} {vs : List Var} {cs : List Con} {P : Led} {R : Result → Shared → Prop} (B : Base w g) (H : Ok w g os G l s) (N : PNeed w g P x dx C V S dS vs cs) (hP : ∀ p ∈ P, p ∈ l)
    (hC : (C, .lst (cs.map fun c => .ref c.t)) ∈ l) (hV : (V, .sd (dkvs vs)) ∈ l) (hd : d ≤ 390) (hu : u ≤ 3000)
    (h : ∀ k New G' s', k.sols = solsOf vs cs → WkOk w g G' k → (k.gi = none ∧ G' = G ∨ k.gi = some G.size ∧ G'.size = G.size + 1) → GLe G G' → (∀ p ∈ k.need, p ∈ New ++ P) → Ok w g os G' (k.own ++ (New ++ l)) s' → R (.ok (.ret (.ref k.a))) s') :
    codeAny (model P0 w) (AR d u) (.call (.ref 100) ⟨[.ref x], []⟩) R s := by
  have hx := hP _ N.x
  have hdx := hP _ N.dx
  refine call_fn (binds := [("self", .ref x)]) (rest := ["domains", "constraints", "vconstraints"]) B H rfl (by kernel_rfl) rfl (BindsTo.of_eq rfl) (by decide) (locs rfl) (by walk_at "ns") (by walk_at "lt") (fun L s₁ H₁ => ?_)
  dsimp only [List.map, List.append, List.nil_append, List.cons_append, List.append_nil] at H₁
  refine wpAny_execs_cons (Assign_Tuple (MethodCall_ ?_))
  walk_at "nm"
  refine i_meth (fa := 107) B H₁ (.tail _ hx) rfl (.tail _ hdx) (cls110 _) (by kernel_rfl) (by kernel_rfl) rfl ?_
  refine c_fn0 B H₁ (by kernel_rfl) (wpAny_call (spec_getArgs B H₁ (.tail _ hx) (.tail _ hdx) (.tail _ hC) (.tail _ hV) (fun c hc => ⟨(N.con c hc).1.mono fun p hp => .tail _ (hP p hp), (N.con c hc).2⟩) (fun v hv => (N.var v hv).mono fun p hp => .tail _ (hP p hp)) (Nat.le_trans N.few (by decide)) (Nat.le_trans N.three (by decide)) (by omega) (by omega) (fun tr dm cl vc vk ep New s₂ htr hdm hvc hvk H₂ => ?_)))
  replace H₂ := H₂.perm List.perm_middle
  refine a_tup3 H₂ (.tail _ (List.mem_append_left _ htr)) (fun s₃ H₃ => ?_)
  refine e_store H₃ (by walk_at "zip") (by walk_at "put") (fun s₄ H₄ => ?_)
  refine e_store H₄ (by walk_at "zip") (by walk_at "put") (fun s₅ H₅ => ?_)
  refine e_store H₅ (by walk_at "zip") (by walk_at "put") (fun s₆ H₆ => ?_)
  refine wpAny_execs_cons (wpAny_If (wpAny_isTrue_Not (isTrue_plain ?_)))
  walk_at "nm"
  have hdk : (dkvs vs).length ≤ 3 := by simpa [dkvs] using N.three
  refine dk_truthy H₆ (.tail _ (List.mem_append_left _ hdm)) (by omega) (fun s₇ H₇ => ?_)
  rcases Nat.eq_zero_or_pos vs.length with h0 | h1
  · have hvs : vs = [] := List.eq_nil_of_length_eq_zero h0
    refine ite_pos (by rw [hvs]; rfl) ?_
    refine wpAny_execs_cons (wpAny_Return_some (Call_ ?_))
    walk_at "bi"
    refine c_bi (args_cons (Tuple_ (args_nil (e_newTuple H₇ (fun tp s₈ H₈ => ?_) (by decide)))))
    refine args_nil (it_iter H₈ (.head _) (fun I s₉ H₉ => ?_))
    refine h ⟨I, none, [], [(I, .it "tuple_iterator" (.fields #[.ref tp, .int 0 0])), (tp, .tup [])], []⟩ New G s₉ (by rw [hvs]; rfl) (.it0 tp rfl rfl rfl) (.inl ⟨rfl, rfl⟩) (.refl _) (by intro p hp; cases hp) (H₉.sub ?_)
    exact List.Sublist.cons₂ _ (List.Sublist.cons₂ _ (List.Sublist.cons _ (List.Sublist.refl _)))
  · have hne : (dkvs vs).isEmpty = false := by
      cases vs with
      | nil => cases h1
      | cons => rfl
    refine ite_neg (by rw [hne]; decide) ?_
    refine wpAny_execs_nil ?_
    have hpl : ∀ {p : Addr × Cell}, p ∈ P → p ∈ New ++ l := fun hp => List.mem_append_right _ (hP _ hp)
    have hx' := hpl N.x
    have hdx' := hpl N.dx
    have hS' := hpl N.S
    have hdS' := hpl N.dS
    refine wpAny_execs_cons (wpAny_Return_some (MethodCall_ (Attribute_name ?_)))
    walk_at "nm"
    walk_at "ga"
    intro s₈ H₈
    refine i_meth (fa := 169) B H₈ (.tail _ hS') rfl (.tail _ hdS') (cls186 _) (by kernel_rfl) (by kernel_rfl) rfl ?_
    refine c_fn B (by kernel_rfl) (args_cons ?_)
    walk_at "nm"
    refine args_cons ?_
    walk_at "nm"
    refine args_cons ?_
    walk_at "nm"
    refine args_nil ⟨⟨_, _, _, H₈⟩, wpAny_call (spec_gen B H₈ (N.gneed h1 hdm hvc hvk) (fun p hp => .tail _ ?_) (by omega) (fun ga nm qn IL gs s₉ hR hbr H₉ => ?_))⟩
    · rcases List.mem_append.mp hp with hp | hp
      · exact List.mem_append_left _ hp
      · exact hpl hp
    · refine h ⟨ga, some G.size, New ++ P, (ga, .ob (genO G.size nm qn)) :: IL, solsOf vs cs⟩ New (G.push gs) s₉ rfl (.gen G.size nm qn IL gs rfl rfl (by simp) ?_) (.inr ⟨rfl, by simp⟩) (GLe.push G gs hbr) (fun p hp => hp) (H₉.sub ?_)
      · unfold solsOf
        rw [if_neg (by intro e; rw [List.isEmpty_iff] at e; rw [e] at h1; cases h1)]
        exact hR
      · exact List.Sublist.cons₂ _ ((List.Sublist.refl _).append (List.Sublist.cons _ (List.Sublist.refl _)))
end
end Mine
end
section
open PySem PySem.W PySem.Calls PyProof.Rows PySem.W.X
set_option Elab.async false
set_option maxRecDepth 100000
set_option maxHeartbeats 8000000
set_option linter.unusedVariables false
namespace Mine
local macro_rules | `(tactic| walk_at "mem") => `(tactic| first | assumption | exact List.Mem.head _ | (refine' List.Mem.tail _ ?_; walk_at "mem") | (refine' List.mem_append_right _ ?_; walk_at "mem") | (refine' List.mem_append_left _ ?_; walk_at "mem") | exact Zip.at' (by assumption) | exact Zip.keep (by assumption) (by walk_at "mem") (by intro e; cases e))
local macro_rules | `(tactic| walk_at "zip") => `(tactic| first | assumption | exact Zip.head | exact Zip.tail (by walk_at "zip") | exact Zip.app (by walk_at "zip") | exact Zip.again (by assumption))
local macro_rules | `(tactic| walk_at "kv") => `(tactic| first | with_reducible_and_instances exact List.Mem.head _ | (refine' List.Mem.tail _ ?_; walk_at "kv") | assumption)
local macro_rules | `(tactic| walk_at "put") => `(tactic| first | with_reducible exact Put.head | exact Put.tail (by walk_at "put"))
local macro_rules | `(tactic| walk_at "putd") => `(tactic| first | with_reducible exact PutD.head | with_reducible exact PutD.nil | exact PutD.tail (by decide) (by walk_at "putd"))
local macro_rules | `(tactic| walk_at "nm") => `(tactic| first
  | (refine e_local (by assumption) (by walk_at "mem") (by walk_at "kv") ?_)
  | (refine e_cell (by assumption) (by rfl) (by walk_at "mem") ?_)
  | (refine e_free (by assumption) (by rfl) (by walk_at "mem") ?_))
local macro_rules | `(tactic| walk_at "gl") => `(tactic| refine e_global (by assumption) (by assumption) (by first | with_reducible exact gl_Problem _ | with_reducible exact gl_BacktrackingSolver _ | with_reducible exact gl_Domain _ | with_reducible exact gl_Constraint _ | with_reducible exact gl_FunctionConstraint _ | with_reducible exact gl_law_yes _ | with_reducible exact gl_law_rule _ | with_reducible exact gl_law_due _) ?_)
local macro_rules | `(tactic| walk_at "bi") => `(tactic| refine e_builtin (by assumption) (by assumption) (by first | with_reducible exact bn_isinstance _ | with_reducible exact bn_callable _ | with_reducible exact bn_list _ | with_reducible exact bn_tuple _ | with_reducible exact bn_len _ | with_reducible exact bn_range _ | with_reducible exact bn_next _ | with_reducible exact bn_dict _ | with_reducible exact bn_sorted _ | with_reducible exact bn_iter _) (by first | with_reducible exact bb_isinstance | with_reducible exact bb_callable | with_reducible exact bb_list | with_reducible exact bb_tuple | with_reducible exact bb_len | with_reducible exact bb_range | with_reducible exact bb_next | with_reducible exact bb_dict | with_reducible exact bb_sorted | with_reducible exact bb_iter) ?_)
local macro_rules | `(tactic| walk_at "ns") => `(tactic| (show (_ : List Str).Nodup; dsimp only [List.map, List.nil_append, List.cons_append, List.append_nil]; decide +kernel))
local macro_rules | `(tactic| walk_at "lt") => `(tactic| (show _ < 1000; omega))
local macro_rules | `(tactic| x_close) => `(tactic| exact xq_of (by first | assumption | exact Mem.start _) (by first | rfl | assumption))
local macro_rules | `(tactic| walk_at "ga") => `(tactic| refine i_get (by assumption) (by assumption) (by walk_at "mem") (by exact rfl) (by walk_at "mem") (by first | exact cls110 _ | exact cls186 _ | exact cls336 _) (by kernel_rfl) (by walk_at "kv") (by exact rfl) ?_)
local macro_rules | `(tactic| walk_at "sa") => `(tactic| refine i_set (by assumption) (by assumption) (by walk_at "mem") (by walk_at "zip") (by first | exact cls110 _ | exact cls186 _ | exact cls336 _) (by kernel_rfl) (by kernel_rfl) (by walk_at "putd") (Nat.le_of_ble_eq_true rfl) ?_)
local macro_rules | `(tactic| walk_at "st") => `(tactic| refine e_store (by assumption) (by walk_at "zip") (by walk_at "put") ?_)
local macro_rules | `(tactic| walk_at "nmc") => `(tactic| first
  | (refine e_local (by assumption) (List.Mem.head _) (by first | exact List.Mem.head _ | exact List.Mem.tail _ (List.Mem.head _) | exact List.Mem.tail _ (List.Mem.tail _ (List.Mem.head _))) ?_)
  | (refine e_cell (by assumption) (by rfl) (by walk_at "mem") ?_)
  | (refine e_free (by assumption) (by rfl) (by walk_at "mem") ?_))
local macro_rules | `(tactic| walk_at "subl") => `(tactic| first | exact List.Sublist.refl _ | (refine' List.Sublist.cons _ ?_; walk_at "subl"))
section
variable {w : World} {g : Heap} {os : OsState} {G : Array GenState} {l l' : Led} {s : Shared} {a : Addr} {c c' : Cell} {f : Cell → Led} {A : Around} {E : Value → Shared → Prop}
theorem spec_btsols {d u : Nat} {vs : List Var} {cs : List Con} {bs dbs dm vc : Addr} {cl : Value} {vk : List (Str × Value)} {ep : Nat} {need : Led} {R : Result → Shared → Prop} (B : Base w g) (H : Ok w g os G l s) (N : GNeed w g need vs cs bs dbs dm vc vk ep) (hneed : ∀ p ∈ need, p ∈ l) (hd : d ≤ 400) (hu : u ≤ 3500) (hz : (comps cs (ordV vs cs) []).length ≤ 100000)
    (h : ∀ D ds G' s', ds.map (·.2) = comps cs (ordV vs cs) [] → GLe G G' → Ok w g os G' ((D, .lst (dRefs ds)) :: (dLed ds ++ l)) s' → R (.ok (.ret (.ref D))) s') :
    codeAny (model P0 w) (AR d u) (.call (.ref 183) ⟨[.ref bs, .ref dm, cl, .ref vc], []⟩) R s := by
  have hbs := hneed _ N.bs
  have hdbs := hneed _ N.dbs
  refine call_fn (binds := [("self", .ref bs), ("domains", .ref dm), ("constraints", cl), ("vconstraints", .ref vc)]) (rest := []) B H rfl (by kernel_rfl) rfl (BindsTo.of_eq rfl) (by decide) (locs rfl) (by walk_at "ns") (by walk_at "lt") (fun L s₁ H₁ => ?_)
  dsimp only [List.map, List.append, List.nil_append, List.cons_append, List.append_nil] at H₁
  refine wpAny_execs_cons (wpAny_Return_some (Call_ ?_))
  walk_at "bi"
  refine PyProof.Rows.callWith_type1 (args_cons (MethodCall_ ?_))
  walk_at "nm"
  refine i_meth (fa := 169) B H₁ (.tail _ hbs) rfl (.tail _ hdbs) (cls186 _) (by kernel_rfl) (by kernel_rfl) rfl ?_
  refine c_fn B (by kernel_rfl) (args_cons ?_)
  walk_at "nm"
  refine args_cons ?_
  walk_at "nm"
  refine args_cons ?_
  walk_at "nm"
  refine args_nil ⟨⟨_, _, _, H₁⟩, wpAny_call (spec_gen B H₁ N (fun p hp => .tail _ (hneed p hp)) (by omega) (fun ga nm qn IL gs s₂ hR hbr H₂ => ?_))⟩
  refine args_nil (l_list_gen (nm := nm) (qn := qn) B (H₂.perm (to_front IL)) (gs := gs) (by simp) hR (fun p hp => .tail _ (hneed p hp)) (by omega) (by omega) hz (fun D ds G' s₃ e x H₃ => ?_))
  refine h D ds G' s₃ e ⟨fun j y hj => ?_, fun hb => x.2.2 ((GLe.push G gs hbr).2 hb)⟩ (H₃.sub ?_)
  · have := GLe.lt hj
    rw [x.2.1 j (by intro e; injection e with e; omega)]
    exact (GLe.push G gs hbr).1 j y hj
  · exact List.Sublist.cons₂ _ ((List.Sublist.refl _).append (List.sublist_cons_self ..))
theorem spec_psols {d u : Nat} {x dx C V S dS : Addr} {vs : List Var} {cs : List Con} {P : Led} {R : Result → Shared → Prop} (B : Base w g) (H : Ok w g os G l s) (N : PNeed w g P x dx C V S dS vs cs) (hP : ∀ p ∈ P, p ∈ l)
    (hC : (C, .lst (cs.map fun c => .ref c.t)) ∈ l) (hV : (V, .sd (dkvs vs)) ∈ l) (hd : d ≤ 390) (hu : u ≤ 3000) (hz : (solsOf vs cs).length ≤ 100000)
    (h : ∀ D ds G' s', ds.map (·.2) = solsOf vs cs → GLe G G' → Ok w g os G' ((D, .lst (dRefs ds)) :: (dLed ds ++ l)) s' → R (.ok (.ret (.ref D))) s') :
    codeAny (model P0 w) (AR d u) (.call (.ref 93) ⟨[.ref x], []⟩) R s := by
  have hx := hP _ N.x
  have hdx := hP _ N.dx
  refine call_fn (binds := [("self", .ref x)]) (rest := ["domains", "constraints", "vconstraints"]) B H rfl (by kernel_rfl) rfl (BindsTo.of_eq rfl) (by decide) (locs rfl) (by walk_at "ns") (by walk_at "lt") (fun L s₁ H₁ => ?_)
  dsimp only [List.map, List.append, List.nil_append, List.cons_append, List.append_nil] at H₁
  refine wpAny_execs_cons (Assign_Tuple (MethodCall_ ?_))
  walk_at "nm"
  refine i_meth (fa := 107) B H₁ (.tail _ hx) rfl (.tail _ hdx) (cls110 _) (by kernel_rfl) (by kernel_rfl) rfl ?_
  refine c_fn0 B H₁ (by kernel_rfl) (wpAny_call (spec_getArgs B H₁ (.tail _ hx) (.tail _ hdx) (.tail _ hC) (.tail _ hV) (fun c hc => ⟨(N.con c hc).1.mono fun p hp => .tail _ (hP p hp), (N.con c hc).2⟩) (fun v hv => (N.var v hv).mono fun p hp => .tail _ (hP p hp)) (Nat.le_trans N.few (by decide)) (Nat.le_trans N.three (by decide)) (by omega) (by omega) (fun tr dm cl vc vk ep New s₂ htr hdm hvc hvk H₂ => ?_)))
  replace H₂ := H₂.perm List.perm_middle
  refine a_tup3 H₂ (.tail _ (List.mem_append_left _ htr)) (fun s₃ H₃ => ?_)
  refine e_store H₃ (by walk_at "zip") (by walk_at "put") (fun s₄ H₄ => ?_)
  refine e_store H₄ (by walk_at "zip") (by walk_at "put") (fun s₅ H₅ => ?_)
  refine e_store H₅ (by walk_at "zip") (by walk_at "put") (fun s₆ H₆ => ?_)
  refine wpAny_execs_cons (wpAny_If (wpAny_isTrue_Not (isTrue_plain ?_)))
  walk_at "nm"
  have hdk : (dkvs vs).length ≤ 3 := by simpa [dkvs] using N.three
  refine dk_truthy H₆ (.tail _ (List.mem_append_left _ hdm)) (by omega) (fun s₇ H₇ => ?_)
  rcases Nat.eq_zero_or_pos vs.length with h0 | h1
  · have hvs : vs = [] := List.eq_nil_of_length_eq_zero h0
    refine ite_pos (by rw [hvs]; rfl) ?_
    refine wpAny_execs_cons (wpAny_Return_some (List_ (args_nil (e_newList H₇ (fun D s₈ H₈ => ?_) (by decide)))))
    refine h D [] G s₈ (by rw [hvs]; rfl) (.refl _) (H₈.sub ?_)
    exact List.Sublist.cons₂ _ (List.Sublist.cons _ (List.sublist_append_right _ _))
  · have hne : (dkvs vs).isEmpty = false := by
      cases vs with
      | nil => cases h1
      | cons => rfl
    refine ite_neg (by rw [hne]; decide) ?_
    refine wpAny_execs_nil ?_
    have hpl : ∀ {p : Addr × Cell}, p ∈ P → p ∈ New ++ l := fun hp => List.mem_append_right _ (hP _ hp)
    have hx' := hpl N.x
    have hdx' := hpl N.dx
    have hS' := hpl N.S
    have hdS' := hpl N.dS
    have es : solsOf vs cs = comps cs (ordV vs cs) [] := by
      unfold solsOf
      rw [if_neg (by intro e; rw [List.isEmpty_iff] at e; rw [e] at h1; cases h1)]
    refine wpAny_execs_cons (wpAny_Return_some (MethodCall_ (Attribute_name ?_)))
    walk_at "nm"
    walk_at "ga"
    intro s₈ H₈
    refine i_meth (fa := 183) B H₈ (.tail _ hS') rfl (.tail _ hdS') (cls186 _) (by kernel_rfl) (by kernel_rfl) rfl ?_
    refine c_fn B (by kernel_rfl) (args_cons ?_)
    walk_at "nm"
    refine args_cons ?_
    walk_at "nm"
    refine args_cons ?_
    walk_at "nm"
    refine args_nil ⟨⟨_, _, _, H₈⟩, wpAny_call (spec_btsols B H₈ (N.gneed h1 hdm hvc hvk) (fun p hp => .tail _ ?_) (by omega) (by omega) (by rw [← es]; exact hz) (fun D ds G' s₉ e x H₉ => ?_))⟩
    · rcases List.mem_append.mp hp with hp | hp
      · exact List.mem_append_left _ hp
      · exact hpl hp
    · refine h D ds G' s₉ (by rw [es]; exact e) x (H₉.sub ?_)
      exact List.Sublist.cons₂ _ ((List.Sublist.refl _).append (List.Sublist.cons _ (List.sublist_append_right _ _)))
end
end Mine
end
section
open PySem PySem.W PySem.Calls PyProof.Rows PySem.W.X
set_option Elab.async false
set_option maxRecDepth 100000
set_option maxHeartbeats 8000000
set_option linter.unusedVariables false
namespace Mine
local macro_rules | `(tactic| walk_at "mem") => `(tactic| first | assumption | exact List.Mem.head _ | (refine' List.Mem.tail _ ?_; walk_at "mem") | (refine' List.mem_append_right _ ?_; walk_at "mem") | (refine' List.mem_append_left _ ?_; walk_at "mem") | exact Zip.at' (by assumption) | exact Zip.keep (by assumption) (by walk_at "mem") (by intro e; cases e))
local macro_rules | `(tactic| walk_at "zip") => `(tactic| first | assumption | exact Zip.head | exact Zip.tail (by walk_at "zip") | exact Zip.app (by walk_at "zip") | exact Zip.again (by assumption))
local macro_rules | `(tactic| walk_at "kv") => `(tactic| first | with_reducible_and_instances exact List.Mem.head _ | (refine' List.Mem.tail _ ?_; walk_at "kv") | assumption)
local macro_rules | `(tactic| walk_at "put") => `(tactic| first | with_reducible exact Put.head | exact Put.tail (by walk_at "put"))
local macro_rules | `(tactic| walk_at "putd") => `(tactic| first | with_reducible exact PutD.head | with_reducible exact PutD.nil | exact PutD.tail (by decide) (by walk_at "putd"))
local macro_rules | `(tactic| walk_at "nm") => `(tactic| first
  | (refine e_local (by assumption) (by walk_at "mem") (by walk_at "kv") ?_)
  | (refine e_cell (by assumption) (by rfl) (by walk_at "mem") ?_)
  | (refine e_free (by assumption) (by rfl) (by walk_at "mem") ?_))
local macro_rules | `(tactic| walk_at "gl") => `(tactic| refine e_global (by assumption) (by assumption) (by first | with_reducible exact gl_Problem _ | with_reducible exact gl_BacktrackingSolver _ | with_reducible exact gl_Domain _ | with_reducible exact gl_Constraint _ | with_reducible exact gl_FunctionConstraint _ | with_reducible exact gl_law_yes _ | with_reducible exact gl_law_rule _ | with_reducible exact gl_law_due _) ?_)
local macro_rules | `(tactic| walk_at "bi") => `(tactic| refine e_builtin (by assumption) (by assumption) (by first | with_reducible exact bn_isinstance _ | with_reducible exact bn_callable _ | with_reducible exact bn_list _ | with_reducible exact bn_tuple _ | with_reducible exact bn_len _ | with_reducible exact bn_range _ | with_reducible exact bn_next _ | with_reducible exact bn_dict _ | with_reducible exact bn_sorted _ | with_reducible exact bn_iter _) (by first | with_reducible exact bb_isinstance | with_reducible exact bb_callable | with_reducible exact bb_list | with_reducible exact bb_tuple | with_reducible exact bb_len | with_reducible exact bb_range | with_reducible exact bb_next | with_reducible exact bb_dict | with_reducible exact bb_sorted | with_reducible exact bb_iter) ?_)
local macro_rules | `(tactic| walk_at "ns") => `(tactic| (show (_ : List Str).Nodup; dsimp only [List.map, List.nil_append, List.cons_append, List.append_nil]; decide +kernel))
local macro_rules | `(tactic| walk_at "lt") => `(tactic| (show _ < 1000; omega))
local macro_rules | `(tactic| x_close) => `(tactic| exact xq_of (by first | assumption | exact Mem.start _) (by first | rfl | assumption))
local macro_rules | `(tactic| walk_at "ga") => `(tactic| refine i_get (by assumption) (by assumption) (by walk_at "mem") (by exact rfl) (by walk_at "mem") (by first | exact cls110 _ | exact cls186 _ | exact cls336 _) (by kernel_rfl) (by walk_at "kv") (by exact rfl) ?_)
local macro_rules | `(tactic| walk_at "sa") => `(tactic| refine i_set (by assumption) (by assumption) (by walk_at "mem") (by walk_at "zip") (by first | exact cls110 _ | exact cls186 _ | exact cls336 _) (by kernel_rfl) (by kernel_rfl) (by walk_at "putd") (Nat.le_of_ble_eq_true rfl) ?_)
local macro_rules | `(tactic| walk_at "st") => `(tactic| refine e_store (by assumption) (by walk_at "zip") (by walk_at "put") ?_)
local macro_rules | `(tactic| walk_at "nmc") => `(tactic| first
  | (refine e_local (by assumption) (List.Mem.head _) (by first | exact List.Mem.head _ | exact List.Mem.tail _ (List.Mem.head _) | exact List.Mem.tail _ (List.Mem.tail _ (List.Mem.head _))) ?_)
  | (refine e_cell (by assumption) (by rfl) (by walk_at "mem") ?_)
  | (refine e_free (by assumption) (by rfl) (by walk_at "mem") ?_))
local macro_rules | `(tactic| walk_at "subl") => `(tactic| first | exact List.Sublist.refl _ | (refine' List.Sublist.cons _ ?_; walk_at "subl"))
section
variable {w : World} {g : Heap} {os : OsState} {G : Array GenState} {l l' : Led} {s : Shared} {a : Addr} {c c' : Cell} {f : Cell → Led} {A : Around} {E : Value → Shared → Prop}
/-! ## dict(..) of pairs -/
theorem lk_list_keys : typeLookup (.type "list") "keys" = pure none := by rw [typeLookup_type, builtinLookup_eq_fast]; kernel_rfl
theorem lk_items_keys : typeLookup (.type "dict_items") "keys" = pure none := by rw [typeLookup_type, builtinLookup_eq_fast]; kernel_rfl
theorem lk_items_getattr : typeLookup (.type "dict_items") "__getattr__" = pure none := by rw [typeLookup_type, builtinLookup_eq_fast]; kernel_rfl
theorem keys_miss_list {a : Addr} {vs : Array Value} {n : Nat} {Q : Option Value → Shared → Prop} {E : Value → Shared → Prop} (hA : A.handled = none) (hx : s.heap.get? a = some { cls := .type "list", data := .seq vs n })
    (hq : ∀ h' t', (∀ b o, s.heap.get? b = some o → h'.get? b = some o) → Q none { s with heap := h', toks := t' }) :
    wpAny (model P0 w) A (getAttr? (.ref a) "keys") Q E s := by
  obtain ⟨hp, g, d, tk, os⟩ := s
  have hT : ∀ tk', (⟨hp, g, d, tk', os⟩ : Shared).TypeIs (.ref a) "list" := fun _ => ⟨_, hx, rfl⟩
  have f1 := sub_AttributeError
  have f3 := PySem.F.slot_list_getattribute.lookup
  have f4 := PySem.F.slot_list_getattribute.bind (.ref a)
  have f5 := am_list_getattr_none
  have f6 := lk_list_keys
  unfold getAttr? getAttrBy? getAttrBy
  repeat (any_goals (first | assumption | exact hT _ | ((with_reducible show wpAny _ _ (call (Value.builtin "list.__getattribute__") _ _) _ _ _); refine call_meets PySem.F.slot_list_getattribute (hT _) am_entry_list_getattribute (PySem.F.args_list_getattribute_2 _ _) (meets_getattribute_miss_list a vs n #[] _ _ f6 (by decide)) ⟨hx, hA, fun h' tk' e hx' => ?_⟩) | wp_step))
  obtain ⟨t', u', he⟩ := hx'.there
  show wpAny _ _ (getattributeRaised _ _ _ _ _ _ _) _ _ _
  unfold getattributeRaised
  repeat (any_goals (first | assumption | wp_step))
  exact hq _ _ hx'.keeps
abbrev itemsO (D : Addr) : Obj := { cls := .type "dict_items", data := .fields #[.ref D] }
theorem meets_getattribute_miss_items (a D : Addr) (name : Str) (u : Tok) (hmiss : typeLookup (.type "dict_items") name = pure none) (hname : (["__module__", "__name__", "__qualname__", "__doc__", "__annotations__"] : List Str).contains name = false) (hsz : name.length + 100 ≤ sizeLine := by size_fits) :
    Meets (Builtin.«object.__getattribute__» ⟨[.ref a, .str name u], []⟩) (fun A R s => s.heap.get? a = some (itemsO D) ∧ raisesAttr (.ref a) name A R s) :=
  Meets.of_wp fun prog w A R s hs => by
    obtain ⟨hp, g, d, tk, os⟩ := s
    obtain ⟨hx, hs⟩ := hs
    have hT : (⟨hp, g, d, tk, os⟩ : Shared).TypeIs (.ref a) "dict_items" := ⟨_, hx, rfl⟩
    have f5 := lk_items_getattr
    unfold Builtin.«object.__getattribute__»
    repeat (any_goals (first | assumption | wp_step))
    simp only [hname, Bool.false_eq_true, if_false]
    repeat (any_goals (first | assumption | wp_step))
    exact wpAny_raiseAttrError hs.1 hs.2 (attrMsg_fits (by decide +kernel) hsz)
theorem keys_miss_items {a D : Addr} {Q : Option Value → Shared → Prop} {E : Value → Shared → Prop} (hA : A.handled = none) (hx : s.heap.get? a = some (itemsO D))
    (hq : ∀ h' t', (∀ b o, s.heap.get? b = some o → h'.get? b = some o) → Q none { s with heap := h', toks := t' }) :
    wpAny (model P0 w) A (getAttr? (.ref a) "keys") Q E s := by
  obtain ⟨hp, g, d, tk, os⟩ := s
  have hT : ∀ tk', (⟨hp, g, d, tk', os⟩ : Shared).TypeIs (.ref a) "dict_items" := fun _ => ⟨_, hx, rfl⟩
  have f1 := sub_AttributeError
  have f3 := PySem.F.slot_dict_items_getattribute.lookup
  have f4 := PySem.F.slot_dict_items_getattribute.bind (.ref a)
  have f5 := lk_items_getattr
  have f6 := lk_items_keys
  unfold getAttr? getAttrBy? getAttrBy
  repeat (any_goals (first | assumption | exact hT _ | ((with_reducible show wpAny _ _ (call (Value.builtin "object.__getattribute__") _ _) _ _ _); refine call_meets PySem.F.slot_dict_items_getattribute (hT _) (entryFor_of_tree (by kernel_rfl)) (PySem.F.args_object_getattribute_2 _ _) (meets_getattribute_miss_items a D _ _ f6 (by decide)) ⟨hx, hA, fun h' tk' e hx' => ?_⟩) | wp_step))
  obtain ⟨t', u', he⟩ := hx'.there
  show wpAny _ _ (getattributeRaised _ _ _ _ _ _ _) _ _ _
  unfold getattributeRaised
  repeat (any_goals (first | assumption | wp_step))
  exact hq _ _ hx'.keeps
theorem entry_upd_loop : entryFor table "dict.update.loop" = some Builtin.«dict.update.loop» := entryFor_of_tree (by kernel_rfl)
theorem plain_upd_loop : plainId "dict.update.loop" = true := by decide +kernel
/-- many new objects -/
theorem Ok.mores (H : Ok w g os G l s) {h' : Heap} {t : Nat} (new : Led) (hk : ∀ b o, s.heap.get? b = some o → h'.get? b = some o) (nd : (new.map (·.1)).Nodup) (hge : ∀ p ∈ new, s.heap.objs.size ≤ p.1) (hat : ∀ p ∈ new, p.2.At w h' p.1) :
    Ok w g os G (new ++ l) { s with heap := h', toks := t } := by
  have H₁ := H.ext (t := t) hk
  have big : ∀ a, s.heap.objs.size ≤ a → g.get? a = none ∧ a ≠ sysModules := by
    intro a ha
    constructor
    · cases q : g.get? a with
      | none => rfl
      | some o' => exact absurd (Heap.lt_size (H.keep _ _ q)) (Nat.not_lt.mpr ha)
    · obtain ⟨b, o, e, q⟩ := H.sm
      exact Nat.ne_of_gt (Nat.lt_of_lt_of_le (Nat.lt_trans q (Heap.lt_size (H.keep _ _ e))) ha)
  refine ⟨H₁.os, H₁.gens, H₁.keep, fun p hp => ?_, fun p hp => ?_, ?_, H.sm, fun p hp => ?_⟩
  · rcases List.mem_append.mp hp with hp | hp
    · exact hat p hp
    · exact H₁.at_ p hp
  · rcases List.mem_append.mp hp with hp | hp
    · exact (big _ (hge p hp)).1
    · exact H₁.new p hp
  · rw [List.map_append, List.nodup_append]
    refine ⟨nd, H.nd, fun a ha b hb => ?_⟩
    obtain ⟨p, hp, rfl⟩ := List.mem_map.mp ha
    obtain ⟨q, hq, rfl⟩ := List.mem_map.mp hb
    exact Nat.ne_of_gt (Nat.lt_of_lt_of_le (H.lt hq) (hge p hp))
  · rcases List.mem_append.mp hp with hp | hp
    · exact (big _ (hge p hp)).2
    · exact H₁.ns' p hp
/-- something that no ledger names is changed -/
theorem Ok.but (H : Ok w g os G l s) {I : Addr} {h' : Heap} {t : Nat} (hl : ∀ p ∈ l, p.1 ≠ I) (hg : g.get? I = none) (hk : ∀ b o, b ≠ I → s.heap.get? b = some o → h'.get? b = some o) : Ok w g os G l { s with heap := h', toks := t } :=
  ⟨H.os, H.gens, fun b o e => hk b o (by intro q; rw [q, hg] at e; cases e) (H.keep b o e), fun p hp => by
    have x := H.at_ p hp
    obtain ⟨o', e⟩ := at_some x
    exact at_to ((hk _ _ (hl p hp) e).trans e.symm) x, H.new, H.nd, H.sm, H.ns'⟩
/-- the new pairs, as tuples -/
structure PT where
  (a : Addr) (k : Str) (t : Tok) (v : Value)
abbrev ptLed (ps : List PT) : Led := ps.map fun p => (p.a, Cell.tup [.str p.k p.t, p.v])
abbrev ptKvs (ps : List PT) : List (Str × Value) := ps.map fun p => (p.k, p.v)
theorem take_snoc {α : Type} {l : List α} {i : Nat} {x : α} (h : l[i]? = some x) : l.take (i + 1) = l.take i ++ [x] := by
  rw [List.take_add_one, h]; rfl
theorem nodup_take {kvs : List (Str × Value)} (nd : (kvs.map (·.1)).Nodup) {i : Nat} {x : Str × Value} (h : kvs[i]? = some x) : x.1 ∉ (kvs.take i).map (·.1) := by
  have e := take_snoc h
  have s := (List.take_sublist (i + 1) kvs).map (·.1)
  have nd' := nd.sublist s
  rw [e, List.map_append, List.nodup_append] at nd'
  intro hm
  exact nd'.2.2 _ hm x.1 (by simp) rfl
theorem upd_pairs_loop {d u : Nat} {S I L : Addr} {ps : List PT} {vs : List Value} (hvs : vs = ps.map fun p => .ref p.a) (hnd : ((ptKvs ps).map (·.1)).Nodup) (hz : ps.length ≤ 1000) (hL : (L, .lst vs) ∈ l) (hps : ∀ p ∈ ptLed ps, p ∈ l) :
    ∀ (k i : Nat) (tk : Tok) (s : Shared) (R : Result → Shared → Prop), ps.length - i = k → i ≤ ps.length → Ok w g os G ((I, .it "list_iterator" (.fields #[.ref L, .int (i : Nat) 0])) :: (S, .sd ((ptKvs ps).take i)) :: l) s →
    (∀ s', Ok w g os G ((S, .sd (ptKvs ps)) :: l) s' → R (.ok (.ret .none)) s') → codeAny (model P0 w) (AR d u) (.builtin "dict.update.loop" ⟨[.ref S, .ref I, .int (i : Nat) tk, .none], []⟩) R s := by
  subst hvs
  have len : (ps.map fun p => Value.ref p.a).length = ps.length := List.length_map ..
  intro k
  induction k with
  | zero =>
    intro i tk s R hk hi H h
    have : i = ps.length := by omega
    subst this
    refine codeAny_builtin entry_upd_loop ?_
    rw [Around.under_plainId plain_upd_loop _]
    show wpAny _ (AR d (u + 1)) (pyNext (.ref I) >>= _) _ _ s
    have H' : Ok w g os G ((I, .it "list_iterator" (.fields #[.ref L, .int ((ps.map fun p => Value.ref p.a).length : Nat) 0])) :: (S, .sd ((ptKvs ps).take ps.length)) :: l) s := by rw [len]; exact H
    refine wpAny_bind ((Iter.list w L (ps.map fun p => .ref p.a)).stop rfl H' (fun p hp => by simp only [List.mem_singleton] at hp; subst hp; exact .tail _ hL) (fun s' H' => ?_))
    rw [List.take_of_length_le (by simp)] at H'
    exact wpAny_bind (wpAny_pure (wpAny_pure (h _ H')))
  | succ k ih =>
    intro i tk s R hk hi H h
    have hlt : i < ps.length := by omega
    refine codeAny_builtin entry_upd_loop ?_
    rw [Around.under_plainId plain_upd_loop _]
    show wpAny _ (AR d (u + 1)) (pyNext (.ref I) >>= _) _ _ s
    refine wpAny_bind ((Iter.list w L (ps.map fun p => .ref p.a)).next H (fun p hp => by simp only [List.mem_singleton] at hp; subst hp; exact .tail _ hL) (by rw [len]; exact hlt) (fun v s' hv H' => ?_))
    have hpi : ps[i]? = some ps[i] := List.getElem?_eq_getElem hlt
    rw [List.getElem?_map, hpi] at hv
    cases hv
    have hpm : ((ps[i]).a, Cell.tup [.str (ps[i]).k (ps[i]).t, (ps[i]).v]) ∈ l := hps _ (List.mem_map_of_mem (f := fun p : PT => (p.a, Cell.tup [.str p.k p.t, p.v])) (List.getElem_mem hlt))
    generalize hpe : ps[i] = p at *
    obtain ⟨n, hn⟩ := H'.get (.tail _ (.tail _ hpm))
    dsimp only
    refine wpAny_bind (wpAny_holding (wpAny_bind (wpAny_tryCatch ?_)))
    unfold Builtin.Dict.pairItems
    refine wpAny_bind (wpAny_typeOf (T := "tuple") ⟨_, hn, rfl⟩ ?_)
    rw [if_pos (by decide)]
    refine wpAny_bind (wpAny_seqItems hn rfl (wpAny_pure ?_))
    show wpAny _ _ (holding [.str p.k p.t, p.v] (dictSet S (.str p.k p.t) p.v)) _ _ _
    refine wpAny_holding ?_
    have hkv : (ptKvs ps)[i]? = some (p.k, p.v) := by rw [List.getElem?_map, hpi]; rfl
    refine wpAny_dictSet_pairs (knd := strKind P0 w) (isStr p.k p.t) (H'.dict (.tail _ (.head _))) (fun h' hd hs => ?_) (by rw [List.length_take, sizeLine_eq]; omega)
    have H'' := H'.dset (t := s'.toks + 1) (.tail .head) hd hs
    rw [stored_new (nodup_take hnd hkv), ← take_snoc hkv] at H''
    exact wpAny_pure ⟨plainId_quiet plain_upd_loop _, ih (i + 1) 0 _ R (by omega) hlt H'' h⟩
theorem d_of_pairs {d u : Nat} {L : Addr} {ps : List PT} {Q : Value → Shared → Prop} (H : Ok w g os G l s) (hL : (L, .lst (ps.map fun p => .ref p.a)) ∈ l) (hps : ∀ p ∈ ptLed ps, p ∈ l) (hnd : ((ptKvs ps).map (·.1)).Nodup) (hz : ps.length ≤ 1000)
    (h : ∀ a s', Ok w g os G ((a, .sd (ptKvs ps)) :: l) s' → Q (.ref a) s') : wpAny (model P0 w) (AR d u) (call (.type "dict") [.ref L]) Q E s := by
  refine callType_codes (Q₁ := fun obj s₁ => obj = .ref s.heap.objs.size ∧ s₁ = { s with heap := s.heap.push { cls := .type "dict", data := .dict #[] } }) PySem.F.kt_called_dict (PySem.F.kt_typeCall_dict_1 _) PySem.F.entry_dict_init (kt_code_dict_new _ ⟨rfl, rfl⟩) ?_
  rintro obj s₁ ⟨rfl, rfl⟩
  have H1 := H.push (c := .sd []) (o := emptyDict) (t := s.toks) ⟨List.nodup_nil, [], 0, Heap.get?_push_size _ rfl, trivial⟩
  generalize hS : s.heap.objs.size = S at H1
  have hnew := H1.dict (.head _)
  refine ⟨hnew.typeIs, PySem.F.args_dict_init_2 _ _, ?_⟩
  unfold Builtin.«dict.__init__»
  refine wpAny_bind ?_
  unfold Builtin.Dict.selfAndRest
  refine wpAny_bind (wpAny_notOrdered_dict hnew.typeIs ?_)
  show wpAny _ _ (pure (S, [Value.ref L])) _ _ _
  refine wpAny_pure ?_
  show wpAny _ (AR d (u + 2)) (Builtin.Dict.updateFrom "dict.__init__" S (.ref L) [] .none) _ _ _
  unfold Builtin.Dict.updateFrom
  obtain ⟨n, hn⟩ := H1.get (.tail _ hL)
  refine wpAny_bind (wpAny_typeOf (T := "list") ⟨_, hn, rfl⟩ ?_)
  rw [if_pos (by decide)]
  refine wpAny_bind (keys_miss_list rfl hn (fun h' t' hk => ?_))
  have H2 := H1.ext (t := t') hk
  rw [if_pos (by rfl)]
  refine wpAny_bind (wpAny_rule (wpAny_bind ((Iter.list w L (ps.map fun p => .ref p.a)).start H2 (fun p hp => by simp only [List.mem_singleton] at hp; subst hp; exact .tail _ hL) (fun I s₃ H₃ => ?_))))
  refine wpAny_bind (wpAny_pure (wpAny_pure ⟨plainId_quiet plain_upd_loop _, ?_⟩))
  show codeAny (model P0 w) (AR d (u + 1)) _ _ _
  refine upd_pairs_loop rfl hnd hz hL hps ps.length 0 0 s₃ _ (Nat.sub_zero _) (Nat.zero_le _) H₃ (fun s' H' => ⟨rfl, h _ _ H'⟩)
end
end Mine
end
section
open PySem PySem.W PySem.Calls PyProof.Rows PySem.W.X
set_option Elab.async false
set_option maxRecDepth 100000
set_option maxHeartbeats 8000000
set_option linter.unusedVariables false
namespace Mine
local macro_rules | `(tactic| walk_at "mem") => `(tactic| first | assumption | exact List.Mem.head _ | (refine' List.Mem.tail _ ?_; walk_at "mem") | (refine' List.mem_append_right _ ?_; walk_at "mem") | (refine' List.mem_append_left _ ?_; walk_at "mem") | exact Zip.at' (by assumption) | exact Zip.keep (by assumption) (by walk_at "mem") (by intro e; cases e))
local macro_rules | `(tactic| walk_at "zip") => `(tactic| first | assumption | exact Zip.head | exact Zip.tail (by walk_at "zip") | exact Zip.app (by walk_at "zip") | exact Zip.again (by assumption))
local macro_rules | `(tactic| walk_at "kv") => `(tactic| first | with_reducible_and_instances exact List.Mem.head _ | (refine' List.Mem.tail _ ?_; walk_at "kv") | assumption)
local macro_rules | `(tactic| walk_at "put") => `(tactic| first | with_reducible exact Put.head | exact Put.tail (by walk_at "put"))
local macro_rules | `(tactic| walk_at "putd") => `(tactic| first | with_reducible exact PutD.head | with_reducible exact PutD.nil | exact PutD.tail (by decide) (by walk_at "putd"))
local macro_rules | `(tactic| walk_at "nm") => `(tactic| first
  | (refine e_local (by assumption) (by walk_at "mem") (by walk_at "kv") ?_)
  | (refine e_cell (by assumption) (by rfl) (by walk_at "mem") ?_)
  | (refine e_free (by assumption) (by rfl) (by walk_at "mem") ?_))
local macro_rules | `(tactic| walk_at "gl") => `(tactic| refine e_global (by assumption) (by assumption) (by first | with_reducible exact gl_Problem _ | with_reducible exact gl_BacktrackingSolver _ | with_reducible exact gl_Domain _ | with_reducible exact gl_Constraint _ | with_reducible exact gl_FunctionConstraint _ | with_reducible exact gl_law_yes _ | with_reducible exact gl_law_rule _ | with_reducible exact gl_law_due _) ?_)
local macro_rules | `(tactic| walk_at "bi") => `(tactic| refine e_builtin (by assumption) (by assumption) (by first | with_reducible exact bn_isinstance _ | with_reducible exact bn_callable _ | with_reducible exact bn_list _ | with_reducible exact bn_tuple _ | with_reducible exact bn_len _ | with_reducible exact bn_range _ | with_reducible exact bn_next _ | with_reducible exact bn_dict _ | with_reducible exact bn_sorted _ | with_reducible exact bn_iter _) (by first | with_reducible exact bb_isinstance | with_reducible exact bb_callable | with_reducible exact bb_list | with_reducible exact bb_tuple | with_reducible exact bb_len | with_reducible exact bb_range | with_reducible exact bb_next | with_reducible exact bb_dict | with_reducible exact bb_sorted | with_reducible exact bb_iter) ?_)
local macro_rules | `(tactic| walk_at "ns") => `(tactic| (show (_ : List Str).Nodup; dsimp only [List.map, List.nil_append, List.cons_append, List.append_nil]; decide +kernel))
local macro_rules | `(tactic| walk_at "lt") => `(tactic| (show _ < 1000; omega))
local macro_rules | `(tactic| x_close) => `(tactic| exact xq_of (by first | assumption | exact Mem.start _) (by first | rfl | assumption))
local macro_rules | `(tactic| walk_at "ga") => `(tactic| refine i_get (by assumption) (by assumption) (by walk_at "mem") (by exact rfl) (by walk_at "mem") (by first | exact cls110 _ | exact cls186 _ | exact cls336 _) (by kernel_rfl) (by walk_at "kv") (by exact rfl) ?_)
local macro_rules | `(tactic| walk_at "sa") => `(tactic| refine i_set (by assumption) (by assumption) (by walk_at "mem") (by walk_at "zip") (by first | exact cls110 _ | exact cls186 _ | exact cls336 _) (by kernel_rfl) (by kernel_rfl) (by walk_at "putd") (Nat.le_of_ble_eq_true rfl) ?_)
local macro_rules | `(tactic| walk_at "st") => `(tactic| refine e_store (by assumption) (by walk_at "zip") (by walk_at "put") ?_)
local macro_rules | `(tactic| walk_at "nmc") => `(tactic| first
  | (refine e_local (by assumption) (List.Mem.head _) (by first | exact List.Mem.head _ | exact List.Mem.tail _ (List.Mem.head _) | exact List.Mem.tail _ (List.Mem.tail _ (List.Mem.head _))) ?_)
  | (refine e_cell (by assumption) (by rfl) (by walk_at "mem") ?_)
  | (refine e_free (by assumption) (by rfl) (by walk_at "mem") ?_))
local macro_rules | `(tactic| walk_at "subl") => `(tactic| first | exact List.Sublist.refl _ | (refine' List.Sublist.cons _ ?_; walk_at "subl"))
section
variable {w : World} {g : Heap} {os : OsState} {G : Array GenState} {l l' : Led} {s : Shared} {a : Addr} {c c' : Cell} {f : Cell → Led} {A : Around} {E : Value → Shared → Prop}
/-! ## items, sums of lists, slices from the end -/
theorem d_items {D : Addr} {kvs : List (Str × Value)} {Q : Value → Shared → Prop} {E : Value → Shared → Prop} (H : Ok w g os G l s) (hm : (D, .sd kvs) ∈ l) (h : ∀ a s', Ok w g os G ((a, .ob (itemsO D)) :: l) s' → Q (.ref a) s') :
    wpAny (model P0 w) A (call (.builtin "dict.items") [.ref D]) Q E s :=
  call_meetsIn PySem.F.slot_dict_items (H.dict hm).typeIs PySem.F.entry_dict_items (PySem.F.args_dict_items_1 _) (meets_dict_items (strKind P0 w) D (H.notSys hm))
    ⟨⟨_, H.dict hm⟩, h _ _ (H.push (t := s.toks) (Heap.get?_push_size _ rfl))⟩
theorem Ok.view (H : Ok w g os G l s) {V D : Addr} (hV : (V, .ob (itemsO D)) ∈ l) : s.heap.IsItemsView V D := ⟨_, H.get hV, rfl, rfl⟩
/-- list(d.items()) -/
theorem items_list {d u : Nat} {V D : Addr} {kvs : List (Str × Value)} {Q : Value → Shared → Prop} {E : Value → Shared → Prop} (H : Ok w g os G l s) (hV : (V, .ob (itemsO D)) ∈ l) (hm : (D, .sd kvs) ∈ l) (hz : kvs.length ≤ 1000)
    (h : ∀ L ps s', ptKvs ps = kvs → Ok w g os G ((L, .lst (ps.map fun p => .ref p.a)) :: (ptLed ps ++ l)) s' → Q (.ref L) s') :
    wpAny (model P0 w) (AR d u) (call (.type "list") [.ref V]) Q E s := by
  obtain ⟨ep, hat⟩ := (H.dict hm).dictAt
  refine kdx_call (knd := strKind P0 w) rfl (H.view hV) hat (by rw [sizeLine_eq]; omega) (fun h' tk acc c as hk hS hl hG hacc => ?_)
  have key : ∀ (as : List Addr) (kvs : List (Str × Value)), as.length = kvs.length → (∀ (j : Nat) (a : Addr), as[j]? = some a → ∃ key k x, kvs[j]? = some (k, x) ∧ (strKind P0 w).is k key = true ∧ h'.get? a = some { cls := .type "tuple", data := .seq #[key, x] }) →
      ∃ ps : List PT, ptKvs ps = kvs ∧ ps.map (·.a) = as ∧ ∀ p ∈ ptLed ps, p.2.At w h' p.1 := by
    intro as
    induction as with
    | nil => intro kvs e _; cases kvs with
      | nil => exact ⟨[], rfl, rfl, by intro p hp; cases hp⟩
      | cons => cases e
    | cons a as ih =>
      intro kvs e q
      cases kvs with
      | nil => cases e
      | cons kv kvs =>
        obtain ⟨ps, e1, e2, e3⟩ := ih kvs (by simpa using e) (fun j a hj => q (j + 1) a hj)
        obtain ⟨key, k, x, q1, q2, q3⟩ := q 0 a rfl
        obtain ⟨t, rfl⟩ := Value.isStrOf_shape q2
        cases q1
        refine ⟨⟨a, k, t, x⟩ :: ps, by rw [← e1]; rfl, by rw [← e2]; rfl, fun p hp => ?_⟩
        rcases List.mem_cons.mp hp with rfl | hp
        · exact ⟨0, q3⟩
        · exact e3 p hp
  obtain ⟨ps, e1, e2, e3⟩ := key as kvs hl hG.pairs
  have e4 : (ptLed ps).map (·.1) = as := by rw [← e2, List.map_map]; rfl
  have H' := H.mores (t := tk) (h' := h') ((s.heap.objs.size, .lst (ps.map fun p => .ref p.a)) :: ptLed ps) hk ?_ ?_ ?_
  · exact h _ ps _ e1 H'
  · rw [List.map_cons, List.nodup_cons, e4]
    refine ⟨fun hm => Nat.lt_irrefl _ (hG.above _ hm), hG.rise.imp fun hab => Nat.ne_of_lt hab⟩
  · intro p hp
    rcases List.mem_cons.mp hp with rfl | hp
    · exact Nat.le_refl _
    · exact Nat.le_of_lt (hG.above _ (by rw [← e4]; exact List.mem_map_of_mem (f := (·.1)) hp))
  · intro p hp
    rcases List.mem_cons.mp hp with rfl | hp
    · refine ⟨c, ?_⟩
      rw [hS]
      have : acc = (ps.map fun p => Value.ref p.a).toArray := by
        apply Array.toList_inj.mp
        rw [hacc, ← e2, List.map_map]
        rfl
      rw [this]
    · exact e3 p hp
theorem l_add {a b : Addr} {vs us : List Value} {Q : Value → Shared → Prop} {E : Value → Shared → Prop} (H : Ok w g os G l s) (ha : (a, .lst vs) ∈ l) (hb : (b, .lst us) ∈ l) (hz : vs.length + us.length ≤ 100000)
    (h : ∀ D s', Ok w g os G ((D, .lst (vs ++ us)) :: l) s' → Q (.ref D) s') : wpAny (model P0 w) A (binaryOp .Add (.ref a) (.ref b)) Q E s := by
  obtain ⟨n, hn⟩ := H.get ha
  obtain ⟨m, hm⟩ := H.get hb
  have e : vs.toArray ++ us.toArray = (vs ++ us).toArray := by simp
  refine concat_meets ⟨_, hn, rfl⟩ ⟨_, hm, rfl⟩ noFill_list_add seq_list_add PySem.F.slot_list_add PySem.F.entry_list_add (PySem.F.args_list_add_2 _ _) (list_addW a b vs.toArray us.toArray n m none none #[] #[] (by rw [List.size_toArray, List.size_toArray, sizeLine_eq]; omega)) ⟨hn, hm, ?_⟩
  rw [e]
  exact h _ _ (H.push (t := s.toks) ⟨0, Heap.get?_push_size _ rfl⟩)
theorem x_rev {env : Env} {k : Nat} {p1 p2 p : Pos} {Q : Value → Shared → Prop} {E : Value → Shared → Prop} (H : Ok w g os G l s) (h : ∀ sl t s', Ok w g os G l s' → s'.heap.IsSliceOf sl .none .none (.int (-1) t) → Q (.ref sl) s') :
    wpAny (model P0 w) A (eval (.Slice none none (some (.UnaryOp .USub (.Constant (.int 1) k p1) p2)) p) env) Q E s := by
  refine wpAny_Slice ?_
  rw [evalPart_none, evalPart_some]
  refine wpAny_pure (wpAny_pure (UnaryOp_ (e_int H (fun t1 s₁ H₁ => e_neg H₁ (fun t2 s₂ H₂ => ?_)))))
  exact h _ t2 _ (H₂.ext (t := s₂.toks) (fun b o e => Heap.get?_push_of_some _ e)) (Heap.IsSliceOf.new ..)
theorem getItem_rev {x sl : Addr} {vs : List Value} {t : Tok} {Q : Value → Shared → Prop} {E : Value → Shared → Prop} (H : Ok w g os G l s) (hx : (x, .lst vs) ∈ l) (hz : vs.length ≤ 100000) (hsl : s.heap.IsSliceOf sl .none .none (.int (-1) t))
    (h : ∀ a s', Ok w g os G ((a, .lst vs.reverse) :: l) s' → Q (.ref a) s') : wpAny (model P0 w) A (getItem (.ref x) (.ref sl)) Q E s := by
  refine wpAny_getItem_list_slice (H.lst hx) hsl .none .none (.int (-1) t) (by decide) ?_ (by rw [List.size_toArray, sizeLine_eq]; omega)
  refine h _ _ (H.push (t := s.toks) (c := .lst vs.reverse) ⟨0, ?_⟩)
  refine (Heap.get?_push_size _ rfl).trans ?_
  rw [krv_pick]
theorem x_upto {env : Env} {k : Nat} {b : Int} {p1 p : Pos} {Q : Value → Shared → Prop} {E : Value → Shared → Prop} (H : Ok w g os G l s) (h : ∀ sl t s', Ok w g os G l s' → s'.heap.IsSliceOf sl .none (.int b t) .none → Q (.ref sl) s') :
    wpAny (model P0 w) A (eval (.Slice none (some (.Constant (.int b) k p1)) none p) env) Q E s := by
  refine wpAny_Slice ?_
  rw [evalPart_none, evalPart_some]
  refine wpAny_pure (e_int H (fun t1 s₁ H₁ => wpAny_pure ?_))
  exact h _ t1 _ (H₁.ext (t := s₁.toks) (fun b o e => Heap.get?_push_of_some _ e)) (Heap.IsSliceOf.new ..)
theorem IsTup.toIs {h : Heap} {a : Addr} {vs : Array Value} (x : PyProof.Rows.IsTup h a vs) : h.IsTuple a vs := by
  obtain ⟨o, e, q⟩ := x
  exact ⟨o, e, q⟩
/-- x in (a, b) -/
theorem in_tup2 {T : Addr} {a b n : Str} {t1 t2 t : Tok} {Q : Value → Shared → Prop} {E : Value → Shared → Prop} (H : Ok w g os G l s) (hT : (T, .tup [.str a t1, .str b t2]) ∈ l) (h : Q (.bool (a == n || b == n)) s) :
    wpAny (model P0 w) A (compareOp .In (.str n t) (.ref T)) Q E s := by
  obtain ⟨m, hm⟩ := H.get hT
  refine SeqAt.in_tupleAt (items := #[.str a t1, .str b t2]) (fun v => match v with | .str x _ => x == n | _ => false) ⟨_, hm, rfl, m, rfl⟩ (fun y hy => ?_) ?_
  · simp only [List.mem_toArray, List.mem_cons, List.not_mem_nil, or_false] at hy
    rcases hy with rfl | rfl
    · exact SeqAt.EqAt.str_str a t1 n t
    · exact SeqAt.EqAt.str_str b t2 n t
  · simpa using h
theorem eq_nil {a b : Addr} {vs : List Value} {Q : Value → Shared → Prop} {E : Value → Shared → Prop} (H : Ok w g os G l s) (ha : (a, .lst vs) ∈ l) (hb : (b, .lst []) ∈ l) (hu : A.units < cLine) (h : Q (.bool vs.isEmpty) s) :
    wpAny (model P0 w) A (compareOp .Eq (.ref a) (.ref b)) Q E s := by
  cases vs with
  | nil => exact SeqAt.eq_listAt (e := fun _ => true) (H.lst ha) (H.lst hb) rfl hu (fun j h1 => absurd h1 (Nat.not_lt_zero _)) h
  | cons v vs => exact SeqAt.eq_list_lengthsAt (H.lst ha) (H.lst hb) (by simp) hu h
theorem ne_nil {a b : Addr} {vs : List Value} {Q : Value → Shared → Prop} {E : Value → Shared → Prop} (H : Ok w g os G l s) (ha : (a, .lst vs) ∈ l) (hb : (b, .lst []) ∈ l) (hu : A.units < cLine) (h : Q (.bool (!vs.isEmpty)) s) :
    wpAny (model P0 w) A (compareOp .NotEq (.ref a) (.ref b)) Q E s := by
  cases vs with
  | nil => exact SeqAt.RcNeAt.lists (e := fun _ => true) (H.lst ha) (H.lst hb) rfl hu (fun j h1 => absurd h1 (Nat.not_lt_zero _)) P0 w E _ h
  | cons v vs => exact SeqAt.RcNeAt.lists_lengths (H.lst ha) (H.lst hb) (by simp) hu P0 w E _ h
/-! ## dict(d.items()) -/
theorem upd_items_loop {d u : Nat} {S I D : Addr} {kvs : List (Str × Value)} {ep : Nat} (hz : kvs.length ≤ 1000) (hD : (D, .dk kvs ep) ∈ l) (hgI : g.get? I = none) (hlI : ∀ p ∈ l, p.1 ≠ I) (hSI : S ≠ I) :
    ∀ (k i : Nat) (tk : Tok) (s : Shared) (R : Result → Shared → Prop), kvs.length - i = k → i ≤ kvs.length → Ok w g os G ((S, .sd (kvs.take i)) :: l) s → KdxSt s.heap I D S i kvs.length ep →
    (∀ s', Ok w g os G ((S, .sd kvs) :: l) s' → R (.ok (.ret .none)) s') → codeAny (model P0 w) (AR d u) (.builtin "dict.update.loop" ⟨[.ref S, .ref I, .int (i : Nat) tk, .none], []⟩) R s := by
  intro k
  have apart : ∀ (c : Cell), ∀ p ∈ (S, c) :: l, p.1 ≠ I := by
    intro c p hp
    rcases List.mem_cons.mp hp with rfl | hp
    · exact hSI
    · exact hlI p hp
  induction k with
  | zero =>
    intro i tk s R hk hi H hst h
    have : i = kvs.length := by omega
    subst this
    refine codeAny_builtin entry_upd_loop ?_
    rw [Around.under_plainId plain_upd_loop _]
    show wpAny _ (AR d (u + 1)) (pyNext (.ref I) >>= _) _ _ s
    refine wpAny_bind (kdx_done (knd := strKind P0 w) rfl hst (dk_at (H.get (.tail _ hD))) (List.getElem?_eq_none (Nat.le_refl _)) (fun h' he => ?_))
    have H' := H.but (t := s.toks) (apart _) hgI he
    rw [List.take_of_length_le (Nat.le_refl _)] at H'
    exact wpAny_bind (wpAny_pure (wpAny_pure (h _ H')))
  | succ k ih =>
    intro i tk s R hk hi H hst h
    have hlt : i < kvs.length := by omega
    have hkv : kvs[i]? = some ((kvs[i]).1, (kvs[i]).2) := List.getElem?_eq_getElem hlt
    have nd := (H.get (.tail _ hD) : (Cell.dk kvs ep).At w s.heap D).1
    refine codeAny_builtin entry_upd_loop ?_
    rw [Around.under_plainId plain_upd_loop _]
    show wpAny _ (AR d (u + 1)) (pyNext (.ref I) >>= _) _ _ s
    refine wpAny_bind (kdx_item (knd := strKind P0 w) hst (H.lt (p := (S, _)) (.head _)) (dk_at (H.get (.tail _ hD))) hkv (fun key h' hkey hst' ht hsz hkp => ?_))
    obtain ⟨t, rfl⟩ := Value.isStrOf_shape hkey
    have H' := H.but (t := s.toks) (apart _) hgI hkp
    generalize hx : kvs[i] = x at *
    dsimp only
    refine wpAny_bind (wpAny_holding (wpAny_bind (wpAny_tryCatch ?_)))
    unfold Builtin.Dict.pairItems
    refine wpAny_bind (wpAny_typeOf (T := "tuple") ⟨_, ht, rfl⟩ ?_)
    rw [if_pos (by decide)]
    refine wpAny_bind (wpAny_seqItems ht rfl (wpAny_pure ?_))
    show wpAny _ _ (holding [.str x.1 t, x.2] (dictSet S (.str x.1 t) x.2)) _ _ _
    refine wpAny_holding ?_
    refine wpAny_dictSet_pairs (knd := strKind P0 w) (isStr x.1 t) (H'.dict (.head _)) (fun h'' hd hs => ?_) (by rw [List.length_take, sizeLine_eq]; omega)
    have H'' := H'.dset (t := s.toks + 1) .head hd hs
    rw [stored_new (nodup_take nd hkv), ← take_snoc hkv] at H''
    have hst'' : KdxSt h'' I D S (i + 1) kvs.length ep := hst'.keep (fun b o hb e => (hs.2 b hb).trans e) (Ne.symm hSI)
    exact wpAny_pure ⟨plainId_quiet plain_upd_loop _, ih (i + 1) 0 _ R (by omega) hlt H'' hst'' h⟩
theorem d_of_items {d u : Nat} {V D : Addr} {kvs : List (Str × Value)} {Q : Value → Shared → Prop} {E : Value → Shared → Prop} (H : Ok w g os G l s) (hV : (V, .ob (itemsO D)) ∈ l) (hD : (D, .sd kvs) ∈ l) (hz : kvs.length ≤ 1000)
    (h : ∀ a s', Ok w g os G ((a, .sd kvs) :: l) s' → Q (.ref a) s') : wpAny (model P0 w) (AR d u) (call (.type "dict") [.ref V]) Q E s := by
  refine callType_codes (Q₁ := fun obj s₁ => obj = .ref s.heap.objs.size ∧ s₁ = { s with heap := s.heap.push { cls := .type "dict", data := .dict #[] } }) PySem.F.kt_called_dict (PySem.F.kt_typeCall_dict_1 _) PySem.F.entry_dict_init (kt_code_dict_new _ ⟨rfl, rfl⟩) ?_
  rintro obj s₁ ⟨rfl, rfl⟩
  have H1 := H.push (c := .sd []) (o := emptyDict) (t := s.toks) ⟨List.nodup_nil, [], 0, Heap.get?_push_size _ rfl, trivial⟩
  generalize hS : s.heap.objs.size = S at H1
  have hnew := H1.dict (.head _)
  refine ⟨hnew.typeIs, PySem.F.args_dict_init_2 _ _, ?_⟩
  unfold Builtin.«dict.__init__»
  refine wpAny_bind ?_
  unfold Builtin.Dict.selfAndRest
  refine wpAny_bind (wpAny_notOrdered_dict hnew.typeIs ?_)
  show wpAny _ _ (pure (S, [Value.ref V])) _ _ _
  refine wpAny_pure ?_
  show wpAny _ (AR d (u + 2)) (Builtin.Dict.updateFrom "dict.__init__" S (.ref V) [] .none) _ _ _
  unfold Builtin.Dict.updateFrom
  have hn := H1.get (.tail _ hV)
  refine wpAny_bind (wpAny_typeOf (T := "dict_items") ⟨_, hn, rfl⟩ ?_)
  rw [if_pos (by decide)]
  refine wpAny_bind (keys_miss_items rfl hn (fun h' t' hk => ?_))
  have H2 := H1.ext (t := t') hk
  rw [if_pos (by rfl)]
  obtain ⟨f, z⟩ := zip_of_mem hD
  obtain ⟨ep, H3⟩ := H2.toDk (.tail z)
  have e0 : f (.sd kvs) = l := z.same
  have z' : Zip (f (.dk kvs ep)) D (.dk kvs ep) f := z.again
  have hV' : (V, .ob (itemsO D)) ∈ f (.dk kvs ep) := z.keep hV (by intro e; cases e)
  have hviw : Shared.heap { { s with heap := s.heap.push emptyDict, toks := s.toks } with heap := h', toks := t' } |>.IsItemsView V D := H3.view (.tail _ hV')
  refine wpAny_bind (wpAny_rule (wpAny_bind (wpAny_pyIter_items (knd := strKind P0 w) hviw (dk_at (H3.get (.tail _ z'.mem))) ?_)))
  refine wpAny_bind (wpAny_pure (wpAny_pure ⟨plainId_quiet plain_upd_loop _, ?_⟩))
  show codeAny (model P0 w) (AR d (u + 1)) _ _ _
  have H4 := H3.ext (t := t') (h' := h'.push { cls := .type "dict_itemiterator", data := .fields #[.none, .bool false, .ref D, .int 0 0, .int kvs.length 0, .int ep 0, .none, .none] }) (fun b o e => Heap.get?_push_of_some _ e)
  have big : ∀ p ∈ (S, Cell.sd []) :: f (.dk kvs ep), p.1 ≠ h'.objs.size := fun p hp => Nat.ne_of_lt (H3.lt hp)
  refine upd_items_loop (l := f (.dk kvs ep)) hz z'.mem ?_ (fun p hp => big p (.tail _ hp)) (big (S, .sd []) (.head _)) kvs.length 0 0 _ _ (Nat.sub_zero _) (Nat.zero_le _) H4 (.inl ⟨rfl, .none, .none, Heap.get?_push_size _ rfl⟩) (fun s' H' => ⟨rfl, ?_⟩)
  · cases q : g.get? h'.objs.size with
    | none => rfl
    | some o' => exact absurd (Heap.lt_size (H3.keep _ _ q)) (Nat.lt_irrefl _)
  · have := H'.ofDk (.tail z')
    rw [e0] at this
    exact h _ _ this
end
end Mine
end
section
open PySem PySem.W PySem.Calls PyProof.Rows PySem.W.X
set_option Elab.async false
set_option maxRecDepth 100000
set_option maxHeartbeats 8000000
set_option linter.unusedVariables false
namespace Mine
local macro_rules | `(tactic| walk_at "mem") => `(tactic| first | assumption | exact List.Mem.head _ | (refine' List.Mem.tail _ ?_; walk_at "mem") | (refine' List.mem_append_right _ ?_; walk_at "mem") | (refine' List.mem_append_left _ ?_; walk_at "mem") | exact Zip.at' (by assumption) | exact Zip.keep (by assumption) (by walk_at "mem") (by intro e; cases e))
local macro_rules | `(tactic| walk_at "zip") => `(tactic| first | assumption | exact Zip.head | exact Zip.tail (by walk_at "zip") | exact Zip.app (by walk_at "zip") | exact Zip.again (by assumption))
local macro_rules | `(tactic| walk_at "kv") => `(tactic| first | with_reducible_and_instances exact List.Mem.head _ | (refine' List.Mem.tail _ ?_; walk_at "kv") | assumption)
local macro_rules | `(tactic| walk_at "put") => `(tactic| first | with_reducible exact Put.head | exact Put.tail (by walk_at "put"))
local macro_rules | `(tactic| walk_at "putd") => `(tactic| first | with_reducible exact PutD.head | with_reducible exact PutD.nil | exact PutD.tail (by decide) (by walk_at "putd"))
local macro_rules | `(tactic| walk_at "nm") => `(tactic| first
  | (refine e_local (by assumption) (by walk_at "mem") (by walk_at "kv") ?_)
  | (refine e_cell (by assumption) (by rfl) (by walk_at "mem") ?_)
  | (refine e_free (by assumption) (by rfl) (by walk_at "mem") ?_))
local macro_rules | `(tactic| walk_at "gl") => `(tactic| refine e_global (by assumption) (by assumption) (by first | with_reducible exact gl_Problem _ | with_reducible exact gl_BacktrackingSolver _ | with_reducible exact gl_Domain _ | with_reducible exact gl_Constraint _ | with_reducible exact gl_FunctionConstraint _ | with_reducible exact gl_law_yes _ | with_reducible exact gl_law_rule _ | with_reducible exact gl_law_due _) ?_)
local macro_rules | `(tactic| walk_at "bi") => `(tactic| refine e_builtin (by assumption) (by assumption) (by first | with_reducible exact bn_isinstance _ | with_reducible exact bn_callable _ | with_reducible exact bn_list _ | with_reducible exact bn_tuple _ | with_reducible exact bn_len _ | with_reducible exact bn_range _ | with_reducible exact bn_next _ | with_reducible exact bn_dict _ | with_reducible exact bn_sorted _ | with_reducible exact bn_iter _) (by first | with_reducible exact bb_isinstance | with_reducible exact bb_callable | with_reducible exact bb_list | with_reducible exact bb_tuple | with_reducible exact bb_len | with_reducible exact bb_range | with_reducible exact bb_next | with_reducible exact bb_dict | with_reducible exact bb_sorted | with_reducible exact bb_iter) ?_)
local macro_rules | `(tactic| walk_at "ns") => `(tactic| (show (_ : List Str).Nodup; dsimp only [List.map, List.nil_append, List.cons_append, List.append_nil]; decide +kernel))
local macro_rules | `(tactic| walk_at "lt") => `(tactic| (show _ < 1000; omega))
local macro_rules | `(tactic| x_close) => `(tactic| exact xq_of (by first | assumption | exact Mem.start _) (by first | rfl | assumption))
local macro_rules | `(tactic| walk_at "ga") => `(tactic| refine i_get (by assumption) (by assumption) (by walk_at "mem") (by exact rfl) (by walk_at "mem") (by first | exact cls110 _ | exact cls186 _ | exact cls336 _) (by kernel_rfl) (by walk_at "kv") (by exact rfl) ?_)
local macro_rules | `(tactic| walk_at "sa") => `(tactic| refine i_set (by assumption) (by assumption) (by walk_at "mem") (by walk_at "zip") (by first | exact cls110 _ | exact cls186 _ | exact cls336 _) (by kernel_rfl) (by kernel_rfl) (by walk_at "putd") (Nat.le_of_ble_eq_true rfl) ?_)
local macro_rules | `(tactic| walk_at "st") => `(tactic| refine e_store (by assumption) (by walk_at "zip") (by walk_at "put") ?_)
local macro_rules | `(tactic| walk_at "nmc") => `(tactic| first
  | (refine e_local (by assumption) (List.Mem.head _) (by first | exact List.Mem.head _ | exact List.Mem.tail _ (List.Mem.head _) | exact List.Mem.tail _ (List.Mem.tail _ (List.Mem.head _))) ?_)
  | (refine e_cell (by assumption) (by rfl) (by walk_at "mem") ?_)
  | (refine e_free (by assumption) (by rfl) (by walk_at "mem") ?_))
local macro_rules | `(tactic| walk_at "subl") => `(tactic| first | exact List.Sublist.refl _ | (refine' List.Sublist.cons _ ?_; walk_at "subl"))
section
variable {w : World} {g : Heap} {os : OsState} {G : Array GenState} {l l' : Led} {s : Shared} {a : Addr} {c c' : Cell} {f : Cell → Led} {A : Around} {E : Value → Shared → Prop}
/-! ## lists of dicts are compared -/
def toI : Value → Int
  | .int i _ => i
  | _ => 0
def cont (kvs : List (Str × Value)) : List (Str × Int) := kvs.map fun p => (p.1, toI p.2)
def AllInt (kvs : List (Str × Value)) : Prop := ∀ p ∈ kvs, ∃ i t, p.2 = .int i t
def EqW (w : World) (A : Around) (s : Shared) (y x : Value) : Prop := ∀ (E : Value → Shared → Prop) (Q : Bool → Shared → Prop), Q true s → wpAny (model P0 w) A (eqBool y x) Q E s
theorem eq_loopW {p q : Addr} {items items2 : Array Value} {n n2 : Nat} (hsz : items.size = items2.size) (hl : s.heap.get? p = some { cls := .type "list", data := .seq items n }) (hb : s.heap.get? q = some { cls := .type "list", data := .seq items2 n2 })
    (he : ∀ j (h1 : j < items.size) (h2 : j < items2.size), EqW w A.in1 s items[j] items2[j]) (c : Nat) (r : Bool) (hr : c = 2 ∧ r = true ∨ c = 3 ∧ r = false) (k : Nat) : ∀ (i : Nat) (R : Result → Shared → Prop), items.size - i = k → R (.ok (.ret (.bool r))) s →
    codeAny (model P0 w) A (.builtin "list.__eq__.loop" ⟨[.ref p, .ref q, rawInt i, rawInt c], []⟩) R s := by
  induction k with
  | zero =>
    intro i R hk h
    refine codeAny_builtin MeetsSeq3.entry_eq_loop ?_
    rw [Around.under_plainId MeetsSeq3.plain_eq_loop _]
    have hi1 : items[((i : Nat) : Int).toNat]? = none := by simp; omega
    have hi2 : items2[((i : Nat) : Int).toNat]? = none := by simp; omega
    obtain ⟨hp, g, d, tk, os⟩ := s
    rcases hr with ⟨rfl, rfl⟩ | ⟨rfl, rfl⟩
    · wp_walk using AutoSeq1.wpAny_loadPart' hl, AutoSeq1.wpAny_loadPart' hb
      rw [hi1, hi2]
      wp_walk using AutoSeq1.wpAny_loadPart' hl, AutoSeq1.wpAny_loadPart' hb
      show R (.ok (.ret (.bool (items.size == items2.size)))) _
      rw [hsz]
      simpa using h
    · wp_walk using AutoSeq1.wpAny_loadPart' hl, AutoSeq1.wpAny_loadPart' hb
      rw [hi1, hi2]
      wp_walk using AutoSeq1.wpAny_loadPart' hl, AutoSeq1.wpAny_loadPart' hb
      show R (.ok (.ret (.bool (items.size != items2.size)))) _
      rw [hsz]
      simpa using h
  | succ k ih =>
    intro i R hk h
    refine codeAny_builtin MeetsSeq3.entry_eq_loop ?_
    rw [Around.under_plainId MeetsSeq3.plain_eq_loop _]
    have hlt : i < items.size := by omega
    have hlt2 : i < items2.size := by omega
    have hi1 : items[((i : Nat) : Int).toNat]? = some items[i] := by simp [hlt]
    have hi2 : items2[((i : Nat) : Int).toNat]? = some items2[i] := by simp [hlt2]
    have hc : ((i : Int) + 1) = ((i + 1 : Nat) : Int) := by push_cast; rfl
    have ih' := ih (i + 1) R (by omega) h
    have hei := he i hlt hlt2
    obtain ⟨hp, g, d, tk, os⟩ := s
    rcases hr with ⟨rfl, rfl⟩ | ⟨rfl, rfl⟩
    · wp_walk using AutoSeq1.wpAny_loadPart' hl, AutoSeq1.wpAny_loadPart' hb
      rw [hi1, hi2]
      refine wpAny_bind (hei _ _ ?_)
      wp_walk
      rw [hc]
      exact ⟨plainId_quiet MeetsSeq3.plain_eq_loop _, ih'⟩
    · wp_walk using AutoSeq1.wpAny_loadPart' hl, AutoSeq1.wpAny_loadPart' hb
      rw [hi1, hi2]
      refine wpAny_bind (hei _ _ ?_)
      wp_walk
      rw [hc]
      exact ⟨plainId_quiet MeetsSeq3.plain_eq_loop _, ih'⟩
theorem cont_len {ka kb : List (Str × Value)} (h : cont ka = cont kb) : ka.length = kb.length := by
  have := congrArg List.length h
  simpa [cont] using this
theorem cont_hit {ka kb : List (Str × Value)} (h : cont ka = cont kb) (nd : (kb.map (·.1)).Nodup) (ia : AllInt ka) (ib : AllInt kb) {k : Str} {v : Value} (hm : (k, v) ∈ ka) : ∃ i t t', v = .int i t ∧ valueAt kb k = some (.int i t') := by
  obtain ⟨i, t, e⟩ := ia _ hm
  dsimp only at e
  subst e
  have h1 : (k, i) ∈ cont ka := List.mem_map_of_mem (f := fun p : Str × Value => (p.1, toI p.2)) hm
  rw [h] at h1
  obtain ⟨p, hp, e⟩ := List.mem_map.mp h1
  obtain ⟨i', t', e'⟩ := ib _ hp
  obtain ⟨k', v'⟩ := p
  dsimp only at e' e
  subst e'
  cases e
  exact ⟨_, t, t', rfl, valueAt_mem nd hp⟩
theorem d_hits {ka kb : List (Str × Value)} (hk : ∀ k v, (k, v) ∈ ka → ∃ i t t', v = Value.int i t ∧ valueAt kb k = some (.int i t')) : KeqHits A s kb ka true := by
  induction ka with
  | nil => exact .nil
  | cons p ka ih =>
    obtain ⟨k, v⟩ := p
    obtain ⟨i, t, t', rfl, hv⟩ := hk k v (.head _)
    have e : true = ((i == i) && true) := by simp
    rw [e]
    exact .hit hv (SeqAt.EqAt.int_int i t i t') (ih fun k v hm => hk k v (.tail _ hm))
theorem d_eqW {d u : Nat} {p q : Addr} {ka kb : List (Str × Value)} (H : Ok w g os G l s) (hp : (p, .sd ka) ∈ l) (hq : (q, .sd kb) ∈ l) (hc : cont ka = cont kb) (ia : AllInt ka) (ib : AllInt kb) (hu : (AR d u).units < cLine) : EqW w (AR d u) s (.ref p) (.ref q) := by
  intro E Q h
  by_cases e : p = q
  · subst e
    exact SeqAt.EqAt.same _ P0 w E Q h
  · unfold eqBool
    refine wpAny_holding ?_
    refine wpAny_ite_split (fun hab => absurd (by have := eq_of_beq hab; injection this) e) (fun _ => ?_)
    refine wpAny_bind ?_
    refine keq_eq (knd := strKind P0 w) (r := true) (H.notSys hp) (H.notSys hq) (H.dict hp) (H.dict hq) hu (fun _ => d_hits fun k v hm => cont_hit hc (H.get (c := .sd kb) hq).1 ia ib hm) ?_
    rw [show (ka.length == kb.length && true) = true by simp [cont_len hc]]
    exact wpAny_truthy_bool h
theorem l_cmp {d u : Nat} {p q : Addr} {ds es : List (Addr × List (Str × Value))} {op : CmpOp} {Q : Value → Shared → Prop} {E : Value → Shared → Prop} (H : Ok w g os G l s) (hp : (p, .lst (dRefs ds)) ∈ l) (hq : (q, .lst (dRefs es)) ∈ l) (hds : ∀ x ∈ dLed ds, x ∈ l) (hes : ∀ x ∈ dLed es, x ∈ l)
    (hc : ds.map (fun x => cont x.2) = es.map (fun x => cont x.2)) (ia : ∀ x ∈ ds, AllInt x.2) (ib : ∀ x ∈ es, AllInt x.2) (hu : (AR d (u + 4)).units < cLine) (c : Nat) (r : Bool) (hr : (op = .Eq ∧ c = 2 ∧ r = true) ∨ (op = .NotEq ∧ c = 3 ∧ r = false)) (h : Q (.bool r) s) :
    wpAny (model P0 w) (AR d u) (compareOp op (.ref p) (.ref q)) Q E s := by
  obtain ⟨n, hn⟩ := H.get hp
  obtain ⟨m, hm⟩ := H.get hq
  have hlen : ds.length = es.length := by simpa using congrArg List.length hc
  have hu0 : (AR d u).units < cLine := Nat.lt_of_le_of_lt (Nat.le_add_right u 4) hu
  have hsz : (dRefs ds).toArray.size = (dRefs es).toArray.size := by simp [hlen]
  have loop := fun (A' : Around) (hA : A' = AR d u) (R : Result → Shared → Prop) (hR : R (.ok (.ret (.bool r))) s) => eq_loopW (w := w) (A := A') (p := p) (q := q) hsz hn hm (fun j h1 h2 => by
    subst hA
    have h1' : j < ds.length := by simpa using h1
    have h2' : j < es.length := by omega
    have e1 : (dRefs ds).toArray[j] = .ref (ds[j]).1 := by simp
    have e2 : (dRefs es).toArray[j] = .ref (es[j]).1 := by simp
    rw [e1, e2]
    refine d_eqW (d := d) (u := u + 1) H (hds _ (List.mem_map_of_mem (f := fun p : Addr × List (Str × Value) => (p.1, Cell.sd p.2)) (List.getElem_mem h1'))) (hes _ (List.mem_map_of_mem (f := fun p : Addr × List (Str × Value) => (p.1, Cell.sd p.2)) (List.getElem_mem h2'))) ?_ (ia _ (List.getElem_mem h1')) (ib _ (List.getElem_mem h2')) (Nat.lt_of_le_of_lt (Nat.add_le_add_left (by decide) u) hu)
    have := congrArg (fun l => l[j]?) hc
    simpa [List.getElem?_eq_getElem h1', List.getElem?_eq_getElem h2'] using this) c r (by rcases hr with ⟨_, a, b⟩ | ⟨_, a, b⟩; exact .inl ⟨a, b⟩; exact .inr ⟨a, b⟩) _ 0 R rfl hR
  have f3 := AutoSeq1.sub_list_list
  have hne : ¬ ((dRefs ds).toArray.size != (dRefs es).toArray.size) = true := by simp [hlen]
  rcases hr with ⟨rfl, rfl, rfl⟩ | ⟨rfl, rfl, rfl⟩
  · refine wpAny_richCompare_same_room (op := .Eq) (T := "list") ⟨_, hn, rfl⟩ ⟨_, hm, rfl⟩ PySem.F.slot_list_eq (wpAny_call (codeAny_call_builtin PySem.F.slot_list_eq.plain PySem.F.entry_list_eq (PySem.F.slot_list_eq.check _ _ _ _ _ _ _ _ (show s.TypeIs (.ref p) "list" from ⟨_, hn, rfl⟩) (PySem.F.args_list_eq_2 _ _) ?_))) hu0
    clear H hds hes
    obtain ⟨hp, g, d, tk, os⟩ := s
    wp_walk using AutoSeq1.wpAny_loadPart' hn, AutoSeq1.wpAny_loadPart' hm
    exact ⟨plainId_quiet MeetsSeq3.plain_eq_loop _, loop _ rfl _ ⟨(fun x => nomatch x), h⟩⟩
  · refine wpAny_richCompare_same_room (op := .NotEq) (T := "list") ⟨_, hn, rfl⟩ ⟨_, hm, rfl⟩ PySem.F.slot_list_ne (wpAny_call (codeAny_call_builtin PySem.F.slot_list_ne.plain PySem.F.entry_list_ne (PySem.F.slot_list_ne.check _ _ _ _ _ _ _ _ (show s.TypeIs (.ref p) "list" from ⟨_, hn, rfl⟩) (PySem.F.args_list_ne_2 _ _) ?_))) hu0
    clear H hds hes
    obtain ⟨hp, g, d, tk, os⟩ := s
    wp_walk using AutoSeq1.wpAny_loadPart' hn, AutoSeq1.wpAny_loadPart' hm
    exact ⟨plainId_quiet MeetsSeq3.plain_eq_loop _, loop _ rfl _ ⟨(fun x => nomatch x), h⟩⟩
end
end Mine
end
section
open PySem PySem.W PySem.Calls PyProof.Rows PySem.W.X
set_option Elab.async false
set_option maxRecDepth 100000
set_option maxHeartbeats 8000000
set_option linter.unusedVariables false
namespace Mine
local macro_rules | `(tactic| walk_at "mem") => `(tactic| first | assumption | exact List.Mem.head _ | (refine' List.Mem.tail _ ?_; walk_at "mem") | (refine' List.mem_append_right _ ?_; walk_at "mem") | (refine' List.mem_append_left _ ?_; walk_at "mem") | exact Zip.at' (by assumption) | exact Zip.keep (by assumption) (by walk_at "mem") (by intro e; cases e))
local macro_rules | `(tactic| walk_at "zip") => `(tactic| first | assumption | exact Zip.head | exact Zip.tail (by walk_at "zip") | exact Zip.app (by walk_at "zip") | exact Zip.again (by assumption))
local macro_rules | `(tactic| walk_at "kv") => `(tactic| first | with_reducible_and_instances exact List.Mem.head _ | (refine' List.Mem.tail _ ?_; walk_at "kv") | assumption)
local macro_rules | `(tactic| walk_at "put") => `(tactic| first | with_reducible exact Put.head | exact Put.tail (by walk_at "put"))
local macro_rules | `(tactic| walk_at "putd") => `(tactic| first | with_reducible exact PutD.head | with_reducible exact PutD.nil | exact PutD.tail (by decide) (by walk_at "putd"))
local macro_rules | `(tactic| walk_at "nm") => `(tactic| first
  | (refine e_local (by assumption) (by walk_at "mem") (by walk_at "kv") ?_)
  | (refine e_cell (by assumption) (by rfl) (by walk_at "mem") ?_)
  | (refine e_free (by assumption) (by rfl) (by walk_at "mem") ?_))
local macro_rules | `(tactic| walk_at "gl") => `(tactic| refine e_global (by assumption) (by assumption) (by first | with_reducible exact gl_Problem _ | with_reducible exact gl_BacktrackingSolver _ | with_reducible exact gl_Domain _ | with_reducible exact gl_Constraint _ | with_reducible exact gl_FunctionConstraint _ | with_reducible exact gl_law_yes _ | with_reducible exact gl_law_rule _ | with_reducible exact gl_law_due _) ?_)
local macro_rules | `(tactic| walk_at "bi") => `(tactic| refine e_builtin (by assumption) (by assumption) (by first | with_reducible exact bn_isinstance _ | with_reducible exact bn_callable _ | with_reducible exact bn_list _ | with_reducible exact bn_tuple _ | with_reducible exact bn_len _ | with_reducible exact bn_range _ | with_reducible exact bn_next _ | with_reducible exact bn_dict _ | with_reducible exact bn_sorted _ | with_reducible exact bn_iter _) (by first | with_reducible exact bb_isinstance | with_reducible exact bb_callable | with_reducible exact bb_list | with_reducible exact bb_tuple | with_reducible exact bb_len | with_reducible exact bb_range | with_reducible exact bb_next | with_reducible exact bb_dict | with_reducible exact bb_sorted | with_reducible exact bb_iter) ?_)
local macro_rules | `(tactic| walk_at "ns") => `(tactic| (show (_ : List Str).Nodup; dsimp only [List.map, List.nil_append, List.cons_append, List.append_nil]; decide +kernel))
local macro_rules | `(tactic| walk_at "lt") => `(tactic| (show _ < 1000; omega))
local macro_rules | `(tactic| x_close) => `(tactic| exact xq_of (by first | assumption | exact Mem.start _) (by first | rfl | assumption))
local macro_rules | `(tactic| walk_at "ga") => `(tactic| refine i_get (by assumption) (by assumption) (by walk_at "mem") (by exact rfl) (by walk_at "mem") (by first | exact cls110 _ | exact cls186 _ | exact cls336 _) (by kernel_rfl) (by walk_at "kv") (by exact rfl) ?_)
local macro_rules | `(tactic| walk_at "sa") => `(tactic| refine i_set (by assumption) (by assumption) (by walk_at "mem") (by walk_at "zip") (by first | exact cls110 _ | exact cls186 _ | exact cls336 _) (by kernel_rfl) (by kernel_rfl) (by walk_at "putd") (Nat.le_of_ble_eq_true rfl) ?_)
local macro_rules | `(tactic| walk_at "st") => `(tactic| refine e_store (by assumption) (by walk_at "zip") (by walk_at "put") ?_)
local macro_rules | `(tactic| walk_at "nmc") => `(tactic| first
  | (refine e_local (by assumption) (List.Mem.head _) (by first | exact List.Mem.head _ | exact List.Mem.tail _ (List.Mem.head _) | exact List.Mem.tail _ (List.Mem.tail _ (List.Mem.head _))) ?_)
  | (refine e_cell (by assumption) (by rfl) (by walk_at "mem") ?_)
  | (refine e_free (by assumption) (by rfl) (by walk_at "mem") ?_))
local macro_rules | `(tactic| walk_at "subl") => `(tactic| first | exact List.Sublist.refl _ | (refine' List.Sublist.cons _ ?_; walk_at "subl"))
section
variable {w : World} {g : Heap} {os : OsState} {G : Array GenState} {l l' : Led} {s : Shared} {a : Addr} {c c' : Cell} {f : Cell → Led} {A : Around} {E : Value → Shared → Prop}
/-! ## environments with one cell, and a closure -/
theorem ns_new (h : Heap) (c : Value) (vars : List Str) (hv : vars.Nodup) : (Cell.ns (vars.map (fun x => (x, (none : Option Value))))).At w (h.push { cls := c, data := .dict #[] }) h.objs.size := by
  have hmap : (vars.map (fun x => (x, (none : Option Value)))).map (·.1) = vars := by simp [Function.comp_def]
  refine ⟨by rw [hmap]; exact hv, ?_⟩
  have : (fun x => ((vars.map (fun x => (x, (none : Option Value)))).lookup x).join) = fun _ => none := by
    funext x
    have := lookup_names (binds := []) (rest := vars) (by rw [List.map_nil, List.nil_append, hmap]; exact hv) x
    simpa using this
  rw [this]
  exact Heap.Ns.new h c
theorem e_env1 {M : Model} {E : Value → Shared → Prop} {scope : Scope} {globals : Addr} {clos : List (Str × Addr)} {qual : Str} {func : Option Addr} {code : Value} {builtins : Addr} {x : Str} {v : Value} {Q : Env → Shared → Prop} (H : Ok w g os G l s)
    (hcf : ∀ n, cellsFrom n scope.names clos = (x, n) :: clos) (hpc : ∀ h, pushCells h scope.names = h.push { cls := .type "cell", data := .cell none }) (hx : scope.names.lookup x = some .cell) (hk : scope.kind = .function)
    (h : ∀ L cx s', Ok w g os G ((cx, .cl (some v)) :: (L, .ns []) :: l) s' → Q (newEnv scope L globals ((x, cx) :: clos) qual func code none builtins) s') :
    wpAny M A (newFunctionEnv scope globals clos [(x, v)] qual func code none builtins) Q E s := by
  simp only [newFunctionEnv, Option.isSome_none, Bool.false_eq_true, if_false]
  refine wpAny_bind (wpAny_alloc ?_)
  refine wpAny_bind (wpAny_layCells _ (fun name kind cells => by cases hkc : kind == NameKind.cell <;> simp [hkc]) _ _ _ _ ?_)
  have H1 := H.push (c := .ns []) (o := { cls := .type "frame", data := .dict #[] }) (t := s.toks) (ns_new s.heap (.type "frame") [] List.nodup_nil)
  have H2 := H1.push (c := .cl none) (o := { cls := .type "cell", data := .cell none }) (t := s.toks) ⟨_, Heap.get?_push_size _ rfl, rfl⟩
  rw [hcf, hpc]
  rw [List.forIn_cons]
  refine wpAny_bind (wpAny_bind (wpAny_bind (e_storeC H2 (ca := (s.heap.push { cls := .type "frame", data := .dict #[] }).objs.size) (by show List.lookup x ((x, _) :: clos) = _; simp) .head (fun s' H' => ?_) hx hk)))
  refine wpAny_pure ?_
  dsimp only
  rw [List.forIn_nil]
  exact wpAny_pure (wpAny_pure (h _ _ s' H'))
theorem e_compEnv1 {M : Model} {E : Value → Shared → Prop} {scope : Scope} {globals : Addr} {cl : List (Str × Addr)} {qual : Str} {env : Env} {x : Str} {Q : Env → Shared → Prop} (H : Ok w g os G l s)
    (hcf : ∀ n, cellsFrom n scope.names cl = (x, n) :: cl) (hpc : ∀ h, pushCells h scope.names = h.push { cls := .type "cell", data := .cell none }) (hk : scope.kind = .function)
    (h : ∀ C cx s', Ok w g os G ((cx, .cl none) :: (C, .ns []) :: l) s' → Q (newEnv scope C globals ((x, cx) :: cl) qual none .none (some env) 0) s') :
    wpAny M A (newFunctionEnv scope globals cl [] qual none .none (some env)) Q E s := by
  simp only [newFunctionEnv, Option.isSome_some, if_true]
  refine wpAny_bind (wpAny_alloc ?_)
  refine wpAny_bind (wpAny_layCells _ (fun name kind cells => by cases hkc : kind == NameKind.cell <;> simp [hkc]) _ _ _ _ ?_)
  have H1 := H.push (c := .ns []) (o := { cls := .type "dict", data := .dict #[] }) (t := s.toks) (ns_new s.heap (.type "dict") [] List.nodup_nil)
  have H2 := H1.push (c := .cl none) (o := { cls := .type "cell", data := .cell none }) (t := s.toks) ⟨_, Heap.get?_push_size _ rfl, rfl⟩
  rw [hcf, hpc]
  rw [List.forIn_nil]
  exact wpAny_bind (wpAny_pure (wpAny_pure (h _ _ _ H2)))
/-- a lambda with one argument, which is a cell -/
theorem call_fnE1 {d u : Nat} {fa c' : Addr} {oc : Obj} {fd : FuncData} {body : Expr} {args : Args} {x : Str} {v : Value} {R : Result → Shared → Prop}
    (B : Base w g) (H : Ok w g os G l s) (hf : (fa, .ob (fnO fd)) ∈ l) (hcode : fd.code = .ref c') (hc : (c', .ob oc) ∈ l) (ho : IsCodeOf oc fd.qualname) (hbody : fd.body = .expr body) (hbind : BindsTo s fd args [(x, v)])
    (hcf : ∀ n, cellsFrom n fd.scope.names fd.closure = (x, n) :: fd.closure) (hpc : ∀ h, pushCells h fd.scope.names = h.push { cls := .type "cell", data := .cell none }) (hx : fd.scope.names.lookup x = some .cell) (hd : d < recursionLimit)
    (h : ∀ L cx s', Ok w g os G ((cx, .cl (some v)) :: (L, .ns []) :: l) s' →
      wpAny (model P0 w) (AR (d + 1) (u + 3)) (eval body (newEnv fd.scope L fd.globals ((x, cx) :: fd.closure) (fd.qualname ++ ".<locals>.") (some fa) fd.code none fd.builtins)) (fun v s'' => R (.ok (.ret v)) s'') (fun _ _ => False) s')
    (hco : fd.scope.isCoroutine = false := by rfl) (hgen : fd.scope.isGenerator = false := by rfl) (hk : fd.scope.kind = .function := by rfl) :
    codeAny (model P0 w) (AR d u) (.call (.ref fa) args) R s := by
  obtain ⟨vs, t, o1, o2⟩ := ho
  refine kla_callFunE (A := AR d u) hd (H.get hf) rfl hco hgen hbody ⟨c', oc, vs, t, hcode, H.get hc, o1, o2⟩ (hbind _ _ _ _ ?_)
  refine e_env1 H hcf hpc hx hk (fun L cx s' H' => ?_)
  refine ⟨B.lim' H', kla_codeExpr ?_⟩
  exact wpAny_mono (h L cx _ H') (fun v s'' q => q) fun _ _ x => x.elim
/-! ## a comprehension with one cell -/
theorem x_listcomp1 {d u : Nat} {env : Env} {elt target iter : Expr} {ifs : List Expr} {scope : Scope} {cl : List (Str × Addr)} {x : Str} {pos : Pos} {Q : Value → Shared → Prop}
    (hclos : closureFor scope env = pure cl) (hkind : scope.kind = .function) (hnames : ∀ y ∈ scope.names, y.2 = .local → scope.names.lookup y.1 = some .local)
    (hcf : ∀ n, cellsFrom n scope.names cl = (x, n) :: cl) (hpc : ∀ h, pushCells h scope.names = h.push { cls := .type "cell", data := .cell none })
    (h : wpAny (model P0 w) (AR d u) (eval iter env) (fun xv s₁ => ∃ X need n item Nx G l, ∃ Inv : Nat → List Value → Array GenState → Led → Prop, Iter w X need n item Nx ∧ xv = .ref X ∧ Ok w g os G l s₁ ∧ n ≤ 100000 ∧ Inv 0 [] G l ∧ (∀ i ys G l, Inv i ys G l → ∀ p ∈ need, p ∈ l) ∧
      (∀ i v ys C cx D I G l ov s, i < n → item i v → ys.length ≤ i → Inv i ys G l → Ok w g os G ((C, .ns []) :: (cx, .cl ov) :: (D, .lst ys) :: (I, Nx (i + 1)) :: l) s → wpAny (model P0 w) (AR d u) (assign target (compEnvC scope ((x, cx) :: cl) C env) v) (fun _ s₂ =>
        wpAny (model P0 w) (AR d u) (testsOf ifs (compEnvC scope ((x, cx) :: cl) C env)) (fun ok s₃ =>
          if ok = true then wpAny (model P0 w) (AR d u) (eval elt (compEnvC scope ((x, cx) :: cl) C env)) (fun y s₄ => ∃ ov' G' l', Inv (i + 1) (ys ++ [y]) G' l' ∧ Ok w g os G' ((C, .ns []) :: (cx, .cl ov') :: (D, .lst ys) :: (I, Nx (i + 1)) :: l') s₄) NoE s₃
          else ∃ ov' G' l', Inv (i + 1) ys G' l' ∧ Ok w g os G' ((C, .ns []) :: (cx, .cl ov') :: (D, .lst ys) :: (I, Nx (i + 1)) :: l') s₃) NoE s₂) NoE s) ∧
      (∀ D ys G l s, Inv n ys G l → Ok w g os G ((D, .lst ys) :: l) s → Q (.ref D) s)) NoE s)
    (hs : ∀ x, foldedSetIterable iter env x = pure x := by intro _; rfl) (hb : 0 = env.builtins := by rfl) :
    wpAny (model P0 w) (AR d u) (eval (.ListComp elt [⟨target, iter, ifs, 0⟩] scope pos) env) Q NoE s := by
  rw [eval_ListComp]
  refine wpAny_comprehension_free (use := none) rfl hs hclos hkind hnames (wpAny_mono h (fun xv s₁ q => ?_) fun _ _ x => x.elim)
  obtain ⟨X, need, n, item, Nx, G, l, Inv, IT, rfl, H, hn, h0, hneed, step, last⟩ := q
  refine IT.start H (hneed 0 [] G l h0) (fun I s₂ H₂ => ?_)
  refine e_newList H₂ (fun D s₃ H₃ => ?_) (Nat.zero_le _)
  refine e_compEnv1 H₃ hcf hpc hkind (fun C cx s₄ H₄ => ?_)
  show codeAny _ _ (.compStart _ 0 (.ref I) (.ref D) (compEnvC scope ((x, cx) :: cl) C env)) _ s₄
  have H₄' : Ok w g os G ((C, .ns []) :: (cx, .cl none) :: (D, .lst []) :: (I, Nx 0) :: l) s₄ := H₄.perm (List.Perm.swap ..)
  have loop : codeAny (model P0 w) (AR d u) (.compLoop (.ListComp elt [⟨target, iter, ifs, 0⟩] scope pos) 0 (.ref I) (.ref D) (compEnvC scope ((x, cx) :: cl) C env)) (compPost (model P0 w) (AR d u) NoE none Q (.ref D) C) s₄ := by
    refine comp_loop (fun k s' => ∃ i ys ov G l, Inv i ys G l ∧ Ok w g os G ((C, .ns []) :: (cx, .cl ov) :: (D, .lst ys) :: (I, Nx i) :: l) s' ∧ ys.length ≤ i ∧ i ≤ n ∧ k = n + 1 - i) ?_ (n + 1) ⟨0, [], _, G, l, h0, H₄', Nat.zero_le _, Nat.zero_le _, rfl⟩
    rintro k s' ⟨i, ys, ov, G', l', hI, H', hys, hi, rfl⟩
    have P : ∀ {c : Cell} {m : Led}, ((C, Cell.ns []) :: (cx, Cell.cl ov) :: (D, Cell.lst ys) :: (I, c) :: m).Perm ((I, c) :: (C, .ns []) :: (cx, .cl ov) :: (D, .lst ys) :: m) := by
      intro c m
      exact (to_front (p := (I, c)) (r := m) [(C, Cell.ns []), (cx, Cell.cl ov), (D, Cell.lst ys)]).symm
    have hneed' : ∀ p ∈ need, p ∈ (C, Cell.ns []) :: (cx, Cell.cl ov) :: (D, Cell.lst ys) :: l' := fun p hp => .tail _ (.tail _ (.tail _ (hneed _ _ _ _ hI p hp)))
    by_cases hlt : i < n
    · refine IT.next (H'.perm P) hneed' hlt (fun v s₅ hitem H₅ => ?_)
      refine IT.owned H₅ ?_
      refine wpAny_mono (step i v ys C cx D I G' l' ov s₅ hlt hitem hys hI (H₅.perm P.symm)) (fun _ s₆ q => wpAny_mono q (fun ok s₇ q => ?_) fun _ _ x => x) fun _ _ x => x
      split
      · rename_i hok
        rw [if_pos hok] at q
        refine wpAny_mono q (fun y s₈ q => ?_) fun _ _ x => x
        obtain ⟨ov', G'', l'', e2, e3⟩ := q
        refine b_append e3 (.tail (.tail .head)) (by omega) (fun s₉ H₉ => ?_)
        exact ⟨n + 1 - (i + 1), by omega, i + 1, _, ov', G'', l'', e2, H₉, by simp; omega, hlt, rfl⟩
      · rename_i hok
        rw [if_neg hok] at q
        obtain ⟨ov', G'', l'', e2, e3⟩ := q
        exact ⟨n + 1 - (i + 1), by omega, i + 1, _, ov', G'', l'', e2, e3, by omega, hlt, rfl⟩
    · have : i = n := by omega
      subst this
      refine IT.stop rfl (H'.perm P) hneed' (fun s₅ H₅ => ?_)
      refine ⟨_, H₅.ns (.head _), fun h' hs' => last D ys G' l' _ hI ?_⟩
      exact (H₅.drop (t := s₅.toks) hs'.extBut).tail
  refine codeAny_compStart_list loop ?_
  exact IT.again (i := 0) (H₄'.perm (to_front (p := (I, Nx 0)) (r := l) [(C, Cell.ns []), (cx, Cell.cl none), (D, Cell.lst [])]).symm) loop
/-! ## a comprehension with two for-parts -/
section
variable {elt t1 i1 t2 i2 : Expr} {scope : Scope} {pos : Pos}
abbrev C2 (elt t1 i1 t2 i2 : Expr) (scope : Scope) (pos : Pos) : Expr := .ListComp elt [⟨t1, i1, [], 0⟩, ⟨t2, i2, [], 0⟩] scope pos
theorem compTurn_0 (it acc : Value) (env : Env) : compTurn (C2 elt t1 i1 t2 i2 scope pos) 0 it acc env = (standAt i1.pos >>= fun _ => pyNext it >>= fun r => match r with
      | none => pure (.done .next)
      | some v => letOwnedTupleGo t1 it v >>= fun _ => assign t1 env v >>= fun _ => (do
          let x ← eval i2 env
          standAt i2.pos
          let x ← foldedSetIterable i2 env x
          let _ ← runOwn (.compStart (C2 elt t1 i1 t2 i2 scope pos) 1 (← holding [x] (pyIter x)) acc env) env
          again (.compLoop (C2 elt t1 i1 t2 i2 scope pos) 0 it acc env))) := by rfl
theorem compTurn_1 (it acc : Value) (env : Env) : compTurn (C2 elt t1 i1 t2 i2 scope pos) 1 it acc env = (standAt i2.pos >>= fun _ => pyNext it >>= fun r => match r with
      | none => pure (.done .next)
      | some v => letOwnedTupleGo t2 it v >>= fun _ => assign t2 env v >>= fun _ =>
        (eval elt env >>= fun x => call (.builtin "list.append") [acc, x] >>= fun _ => pure ()) >>= fun _ =>
          again (.compLoop (C2 elt t1 i1 t2 i2 scope pos) 1 it acc env)) := by rfl
theorem comp2_loop1 {it acc : Value} {env : Env} {R : Result → Shared → Prop} (I : Nat → Shared → Prop)
    (turn : ∀ n s, I n s → wpAny (model P0 w) A (pyNext it) (fun r s₁ => match r with
      | none => R (.ok .next) s₁
      | some v => wpAny (model P0 w) A (letOwnedTupleGo t2 it v) (fun _ s₁' => wpAny (model P0 w) A (assign t2 env v) (fun _ s₂ =>
          wpAny (model P0 w) A (eval elt env) (fun x s₄ => wpAny (model P0 w) A (call (.builtin "list.append") [acc, x]) (fun _ s₅ => ∃ m, m < n ∧ I m s₅) NoE s₄) NoE s₂) NoE s₁') NoE s₁) NoE s)
    (n : Nat) (h : I n s) : codeAny (model P0 w) A (.compLoop (C2 elt t1 i1 t2 i2 scope pos) 1 it acc env) R s := by
  refine codeAny_loop rfl I (fun n s hI => ?_) n h
  show wpAny _ A ((compTurn (C2 elt t1 i1 t2 i2 scope pos) 1 it acc env).onRaise (fun x => do noteFrame x env; theTreesLotGoes x)) _ _ s
  refine wpAny_noted ?_
  rw [compTurn_1]
  refine wpAny_bind (wpAny_standAt (wpAny_bind (wpAny_mono (turn n s hI) (fun r s₁ h₁ => ?_) fun _ _ h' => h'.elim)))
  cases r with
  | none => exact wpAny_pure h₁
  | some v =>
    refine wpAny_bind (wpAny_mono h₁ (fun _ s₁' h₁ => ?_) fun _ _ h' => h'.elim)
    refine wpAny_bind (wpAny_mono h₁ (fun _ s₂ h₂ => ?_) fun _ _ h' => h'.elim)
    exact wpAny_bind (wpAny_bind (wpAny_mono h₂ (fun x s₄ h₄ => wpAny_bind (wpAny_mono h₄ (fun _ s₅ h₅ => wpAny_pure (wpAny_pure ⟨rfl, h₅⟩)) fun _ _ h' => h'.elim)) fun _ _ h' => h'.elim))
theorem comp2_start1 {it acc : Value} {env : Env} {R : Result → Shared → Prop} (h0 : codeAny (model P0 w) A (.compLoop (C2 elt t1 i1 t2 i2 scope pos) 1 it acc env) R s)
    (h : wpAny (model P0 w) A (pyIter it) (fun it' s' => codeAny (model P0 w) A (.compLoop (C2 elt t1 i1 t2 i2 scope pos) 1 it' acc env) R s') NoE s) : codeAny (model P0 w) A (.compStart (C2 elt t1 i1 t2 i2 scope pos) 1 it acc env) R s := by
  refine codeAny_of_tree ?_
  show wpAny _ _ ((compStart (C2 elt t1 i1 t2 i2 scope pos) 1 it acc env).onRaise (fun x => do noteFrame x env; standAt theWindowsPlace)) _ _ s
  refine wpAny_notedAt ?_
  unfold compStart
  show wpAny _ _ (ask >>= _) _ _ s
  refine wpAny_bind (wpAny_askSetting (wpAny_ite ?_))
  split
  · first
      | exact wpAny_bind (wpAny_pure (wpAny_pure (And.intro rfl h0)))
      | exact wpAny_pure (And.intro rfl h0)
  · first
      | exact wpAny_bind (wpAny_rule (wpAny_bind (wpAny_standAt (wpAny_bind (wpAny_mono h (fun it' s' h' => wpAny_pure (And.intro rfl h')) fun _ _ x => x.elim)))))
      | (refine wpAny_bind (wpAny_rule ?_); show wpAny _ _ (standAt i2.pos >>= _) _ _ s; exact wpAny_bind (wpAny_standAt (wpAny_bind (wpAny_mono h (fun it' s' h' => wpAny_pure (And.intro rfl h')) fun _ _ x => x.elim))))
theorem comp2_loop0 {it acc : Value} {env : Env} {R : Result → Shared → Prop} (hs : ∀ x, foldedSetIterable i2 env x = pure x) (I : Nat → Shared → Prop)
    (turn : ∀ n s, I n s → wpAny (model P0 w) A (pyNext it) (fun r s₁ => match r with
      | none => R (.ok .next) s₁
      | some v => wpAny (model P0 w) A (letOwnedTupleGo t1 it v) (fun _ s₁' => wpAny (model P0 w) A (assign t1 env v) (fun _ s₂ =>
          wpAny (model P0 w) A (eval i2 env) (fun x s₃ => wpAny (model P0 w) A (pyIter x) (fun it2 s₄ => codeAny (model P0 w) (A.mark none) (.compStart (C2 elt t1 i1 t2 i2 scope pos) 1 it2 acc env) (fun r s' => match r with | .ok _ => ∃ m, m < n ∧ I m s' | .error _ => False) s₄) NoE s₃) NoE s₂) NoE s₁') NoE s₁) NoE s)
    (n : Nat) (h : I n s) : codeAny (model P0 w) A (.compLoop (C2 elt t1 i1 t2 i2 scope pos) 0 it acc env) R s := by
  refine codeAny_loop rfl I (fun n s hI => ?_) n h
  show wpAny _ A ((compTurn (C2 elt t1 i1 t2 i2 scope pos) 0 it acc env).onRaise (fun x => do noteFrame x env; theTreesLotGoes x)) _ _ s
  refine wpAny_noted ?_
  rw [compTurn_0]
  refine wpAny_bind (wpAny_standAt (wpAny_bind (wpAny_mono (turn n s hI) (fun r s₁ h₁ => ?_) fun _ _ h' => h'.elim)))
  cases r with
  | none => exact wpAny_pure h₁
  | some v =>
    refine wpAny_bind (wpAny_mono h₁ (fun _ s₁' h₁ => ?_) fun _ _ h' => h'.elim)
    refine wpAny_bind (wpAny_mono h₁ (fun _ s₂ h₂ => ?_) fun _ _ h' => h'.elim)
    refine wpAny_bind (wpAny_mono h₂ (fun x s₃ h₃ => ?_) fun _ _ h' => h'.elim)
    refine wpAny_bind (wpAny_standAt ?_)
    rw [hs]
    refine wpAny_bind (wpAny_pure (wpAny_bind (wpAny_holding (wpAny_mono h₃ (fun it2 s₄ h₄ => ?_) fun _ _ h' => h'.elim))))
    refine wpAny_bind (wpAny_runOwn (codeAny_mono h₄ fun r s' hr => ?_))
    cases r with
    | ok f => exact wpAny_pure ⟨rfl, hr⟩
    | error e => exact hr.elim
end
theorem x_assign_comp2 {d u : Nat} {env : Env} {elt t1 i1 t2 i2 : Expr} {scope : Scope} {cl : List (Str × Addr)} {vars : List Str} {pos spos py : Pos} {y : Str} {Q : Flow → Shared → Prop}
    (hsw : swapsWith (C2 elt t1 i1 t2 i2 scope pos) (some (.Name y py)) spos.line env = pure true)
    (hclos : closureFor scope env = pure cl) (hcell : ∀ y ∈ scope.names, y.2 ≠ .cell) (hkind : scope.kind = .function) (hnames : ∀ y ∈ scope.names, y.2 = .local → scope.names.lookup y.1 = some .local) (hv : vars.Nodup)
    (h : wpAny (model P0 w) (AR d u) (eval i1 env) (fun xv s₁ => ∃ X need n item Nx G l, ∃ Inv : Nat → List Value → Array GenState → Led → Prop, Iter w X need n item Nx ∧ xv = .ref X ∧ Ok w g os G l s₁ ∧ Inv 0 [] G l ∧ (∀ i ys G l, Inv i ys G l → ∀ p ∈ need, p ∈ l) ∧
      (∀ i v ys C D I G l kv s, i < n → item i v → kv.map (·.1) = vars → Inv i ys G l → Ok w g os G ((C, .ns kv) :: (D, .lst ys) :: (I, Nx (i + 1)) :: l) s → wpAny (model P0 w) (AR d u) (assign t1 (compEnvC scope cl C env) v) (fun _ s₂ =>
        wpAny (model P0 w) (AR d u) (eval i2 (compEnvC scope cl C env)) (fun xv2 s₃ => ∃ X2 need2 n2 item2 Nx2, ∃ Inv2 : Nat → List Value → List (Str × Option Value) → Array GenState → Led → Prop, Iter w X2 need2 n2 item2 Nx2 ∧ xv2 = .ref X2 ∧
          (∃ kv2 G2 l2, Inv2 0 ys kv2 G2 l2 ∧ Ok w g os G2 ((C, .ns kv2) :: (D, .lst ys) :: (I, Nx (i + 1)) :: l2) s₃) ∧ (∀ j ys kv G l, Inv2 j ys kv G l → ∀ p ∈ need2, p ∈ l) ∧
          (∀ j v2 ys kv I2 G l s, j < n2 → item2 j v2 → Inv2 j ys kv G l → Ok w g os G ((I2, Nx2 (j + 1)) :: (C, .ns kv) :: (D, .lst ys) :: (I, Nx (i + 1)) :: l) s → wpAny (model P0 w) (AR d u) (assign t2 (compEnvC scope cl C env) v2) (fun _ s₄ =>
            wpAny (model P0 w) (AR d u) (eval elt (compEnvC scope cl C env)) (fun x s₅ => ∃ kv' G' l', ys.length ≤ 100000 ∧ Inv2 (j + 1) (ys ++ [x]) kv' G' l' ∧ Ok w g os G' ((I2, Nx2 (j + 1)) :: (C, .ns kv') :: (D, .lst ys) :: (I, Nx (i + 1)) :: l') s₅) NoE s₄) NoE s) ∧
          (∀ ys kv G l, Inv2 n2 ys kv G l → kv.map (·.1) = vars ∧ ∃ l0 : Led, l0.Sublist l ∧ Inv (i + 1) ys G l0)) NoE s₂) NoE s) ∧
      (∀ D ys G l, Inv n ys G l → ∃ kvs kvs' f, Zip l env.locals (.ns kvs) f ∧ Put kvs y (.ref D) kvs' ∧ ∀ s, Ok w g os G ((D, .lst ys) :: f (.ns kvs')) s → Q .next s)) NoE s)
    (hs : ∀ x, foldedSetIterable i1 env x = pure x := by intro _; rfl) (hs2 : ∀ C x, foldedSetIterable i2 (compEnvC scope cl C env) x = pure x := by intro _ _; rfl) (hb : 0 = env.builtins := by rfl) (hx : env.kindOf y = some .local := by rfl) (hk : env.scope.kind = .function := by rfl) :
    wpAny (model P0 w) (AR d u) (exec (.Assign [.Name y py] (C2 elt t1 i1 t2 i2 scope pos) spos) env) Q NoE s := by
  rw [exec_Assign_Name_used _ _ _ _ hsw]
  refine wpAny_bind (wpAny_standAt (wpAny_bind ?_))
  show wpAny _ (AR d u) (do let _ ← comprehension (C2 elt t1 i1 t2 i2 scope pos) scope env _ (newList []) false (eval i1 env) (some (assign (.Name y py) env))) _ _ s
  refine wpAny_bind (wpAny_mono (wpAny_comprehension_free (use := some (assign (.Name y py) env)) (Q := fun _ s' => Q .next s') rfl hs hclos hkind hnames (wpAny_mono h (fun xv s₁ q => ?_) fun _ _ x => x.elim)) (fun _ s' hq => wpAny_pure (wpAny_pure hq)) fun _ _ e => e)
  obtain ⟨X, need, n, item, Nx, G, l, Inv, IT, rfl, H, h0, hneed, step, last⟩ := q
  refine IT.start H (hneed 0 [] G l h0) (fun I s₂ H₂ => ?_)
  refine e_newList H₂ (fun D s₃ H₃ => ?_) (Nat.zero_le _)
  refine e_compEnv H₃ hcell hv hkind (fun C s₄ H₄ => ?_)
  show codeAny _ _ (.compStart _ 0 (.ref I) (.ref D) (compEnvC scope cl C env)) _ s₄
  have loop : codeAny (model P0 w) (AR d u) (.compLoop (C2 elt t1 i1 t2 i2 scope pos) 0 (.ref I) (.ref D) (compEnvC scope cl C env)) (compPost (model P0 w) (AR d u) NoE (some (assign (.Name y py) env)) (fun _ s' => Q .next s') (.ref D) C) s₄ := by
    refine comp2_loop0 (hs2 C) (fun k s' => ∃ i ys kv G l, kv.map (·.1) = vars ∧ Inv i ys G l ∧ Ok w g os G ((C, .ns kv) :: (D, .lst ys) :: (I, Nx i) :: l) s' ∧ i ≤ n ∧ k = n + 1 - i) ?_ (n + 1) ⟨0, [], _, G, l, by simp [Function.comp_def], h0, H₄, Nat.zero_le _, rfl⟩
    rintro k s' ⟨i, ys, kv, G', l', hkv, hI, H', hi, rfl⟩
    have P : ∀ {c : Cell} {m : Led}, ((C, Cell.ns kv) :: (D, Cell.lst ys) :: (I, c) :: m).Perm ((I, c) :: (C, .ns kv) :: (D, .lst ys) :: m) := by
      intro c m
      exact ((List.Perm.swap _ _ _).cons _).trans (List.Perm.swap _ _ _)
    have hneed' : ∀ p ∈ need, p ∈ (C, Cell.ns kv) :: (D, Cell.lst ys) :: l' := fun p hp => .tail _ (.tail _ (hneed _ _ _ _ hI p hp))
    by_cases hlt : i < n
    · refine IT.next (H'.perm P) hneed' hlt (fun v s₅ hitem H₅ => ?_)
      refine IT.owned H₅ ?_
      refine wpAny_mono (step i v ys C D I G' l' kv s₅ hlt hitem hkv hI (H₅.perm P.symm)) (fun _ s₆ q => wpAny_mono q (fun xv2 s₇ q => ?_) fun _ _ x => x) fun _ _ x => x
      obtain ⟨X2, need2, n2, item2, Nx2, Inv2, IT2, rfl, ⟨kv2, G2, l2, h20, H₇⟩, hneed2, step2, last2⟩ := q
      refine IT2.start H₇ (fun p hp => .tail _ (.tail _ (.tail _ (hneed2 _ _ _ _ _ h20 p hp)))) (fun I2 s₈ H₈ => ?_)
      show codeAny (model P0 w) (AR d u) _ _ _
      have loop1 : codeAny (model P0 w) (AR d u) (.compLoop (C2 elt t1 i1 t2 i2 scope pos) 1 (.ref I2) (.ref D) (compEnvC scope cl C env)) (fun r s' => match r with
          | .ok _ => ∃ m, m < n + 1 - i ∧ ∃ i ys kv G l, kv.map (·.1) = vars ∧ Inv i ys G l ∧ Ok w g os G ((C, .ns kv) :: (D, .lst ys) :: (I, Nx i) :: l) s' ∧ i ≤ n ∧ m = n + 1 - i
          | .error _ => False) s₈ := by
        refine comp2_loop1 (fun k s' => ∃ j ys kv G l, Inv2 j ys kv G l ∧ Ok w g os G ((I2, Nx2 j) :: (C, .ns kv) :: (D, .lst ys) :: (I, Nx (i + 1)) :: l) s' ∧ j ≤ n2 ∧ k = n2 + 1 - j) ?_ (n2 + 1) ⟨0, ys, kv2, G2, l2, h20, H₈, Nat.zero_le _, rfl⟩
        rintro k s' ⟨j, ys, kv, G', l', hI2, H', hj, rfl⟩
        have hneed2' : ∀ p ∈ need2, p ∈ (C, Cell.ns kv) :: (D, Cell.lst ys) :: (I, Nx (i + 1)) :: l' := fun p hp => .tail _ (.tail _ (.tail _ (hneed2 _ _ _ _ _ hI2 p hp)))
        by_cases hlt2 : j < n2
        · refine IT2.next H' hneed2' hlt2 (fun v2 s₅ hitem2 H₅ => ?_)
          refine IT2.owned H₅ ?_
          refine wpAny_mono (step2 j v2 ys kv I2 G' l' s₅ hlt2 hitem2 hI2 H₅) (fun _ s₆ q => wpAny_mono q (fun x s₇ q => ?_) fun _ _ x => x) fun _ _ x => x
          obtain ⟨kv', G'', l'', e1, e2, e3⟩ := q
          refine b_append e3 (.tail (.tail .head)) e1 (fun s₉ H₉ => ?_)
          exact ⟨n2 + 1 - (j + 1), by omega, j + 1, _, kv', G'', l'', e2, H₉, hlt2, rfl⟩
        · have : j = n2 := by omega
          subst this
          refine IT2.stop rfl H' hneed2' (fun s₅ H₅ => ?_)
          obtain ⟨e1, l0, e2, e3⟩ := last2 ys kv G' l' hI2
          exact ⟨n + 1 - (i + 1), by omega, i + 1, ys, kv, G', l0, e1, e3, H₅.sub (List.Sublist.cons₂ _ (List.Sublist.cons₂ _ (List.Sublist.cons₂ _ e2))), hlt, rfl⟩
      exact comp2_start1 loop1 (IT2.again H₈ loop1)
    · have : i = n := by omega
      subst this
      refine IT.stop rfl (H'.perm P) hneed' (fun s₅ H₅ => ?_)
      obtain ⟨kvs, kvs', f, z, p, fin⟩ := last D ys G' l' hI
      unfold compPost
      refine wpAny_assign_Name (e_store H₅ (.tail (.tail z)) p (fun s₆ H₆ => ?_) hx hk)
      exact ⟨_, H₆.ns (.head _), fun h' hs' => fin _ (H₆.drop (t := s₆.toks) hs'.extBut)⟩
  refine codeAny_compStart_list loop ?_
  exact IT.again (i := 0) (H₄.perm (((List.Perm.swap _ _ _).cons _).trans (List.Perm.swap _ _ _))) loop
end
end Mine
end
section
open PySem PySem.W PySem.Calls PyProof.Rows PySem.W.X
set_option Elab.async false
set_option maxRecDepth 100000
set_option maxHeartbeats 8000000
set_option linter.unusedVariables false
namespace Mine
local macro_rules | `(tactic| walk_at "mem") => `(tactic| first | assumption | exact List.Mem.head _ | (refine' List.Mem.tail _ ?_; walk_at "mem") | (refine' List.mem_append_right _ ?_; walk_at "mem") | (refine' List.mem_append_left _ ?_; walk_at "mem") | exact Zip.at' (by assumption) | exact Zip.keep (by assumption) (by walk_at "mem") (by intro e; cases e))
local macro_rules | `(tactic| walk_at "zip") => `(tactic| first | assumption | exact Zip.head | exact Zip.tail (by walk_at "zip") | exact Zip.app (by walk_at "zip") | exact Zip.again (by assumption))
local macro_rules | `(tactic| walk_at "kv") => `(tactic| first | with_reducible_and_instances exact List.Mem.head _ | (refine' List.Mem.tail _ ?_; walk_at "kv") | assumption)
local macro_rules | `(tactic| walk_at "put") => `(tactic| first | with_reducible exact Put.head | exact Put.tail (by walk_at "put"))
local macro_rules | `(tactic| walk_at "putd") => `(tactic| first | with_reducible exact PutD.head | with_reducible exact PutD.nil | exact PutD.tail (by decide) (by walk_at "putd"))
local macro_rules | `(tactic| walk_at "nm") => `(tactic| first
  | (refine e_local (by assumption) (by walk_at "mem") (by walk_at "kv") ?_)
  | (refine e_cell (by assumption) (by rfl) (by walk_at "mem") ?_)
  | (refine e_free (by assumption) (by rfl) (by walk_at "mem") ?_))
local macro_rules | `(tactic| walk_at "gl") => `(tactic| refine e_global (by assumption) (by assumption) (by first | with_reducible exact gl_Problem _ | with_reducible exact gl_BacktrackingSolver _ | with_reducible exact gl_Domain _ | with_reducible exact gl_Constraint _ | with_reducible exact gl_FunctionConstraint _ | with_reducible exact gl_law_yes _ | with_reducible exact gl_law_rule _ | with_reducible exact gl_law_due _) ?_)
local macro_rules | `(tactic| walk_at "bi") => `(tactic| refine e_builtin (by assumption) (by assumption) (by first | with_reducible exact bn_isinstance _ | with_reducible exact bn_callable _ | with_reducible exact bn_list _ | with_reducible exact bn_tuple _ | with_reducible exact bn_len _ | with_reducible exact bn_range _ | with_reducible exact bn_next _ | with_reducible exact bn_dict _ | with_reducible exact bn_sorted _ | with_reducible exact bn_iter _) (by first | with_reducible exact bb_isinstance | with_reducible exact bb_callable | with_reducible exact bb_list | with_reducible exact bb_tuple | with_reducible exact bb_len | with_reducible exact bb_range | with_reducible exact bb_next | with_reducible exact bb_dict | with_reducible exact bb_sorted | with_reducible exact bb_iter) ?_)
local macro_rules | `(tactic| walk_at "ns") => `(tactic| (show (_ : List Str).Nodup; dsimp only [List.map, List.nil_append, List.cons_append, List.append_nil]; decide +kernel))
local macro_rules | `(tactic| walk_at "lt") => `(tactic| (show _ < 1000; omega))
local macro_rules | `(tactic| x_close) => `(tactic| exact xq_of (by first | assumption | exact Mem.start _) (by first | rfl | assumption))
local macro_rules | `(tactic| walk_at "ga") => `(tactic| refine i_get (by assumption) (by assumption) (by walk_at "mem") (by exact rfl) (by walk_at "mem") (by first | exact cls110 _ | exact cls186 _ | exact cls336 _) (by kernel_rfl) (by walk_at "kv") (by exact rfl) ?_)
local macro_rules | `(tactic| walk_at "sa") => `(tactic| refine i_set (by assumption) (by assumption) (by walk_at "mem") (by walk_at "zip") (by first | exact cls110 _ | exact cls186 _ | exact cls336 _) (by kernel_rfl) (by kernel_rfl) (by walk_at "putd") (Nat.le_of_ble_eq_true rfl) ?_)
local macro_rules | `(tactic| walk_at "st") => `(tactic| refine e_store (by assumption) (by walk_at "zip") (by walk_at "put") ?_)
local macro_rules | `(tactic| walk_at "nmc") => `(tactic| first
  | (refine e_local (by assumption) (List.Mem.head _) (by first | exact List.Mem.head _ | exact List.Mem.tail _ (List.Mem.head _) | exact List.Mem.tail _ (List.Mem.tail _ (List.Mem.head _))) ?_)
  | (refine e_cell (by assumption) (by rfl) (by walk_at "mem") ?_)
  | (refine e_free (by assumption) (by rfl) (by walk_at "mem") ?_))
local macro_rules | `(tactic| walk_at "subl") => `(tactic| first | exact List.Sublist.refl _ | (refine' List.Sublist.cons _ ?_; walk_at "subl"))
section
variable {w : World} {g : Heap} {os : OsState} {G : Array GenState} {l l' : Led} {s : Shared} {a : Addr} {c c' : Cell} {f : Cell → Led} {A : Around} {E : Value → Shared → Prop}
/-! ## sorted(.., key=..) -/
theorem ks_len {ps : List (Addr × Key)} {vs : List Value} (h : ps.length = vs.length) : (ps.map fun p => Value.ref p.1).length = vs.length := by rw [List.length_map, h]
theorem b_ksort {d u : Nat} {a q : Addr} {vs : List Value} {ks : List Key} {P : PySem.Fin → Shared → Prop} {E : Value → Shared → Prop} (H : Ok w g os G ((a, .lst vs) :: l) s) (hlen : ks.length = vs.length) (h3 : vs.length ≤ 3)
    (hkey : ∀ (i : Nat) (v : Value) (k : Key) (l' : Led) (s : Shared), vs[i]? = some v → ks[i]? = some k → Ok w g os G l' s → (∀ p ∈ l, p ∈ l') → wpAny (model P0 w) (AR d u) (call (.ref q) [v]) (fun r s' => ∃ (a : Addr) (k' : Key), r = .ref a ∧ k'.strip = k ∧ Ok w g os G ((a, k'.cell) :: l') s') NoE s)
    (h : ∀ s', Ok w g os G ((a, .lst ((ordK ks).map fun i => vs.getD i .none)) :: l) s' → P (.done (.ret .none)) s') :
    wpAny (model P0 w) (AR d u) (ksk_tree a (.ref q) false) P E s := by
  obtain ⟨n, hn⟩ := H.get (.head _)
  obtain ⟨e1, ho1⟩ : ∃ e1, (s.heap.update a (Obj.mapSeq fun _ => (#[] : Array Value))).get? a = some (seqObj "list" #[] e1) := ⟨_, get?_update_seq hn fun _ => #[]⟩
  have H1 := H.set (t := s.toks) (c' := .ob (lstO [] e1)) .head (Heap.SameBut.update s.heap a (Obj.mapSeq fun _ => (#[] : Array Value))) ho1
  have H2 := H1.ext (t := s.toks) (h' := (s.heap.update a (Obj.mapSeq fun _ => (#[] : Array Value))).push (seqObj "tuple" vs.toArray 0)) (fun b x e => Heap.get?_push_of_some _ e)
  have H3 := H2.push (t := s.toks) (c := .lst []) (o := seqObj "list" #[] 0) ⟨0, Heap.get?_push_size _ rfl⟩
  unfold ksk_tree
  refine wpAny_bind (listItems_at hn rfl ?_)
  refine wpAny_bind (listUpdate_at hn rfl ?_ (by rw [List.size_toArray, sizeLine_eq]; omega) (Nat.zero_le _))
  refine wpAny_bind (seqEpoch_at ho1 rfl ?_)
  refine wpAny_bind (wpAny_newTuple ?_ (by show vs.length ≤ _; rw [sizeLine_eq]; omega))
  refine wpAny_bind (wpAny_newList ?_ (Nat.zero_le _))
  refine wpAny_holding ?_
  generalize hkS : ((s.heap.update a (Obj.mapSeq fun _ => (#[] : Array Value))).push (seqObj "tuple" vs.toArray 0)).objs.size = kS at H3
  unfold ksk_rest
  refine wpAny_bind (wpAny_rule ?_)
  rw [List.forIn_toArray]
  refine wpAny_bind (ksk_fold (fun i s' => ∃ (ps : List (Addr × Key)) (T : Led), Ok w g os G ((kS, .lst (ps.map fun p => .ref p.1)) :: (a, .ob (lstO [] e1)) :: (T ++ l)) s' ∧ ps.length = i ∧ ps.map (fun p => p.2.strip) = ks.take i ∧ ∀ p ∈ ps, (p.1, p.2.cell) ∈ T) vs 0 _ ⟨[], [], H3, rfl, rfl, by intro p hp; cases hp⟩ ?step ?done)
  case step =>
    rintro j x s' hx ⟨ps, T, H', hl, hks, hT⟩
    simp only [Nat.zero_add] at hl hks ⊢
    have hj : j < vs.length := (List.getElem?_eq_some_iff.mp hx).1
    have hkj : ks[j]? = some ks[j] := List.getElem?_eq_getElem (by omega)
    refine wpAny_bind (wpAny_attempt (wpAny_mono (hkey j x _ _ _ hx hkj H' (fun p hp => .tail _ (.tail _ (List.mem_append_right _ hp)))) (fun r s'' he => ?_) fun _ _ hF => hF.elim))
    obtain ⟨ka, k', rfl, hk', H''⟩ := he
    have z : Zip ((ka, k'.cell) :: (kS, .lst (ps.map fun p => .ref p.1)) :: (a, .ob (lstO [] e1)) :: (T ++ l)) kS (.lst (ps.map fun p => .ref p.1)) _ := .tail .head
    obtain ⟨c, hc⟩ := H''.get z.mem
    dsimp only
    refine wpAny_bind (listUpdate_at hc rfl ?_ (by rw [List.size_toArray, List.length_map, sizeLine_eq]; omega) (by rw [Array.size_push, List.size_toArray, List.length_map, sizeLine_eq]; omega))
    have H4 := H''.set (t := s''.toks) (c' := .lst ((ps ++ [(ka, k')]).map fun p => .ref p.1)) z (Heap.SameBut.update ..) ⟨_, by rw [Heap.get?_update_self (Obj.mapSeq (·.push (Value.ref ka))) hc rfl]; simp [Obj.mapSeq]; rfl⟩
    refine wpAny_pure ⟨rfl, ps ++ [(ka, k')], (ka, k'.cell) :: T, H4.perm (to_front [_, _]), by simp; omega, ?_, ?_⟩
    · rw [List.map_append, hks, take_snoc hkj]
      simp [hk']
    · intro p hp
      rcases List.mem_append.mp hp with hp | hp
      · exact .tail _ (hT p hp)
      · simp only [List.mem_singleton] at hp
        subst hp
        exact .head _
  case done =>
    rintro s' ⟨ps, T, H', hl, hks, hT⟩
    rw [Nat.zero_add] at hl hks
    rw [List.take_of_length_le (by omega)] at hks
    obtain ⟨c, hc⟩ := H'.get (.head _)
    refine wpAny_bind (listItems_at hc rfl ?_)
    have hna := H'.get (c := .ob (lstO [] e1)) (.tail _ (.head _))
    have hok : ordK (ps.map (·.2)) = ordK ks := by
      rw [← hks, ← ordK_strip (ps.map (·.2)), List.map_map]
      rfl
    -- the end of the sort
    have tail : ∀ (st : SortSt) (p : List Nat) (s₂ : Shared), Ok w g os G ((kS, .lst (ps.map fun p => .ref p.1)) :: (a, .ob (lstO [] e1)) :: (T ++ l)) s₂ → (arrOf st).map (·.2) = List.toArray (p.map fun i => vs.getD i Value.none) → p = ordK ks → p.length ≤ 3 → failedOf st = none →
        wpAny (model P0 w) (AR d u) (ksk_tail a false e1 (.ref kS) st) P E s₂ := by
      intro st p s₂ H₂ hout hp hp3 hf
      obtain ⟨c₂, hc₂⟩ := H₂.get (.head _)
      unfold ksk_tail
      dsimp only
      refine wpAny_bind (listUpdate_at hc₂ rfl ?_ (by rw [List.size_toArray, List.length_map, sizeLine_eq]; omega) (Nat.zero_le _))
      obtain ⟨e5, ho5⟩ : ∃ e5, (s₂.heap.update kS (Obj.mapSeq fun _ => (#[] : Array Value))).get? kS = some (seqObj "list" #[] e5) := ⟨_, get?_update_seq hc₂ fun _ => #[]⟩
      have H5 := H₂.set (t := s₂.toks) (c' := .lst []) .head (Heap.SameBut.update s₂.heap kS (Obj.mapSeq fun _ => (#[] : Array Value))) ⟨e5, ho5⟩
      refine wpAny_bind (wpAny_letGo ?_)
      have na := H5.get (c := .ob (lstO [] e1)) (.tail _ (.head _))
      refine wpAny_bind (seqEpoch_at na rfl ?_)
      rw [hout]
      have hsz : (List.toArray (p.map fun i => vs.getD i Value.none)).size ≤ 3 := by rw [List.size_toArray, List.length_map]; exact hp3
      refine wpAny_bind (listUpdate_at na rfl ?_ (Nat.zero_le _) (Nat.le_trans hsz (by rw [sizeLine_eq]; exact Nat.le_of_ble_eq_true rfl)))
      obtain ⟨c6, hc6⟩ : ∃ c6, ((s₂.heap.update kS (Obj.mapSeq fun _ => (#[] : Array Value))).update a (Obj.mapSeq fun _ => List.toArray (p.map fun i => vs.getD i Value.none))).get? a = some (seqObj "list" (List.toArray (p.map fun i => vs.getD i Value.none)) c6) := ⟨_, get?_update_seq na fun _ => List.toArray (p.map fun i => vs.getD i Value.none)⟩
      have H6 := H5.set (t := s₂.toks) (c' := .lst (p.map fun i => vs.getD i Value.none)) (.tail .head) (Heap.SameBut.update ..) ⟨c6, hc6⟩
      rw [hf]
      simp only [bne_self_eq_false, Bool.false_eq_true, if_false]
      subst hp
      exact wpAny_pure (h _ (H6.tail.sub (List.Sublist.cons₂ _ (List.sublist_append_right _ _))))
    unfold ksk_end
    dsimp only
    rw [if_neg (by decide)]
    by_cases h2 : vs.toArray.size < 2
    · rw [if_pos h2, if_pos h2]
      refine wpAny_bind (wpAny_pure ?_)
      rw [StateT.run_pure]
      refine wpAny_bind (wpAny_pure ?_)
      dsimp only
      rw [List.size_toArray] at h2
      refine tail _ (ordK ks) s' H' ?_ rfl ?_ rfl
      · rw [if_neg (by decide)]
        show (((ps.map fun p => Value.ref p.1).toArray.zip vs.toArray)).map (·.2) = _
        have e : ordK ks = List.range vs.length := by
          unfold ordK ord
          rw [hlen, if_pos h2]
        rw [e]
        apply Array.toList_inj.mp
        have e2 : (List.range vs.length).map (fun i => vs.getD i Value.none) = vs := by
          apply List.ext_getElem
          · simp
          · intro i h1 h2'
            rw [List.getElem_map, List.getElem_range, List.getD_eq_getElem?_getD, List.getElem?_eq_getElem h2']
            rfl
        rw [e2]
        have e3 : (ps.map fun p => Value.ref p.1).length = vs.length := ks_len hl
        simp only [Array.toList_map, Array.toList_zip, List.toList_toArray]
        exact List.map_snd_zip (Nat.le_of_eq e3.symm)
      · unfold ordK ord
        rw [hlen, if_pos h2, List.length_range]
        exact h3
    · rw [if_neg h2, if_neg h2]
      rw [List.size_toArray] at h2
      have hkl : (ps.map fun p => Value.ref p.1).length = vs.length := ks_len hl
      have htup : ∀ {h' : Heap}, (∀ p ∈ ps, p.2.cell.At w h' p.1) → KatTups h' (ps.map fun p => Value.ref p.1) (ps.map fun p => .int p.2.a p.2.ta) := by
        intro h' hh
        clear hks hT hkl hok tail hl H' hc hna
        induction ps with
        | nil => exact .nil
        | cons p ps ih =>
          obtain ⟨n, hn⟩ := hh p (.head _)
          exact .cons hn rfl rfl rfl (ih fun p hp => hh p (.tail _ hp))
      have hcell : ∀ {s₂ : Shared}, Ok w g os G ((kS, .lst (ps.map fun p => .ref p.1)) :: (a, .ob (lstO [] e1)) :: (T ++ l)) s₂ → ∀ p ∈ ps, p.2.cell.At w s₂.heap p.1 := fun H₂ p hp => H₂.get (.tail _ (.tail _ (List.mem_append_left _ (hT p hp))))
      refine wpAny_bind (kat_kind (T := .type "int") (htup (hcell H')) (by rw [List.length_map]; omega) (fun v hv => ?_) (by simp) ?_)
      · obtain ⟨k, -, rfl⟩ := List.mem_map.mp hv
        exact int_ty _ _
      rw [show (Value.type "int" != Value.type "tuple") = true by decide]
      refine wpAny_bind (wpAny_mono (kat_run (Q := fun st' s' => ∃ p : Array Nat, p.size = vs.length ∧ arrOf st' = p.map (kas_item ((ps.map fun p => Value.ref p.1).toArray.zip vs.toArray)) ∧ failedOf st' = none ∧ Ok w g os G ((kS, .lst (ps.map fun p => .ref p.1)) :: (a, .ob (lstO [] e1)) :: (T ++ l)) s' ∧ p.toList = ordK ks)
        hkl (by omega) (by omega) (fun p' st' s' a1 a2 a3 a4 => ⟨p', a1, a2, a3, a4⟩) ?_) ?_ fun _ _ e => e)
      · have e4 : ps.length = vs.length := hl
        refine kas_ev (n := vs.length) (lt := ltOf (ps.map (·.2))) (I := fun s => Ok w g os G ((kS, .lst (ps.map fun p => .ref p.1)) :: (a, .ob (lstO [] e1)) :: (T ++ l)) s) (fun i j C s' hi hj hI hC => ?_) _ _ (sort_ok _ (by omega) h3 _).1 H' (fun s'' H'' => ⟨H'', ?_⟩)
        · unfold kas_ask
          have hi' : i < ps.length := by omega
          have hj' : j < ps.length := by omega
          have g1 : (ps.map fun p => Value.ref p.1).getD i Value.none = .ref (ps[i]).1 := by rw [List.getD_eq_getElem?_getD, List.getElem?_map, List.getElem?_eq_getElem hi']; rfl
          have g2 : (ps.map fun p => Value.ref p.1).getD j Value.none = .ref (ps[j]).1 := by rw [List.getD_eq_getElem?_getD, List.getElem?_map, List.getElem?_eq_getElem hj']; rfl
          rw [g1, g2]
          refine e_keylt hI (.tail _ (.tail _ (List.mem_append_left _ (hT _ (List.getElem_mem hi'))))) (.tail _ (.tail _ (List.mem_append_left _ (hT _ (List.getElem_mem hj'))))) (fun s'' H'' => ?_)
          have := hC s'' H''
          unfold ltOf at this
          rw [List.getElem?_map, List.getElem?_map, List.getElem?_eq_getElem hi', List.getElem?_eq_getElem hj'] at this
          exact this
        · rw [← hok]
          unfold ordK ord
          rw [List.length_map, e4, if_neg (by omega)]
      · rintro ⟨⟨⟩, st'⟩ s₂ ⟨p, hp, har, hf, H₂, hpo⟩
        dsimp only
        refine tail st' p.toList s₂ H₂ (kat_snds hkl har) hpo ?_ hf
        rw [Array.length_toList, hp]
        exact h3
theorem pick_names {kvs : List (Str × Value)} {ns : List Value} (hn : ns.length = kvs.length) (hns : ∀ (j : Nat) (v : Value), ns[j]? = some v → ∃ k x t, kvs[j]? = some (k, x) ∧ v = .str k t) {is : List Nat} (hr : ∀ i ∈ is, i < kvs.length) :
    Paired (fun v (p : Str × Value) => ∃ t, v = .str p.1 t) (is.map fun i => ns.getD i .none) (is.filterMap (kvs[·]?)) := by
  induction is with
  | nil => exact .nil
  | cons i is ih =>
    have hi := hr i (.head _)
    have hi' : i < ns.length := by omega
    rw [List.map_cons, List.filterMap_cons, List.getElem?_eq_getElem hi]
    refine .cons ?_ (ih fun j hj => hr j (.tail _ hj))
    obtain ⟨k, x, t, e1, e2⟩ := hns i ns[i] (List.getElem?_eq_getElem hi')
    rw [List.getElem?_eq_getElem hi] at e1
    refine ⟨t, ?_⟩
    rw [List.getD_eq_getElem?_getD, List.getElem?_eq_getElem hi']
    show ns[i] = _
    rw [e2, Option.some.inj e1]
theorem d_sorted {d u : Nat} {Ld q : Addr} {kvs : List (Str × Value)} {ks : List Key} {Q : Value → Shared → Prop} {E : Value → Shared → Prop} (H : Ok w g os G l s) (hL : (Ld, .sd kvs) ∈ l) (h3 : kvs.length ≤ 3) (hks : ks.length = kvs.length)
    (hkey : ∀ (i : Nat) (nm : Str) (x : Value) (k : Key) (tok : Tok) (l' : Led) (s : Shared), kvs[i]? = some (nm, x) → ks[i]? = some k → Ok w g os G l' s → (∀ p ∈ l, p ∈ l') → wpAny (model P0 w) (AR d (u + 2)) (call (.ref q) [.str nm tok]) (fun r s' => ∃ (a : Addr) (k' : Key), r = .ref a ∧ k'.strip = k ∧ Ok w g os G ((a, k'.cell) :: l') s') NoE s)
    (h : ∀ D (ns : List Value) s', Paired (fun v (p : Str × Value) => ∃ t, v = .str p.1 t) ns ((ordK ks).filterMap (kvs[·]?)) → Ok w g os G ((D, .lst ns) :: l) s' → Q (.ref D) s') :
    wpAny (model P0 w) (AR d u) (call (.builtin "sorted") [.ref Ld] [(Str.ofString "key", .ref q)]) Q E s := by
  obtain ⟨ep, hat⟩ := (H.dict hL).dictAt
  refine call_function_entry_kw kind_sorted plain_sorted entry_sorted (ksk_s1 _ _) ?_
  unfold Builtin.«sorted»
  refine wpAny_bind (m := checkCount "sorted" 1 1 _) (wpAny_pure ?_)
  refine wpAny_bind (kdu_collect (kdl_dict (knd := strKind P0 w) (H.notSys hL)) rfl hat (by rw [sizeLine_eq]; omega) (fun h' tk acc hk hacc => ?_))
  have H1 := H.ext (t := tk) hk
  have hsz : acc.toList.length = kvs.length := by rw [Array.length_toList]; exact hacc.1
  refine wpAny_bind (e_newList H1 (fun D s₂ H₂ => ?_) (by rw [hsz, sizeLine_eq]; omega))
  obtain ⟨n, hn⟩ := H₂.get (.head _)
  refine wpAny_bind (wpAny_holding (wpAny_call_entry_kw slot_list_sort ⟨_, hn, rfl⟩ entry_list_sort ?body (ksk_l1 _ _)))
  case body =>
    show wpAny (model P0 w) (AR d (u + 2)) (Builtin.«list.sort» ⟨[.ref D], [(Str.ofString "key", .ref q)]⟩) _ _ _
    rw [ksk_t1]
    have hns : ∀ (j : Nat) (v : Value), acc.toList[j]? = some v → ∃ k x t, kvs[j]? = some (k, x) ∧ v = .str k t := by
      intro j v e
      obtain ⟨k, x, e1, e2⟩ := hacc.2 j v (by rw [← Array.getElem?_toList]; exact e)
      obtain ⟨t, rfl⟩ := Value.isStrOf_shape e2
      exact ⟨k, x, t, e1, rfl⟩
    refine b_ksort (ks := ks) H₂ (by rw [hks, hsz]) (by omega) (fun i v k l' s' hv hk' H' hl' => ?_) (fun s' H' => ?_)
    · obtain ⟨nm, x, t, e1, rfl⟩ := hns i v hv
      exact hkey i nm x k t l' s' e1 hk' H' hl'
    · refine ⟨_, rfl, wpAny_pure ⟨_, rfl, h D _ s' (pick_names hsz hns fun i hi => ?_) H'⟩⟩
      have hp := ord_perm (n := ks.length) (by rw [hks]; exact h3) (ltOf ks)
      have := hp.mem_iff.mp hi
      rw [← hks]
      simpa using this
end
end Mine
end
section
open PySem PySem.W PySem.Calls PyProof.Rows PySem.W.X
set_option Elab.async false
set_option maxRecDepth 100000
set_option maxHeartbeats 8000000
set_option linter.unusedVariables false
namespace Mine
local macro_rules | `(tactic| walk_at "mem") => `(tactic| first | assumption | exact List.Mem.head _ | (refine' List.Mem.tail _ ?_; walk_at "mem") | (refine' List.mem_append_right _ ?_; walk_at "mem") | (refine' List.mem_append_left _ ?_; walk_at "mem") | exact Zip.at' (by assumption) | exact Zip.keep (by assumption) (by walk_at "mem") (by intro e; cases e))
local macro_rules | `(tactic| walk_at "zip") => `(tactic| first | assumption | exact Zip.head | exact Zip.tail (by walk_at "zip") | exact Zip.app (by walk_at "zip") | exact Zip.again (by assumption))
local macro_rules | `(tactic| walk_at "kv") => `(tactic| first | with_reducible_and_instances exact List.Mem.head _ | (refine' List.Mem.tail _ ?_; walk_at "kv") | assumption)
local macro_rules | `(tactic| walk_at "put") => `(tactic| first | with_reducible exact Put.head | exact Put.tail (by walk_at "put"))
local macro_rules | `(tactic| walk_at "putd") => `(tactic| first | with_reducible exact PutD.head | with_reducible exact PutD.nil | exact PutD.tail (by decide) (by walk_at "putd"))
local macro_rules | `(tactic| walk_at "nm") => `(tactic| first
  | (refine e_local (by assumption) (by walk_at "mem") (by walk_at "kv") ?_)
  | (refine e_cell (by assumption) (by rfl) (by walk_at "mem") ?_)
  | (refine e_free (by assumption) (by rfl) (by walk_at "mem") ?_))
local macro_rules | `(tactic| walk_at "gl") => `(tactic| refine e_global (by assumption) (by assumption) (by first | with_reducible exact gl_Problem _ | with_reducible exact gl_BacktrackingSolver _ | with_reducible exact gl_Domain _ | with_reducible exact gl_Constraint _ | with_reducible exact gl_FunctionConstraint _ | with_reducible exact gl_law_yes _ | with_reducible exact gl_law_rule _ | with_reducible exact gl_law_due _) ?_)
local macro_rules | `(tactic| walk_at "bi") => `(tactic| refine e_builtin (by assumption) (by assumption) (by first | with_reducible exact bn_isinstance _ | with_reducible exact bn_callable _ | with_reducible exact bn_list _ | with_reducible exact bn_tuple _ | with_reducible exact bn_len _ | with_reducible exact bn_range _ | with_reducible exact bn_next _ | with_reducible exact bn_dict _ | with_reducible exact bn_sorted _ | with_reducible exact bn_iter _) (by first | with_reducible exact bb_isinstance | with_reducible exact bb_callable | with_reducible exact bb_list | with_reducible exact bb_tuple | with_reducible exact bb_len | with_reducible exact bb_range | with_reducible exact bb_next | with_reducible exact bb_dict | with_reducible exact bb_sorted | with_reducible exact bb_iter) ?_)
local macro_rules | `(tactic| walk_at "ns") => `(tactic| (show (_ : List Str).Nodup; dsimp only [List.map, List.nil_append, List.cons_append, List.append_nil]; decide +kernel))
local macro_rules | `(tactic| walk_at "lt") => `(tactic| (show _ < 1000; omega))
local macro_rules | `(tactic| x_close) => `(tactic| exact xq_of (by first | assumption | exact Mem.start _) (by first | rfl | assumption))
local macro_rules | `(tactic| walk_at "ga") => `(tactic| refine i_get (by assumption) (by assumption) (by walk_at "mem") (by exact rfl) (by walk_at "mem") (by first | exact cls110 _ | exact cls186 _ | exact cls336 _) (by kernel_rfl) (by walk_at "kv") (by exact rfl) ?_)
local macro_rules | `(tactic| walk_at "sa") => `(tactic| refine i_set (by assumption) (by assumption) (by walk_at "mem") (by walk_at "zip") (by first | exact cls110 _ | exact cls186 _ | exact cls336 _) (by kernel_rfl) (by kernel_rfl) (by walk_at "putd") (Nat.le_of_ble_eq_true rfl) ?_)
local macro_rules | `(tactic| walk_at "st") => `(tactic| refine e_store (by assumption) (by walk_at "zip") (by walk_at "put") ?_)
local macro_rules | `(tactic| walk_at "nmc") => `(tactic| first
  | (refine e_local (by assumption) (List.Mem.head _) (by first | exact List.Mem.head _ | exact List.Mem.tail _ (List.Mem.head _) | exact List.Mem.tail _ (List.Mem.tail _ (List.Mem.head _))) ?_)
  | (refine e_cell (by assumption) (by rfl) (by walk_at "mem") ?_)
  | (refine e_free (by assumption) (by rfl) (by walk_at "mem") ?_))
local macro_rules | `(tactic| walk_at "subl") => `(tactic| first | exact List.Sublist.refl _ | (refine' List.Sublist.cons _ ?_; walk_at "subl"))
section
variable {w : World} {g : Heap} {os : OsState} {G : Array GenState} {l l' : Led} {s : Shared} {a : Addr} {c c' : Cell} {f : Cell → Led} {A : Around} {E : Value → Shared → Prop}
/-! ## _law_due -/
structure LV where
  (n : Str) (li : Addr) (iv : List Value)
structure LR where
  (t : Addr) (n1 n2 : Str) (t1 t2 tm : Tok) (m : Int)
def lkvs (vs : List LV) : List (Str × Value) := vs.map fun v => (v.n, .ref v.li)
def lt2 (n : Str) (r : LR) : Bool := r.n1 == n || r.n2 == n
abbrev LR.cell (r : LR) : Cell := .tup [.str r.n1 r.t1, .str r.n2 r.t2, .int r.m r.tm]
structure LNeed (P : Led) (vs : List LV) (rs : List LR) : Prop where
  var : ∀ v ∈ vs, (v.li, .lst v.iv) ∈ P ∧ v.iv.length ≤ 3 ∧ ∀ x ∈ v.iv, ∃ i t, x = Value.int i t ∧ Sm i
  rul : ∀ r ∈ rs, (r.t, r.cell) ∈ P ∧ Sm r.m ∧ r.n1 ∈ vs.map (·.n) ∧ r.n2 ∈ vs.map (·.n)
  nd : (vs.map (·.n)).Nodup
  three : vs.length ≤ 3
  few : rs.length ≤ 4
def keysL (vs : List LV) (rs : List LR) : List Key := vs.map fun v => ⟨-(((rs.filter (lt2 v.n)).length : Nat) : Int), (v.iv.length : Nat), v.n, 0, 0, 0⟩
def ordL (vs : List LV) (rs : List LR) : List LV := (ordK (keysL vs rs)).filterMap (vs[·]?)
def stepL (due : List (List (Str × Value))) (v : LV) : List (List (Str × Value)) := due.flatMap fun one => v.iv.reverse.map fun x => one ++ [(v.n, x)]
def prodL (vs : List LV) (due : List (List (Str × Value))) : List (List (Str × Value)) := vs.foldl stepL due
def fitsL (rs : List LR) (one : List (Str × Value)) : Bool := rs.all fun r => chk r.m (valueAt one r.n1) (valueAt one r.n2)
def dueL (vs : List LV) (rs : List LR) : List (List (Str × Value)) := (prodL (ordL vs rs) (if (ordL vs rs).isEmpty then [] else [[]])).filter (fitsL rs)
theorem Call_kw {M : Model} {E : Value → Shared → Prop} {env : Env} {func : Expr} {args : List Expr} {kws : List Keyword} {pos : Pos} {Q : Value → Shared → Prop}
    (h : wpAny M A (eval func env) (fun f s₁ => wpAny M A (callWith pos f [] (backTo pos (starEach args env)) (backToKw pos (keywordEach kws env))) Q E s₁) E s)
    (he : eval (.Call func args kws pos) env = (do callWith pos (← eval func env) [] (backTo pos (starEach args env)) (backToKw pos (keywordEach kws env))) := by rfl) :
    wpAny M A (eval (.Call func args kws pos) env) Q E s := by
  rw [he]; exact wpAny_bind h
theorem kv2 {α β : Type} {kv : List (α × β)} {a b : α} (h : kv.map (·.1) = [a, b]) : ∃ x y, kv = [(a, x), (b, y)] := by
  match kv, h with
  | [(x, p), (y, q)], h => simp at h; obtain ⟨rfl, rfl⟩ := h; exact ⟨_, _, rfl⟩
theorem cs3 {cs : List (Str × Addr)} {a b c : Str} (h : cs.map (·.1) = [a, b, c]) : ∃ x y z, cs = [(a, x), (b, y), (c, z)] := by
  match cs, h with
  | [(x, p), (y, q), (z, r)], h => simp at h; obtain ⟨rfl, rfl, rfl⟩ := h; exact ⟨_, _, _, rfl⟩
theorem lnth {vs : List LV} {i : Nat} {nm : Str} {x : Value} (h : (lkvs vs)[i]? = some (nm, x)) : ∃ v, vs[i]? = some v ∧ nm = v.n ∧ x = .ref v.li := by
  unfold lkvs at h
  rw [List.getElem?_map, Option.map_eq_some_iff] at h
  obtain ⟨v, hv, e⟩ := h
  cases e
  exact ⟨v, hv, rfl, rfl⟩
theorem lk_names {vs : List LV} : (lkvs vs).map (·.1) = vs.map (·.n) := by simp [lkvs, Function.comp_def]
theorem fm_names {vs : List LV} {is : List Nat} : is.filterMap ((lkvs vs)[·]?) = (is.filterMap (vs[·]?)).map fun v => (v.n, Value.ref v.li) := by
  unfold lkvs
  rw [List.map_filterMap]
  congr 1
  funext i
  rw [List.getElem?_map]
theorem Paired.mapr {α β γ : Type} {F : α → γ → Prop} {f : β → γ} {l₁ : List α} : ∀ {l₂ : List β}, Paired F l₁ (l₂.map f) → Paired (fun a b => F a (f b)) l₁ l₂ := by
  induction l₁ with
  | nil => intro l₂ h; cases l₂ with
    | nil => exact .nil
    | cons => cases h
  | cons a l₁ ih => intro l₂ h; cases l₂ with
    | nil => cases h
    | cons b l₂ => cases h with
      | cons x y => exact .cons x (ih y)
theorem ordL_perm {vs : List LV} {rs : List LR} (h : vs.length ≤ 3) : (ordL vs rs).Perm vs := by
  have hl : (keysL vs rs).length = vs.length := by simp [keysL]
  have p : (ordK (keysL vs rs)).Perm (List.range vs.length) := by
    have := ord_perm (n := (keysL vs rs).length) (by rw [hl]; exact h) (ltOf (keysL vs rs))
    rw [hl] at this
    unfold ordK
    rw [hl]
    exact this
  have q := p.filterMap (vs[·]?)
  have e : (List.range vs.length).filterMap (vs[·]?) = vs := by
    have := pick_run vs.toArray 0 vs.length
    simpa using this
  rw [e] at q
  exact q
theorem prodL_snoc {vs : List LV} {due : List (List (Str × Value))} {i : Nat} {v : LV} (h : vs[i]? = some v) : prodL (vs.take (i + 1)) due = stepL (prodL (vs.take i) due) v := by
  unfold prodL
  rw [take_snoc h, List.foldl_append]
  rfl
theorem stepL_mem {due : List (List (Str × Value))} {v : LV} {one : List (Str × Value)} (h : one ∈ stepL due v) : ∃ o ∈ due, ∃ x ∈ v.iv, one = o ++ [(v.n, x)] := by
  unfold stepL at h
  obtain ⟨o, ho, h⟩ := List.mem_flatMap.mp h
  obtain ⟨x, hx, rfl⟩ := List.mem_map.mp h
  exact ⟨o, ho, x, List.mem_reverse.mp hx, rfl⟩
theorem prodL_names : ∀ {vs : List LV} {due : List (List (Str × Value))} {ns : List Str}, (∀ one ∈ due, one.map (·.1) = ns) → ∀ one ∈ prodL vs due, one.map (·.1) = ns ++ vs.map (·.n)
  | [], due, ns, h, one, ho => by rw [h one ho]; simp
  | v :: vs, due, ns, h, one, ho => by
    have := prodL_names (vs := vs) (due := stepL due v) (ns := ns ++ [v.n]) (fun o hm => by
      obtain ⟨o', ho', x, _, rfl⟩ := stepL_mem hm
      rw [List.map_append, h o' ho']
      rfl) one ho
    rw [this]
    simp
theorem prodL_vals : ∀ {vs : List LV} {due : List (List (Str × Value))}, (∀ v ∈ vs, ∀ x ∈ v.iv, ∃ i t, x = Value.int i t ∧ Sm i) → (∀ one ∈ due, ∀ p ∈ one, ∃ i t, p.2 = Value.int i t ∧ Sm i) → ∀ one ∈ prodL vs due, ∀ p ∈ one, ∃ i t, p.2 = Value.int i t ∧ Sm i
  | [], due, hv, h, one, ho => h one ho
  | v :: vs, due, hv, h, one, ho => prodL_vals (vs := vs) (due := stepL due v) (fun v' hv' => hv v' (.tail _ hv')) (fun o hm => by
      obtain ⟨o', ho', x, hx, rfl⟩ := stepL_mem hm
      intro p hp
      rcases List.mem_append.mp hp with hp | hp
      · exact h o' ho' p hp
      · simp only [List.mem_singleton] at hp
        subst hp
        exact hv v (.head _) x hx) one ho
theorem flat_len {α β : Type} {f : α → List β} {k : Nat} : ∀ {l : List α}, (∀ a ∈ l, (f a).length ≤ k) → (l.flatMap f).length ≤ l.length * k
  | [], _ => by simp
  | a :: l, h => by
    have := flat_len (l := l) (fun a ha => h a (.tail _ ha))
    have h1 := h a (.head _)
    rw [List.flatMap_cons, List.length_append, List.length_cons, Nat.add_mul, Nat.one_mul]
    omega
theorem stepL_len {due : List (List (Str × Value))} {v : LV} (h : v.iv.length ≤ 3) : (stepL due v).length ≤ due.length * 3 := flat_len fun one _ => by simpa using h
theorem prodL_len : ∀ {vs : List LV} {due : List (List (Str × Value))}, (∀ v ∈ vs, v.iv.length ≤ 3) → due.length ≤ 1 → vs.length ≤ 3 → (prodL vs due).length ≤ 27
  | [], due, hv, h, _ => by unfold prodL; simp; omega
  | [a], due, hv, h, _ => by
    have := stepL_len (due := due) (hv a (.head _))
    show (stepL due a).length ≤ 27
    omega
  | [a, b], due, hv, h, _ => by
    have := stepL_len (due := due) (hv a (.head _))
    have := stepL_len (due := stepL due a) (hv b (.tail _ (.head _)))
    show (stepL (stepL due a) b).length ≤ 27
    omega
  | [a, b, c], due, hv, h, _ => by
    have := stepL_len (due := due) (hv a (.head _))
    have := stepL_len (due := stepL due a) (hv b (.tail _ (.head _)))
    have := stepL_len (due := stepL (stepL due a) b) (hv c (.tail _ (.tail _ (.head _))))
    show (stepL (stepL (stepL due a) b) c).length ≤ 27
    omega
  | a :: b :: c :: d :: r, due, hv, h, hl => by simp at hl
theorem spec_due {d u : Nat} {Ld Rd : Addr} {vs : List LV} {rs : List LR} {P PL : Led} {ps : Array Value} {R : Result → Shared → Prop} (B : Base w g) (H : Ok w g os G ((354, .ob (tabObj ps)) :: l) s) (N : LNeed P vs rs) (hP : ∀ p ∈ P, p ∈ l)
    (hL : (Ld, .sd (lkvs vs)) ∈ l) (hR : (Rd, .lst (rs.map fun r => .ref r.t)) ∈ l) (hPL : ∀ p ∈ PL, p ∈ l) (ht : TabOk PL 254 30 "_law_due.<locals>.<lambda>" ps) (hd : d ≤ 600) (hu : u ≤ 6000)
    (h : ∀ D ds ps' extra s', ds.map (·.2) = dueL vs rs → TabOk (extra ++ PL) 254 30 "_law_due.<locals>.<lambda>" ps' → Ok w g os G ((354, .ob (tabObj ps')) :: (D, .lst (dRefs ds)) :: (dLed ds ++ (extra ++ l))) s' → R (.ok (.ret (.ref D))) s') :
    codeAny (model P0 w) (AR d u) (.call (.ref 357) ⟨[.ref Ld, .ref Rd], []⟩) R s := by
  refine call_fnC (binds := [("lists", .ref Ld), ("rules", .ref Rd)]) (kvs := [("order", none), ("due", none)]) (cn := [("name", none), ("rules", some (.ref Rd)), ("lists", some (.ref Ld))]) B H rfl (by kernel_rfl) rfl (BindsTo.of_eq rfl) rfl ?_ (fun n => rfl) (by walk_at "ns") (hL_of (lb := []) (rest := ["order", "due"]) rfl rfl (by walk_at "ns")) (by walk_at "ns") ?_ (by walk_at "lt") (fun L cs s₁ e H₁ => ?_)
  · intro x hx
    simp only [List.mem_cons, List.not_mem_nil, or_false] at hx
    rcases hx with rfl | rfl
    · exact .inr ⟨rfl, rfl⟩
    · exact .inr ⟨rfl, rfl⟩
  · intro p hp
    simp only [List.mem_cons, List.not_mem_nil, or_false] at hp
    rcases hp with rfl | rfl | rfl <;> rfl
  obtain ⟨cn, cr, cl, rfl⟩ := cs3 e
  dsimp only [cellsLed, List.zip_cons_cons, List.zip_nil_right, List.map_cons, List.map_nil, List.cons_append, List.nil_append] at H₁
  refine wpAny_execs_cons (wpAny_Assign_Name (Call_kw ?_))
  walk_at "bi"
  refine callWith_kw (args_cons ?_)
  walk_at "nm"
  refine args_nil (kws_cons ?_)
  refine e_lambda (P := 354) (c := 356) (ps := ps) (qual := "_law_due.<locals>.<lambda>") B H₁ (.tail (.tail (.tail (.tail .head)))) (code356 B) (PL := PL) (fun p hp => .tail _ (.tail _ (.tail _ (.tail _ (.tail _ (hPL p hp)))))) ht (by kernel_rfl) rfl rfl rfl rfl (fun fn fd c' pm ctv oc extra s₂ hfd hx ho H₂ => kws_nil ?_)
  have hc' : (c', .ob oc) ∈ extra ++ l := by
    rcases hx with ⟨rfl, hx⟩ | rfl
    · exact hPL _ hx
    · exact .head _
  have H₃ : Ok w g os G ((fn, .ob (fnO fd)) :: (L, .ns [("order", none), ("due", none)]) :: (cn, .cl none) :: (cr, .cl (some (.ref Rd))) :: (cl, .cl (some (.ref Ld))) :: (354, .ob (tabObj #[rawInt 254, rawInt 30, .ref c'])) :: (extra ++ l)) s₂ := by
    refine H₂.perm ?_
    simp only [List.cons_append]
    repeat refine List.Perm.cons _ ?_
    exact List.perm_append_comm
  clear H₂ H₁
  have inl : ∀ {p : Addr × Cell}, p ∈ l → p ∈ extra ++ l := fun h => List.mem_append_right _ h
  have hL' := inl hL
  have hR' := inl hR
  generalize hl2 : extra ++ l = l2 at *
  have nth : ∀ {r : Led} {q1 q2 q3 q4 q5 q6 p : Addr × Cell}, p ∈ r → p ∈ q1 :: q2 :: q3 :: q4 :: q5 :: q6 :: r := fun h => .tail _ (.tail _ (.tail _ (.tail _ (.tail _ (.tail _ h)))))
  refine d_sorted (ks := keysL vs rs) H₃ (nth hL') (by simpa [lkvs] using N.three) (by simp [keysL, lkvs]) ?key (fun D ns s₃ hns H₄ => ?_)
  case key =>
    intro i nm x k tok l' s' hi hk H' hl'
    obtain ⟨v, hv, rfl, rfl⟩ := lnth hi
    have hvm : v ∈ vs := List.mem_of_getElem? hv
    have hkv : k = ⟨-(((rs.filter (lt2 v.n)).length : Nat) : Int), (v.iv.length : Nat), v.n, 0, 0, 0⟩ := by
      unfold keysL at hk
      rw [List.getElem?_map, hv] at hk
      exact (Option.some.inj hk).symm
    subst hkv
    have m1 := hl' _ (.head _)
    have m2 := hl' _ (nth hc')
    have m3 : (cr, Cell.cl (some (.ref Rd))) ∈ l' := hl' _ (.tail _ (.tail _ (.tail _ (.head _))))
    have m4 : (cl, Cell.cl (some (.ref Ld))) ∈ l' := hl' _ (.tail _ (.tail _ (.tail _ (.tail _ (.head _)))))
    have mL := hl' _ (nth hL')
    have mR := hl' _ (nth hR')
    have mP : ∀ p ∈ P, p ∈ l' := fun p hp => hl' _ (nth (inl (hP p hp)))
    subst hfd
    refine wpAny_call (call_fnE1 (x := "name") (v := .str v.n tok) B H' m1 rfl m2 ho rfl (BindsTo.of_eq rfl) (fun n => rfl) (fun h => rfl) rfl (by walk_at "lt") (fun L' cx s₄ H₄ => ?_))
    have m3' : ∀ {q1 q2 p : Addr × Cell}, p ∈ l' → p ∈ q1 :: q2 :: l' := fun h => .tail _ (.tail _ h)
    refine Tuple_ (args_cons (UnaryOp_ (Call_ ?_)))
    walk_at "bi"
    refine c_bi (args_cons (x_listcomp (g := g) (os := os) (vars := ["x", "y", "m"]) rfl (by decide) rfl (by decide) (by decide) ?_))
    refine e_free (ca := cr) H₄ (by rfl) (m3' m3) ?_
    refine ⟨Rd, _, _, _, _, G, _, fun i ys G' l'' => G = G' ∧ l'' = _ ∧ ys.length = ((rs.take i).filter (lt2 v.n)).length, Iter.list w Rd (rs.map fun r => .ref r.t), rfl, H₄, by rw [List.length_map]; exact Nat.le_trans N.few (by decide), ⟨rfl, rfl, rfl⟩, ?_, ?_, ?_⟩
    · rintro i ys G' l'' ⟨rfl, rfl, -⟩ p hp
      simp only [List.mem_singleton] at hp
      subst hp
      exact m3' mR
    · rintro i vv ys C D I G' l'' kv s₅ hi hitem hys hkv ⟨rfl, rfl, hyl⟩ H₅
      obtain ⟨o1, o2, o3, rfl⟩ := kv3 hkv
      rw [List.getElem?_map, Option.map_eq_some_iff] at hitem
      obtain ⟨r, hr, rfl⟩ := hitem
      have hrt := mP _ (N.rul r (List.mem_of_getElem? hr)).1
      refine a_tup3 H₅ (.tail _ (.tail _ (.tail _ (m3' hrt)))) (fun s₆ H₆ => ?_)
      refine e_store H₆ (by walk_at "zip") (by walk_at "put") (fun s₇ H₇ => ?_)
      refine e_store H₇ (by walk_at "zip") (by walk_at "put") (fun s₈ H₈ => ?_)
      refine e_store H₈ (by walk_at "zip") (by walk_at "put") (fun s₉ H₉ => ?_)
      refine wpAny_tests_one (wpAny_isTrue_Compare1 ?_)
      refine e_cell (ca := cx) H₉ (by rfl) (by walk_at "mem") ?_
      refine Tuple_ (args_cons ?_)
      walk_at "nmc"
      refine args_cons ?_
      walk_at "nmc"
      refine args_nil (e_newTuple H₉ (fun tt s₁₀ H₁₀ => ?_) (by rw [sizeLine_eq]; exact Nat.le_of_ble_eq_true rfl))
      refine in_tup2 H₁₀ (.head _) (wpAny_truthy_bool ?_)
      have hfil : ((rs.take (i + 1)).filter (lt2 v.n)) = (rs.take i).filter (lt2 v.n) ++ (if lt2 v.n r then [r] else []) := by
        rw [take_snoc hr, List.filter_append]
        congr 1
        simp only [List.filter_cons, List.filter_nil]
      have H₁₁ := H₁₀.tail
      cases hlt : lt2 v.n r with
      | true =>
        rw [hlt] at hfil
        have hb : (r.n1 == v.n || r.n2 == v.n) = true := hlt
        rw [hb, if_pos rfl]
        refine e_local H₁₁ (List.Mem.head _) (by walk_at "kv") ?_
        exact ⟨_, _, _, rfl, ⟨rfl, rfl, by rw [hfil, List.length_append, List.length_append, hyl]; rfl⟩, H₁₁⟩
      | false =>
        rw [hlt] at hfil
        have hb : (r.n1 == v.n || r.n2 == v.n) = false := hlt
        rw [hb, if_neg (by decide)]
        exact ⟨_, _, _, rfl, ⟨rfl, rfl, by rw [hfil, hyl]; simp⟩, H₁₁⟩
    rintro D2 ys G' l'' s₅ ⟨rfl, rfl, hyl⟩ H₅
    rw [List.length_map, List.take_length] at hyl
    have hfl : (rs.filter (lt2 v.n)).length ≤ 4 := Nat.le_trans (List.length_filter_le _ _) N.few
    refine args_nil (l_len H₅ (.head _) (by omega) (fun t1 s₆ H₆ => ?_))
    refine e_neg H₆ (fun t2 s₇ H₇ => ?_)
    refine args_cons (Call_ ?_)
    walk_at "bi"
    refine c_bi (args_cons (x_sub ?_ (fun o i => ⟨_, rfl⟩)))
    refine e_free (ca := cl) H₇ (by rfl) (.tail _ (m3' m4)) ?_
    refine e_cell (ca := cx) (v := .str v.n tok) H₇ (by rfl) (by walk_at "mem") ?_
    refine ⟨notpy_T (H₇.dict (d := Ld) (kvs := lkvs vs) (.tail _ (m3' mL))).typeIs PySem.F.slot_dict_getitem.lookup, ?_⟩
    refine d_get H₇ (.tail _ (m3' mL)) (valueAt_mem (by rw [lk_names]; exact N.nd) (List.mem_map_of_mem (f := fun v : LV => (v.n, Value.ref v.li)) hvm)) (fun s₈ H₈ => ?_)
    refine args_nil (l_len H₈ (.tail _ (m3' (mP _ (N.var v hvm).1))) (Nat.le_trans (N.var v hvm).2.1 (by decide)) (fun t3 s₉ H₉ => ?_))
    refine args_cons ?_
    walk_at "nm"
    refine args_nil (e_newTuple H₉ (fun t s₁₀ H₁₀ => ?_) (by rw [sizeLine_eq]; exact Nat.le_of_ble_eq_true rfl))
    refine ⟨t, ⟨-(ys.length : Int), (v.iv.length : Nat), v.n, t2, t3, tok⟩, rfl, by rw [hyl]; rfl, H₁₀.sub ?_⟩
    exact List.Sublist.cons₂ _ (List.Sublist.cons _ (List.Sublist.cons _ (List.Sublist.cons _ (List.Sublist.refl _))))
  rw [fm_names] at hns
  have hns' : Paired (fun v (x : LV) => ∃ t, v = Value.str x.n t) ns (ordL vs rs) := Paired.mapr hns
  clear hns
  have hnl : ns.length = (ordL vs rs).length := hns'.length
  have hol : (ordL vs rs).length ≤ 3 := by rw [(ordL_perm N.three).length_eq]; exact N.three
  have hov : ∀ v ∈ ordL vs rs, v ∈ vs := fun v hv => (ordL_perm N.three).mem_iff.mp hv
  have hond : ((ordL vs rs).map (·.n)).Nodup := ((ordL_perm N.three).map (·.n)).nodup_iff.mpr N.nd
  clear H₃
  have hT' : TabOk (extra ++ PL) 254 30 "_law_due.<locals>.<lambda>" #[rawInt 254, rawInt 30, .ref c'] := .inr ⟨c', oc, rfl, by
    rcases hx with ⟨rfl, hx⟩ | rfl
    · exact hx
    · exact .head _, ho⟩
  have m2P : ∀ p ∈ P, p ∈ l2 := fun p hp => inl (hP p hp)
  generalize hps : (#[rawInt 254, rawInt 30, .ref c'] : Array Value) = ps' at *
  refine e_store H₄ (by walk_at "zip") (by walk_at "put") (fun s₄ H₅ => ?_)
  have H₆ : Ok w g os G ((L, .ns [("order", some (.ref D)), ("due", none)]) :: (cn, .cl none) :: (cr, .cl (some (.ref Rd))) :: (cl, .cl (some (.ref Ld))) :: (354, .ob (tabObj ps')) :: (D, .lst ns) :: l2) s₄ := by
    refine (H₅.sub (l' := (D, .lst ns) :: (L, .ns [("order", some (.ref D)), ("due", none)]) :: (cn, .cl none) :: (cr, .cl (some (.ref Rd))) :: (cl, .cl (some (.ref Ld))) :: (354, .ob (tabObj ps')) :: l2) ?_).perm (to_front [_, _, _, _, _])
    exact List.Sublist.cons₂ _ (List.Sublist.cons _ (List.Sublist.refl _))
  clear H₅ H₄
  generalize hstart : (if (ordL vs rs).isEmpty then ([] : List (List (Str × Value))) else [[]]) = start
  refine wpAny_execs_cons (wpAny_Assign_Name (wpAny_mono (Q := fun v s' => ∃ Du ds, v = .ref Du ∧ ds.map (·.2) = start ∧ Ok w g os G ((Du, .lst (dRefs ds)) :: (dLed ds ++ ((L, .ns [("order", some (.ref D)), ("due", none)]) :: (cn, .cl none) :: (cr, .cl (some (.ref Rd))) :: (cl, .cl (some (.ref Ld))) :: (354, .ob (tabObj ps')) :: (D, .lst ns) :: l2))) s') ?ife (fun v s₅ q => ?_) fun _ _ x => x))
  case ife =>
    refine IfExp_ (wpAny_isTrue_Compare1 ?_)
    walk_at "nm"
    refine List_ (args_nil (e_newList H₆ (fun E0 s₅ H₅ => ?_) (by decide)))
    refine ne_nil H₅ (by walk_at "mem") (.head _) (Nat.lt_of_le_of_lt (show u + 3 ≤ 6003 by omega) (by decide +kernel)) (wpAny_truthy_bool ?_)
    have he : ns.isEmpty = (ordL vs rs).isEmpty := by
      cases ns <;> cases h0 : ordL vs rs <;> simp [h0] at hnl <;> rfl
    rw [he]
    cases h0 : (ordL vs rs).isEmpty with
    | true =>
      rw [h0] at hstart
      refine ite_neg (by decide) ?_
      refine List_ (args_nil (e_newList H₅ (fun Du s₆ H₆ => ?_) (by decide)))
      exact ⟨Du, [], rfl, hstart, H₆.sub (List.Sublist.cons₂ _ (List.sublist_cons_self ..))⟩
    | false =>
      rw [h0] at hstart
      refine ite_pos (by decide) ?_
      refine List_ (args_cons (e_dict0 H₅ (fun dd s₆ H₆ => args_nil (e_newList H₆ (fun Du s₇ H₇ => ?_) (by rw [sizeLine_eq]; exact Nat.le_of_ble_eq_true rfl)))))
      exact ⟨Du, [(dd, [])], rfl, hstart, H₇.sub (List.Sublist.cons₂ _ (List.Sublist.cons₂ _ (List.sublist_cons_self ..)))⟩
  obtain ⟨Du, ds, rfl, hds, H₇⟩ := q
  clear H₆
  refine e_store H₇ (.tail (Zip.app .head)) (by walk_at "put") (fun s₆ H₈ => ?_)
  have H₉ : Ok w g os G ((L, .ns [("order", some (.ref D)), ("due", some (.ref Du))]) :: (cn, .cl none) :: (cr, .cl (some (.ref Rd))) :: (cl, .cl (some (.ref Ld))) :: (354, .ob (tabObj ps')) :: (D, .lst ns) :: (Du, .lst (dRefs ds)) :: (dLed ds ++ l2)) s₆ := by
    refine H₈.perm ?_
    refine (List.Perm.cons _ (List.perm_append_comm.trans ?_)).trans (to_front [_, _, _, _, _, _])
    simp only [List.cons_append]
    repeat refine List.Perm.cons _ ?_
    exact List.perm_append_comm
  clear H₈ H₇
  refine wpAny_execs_cons (x_for (g := g) (os := os) ?_)
  walk_at "nm"
  refine ⟨D, _, _, _, _, G, _, fun i G' l' => G = G' ∧ ∃ Du ds nv, l' = (L, .ns [("order", some (.ref D)), ("due", some (.ref Du))]) :: (cn, .cl nv) :: (cr, .cl (some (.ref Rd))) :: (cl, .cl (some (.ref Ld))) :: (354, .ob (tabObj ps')) :: (D, .lst ns) :: (Du, .lst (dRefs ds)) :: (dLed ds ++ l2) ∧ ds.map (·.2) = prodL ((ordL vs rs).take i) start,
    Iter.list w D ns, rfl, H₉, ⟨rfl, Du, ds, none, rfl, hds⟩, ?_, ?_, ?_⟩
  · rintro i G' l' ⟨rfl, Du, ds, nv, rfl, -⟩ p hp
    simp only [List.mem_singleton] at hp
    subst hp
    walk_at "mem"
  · rintro i v0 I0 G' l' s₇ hi hitem ⟨rfl, Du, ds, nv, rfl, hds⟩ H₁₀
    obtain ⟨v, hv, tk, rfl⟩ := Paired.get hns' hitem
    have hvm := hov v (List.mem_of_getElem? hv)
    have hvN := N.var v hvm
    refine wpAny_assign_Name (e_storeC (ca := cn) H₁₀ (by rfl) (by walk_at "zip") (fun s₈ H₁₁ => ?_))
    clear H₁₀
    generalize hdl : ds.map (·.2) = dl at hds
    refine wpAny_execs_cons (x_assign_comp2 (g := g) (os := os) (vars := ["one", "value"]) rfl rfl (by decide) rfl (by decide) (by decide) ?_)
    walk_at "nm"
    refine ⟨Du, _, _, _, _, G, _, fun i ys G' l' => G = G' ∧ ∃ es, ys = dRefs es ∧ l' = (I0, Cell.it "list_iterator" (.fields #[.ref D, .int (_ : Nat) 0])) :: (L, .ns [("order", some (.ref D)), ("due", some (.ref Du))]) :: (cn, .cl (some (.str v.n tk))) :: (cr, .cl (some (.ref Rd))) :: (cl, .cl (some (.ref Ld))) :: (354, .ob (tabObj ps')) :: (D, .lst ns) :: (Du, .lst (dRefs ds)) :: (dLed es ++ (dLed ds ++ l2)) ∧ es.map (·.2) = stepL (dl.take i) v,
      Iter.list w Du (dRefs ds), rfl, H₁₁, ⟨rfl, [], rfl, rfl, rfl⟩, ?_, ?_, ?_⟩
    · rintro i ys G' l' ⟨rfl, es, rfl, rfl, -⟩ p hp
      simp only [List.mem_singleton] at hp
      subst hp
      walk_at "mem"
    · rintro k x0 ys C D2 I G' l' kv s₉ hk hitem2 hkv ⟨rfl, es, rfl, rfl, hes⟩ H₁₂
      have hk' : k < ds.length := by simpa using hk
      rw [List.getElem?_map, List.getElem?_eq_getElem hk'] at hitem2
      cases hitem2
      obtain ⟨o1, o2, rfl⟩ := kv2 hkv
      have hdk : dl[k]? = some (ds[k]).2 := by rw [← hdl, List.getElem?_map, List.getElem?_eq_getElem hk']; rfl
      have hone : ((ds[k]).1, Cell.sd (ds[k]).2) ∈ dLed ds := List.mem_map_of_mem (f := fun p : Addr × List (Str × Value) => (p.1, Cell.sd p.2)) (List.getElem_mem hk')
      have hnames : (ds[k]).2.map (·.1) = ((ordL vs rs).take i).map (·.n) := by
        have := prodL_names (vs := (ordL vs rs).take i) (due := start) (ns := []) (fun one ho => by
          rw [← hstart] at ho
          split at ho
          · cases ho
          · simp only [List.mem_singleton] at ho
            subst ho; rfl) (ds[k]).2 (by rw [← hds]; exact List.mem_of_getElem? hdk)
        simpa using this
      have hdsl : ds.length ≤ 27 := by
        have := prodL_len (vs := (ordL vs rs).take i) (due := start) (fun v hv => (N.var v (hov v (List.mem_of_mem_take hv))).2.1) (by rw [← hstart]; split <;> simp) (Nat.le_trans (List.take_sublist _ _).length_le hol)
        rw [← hds, ← hdl, List.length_map] at this
        exact this
      have hesl : es.length ≤ 81 := by
        have := stepL_len (due := dl.take k) hvN.2.1
        rw [← hes, List.length_map] at this
        have h2 : (dl.take k).length ≤ dl.length := (List.take_sublist _ _).length_le
        rw [← hdl, List.length_map] at h2
        rw [← hdl] at this
        omega
      generalize hdd : ds[k] = one at *
      obtain ⟨dd, one⟩ := one
      dsimp only at hone hdk hnames
      have honl : one.length ≤ 3 := by
        have := congrArg List.length hnames
        simp only [List.length_map] at this
        rw [this]
        exact Nat.le_trans (List.take_sublist _ _).length_le hol
      have hnn : v.n ∉ one.map (·.1) := by
        rw [hnames]
        intro hm
        have e := (List.take_sublist (i + 1) (ordL vs rs)).map (·.n)
        rw [take_snoc hv, List.map_append] at e
        have nd := hond.sublist e
        rw [List.nodup_append] at nd
        exact nd.2.2 _ hm v.n (by simp) rfl
      refine wpAny_assign_Name (e_store H₁₂ (by walk_at "zip") (by walk_at "put") (fun s₁₀ H₁₃ => ?_))
      clear H₁₂
      have t11 : ∀ {p q1 q2 q3 q4 q5 q6 q7 q8 q9 q10 q11 : Addr × Cell} {r : Led}, p ∈ r → p ∈ q1 :: q2 :: q3 :: q4 :: q5 :: q6 :: q7 :: q8 :: q9 :: q10 :: q11 :: r := fun h => .tail _ (.tail _ (.tail _ (.tail _ (.tail _ (.tail _ (.tail _ (.tail _ (.tail _ (.tail _ (.tail _ h))))))))))
      have inr : ∀ {p : Addr × Cell}, p ∈ l2 → p ∈ dLed es ++ (dLed ds ++ l2) := fun h => List.mem_append_right _ (List.mem_append_right _ h)
      have ind : ∀ {p : Addr × Cell}, p ∈ dLed ds → p ∈ dLed es ++ (dLed ds ++ l2) := fun h => List.mem_append_right _ (List.mem_append_left _ h)
      refine x_sub (x_sub ?_ (fun o i => ⟨_, rfl⟩)) (fun o i => ⟨_, rfl⟩)
      refine e_cell (ca := cl) (v := .ref Ld) H₁₃ (by rfl) (by walk_at "mem") ?_
      refine e_cell (ca := cn) (v := .str v.n tk) H₁₃ (by rfl) (by walk_at "mem") ?_
      refine ⟨notpy_T (H₁₃.dict (d := Ld) (kvs := lkvs vs) (t11 (inr hL'))).typeIs PySem.F.slot_dict_getitem.lookup, ?_⟩
      refine d_get H₁₃ (t11 (inr hL')) (valueAt_mem (by rw [lk_names]; exact N.nd) (List.mem_map_of_mem (f := fun v : LV => (v.n, Value.ref v.li)) hvm)) (fun s₁₁ H₁₄ => ?_)
      refine x_rev H₁₄ (fun sl tt s₁₂ H₁₅ hsl => ⟨notpy_T (H₁₅.lst (t11 (inr (m2P _ hvN.1)))).typeIs PySem.F.slot_list_getitem.lookup, ?_⟩)
      refine getItem_rev H₁₅ (t11 (inr (m2P _ hvN.1))) (Nat.le_trans hvN.2.1 (by decide)) hsl (fun X2 s₁₃ H₁₆ => ?_)
      refine ⟨X2, _, _, _, _, fun j ys (kv : List (Str × Option Value)) G' l' => G = G' ∧ ∃ (es' : List (Addr × List (Str × Value))) (o : Option Value), ys = dRefs es' ∧ kv = ([("one", some (.ref dd)), ("value", o)] : List (Str × Option Value)) ∧ l' = (X2, .lst v.iv.reverse) :: (I0, Cell.it "list_iterator" (.fields #[.ref D, .int (_ : Nat) 0])) :: (L, .ns [("order", some (.ref D)), ("due", some (.ref Du))]) :: (cn, .cl (some (.str v.n tk))) :: (cr, .cl (some (.ref Rd))) :: (cl, .cl (some (.ref Ld))) :: (354, .ob (tabObj ps')) :: (D, .lst ns) :: (Du, .lst (dRefs ds)) :: (dLed es' ++ (dLed ds ++ l2)) ∧ es'.map (·.2) = stepL (dl.take k) v ++ (v.iv.reverse.take j).map fun x => one ++ [(v.n, x)],
        Iter.list w X2 v.iv.reverse, rfl, ⟨_, G, _, ⟨rfl, es, _, rfl, rfl, rfl, by rw [hes]; simp⟩, H₁₆.perm (to_front [_, _, _])⟩, ?_, ?_, ?_⟩
      · rintro j ys kv G' l' ⟨rfl, es', o, rfl, rfl, rfl, -⟩ p hp
        simp only [List.mem_singleton] at hp
        subst hp
        exact .head _
      · rintro j x2 ys kv I2 G' l' s₁₄ hj hitem3 ⟨rfl, es', o, rfl, rfl, rfl, hes'⟩ H₁₇
        have hj' : j ≤ 3 := by
          have := hvN.2.1
          rw [List.length_reverse] at hj
          omega
        have hes'l : es'.length ≤ 100 := by
          have e1 := congrArg List.length hes'
          rw [List.length_append, ← hes, List.length_map, List.length_map, List.length_map] at e1
          have e2 : (v.iv.reverse.take j).length ≤ j := List.length_take_le _ _
          omega
        refine wpAny_assign_Name (e_store H₁₇ (by walk_at "zip") (by walk_at "put") (fun s₁₅ H₁₈ => ?_))
        clear H₁₇
        have t13 : ∀ {p q1 q2 q3 q4 q5 q6 q7 q8 q9 q10 q11 q12 q13 : Addr × Cell} {r : Led}, p ∈ r → p ∈ q1 :: q2 :: q3 :: q4 :: q5 :: q6 :: q7 :: q8 :: q9 :: q10 :: q11 :: q12 :: q13 :: r := fun h => .tail _ (.tail _ (t11 h))
        have ind' : ∀ {p : Addr × Cell}, p ∈ dLed ds → p ∈ dLed es' ++ (dLed ds ++ l2) := fun h => List.mem_append_right _ (List.mem_append_left _ h)
        have hone' := t13 (q1 := (I2, Cell.it "list_iterator" (.fields #[.ref X2, .int (j + 1 : Nat) 0]))) (q2 := (C, Cell.ns [("one", some (.ref dd)), ("value", some x2)])) (q3 := (D2, Cell.lst (dRefs es'))) (q4 := (I, Cell.it "list_iterator" (.fields #[.ref Du, .int (k + 1 : Nat) 0]))) (q5 := (X2, Cell.lst v.iv.reverse)) (q6 := (I0, Cell.it "list_iterator" (.fields #[.ref D, .int (i + 1 : Nat) 0]))) (q7 := (L, Cell.ns [("order", some (.ref D)), ("due", some (.ref Du))])) (q8 := (cn, Cell.cl (some (.str v.n tk)))) (q9 := (cr, Cell.cl (some (.ref Rd)))) (q10 := (cl, Cell.cl (some (.ref Ld)))) (q11 := (354, Cell.ob (tabObj ps'))) (q12 := (D, Cell.lst ns)) (q13 := (Du, Cell.lst (dRefs ds))) (ind' hone)
        refine Call_ ?_
        walk_at "bi"
        refine PyProof.Rows.callWith_type1 (args_cons (wpAny_BinOp (Call_ ?_)))
        walk_at "bi"
        refine PyProof.Rows.callWith_type1 (args_cons (m_bi0 PySem.F.plainAttrs_dict PySem.F.slot_dict_items PySem.F.type_dict_items ?_))
        refine e_local H₁₈ (.tail _ (.head _)) (.head _) ?_
        refine ⟨_, _, _, _, _, _, H₁₈, rfl, hone', rfl, d_items H₁₈ hone' (fun V s₁₆ H₁₉ => ?_)⟩
        refine args_nil (items_list H₁₉ (.head _) (.tail _ hone') (by omega) (fun L1 pt s₁₇ hpt H₂₀ => ?_))
        refine List_ (args_cons (Tuple_ (args_cons ?_)))
        refine e_cell (ca := cn) (v := .str v.n tk) H₂₀ (by rfl) (by walk_at "mem") ?_
        refine args_cons (e_local (kvs := [("one", some (.ref dd)), ("value", some x2)]) (v := x2) H₂₀ (by walk_at "mem") (.tail _ (.head _)) ?_)
        refine args_nil (e_newTuple H₂₀ (fun tp s₁₈ H₂₁ => ?_) (by rw [sizeLine_eq]; exact Nat.le_of_ble_eq_true rfl))
        refine args_nil (e_newList H₂₁ (fun L2 s₁₉ H₂₂ => ?_) (by rw [sizeLine_eq]; exact Nat.le_of_ble_eq_true rfl))
        have hptl : pt.length ≤ 3 := by
          have := congrArg List.length hpt
          simp only [List.length_map] at this
          omega
        refine l_add H₂₂ (.tail _ (.tail _ (.head _))) (.head _) (by simp; omega) (fun L3 s₂₀ H₂₃ => ?_)
        have eL : (pt.map fun p => Value.ref p.a) ++ [.ref tp] = (pt ++ [(⟨tp, v.n, tk, x2⟩ : PT)]).map fun p => Value.ref p.a := by simp
        rw [eL] at H₂₃
        have eK : ptKvs (pt ++ [(⟨tp, v.n, tk, x2⟩ : PT)]) = one ++ [(v.n, x2)] := by rw [← hpt]; simp
        refine args_nil (d_of_pairs (ps := pt ++ [⟨tp, v.n, tk, x2⟩]) H₂₃ (.head _) ?_ ?_ (by simp; omega) (fun da s₂₁ H₂₄ => ?_))
        · intro p hp
          have e : ptLed (pt ++ [(⟨tp, v.n, tk, x2⟩ : PT)]) = ptLed pt ++ [(tp, Cell.tup [.str v.n tk, x2])] := by simp [ptLed]
          rw [e] at hp
          rcases List.mem_append.mp hp with hp | hp
          · exact .tail _ (.tail _ (.tail _ (.tail _ (List.mem_append_left _ hp))))
          · simp only [List.map_cons, List.map_nil, List.mem_singleton] at hp
            subst hp
            exact .tail _ (.tail _ (.head _))
        · rw [eK, List.map_append, List.nodup_append]
          refine ⟨?_, by simp, ?_⟩
          · rw [hnames]
            exact hond.sublist ((List.take_sublist i (ordL vs rs)).map (·.n))
          · intro a ha b hb e
            simp only [List.map_cons, List.map_nil, List.mem_singleton] at hb
            subst hb
            subst e
            exact hnn ha
        · rw [eK] at H₂₄
          have sb := H₂₄.sub (l' := (da, .sd (one ++ [(v.n, x2)])) :: (I2, Cell.it "list_iterator" (.fields #[.ref X2, .int (j + 1 : Nat) 0])) :: (C, Cell.ns [("one", some (.ref dd)), ("value", some x2)]) :: (D2, Cell.lst (dRefs es')) :: (I, Cell.it "list_iterator" (.fields #[.ref Du, .int (k + 1 : Nat) 0])) :: (X2, Cell.lst v.iv.reverse) :: (I0, Cell.it "list_iterator" (.fields #[.ref D, .int (i + 1 : Nat) 0])) :: (L, Cell.ns [("order", some (.ref D)), ("due", some (.ref Du))]) :: (cn, Cell.cl (some (.str v.n tk))) :: (cr, Cell.cl (some (.ref Rd))) :: (cl, Cell.cl (some (.ref Ld))) :: (354, Cell.ob (tabObj ps')) :: (D, Cell.lst ns) :: (Du, Cell.lst (dRefs ds)) :: (dLed es' ++ (dLed ds ++ l2)))
            (List.Sublist.cons₂ _ (List.Sublist.cons _ (List.Sublist.cons _ (List.Sublist.cons _ (List.Sublist.cons _ ((List.sublist_cons_self ..).trans (List.sublist_append_right _ _)))))))
          have pm := sb.perm (to_front [(I2, Cell.it "list_iterator" (.fields #[.ref X2, .int (j + 1 : Nat) 0])), (C, Cell.ns [("one", some (.ref dd)), ("value", some x2)]), (D2, Cell.lst (dRefs es')), (I, Cell.it "list_iterator" (.fields #[.ref Du, .int (k + 1 : Nat) 0])), (X2, Cell.lst v.iv.reverse), (I0, Cell.it "list_iterator" (.fields #[.ref D, .int (i + 1 : Nat) 0])), (L, Cell.ns [("order", some (.ref D)), ("due", some (.ref Du))]), (cn, Cell.cl (some (.str v.n tk))), (cr, Cell.cl (some (.ref Rd))), (cl, Cell.cl (some (.ref Ld))), (354, Cell.ob (tabObj ps')), (D, Cell.lst ns), (Du, Cell.lst (dRefs ds))])
          refine ⟨[("one", some (.ref dd)), ("value", some x2)], G, _, by simpa using Nat.le_trans hes'l (by decide), ⟨rfl, es' ++ [(da, one ++ [(v.n, x2)])], some x2, by simp, rfl, rfl, ?_⟩, pm.perm (List.Perm.append_left [_, _, _, _, _, _, _, _, _, _, _, _, _] ?_)⟩
          · rw [List.map_append, hes', take_snoc hitem3, List.map_append, List.append_assoc]
            rfl
          · have e : dLed (es' ++ [(da, one ++ [(v.n, x2)])]) ++ (dLed ds ++ l2) = dLed es' ++ ((da, .sd (one ++ [(v.n, x2)])) :: (dLed ds ++ l2)) := by simp [dLed]
            have q : ((da, Cell.sd (one ++ [(v.n, x2)])) :: (dLed es' ++ (dLed ds ++ l2))).Perm (dLed (es' ++ [(da, one ++ [(v.n, x2)])]) ++ (dLed ds ++ l2)) := by rw [e]; exact List.perm_middle.symm
            exact q
      · rintro ys kv G' l' ⟨rfl, es', o, rfl, rfl, rfl, hes'⟩
        refine ⟨rfl, _, List.sublist_cons_self .., rfl, es', rfl, rfl, ?_⟩
        · rw [hes', List.take_of_length_le (Nat.le_refl _), take_snoc hdk]
          unfold stepL
          simp
    · rintro D2 ys G' l' ⟨rfl, es, rfl, rfl, hes⟩
      refine ⟨_, _, _, .tail .head, by walk_at "put", fun s₉ H₁₂ => wpAny_execs_nil ⟨G, _, ⟨rfl, D2, es, _, rfl, ?_⟩, (H₁₂.sub (l' := (D2, .lst (dRefs es)) :: (I0, _) :: (L, .ns [("order", some (.ref D)), ("due", some (.ref D2))]) :: (cn, .cl (some (.str v.n tk))) :: (cr, .cl (some (.ref Rd))) :: (cl, .cl (some (.ref Ld))) :: (354, .ob (tabObj ps')) :: (D, .lst ns) :: (dLed es ++ l2)) ?_).perm (to_front [_, _, _, _, _, _, _])⟩⟩
      · rw [hes, prodL_snoc hv, ← hds, ← hdl, List.take_of_length_le (by simp)]
      · repeat refine List.Sublist.cons₂ _ ?_
        exact .cons _ ((List.Sublist.refl _).append (List.sublist_append_right _ _))
  rintro G' l' s₇ ⟨rfl, Du, ds, nv, rfl, hds⟩ H₁₀
  rw [hnl, List.take_length] at hds
  refine wpAny_execs_nil ?_
  have hdsl : ds.length ≤ 27 := by
    have := prodL_len (vs := ordL vs rs) (due := start) (fun v hv => (N.var v (hov v hv)).2.1) (by rw [← hstart]; split <;> simp) hol
    rw [← hds, List.length_map] at this
    exact this
  have hval : ∀ e ∈ ds, ∀ n ∈ vs.map (·.n), ∃ a ta, valueAt e.2 n = some (.int a ta) ∧ Sm a := by
    intro e he n hn
    have hm : e.2 ∈ prodL (ordL vs rs) start := by rw [← hds]; exact List.mem_map_of_mem (f := (·.2)) he
    have h1 := prodL_names (vs := ordL vs rs) (due := start) (ns := []) (fun one ho => by
      rw [← hstart] at ho
      split at ho
      · cases ho
      · simp only [List.mem_singleton] at ho
        subst ho; rfl) _ hm
    have h2 := prodL_vals (vs := ordL vs rs) (due := start) (fun v hv x hx => (N.var v (hov v hv)).2.2 x hx) (fun one ho => by
      rw [← hstart] at ho
      split at ho
      · cases ho
      · simp only [List.mem_singleton] at ho
        subst ho; intro p hp; cases hp) _ hm
    have h3 : n ∈ e.2.map (·.1) := by
      rw [h1, List.nil_append]
      exact ((ordL_perm N.three).map (·.n)).mem_iff.mpr hn
    obtain ⟨v, hv⟩ := Option.isSome_iff_exists.mp (valueAt_in h3)
    obtain ⟨p, hp, rfl⟩ := mem_valueAt hv
    obtain ⟨a, ta, e1, e2⟩ := h2 p hp
    exact ⟨a, ta, by rw [hv, e1], e2⟩
  refine wpAny_execs_cons (wpAny_Return_some (x_listcomp1 (g := g) (os := os) (x := "one") rfl rfl (by decide) (fun n => rfl) (fun h => rfl) ?_))
  walk_at "nm"
  refine ⟨Du, _, _, _, _, G, _, fun i ys G' l' => G = G' ∧ l' = _ ∧ ys = dRefs ((ds.take i).filter (fun e => fitsL rs e.2)), Iter.list w Du (dRefs ds), rfl, H₁₀, by rw [List.length_map]; omega, ⟨rfl, rfl, rfl⟩, ?_, ?_, ?_⟩
  · rintro i ys G' l' ⟨rfl, rfl, rfl⟩ p hp
    simp only [List.mem_singleton] at hp
    subst hp
    walk_at "mem"
  · rintro i v ys C cx D2 I G' l' ov s₈ hi hitem hys ⟨rfl, rfl, rfl⟩ H₁₁
    have hi' : i < ds.length := by simpa using hi
    have hdi : ds[i]? = some ds[i] := List.getElem?_eq_getElem hi'
    rw [List.getElem?_map, hdi] at hitem
    cases hitem
    have hem : ds[i] ∈ ds := List.getElem_mem hi'
    generalize hee : ds[i] = ee at *
    have hone : (ee.1, Cell.sd ee.2) ∈ dLed ds ++ l2 := List.mem_append_left _ (List.mem_map_of_mem (f := fun p : Addr × List (Str × Value) => (p.1, Cell.sd p.2)) hem)
    refine wpAny_assign_Name (e_storeC (ca := cx) H₁₁ (by rfl) (.tail .head) (fun s₉ H₁₂ => ?_))
    clear H₁₁
    have t11 : ∀ {p q1 q2 q3 q4 q5 q6 q7 q8 q9 q10 q11 : Addr × Cell} {r : Led}, p ∈ r → p ∈ q1 :: q2 :: q3 :: q4 :: q5 :: q6 :: q7 :: q8 :: q9 :: q10 :: q11 :: r := fun h => .tail _ (.tail _ (.tail _ (.tail _ (.tail _ (.tail _ (.tail _ (.tail _ (.tail _ (.tail _ (.tail _ h))))))))))
    have in2 : ∀ {p : Addr × Cell}, p ∈ l2 → p ∈ dLed ds ++ l2 := fun h => List.mem_append_right _ h
    have hfil : ((ds.take (i + 1)).filter (fun e => fitsL rs e.2)) = (ds.take i).filter (fun e => fitsL rs e.2) ++ (if fitsL rs ee.2 then [ee] else []) := by
      rw [take_snoc hdi, List.filter_append]
      congr 1
      simp only [List.filter_cons, List.filter_nil]
    refine wpAny_tests_one (wpAny_isTrue_Compare1 (x_listcomp (g := g) (os := os) (vars := ["x", "y", "m"]) rfl (by decide) rfl (by decide) (by decide) ?_))
    refine e_cell (ca := cr) (v := .ref Rd) H₁₂ (by rfl) (by walk_at "mem") ?_
    refine ⟨Rd, _, _, _, _, G, _, fun k zs G'' l'' => G = G'' ∧ l'' = _ ∧ (zs.isEmpty = (rs.take k).all fun r => chk r.m (valueAt ee.2 r.n1) (valueAt ee.2 r.n2)), Iter.list w Rd (rs.map fun r => .ref r.t), rfl, H₁₂, by rw [List.length_map]; exact Nat.le_trans N.few (by decide), ⟨rfl, rfl, rfl⟩, ?_, ?_, ?_⟩
    · rintro k zs G'' l'' ⟨rfl, rfl, -⟩ p hp
      simp only [List.mem_singleton] at hp
      subst hp
      exact t11 (in2 hR')
    · rintro k vv zs C2 D3 I2 G'' l'' kv s₁₀ hk hitem hzs hkv ⟨rfl, rfl, hz⟩ H₁₃
      obtain ⟨o1, o2, o3, rfl⟩ := kv3 hkv
      rw [List.getElem?_map, Option.map_eq_some_iff] at hitem
      obtain ⟨r, hr, rfl⟩ := hitem
      have hrN := N.rul r (List.mem_of_getElem? hr)
      have hrt := in2 (m2P _ hrN.1)
      obtain ⟨a1, ta1, e1, sm1⟩ := hval ee hem r.n1 hrN.2.2.1
      obtain ⟨a2, ta2, e2, sm2⟩ := hval ee hem r.n2 hrN.2.2.2
      refine a_tup3 H₁₃ (.tail _ (.tail _ (.tail _ (t11 hrt)))) (fun s₁₁ H₁₄ => ?_)
      refine e_store H₁₄ (by walk_at "zip") (by walk_at "put") (fun s₁₂ H₁₅ => ?_)
      refine e_store H₁₅ (by walk_at "zip") (by walk_at "put") (fun s₁₃ H₁₆ => ?_)
      refine e_store H₁₆ (by walk_at "zip") (by walk_at "put") (fun s₁₄ H₁₇ => ?_)
      refine wpAny_tests_one (wpAny_isTrue_Not (isTrue_plain (Call_ ?_)))
      walk_at "gl"
      refine c_fn B (by kernel_rfl) (args_cons (e_local H₁₇ (.head _) (by walk_at "kv") ?_))
      refine args_cons (x_sub ?_ (fun o i => ⟨_, rfl⟩))
      refine e_cell (ca := cx) (v := .ref ee.1) H₁₇ (by rfl) (by walk_at "mem") ?_
      refine e_local H₁₇ (.head _) (.head _) ?_
      have hone' := List.Mem.tail (C2, Cell.ns [("x", some (.str r.n1 r.t1)), ("y", some (.str r.n2 r.t2)), ("m", some (.int r.m r.tm))]) (List.Mem.tail (D3, Cell.lst zs) (List.Mem.tail (I2, Cell.it "list_iterator" (.fields #[.ref Rd, .int (k + 1 : Nat) 0])) (t11 (q1 := (C, Cell.ns [])) (q2 := (cx, Cell.cl (some (.ref ee.1)))) (q3 := (D2, Cell.lst (dRefs ((ds.take i).filter (fun e => fitsL rs e.2))))) (q4 := (I, Cell.it "list_iterator" (.fields #[.ref Du, .int (i + 1 : Nat) 0]))) (q5 := (L, Cell.ns [("order", some (.ref D)), ("due", some (.ref Du))])) (q6 := (cn, Cell.cl nv)) (q7 := (cr, Cell.cl (some (.ref Rd)))) (q8 := (cl, Cell.cl (some (.ref Ld)))) (q9 := (354, Cell.ob (tabObj ps'))) (q10 := (D, Cell.lst ns)) (q11 := (Du, Cell.lst (dRefs ds))) hone)))
      refine ⟨notpy_T (H₁₇.dict hone').typeIs PySem.F.slot_dict_getitem.lookup, ?_⟩
      refine d_get H₁₇ hone' e1 (fun s₁₅ H₁₈ => ?_)
      refine args_cons (x_sub ?_ (fun o i => ⟨_, rfl⟩))
      refine e_cell (ca := cx) (v := .ref ee.1) H₁₈ (by rfl) (by walk_at "mem") ?_
      refine e_local H₁₈ (.head _) (.tail _ (.head _)) ?_
      refine ⟨notpy_T (H₁₈.dict hone').typeIs PySem.F.slot_dict_getitem.lookup, ?_⟩
      refine d_get H₁₈ hone' e2 (fun s₁₆ H₁₉ => ?_)
      refine args_nil ⟨⟨_, _, _, H₁₉⟩, wpAny_call (spec_yes B H₁₉ hrN.2.1 sm2 (by omega) (fun s₁₇ H₂₀ => ?_))⟩
      refine wpAny_truthy_bool ?_
      have hall : ((rs.take (k + 1)).all fun r => chk r.m (valueAt ee.2 r.n1) (valueAt ee.2 r.n2)) = (zs.isEmpty && yes r.m a1 a2) := by
        rw [take_snoc hr, List.all_append, hz]
        congr 1
        rw [List.all_cons, List.all_nil, e1, e2, Bool.and_true]
        rfl
      cases hy : yes r.m a1 a2 with
      | true =>
        rw [hy] at hall
        rw [if_neg (by decide)]
        exact ⟨_, _, _, rfl, ⟨rfl, rfl, by rw [hall, Bool.and_true]⟩, H₂₀⟩
      | false =>
        rw [hy] at hall
        rw [if_pos (by decide)]
        refine e_local H₂₀ (.head _) (by walk_at "kv") ?_
        exact ⟨_, _, _, rfl, ⟨rfl, rfl, by rw [hall, Bool.and_false]; simp⟩, H₂₀⟩
    rintro D3 zs G'' l'' s₁₀ ⟨rfl, rfl, hz⟩ H₁₃
    rw [List.length_map, List.take_length] at hz
    refine List_ (args_nil (e_newList H₁₃ (fun E0 s₁₁ H₁₄ => ?_) (by decide)))
    refine eq_nil H₁₄ (.tail _ (.head _)) (.head _) (Nat.lt_of_le_of_lt (show u + 3 ≤ 6003 by omega) (by decide +kernel)) (wpAny_truthy_bool ?_)
    have H₁₅ := H₁₄.tail.tail
    have hzf : zs.isEmpty = fitsL rs ee.2 := hz
    rw [hzf]
    cases hf : fitsL rs ee.2 with
    | true =>
      rw [hf] at hfil
      rw [if_pos rfl]
      refine e_cell (ca := cx) (v := .ref ee.1) H₁₅ (by rfl) (by walk_at "mem") ?_
      exact ⟨_, G, _, ⟨rfl, rfl, by rw [hfil]; simp⟩, H₁₅⟩
    | false =>
      rw [hf] at hfil
      rw [if_neg (by decide)]
      exact ⟨_, G, _, ⟨rfl, rfl, by rw [hfil]; simp⟩, H₁₅⟩
  rintro D2 ys G' l' s₈ ⟨rfl, rfl, rfl⟩ H₁₁
  rw [List.length_map, List.take_length] at H₁₁
  subst hl2
  refine h D2 (ds.filter (fun e => fitsL rs e.2)) ps' extra s₈ ?_ hT' ((H₁₁.sub (l' := (D2, .lst (dRefs (ds.filter (fun e => fitsL rs e.2)))) :: (354, .ob (tabObj ps')) :: (dLed (ds.filter (fun e => fitsL rs e.2)) ++ (extra ++ l))) ?_).perm (List.Perm.swap ..))
  · have e : (ds.filter (fun e => fitsL rs e.2)).map (·.2) = (ds.map (·.2)).filter (fitsL rs) := by
      rw [List.filter_map]
      rfl
    rw [e, hds, ← hstart]
    rfl
  · exact List.Sublist.cons₂ _ (List.Sublist.cons _ (List.Sublist.cons _ (List.Sublist.cons _ (List.Sublist.cons _ (List.Sublist.cons₂ _ (List.Sublist.cons _ (List.Sublist.cons _ ((List.filter_sublist.map _).append (List.Sublist.refl _)))))))))
end
end Mine
end
section
open PySem PySem.W PySem.Calls PyProof.Rows PySem.W.X
set_option Elab.async false
set_option maxRecDepth 100000
set_option maxHeartbeats 8000000
set_option linter.unusedVariables false
namespace Mine
local macro_rules | `(tactic| walk_at "mem") => `(tactic| first | assumption | exact List.Mem.head _ | (refine' List.Mem.tail _ ?_; walk_at "mem") | (refine' List.mem_append_right _ ?_; walk_at "mem") | (refine' List.mem_append_left _ ?_; walk_at "mem") | exact Zip.at' (by assumption) | exact Zip.keep (by assumption) (by walk_at "mem") (by intro e; cases e))
local macro_rules | `(tactic| walk_at "zip") => `(tactic| first | assumption | exact Zip.head | exact Zip.tail (by walk_at "zip") | exact Zip.app (by walk_at "zip") | exact Zip.again (by assumption))
local macro_rules | `(tactic| walk_at "kv") => `(tactic| first | with_reducible_and_instances exact List.Mem.head _ | (refine' List.Mem.tail _ ?_; walk_at "kv") | assumption)
local macro_rules | `(tactic| walk_at "put") => `(tactic| first | with_reducible exact Put.head | exact Put.tail (by walk_at "put"))
local macro_rules | `(tactic| walk_at "putd") => `(tactic| first | with_reducible exact PutD.head | with_reducible exact PutD.nil | exact PutD.tail (by decide) (by walk_at "putd"))
local macro_rules | `(tactic| walk_at "nm") => `(tactic| first
  | (refine e_local (by assumption) (by walk_at "mem") (by walk_at "kv") ?_)
  | (refine e_cell (by assumption) (by rfl) (by walk_at "mem") ?_)
  | (refine e_free (by assumption) (by rfl) (by walk_at "mem") ?_))
local macro_rules | `(tactic| walk_at "gl") => `(tactic| refine e_global (by assumption) (by assumption) (by first | with_reducible exact gl_Problem _ | with_reducible exact gl_BacktrackingSolver _ | with_reducible exact gl_Domain _ | with_reducible exact gl_Constraint _ | with_reducible exact gl_FunctionConstraint _ | with_reducible exact gl_law_yes _ | with_reducible exact gl_law_rule _ | with_reducible exact gl_law_due _) ?_)
local macro_rules | `(tactic| walk_at "bi") => `(tactic| refine e_builtin (by assumption) (by assumption) (by first | with_reducible exact bn_isinstance _ | with_reducible exact bn_callable _ | with_reducible exact bn_list _ | with_reducible exact bn_tuple _ | with_reducible exact bn_len _ | with_reducible exact bn_range _ | with_reducible exact bn_next _ | with_reducible exact bn_dict _ | with_reducible exact bn_sorted _ | with_reducible exact bn_iter _) (by first | with_reducible exact bb_isinstance | with_reducible exact bb_callable | with_reducible exact bb_list | with_reducible exact bb_tuple | with_reducible exact bb_len | with_reducible exact bb_range | with_reducible exact bb_next | with_reducible exact bb_dict | with_reducible exact bb_sorted | with_reducible exact bb_iter) ?_)
local macro_rules | `(tactic| walk_at "ns") => `(tactic| (show (_ : List Str).Nodup; dsimp only [List.map, List.nil_append, List.cons_append, List.append_nil]; decide +kernel))
local macro_rules | `(tactic| walk_at "lt") => `(tactic| (show _ < 1000; omega))
local macro_rules | `(tactic| x_close) => `(tactic| exact xq_of (by first | assumption | exact Mem.start _) (by first | rfl | assumption))
local macro_rules | `(tactic| walk_at "ga") => `(tactic| refine i_get (by assumption) (by assumption) (by walk_at "mem") (by exact rfl) (by walk_at "mem") (by first | exact cls110 _ | exact cls186 _ | exact cls336 _) (by kernel_rfl) (by walk_at "kv") (by exact rfl) ?_)
local macro_rules | `(tactic| walk_at "sa") => `(tactic| refine i_set (by assumption) (by assumption) (by walk_at "mem") (by walk_at "zip") (by first | exact cls110 _ | exact cls186 _ | exact cls336 _) (by kernel_rfl) (by kernel_rfl) (by walk_at "putd") (Nat.le_of_ble_eq_true rfl) ?_)
local macro_rules | `(tactic| walk_at "st") => `(tactic| refine e_store (by assumption) (by walk_at "zip") (by walk_at "put") ?_)
local macro_rules | `(tactic| walk_at "nmc") => `(tactic| first
  | (refine e_local (by assumption) (List.Mem.head _) (by first | exact List.Mem.head _ | exact List.Mem.tail _ (List.Mem.head _) | exact List.Mem.tail _ (List.Mem.tail _ (List.Mem.head _))) ?_)
  | (refine e_cell (by assumption) (by rfl) (by walk_at "mem") ?_)
  | (refine e_free (by assumption) (by rfl) (by walk_at "mem") ?_))
local macro_rules | `(tactic| walk_at "subl") => `(tactic| first | exact List.Sublist.refl _ | (refine' List.Sublist.cons _ ?_; walk_at "subl"))
section
variable {w : World} {g : Heap} {os : OsState} {G : Array GenState} {l l' : Led} {s : Shared} {a : Addr} {c c' : Cell} {f : Cell → Led} {A : Around} {E : Value → Shared → Prop}
/-! ## the plain law: the search finds what the product, sifted, holds -/
def toLV (v : Var) : LV := ⟨v.n, 0, v.vals⟩
def toLR (c : Con) : LR := ⟨0, c.n1, c.n2, 0, 0, 0, c.m⟩
theorem stepL_append (a b : List (List (Str × Value))) (v : LV) : stepL (a ++ b) v = stepL a v ++ stepL b v := by
  unfold stepL
  rw [List.flatMap_append]
theorem prodL_append : ∀ (vs : List LV) (a b : List (List (Str × Value))), prodL vs (a ++ b) = prodL vs a ++ prodL vs b
  | [], _, _ => rfl
  | v :: vs, a, b => by
    show prodL vs (stepL (a ++ b) v) = prodL vs (stepL a v) ++ prodL vs (stepL b v)
    rw [stepL_append, prodL_append]
theorem prodL_nil : ∀ (vs : List LV), prodL vs [] = []
  | [] => rfl
  | v :: vs => by
    show prodL vs (stepL [] v) = []
    exact prodL_nil vs
theorem prodL_flat (vs : List LV) : ∀ (due : List (List (Str × Value))), prodL vs due = due.flatMap fun one => prodL vs [one]
  | [] => prodL_nil vs
  | a :: due => by
    rw [show a :: due = [a] ++ due from rfl, prodL_append, List.flatMap_append, prodL_flat vs due]
    simp
theorem prodL_cons (v : LV) (vs : List LV) (asg : List (Str × Value)) : prodL (v :: vs) [asg] = v.iv.reverse.flatMap fun x => prodL vs [asg ++ [(v.n, x)]] := by
  show prodL vs (stepL [asg] v) = _
  rw [prodL_flat]
  unfold stepL
  simp only [List.flatMap_cons, List.flatMap_nil, List.append_nil]
  rw [List.flatMap_map]
theorem prodL_pre : ∀ (vs : List LV) (asg full : List (Str × Value)), full ∈ prodL vs [asg] → ∃ ext, full = asg ++ ext ∧ ext.map (·.1) = vs.map (·.n)
  | [], asg, full, h => by
    have : full = asg := by simpa [prodL] using h
    exact ⟨[], by simp [this], rfl⟩
  | v :: vs, asg, full, h => by
    rw [prodL_cons] at h
    obtain ⟨x, hx, h⟩ := List.mem_flatMap.mp h
    obtain ⟨ext, e1, e2⟩ := prodL_pre vs _ _ h
    exact ⟨(v.n, x) :: ext, by rw [e1]; simp, by simp [e2]⟩
theorem valueAt_app {a b : List (Str × Value)} {n : Str} (h : n ∈ a.map (·.1)) : valueAt (a ++ b) n = valueAt a n := by
  obtain ⟨v, hv⟩ := Option.isSome_iff_exists.mp (valueAt_in h)
  rw [hv]
  unfold valueAt at hv ⊢
  rw [List.find?_append]
  obtain ⟨p, hp, e⟩ := Option.map_eq_some_iff.mp hv
  rw [hp]
  simp [e]
theorem chk_none1 (m : Int) (v : Option Value) : chk m none v = true := by cases v <;> rfl
theorem chk_none2 (m : Int) (v : Option Value) : chk m v none = true := by
  cases v with
  | none => rfl
  | some v => cases v <;> rfl
abbrev sat (full : List (Str × Value)) (c : Con) : Bool := chk c.m (valueAt full c.n1) (valueAt full c.n2)
def onSome (xs : List Var) (c : Con) : Bool := xs.any fun x => touches x.n c
theorem filter_congr' {α : Type} {l : List α} {p q : α → Bool} (h : ∀ a ∈ l, p a = q a) : l.filter p = l.filter q := by
  induction l with
  | nil => rfl
  | cons a l ih =>
    rw [List.filter_cons, List.filter_cons, h a (.head _), ih fun a ha => h a (.tail _ ha)]
theorem comps_prod (cs : List Con) : ∀ (xs : List Var) (asg : List (Str × Value)), (asg.map (·.1) ++ xs.map (·.n)).Nodup → (∀ c ∈ cs, c.n1 ∈ asg.map (·.1) ++ xs.map (·.n) ∧ c.n2 ∈ asg.map (·.1) ++ xs.map (·.n)) →
    comps cs xs asg = (prodL (xs.map toLV) [asg]).filter fun full => (cs.filter (onSome xs)).all (sat full)
  | [], asg, nd, hc => by
    have e : cs.filter (onSome []) = [] := by
      rw [List.filter_eq_nil_iff]
      intro c _
      simp [onSome]
    simp [comps, prodL, e]
  | x :: xs, asg, nd, hc => by
    have nd' : ∀ v : Value, ((asg ++ [(x.n, v)]).map (·.1) ++ xs.map (·.n)).Nodup := by
      intro v
      rw [List.map_append]
      simpa using nd
    have hc' : ∀ v : Value, ∀ c ∈ cs, c.n1 ∈ (asg ++ [(x.n, v)]).map (·.1) ++ xs.map (·.n) ∧ c.n2 ∈ (asg ++ [(x.n, v)]).map (·.1) ++ xs.map (·.n) := by
      intro v c hcm
      have := hc c hcm
      rw [List.map_append]
      simpa using this
    rw [List.map_cons, prodL_cons, List.filter_flatMap]
    show x.vals.reverse.flatMap _ = _
    congr 1
    funext v
    rw [comps_prod cs xs (asg ++ [(x.n, v)]) (nd' v) (hc' v)]
    -- a full assignment
    have key : ∀ full ∈ prodL (xs.map toLV) [asg ++ [(x.n, v)]], ((cs.filter (onSome (x :: xs))).all (sat full)) = (okAt cs asg x v && (cs.filter (onSome xs)).all (sat full)) := by
      intro full hf
      obtain ⟨ext, e1, e2⟩ := prodL_pre _ _ _ hf
      have hdis : ∀ c ∈ cs, onSome xs c = false → sat full c = chk c.m (valueAt (asg ++ [(x.n, v)]) c.n1) (valueAt (asg ++ [(x.n, v)]) c.n2) := by
        intro c hcm ho
        have h1 := hc' v c hcm
        have hn : ∀ n, (n = c.n1 ∨ n = c.n2) → n ∉ xs.map (·.n) := by
          intro n hn hm
          obtain ⟨y, hy, rfl⟩ := List.mem_map.mp hm
          unfold onSome at ho
          rw [List.any_eq_false] at ho
          apply ho y hy
          unfold touches
          rcases hn with h | h
          · rw [h]; simp
          · rw [h]; simp
        have g1 : c.n1 ∈ (asg ++ [(x.n, v)]).map (·.1) := by
          rcases List.mem_append.mp h1.1 with h | h
          · exact h
          · exact absurd h (hn _ (.inl rfl))
        have g2 : c.n2 ∈ (asg ++ [(x.n, v)]).map (·.1) := by
          rcases List.mem_append.mp h1.2 with h | h
          · exact h
          · exact absurd h (hn _ (.inr rfl))
        unfold sat
        rw [e1, valueAt_app g1, valueAt_app g2]
      have htri : ∀ c ∈ cs, onSome xs c = true → chk c.m (valueAt (asg ++ [(x.n, v)]) c.n1) (valueAt (asg ++ [(x.n, v)]) c.n2) = true := by
        intro c hcm ho
        unfold onSome at ho
        rw [List.any_eq_true] at ho
        obtain ⟨y, hy, ht⟩ := ho
        have hyn : y.n ∉ (asg ++ [(x.n, v)]).map (·.1) := by
          intro hm
          have := (List.nodup_append.mp (nd' v)).2.2 _ hm y.n (List.mem_map_of_mem (f := fun v : Var => v.n) hy)
          exact this rfl
        unfold touches at ht
        rw [Bool.or_eq_true, beq_iff_eq, beq_iff_eq] at ht
        rcases ht with h | h
        · rw [h, valueAt_none hyn]; exact chk_none1 _ _
        · rw [h, valueAt_none hyn]; exact chk_none2 _ _
      rw [Bool.eq_iff_iff, Bool.and_eq_true, List.all_eq_true, List.all_eq_true]
      unfold okAt
      rw [List.all_eq_true]
      constructor
      · intro hall
        refine ⟨fun c hcm => ?_, fun c hcm => ?_⟩
        · obtain ⟨h1, h2⟩ := List.mem_filter.mp hcm
          cases ho : onSome xs c with
          | true => exact htri c h1 ho
          | false =>
            rw [← hdis c h1 ho]
            exact hall c (List.mem_filter.mpr ⟨h1, by unfold onSome; rw [List.any_cons, h2]; rfl⟩)
        · obtain ⟨h1, h2⟩ := List.mem_filter.mp hcm
          refine hall c (List.mem_filter.mpr ⟨h1, ?_⟩)
          unfold onSome at h2 ⊢
          rw [List.any_cons, h2, Bool.or_true]
      · rintro ⟨ha, hb⟩ c hcm
        obtain ⟨h1, h2⟩ := List.mem_filter.mp hcm
        cases ho : onSome xs c with
        | true => exact hb c (List.mem_filter.mpr ⟨h1, ho⟩)
        | false =>
          rw [hdis c h1 ho]
          refine ha c (List.mem_filter.mpr ⟨h1, ?_⟩)
          unfold onSome at h2 ho
          rw [List.any_cons, ho, Bool.or_false] at h2
          exact h2
    have e := filter_congr' key
    rw [show (toLV x).n = x.n from rfl]
    refine Eq.trans ?_ e.symm
    cases okAt cs asg x v with
    | true => simp
    | false => simp
theorem keys_to (vs : List Var) (cs : List Con) : keysL (vs.map toLV) (cs.map toLR) = keysOf vs cs := by
  unfold keysL keysOf
  rw [List.map_map]
  refine List.map_congr_left fun v _ => ?_
  show (⟨-((((cs.map toLR).filter (lt2 v.n)).length : Nat) : Int), _, _, 0, 0, 0⟩ : Key) = _
  rw [List.filter_map, List.length_map]
  rfl
theorem ord_to (vs : List Var) (cs : List Con) : ordL (vs.map toLV) (cs.map toLR) = (ordV vs cs).map toLV := by
  unfold ordL ordV
  rw [keys_to, List.map_filterMap]
  congr 1
  funext i
  rw [List.getElem?_map]
theorem sols_due {vs : List Var} {cs : List Con} (nd : (vs.map (·.n)).Nodup) (h3 : vs.length ≤ 3) (hc : ∀ c ∈ cs, c.n1 ∈ vs.map (·.n) ∧ c.n2 ∈ vs.map (·.n)) : solsOf vs cs = dueL (vs.map toLV) (cs.map toLR) := by
  unfold solsOf dueL
  rw [ord_to]
  have hp := ordV_perm (cs := cs) h3
  cases hv : vs.isEmpty with
  | true =>
    have e : vs = [] := List.isEmpty_iff.mp hv
    subst e
    have e2 : ordV [] cs = [] := List.Perm.eq_nil hp
    rw [e2]
    rfl
  | false =>
    have hne : (ordV vs cs).isEmpty = false := by
      cases h0 : ordV vs cs with
      | nil =>
        rw [h0] at hp
        have := List.Perm.nil_eq hp
        rw [← this] at hv
        cases hv
      | cons => rfl
    have hpn := (hp.map (·.n))
    rw [if_neg (by decide), comps_prod cs (ordV vs cs) [] (by simpa using hpn.nodup_iff.mpr nd) (fun c hcm => ⟨by simpa using hpn.mem_iff.mpr (hc c hcm).1, by simpa using hpn.mem_iff.mpr (hc c hcm).2⟩)]
    have hne2 : ((ordV vs cs).map toLV).isEmpty = false := by
      cases h0 : ordV vs cs with
      | nil => rw [h0] at hne; cases hne
      | cons => rfl
    rw [hne2]
    refine filter_congr' fun full _ => ?_
    have e : cs.filter (onSome (ordV vs cs)) = cs := by
      rw [List.filter_eq_self]
      intro c hcm
      unfold onSome
      rw [List.any_eq_true]
      obtain ⟨v, hv, e⟩ := List.mem_map.mp (hpn.mem_iff.mpr (hc c hcm).1)
      exact ⟨v, hv, by unfold touches; rw [e]; simp⟩
    rw [e]
    unfold fitsL
    rw [List.all_map]
    rfl
/-! ## only what the values tell counts -/
def absL (ls : List LV) : List (Str × List Int) := ls.map fun v => (v.n, v.iv.map toI)
def absR (rs : List LR) : List (Str × Str × Int) := rs.map fun r => (r.n1, r.n2, r.m)
def stepI (due : List (List (Str × Int))) (v : Str × List Int) : List (List (Str × Int)) := due.flatMap fun one => v.2.reverse.map fun x => one ++ [(v.1, x)]
def prodI (vs : List (Str × List Int)) (due : List (List (Str × Int))) : List (List (Str × Int)) := vs.foldl stepI due
def atI (one : List (Str × Int)) (n : Str) : Option Int := (one.find? fun p => decide (p.1 = n)).map (·.2)
def chkI (m : Int) : Option Int → Option Int → Bool
  | some a, some b => yes m a b
  | _, _ => true
def fitsI (rs : List (Str × Str × Int)) (one : List (Str × Int)) : Bool := rs.all fun r => chkI r.2.2 (atI one r.1) (atI one r.2.1)
def keysI (vs : List (Str × List Int)) (rs : List (Str × Str × Int)) : List Key := vs.map fun v => ⟨-(((rs.filter fun r => r.1 == v.1 || r.2.1 == v.1).length : Nat) : Int), (v.2.length : Nat), v.1, 0, 0, 0⟩
def ordI (vs : List (Str × List Int)) (rs : List (Str × Str × Int)) : List (Str × List Int) := (ordK (keysI vs rs)).filterMap (vs[·]?)
def dueI (vs : List (Str × List Int)) (rs : List (Str × Str × Int)) : List (List (Str × Int)) := (prodI (ordI vs rs) (if (ordI vs rs).isEmpty then [] else [[]])).filter (fitsI rs)
theorem keys_abs (ls : List LV) (rs : List LR) : keysI (absL ls) (absR rs) = keysL ls rs := by
  unfold keysI absL absR keysL
  rw [List.map_map]
  refine List.map_congr_left fun v _ => ?_
  show (⟨_, _, _, 0, 0, 0⟩ : Key) = _
  rw [List.filter_map, List.length_map]
  dsimp only
  rw [List.length_map]
  rfl
theorem ord_abs (ls : List LV) (rs : List LR) : ordI (absL ls) (absR rs) = absL (ordL ls rs) := by
  unfold ordI ordL
  rw [keys_abs]
  unfold absL
  rw [List.map_filterMap]
  congr 1
  funext i
  rw [List.getElem?_map]
theorem step_abs (due : List (List (Str × Value))) (v : LV) : (stepL due v).map cont = stepI (due.map cont) (v.n, v.iv.map toI) := by
  unfold stepL stepI
  rw [List.map_flatMap, List.flatMap_map]
  congr 1
  funext one
  rw [List.map_map, ← List.map_reverse, List.map_map]
  refine List.map_congr_left fun x _ => ?_
  simp [cont]
theorem prod_abs : ∀ (ls : List LV) (due : List (List (Str × Value))), (prodL ls due).map cont = prodI (absL ls) (due.map cont)
  | [], _ => rfl
  | v :: ls, due => by
    show (prodL ls (stepL due v)).map cont = prodI (absL ls) (stepI (due.map cont) (v.n, v.iv.map toI))
    rw [prod_abs ls, step_abs]
theorem at_abs {one : List (Str × Value)} (n : Str) : atI (cont one) n = (valueAt one n).map toI := by
  unfold atI cont valueAt
  rw [List.find?_map]
  cases h : one.find? (fun kv => decide (kv.1 = n)) with
  | none =>
    have : one.find? ((fun p : Str × Int => decide (p.1 = n)) ∘ fun p : Str × Value => (p.1, toI p.2)) = none := h
    rw [this]; rfl
  | some p =>
    have : one.find? ((fun p : Str × Int => decide (p.1 = n)) ∘ fun p : Str × Value => (p.1, toI p.2)) = some p := h
    rw [this]; rfl
theorem fits_abs {rs : List LR} {one : List (Str × Value)} (ia : AllInt one) : fitsI (absR rs) (cont one) = fitsL rs one := by
  unfold fitsI fitsL absR
  rw [List.all_map]
  congr 1
  funext r
  show chkI r.m (atI (cont one) r.n1) (atI (cont one) r.n2) = _
  rw [at_abs, at_abs]
  have int : ∀ n, valueAt one n = none ∨ ∃ i t, valueAt one n = some (.int i t) := by
    intro n
    cases h : valueAt one n with
    | none => exact .inl rfl
    | some v =>
      obtain ⟨p, hp, rfl⟩ := mem_valueAt h
      obtain ⟨i, t, e⟩ := ia p hp
      exact .inr ⟨i, t, by rw [e]⟩
  rcases int r.n1 with h1 | ⟨i, t, h1⟩ <;> rcases int r.n2 with h2 | ⟨i', t', h2⟩ <;> rw [h1, h2] <;> rfl
def IntsV (ls : List LV) : Prop := ∀ v ∈ ls, ∀ x ∈ v.iv, ∃ i t, x = Value.int i t ∧ Sm i
theorem due_allint {ls : List LV} {rs : List LR} (hv : IntsV ls) (h3 : ls.length ≤ 3) : ∀ one ∈ dueL ls rs, AllInt one := by
  intro one ho p hp
  obtain ⟨h1, _⟩ := List.mem_filter.mp ho
  obtain ⟨i, t, e, _⟩ := prodL_vals (vs := ordL ls rs) (fun v hm => hv v ((ordL_perm h3).mem_iff.mp hm)) (fun one ho => by
    split at ho
    · cases ho
    · simp only [List.mem_singleton] at ho
      subst ho; intro p hp; cases hp) one h1 p hp
  exact ⟨i, t, e⟩
theorem due_abs {ls : List LV} {rs : List LR} (hv : IntsV ls) (h3 : ls.length ≤ 3) : (dueL ls rs).map cont = dueI (absL ls) (absR rs) := by
  unfold dueI
  rw [ord_abs]
  have he : (absL (ordL ls rs)).isEmpty = (ordL ls rs).isEmpty := by
    unfold absL
    cases ordL ls rs <;> rfl
  rw [he]
  have hs : ((if (ordL ls rs).isEmpty then ([] : List (List (Str × Value))) else [[]])).map cont = (if (ordL ls rs).isEmpty then ([] : List (List (Str × Int))) else [[]]) := by
    split <;> rfl
  rw [← hs, ← prod_abs, List.filter_map]
  unfold dueL
  congr 1
  refine filter_congr' fun one ho => ?_
  have ia : AllInt one := by
    intro p hp
    obtain ⟨i, t, e, _⟩ := prodL_vals (vs := ordL ls rs) (fun v hm => hv v ((ordL_perm h3).mem_iff.mp hm)) (fun one ho => by
      split at ho
      · cases ho
      · simp only [List.mem_singleton] at ho
        subst ho; intro p hp; cases hp) one ho p hp
    exact ⟨i, t, e⟩
  exact (fits_abs ia).symm
theorem sols_law {vs : List Var} {cs : List Con} {ls : List LV} {rs : List LR} (nd : (vs.map (·.n)).Nodup) (h3 : vs.length ≤ 3) (hc : ∀ c ∈ cs, c.n1 ∈ vs.map (·.n) ∧ c.n2 ∈ vs.map (·.n)) (hv : ∀ v ∈ vs, ∀ x ∈ v.vals, ∃ i t, x = Value.int i t ∧ Sm i) (hl : IntsV ls) (hl3 : ∀ v ∈ ls, v.iv.length ≤ 3)
    (e1 : vs.map (fun v => (v.n, v.vals.map toI)) = absL ls) (e2 : cs.map (fun c => (c.n1, c.n2, c.m)) = absR rs) :
    (solsOf vs cs).map cont = (dueL ls rs).map cont ∧ (∀ one ∈ solsOf vs cs, AllInt one) ∧ (solsOf vs cs).length ≤ 100000 ∧ (∀ one ∈ dueL ls rs, AllInt one) := by
  have hlen : ls.length = vs.length := by
    have := congrArg List.length e1
    simpa [absL] using this.symm
  have hiv : IntsV (vs.map toLV) := by
    intro v hm x hx
    obtain ⟨v', hv', rfl⟩ := List.mem_map.mp hm
    exact hv v' hv' x hx
  have a1 : absL (vs.map toLV) = absL ls := by
    rw [← e1]
    unfold absL
    rw [List.map_map]
    rfl
  have a2 : absR (cs.map toLR) = absR rs := by
    rw [← e2]
    unfold absR
    rw [List.map_map]
    rfl
  have hs := sols_due (cs := cs) nd h3 hc
  have hsl : (solsOf vs cs).map cont = (dueL ls rs).map cont := by
    rw [hs, due_abs hiv (by simpa using h3), a1, a2, due_abs hl (by omega)]
  refine ⟨hsl, ?_, ?_, due_allint hl (by omega)⟩
  · rw [hs]
    exact due_allint hiv (by simpa using h3)
  · have h1 := congrArg List.length hsl
    rw [List.length_map, List.length_map] at h1
    have hp := ordL_perm (rs := rs) (vs := ls) (by omega)
    have h2 := prodL_len (vs := ordL ls rs) (due := if (ordL ls rs).isEmpty then [] else [[]]) (fun v hv => hl3 v (hp.mem_iff.mp hv)) (by split <;> simp) (by rw [hp.length_eq]; omega)
    have h3' : (dueL ls rs).length ≤ _ := List.length_filter_le (fitsL rs) _
    omega
end
end Mine
end
section
open PySem PySem.W PySem.Calls PyProof.Rows PySem.W.X
set_option Elab.async false
set_option maxRecDepth 100000
set_option maxHeartbeats 8000000
set_option linter.unusedVariables false
namespace Mine
local macro_rules | `(tactic| walk_at "mem") => `(tactic| first | assumption | exact List.Mem.head _ | (refine' List.Mem.tail _ ?_; walk_at "mem") | (refine' List.mem_append_right _ ?_; walk_at "mem") | (refine' List.mem_append_left _ ?_; walk_at "mem") | exact Zip.at' (by assumption) | exact Zip.keep (by assumption) (by walk_at "mem") (by intro e; cases e))
local macro_rules | `(tactic| walk_at "zip") => `(tactic| first | assumption | exact Zip.head | exact Zip.tail (by walk_at "zip") | exact Zip.app (by walk_at "zip") | exact Zip.again (by assumption))
local macro_rules | `(tactic| walk_at "kv") => `(tactic| first | with_reducible_and_instances exact List.Mem.head _ | (refine' List.Mem.tail _ ?_; walk_at "kv") | assumption)
local macro_rules | `(tactic| walk_at "put") => `(tactic| first | with_reducible exact Put.head | exact Put.tail (by walk_at "put"))
local macro_rules | `(tactic| walk_at "putd") => `(tactic| first | with_reducible exact PutD.head | with_reducible exact PutD.nil | exact PutD.tail (by decide) (by walk_at "putd"))
local macro_rules | `(tactic| walk_at "nm") => `(tactic| first
  | (refine e_local (by assumption) (by walk_at "mem") (by walk_at "kv") ?_)
  | (refine e_cell (by assumption) (by rfl) (by walk_at "mem") ?_)
  | (refine e_free (by assumption) (by rfl) (by walk_at "mem") ?_))
local macro_rules | `(tactic| walk_at "gl") => `(tactic| refine e_global (by assumption) (by assumption) (by first | with_reducible exact gl_Problem _ | with_reducible exact gl_BacktrackingSolver _ | with_reducible exact gl_Domain _ | with_reducible exact gl_Constraint _ | with_reducible exact gl_FunctionConstraint _ | with_reducible exact gl_law_yes _ | with_reducible exact gl_law_rule _ | with_reducible exact gl_law_due _) ?_)
local macro_rules | `(tactic| walk_at "bi") => `(tactic| refine e_builtin (by assumption) (by assumption) (by first | with_reducible exact bn_isinstance _ | with_reducible exact bn_callable _ | with_reducible exact bn_list _ | with_reducible exact bn_tuple _ | with_reducible exact bn_len _ | with_reducible exact bn_range _ | with_reducible exact bn_next _ | with_reducible exact bn_dict _ | with_reducible exact bn_sorted _ | with_reducible exact bn_iter _) (by first | with_reducible exact bb_isinstance | with_reducible exact bb_callable | with_reducible exact bb_list | with_reducible exact bb_tuple | with_reducible exact bb_len | with_reducible exact bb_range | with_reducible exact bb_next | with_reducible exact bb_dict | with_reducible exact bb_sorted | with_reducible exact bb_iter) ?_)
local macro_rules | `(tactic| walk_at "ns") => `(tactic| (show (_ : List Str).Nodup; dsimp only [List.map, List.nil_append, List.cons_append, List.append_nil]; decide +kernel))
local macro_rules | `(tactic| walk_at "lt") => `(tactic| (show _ < 1000; omega))
local macro_rules | `(tactic| x_close) => `(tactic| exact xq_of (by first | assumption | exact Mem.start _) (by first | rfl | assumption))
local macro_rules | `(tactic| walk_at "ga") => `(tactic| refine i_get (by assumption) (by assumption) (by walk_at "mem") (by exact rfl) (by walk_at "mem") (by first | exact cls110 _ | exact cls186 _ | exact cls336 _) (by kernel_rfl) (by walk_at "kv") (by exact rfl) ?_)
local macro_rules | `(tactic| walk_at "sa") => `(tactic| refine i_set (by assumption) (by assumption) (by walk_at "mem") (by walk_at "zip") (by first | exact cls110 _ | exact cls186 _ | exact cls336 _) (by kernel_rfl) (by kernel_rfl) (by walk_at "putd") (Nat.le_of_ble_eq_true rfl) ?_)
local macro_rules | `(tactic| walk_at "st") => `(tactic| refine e_store (by assumption) (by walk_at "zip") (by walk_at "put") ?_)
local macro_rules | `(tactic| walk_at "nmc") => `(tactic| first
  | (refine e_local (by assumption) (List.Mem.head _) (by first | exact List.Mem.head _ | exact List.Mem.tail _ (List.Mem.head _) | exact List.Mem.tail _ (List.Mem.tail _ (List.Mem.head _))) ?_)
  | (refine e_cell (by assumption) (by rfl) (by walk_at "mem") ?_)
  | (refine e_free (by assumption) (by rfl) (by walk_at "mem") ?_))
local macro_rules | `(tactic| walk_at "subl") => `(tactic| first | exact List.Sublist.refl _ | (refine' List.Sublist.cons _ ?_; walk_at "subl"))
section
variable {w : World} {g : Heap} {os : OsState} {G : Array GenState} {l l' : Led} {s : Shared} {a : Addr} {c c' : Cell} {f : Cell → Led} {A : Around} {E : Value → Shared → Prop}
/-! ## what the law itself needs -/
abbrev rangeO (n : Int) (t u v : Tok) : Obj := { cls := .type "range", data := .fields #[.int 0 t, .int n u, .int 1 v] }
abbrev rngIt (i left : Int) : Obj := { cls := .type "range_iterator", data := .fields #[rawInt i, rawInt left, rawInt 1] }
theorem rng_call {n : Int} {t : Tok} {Q : Value → Shared → Prop} {E : Value → Shared → Prop} (H : Ok w g os G l s) (h : ∀ r t u v s', Ok w g os G ((r, .ob (rangeO n t u v)) :: l) s' → Q (.ref r) s') :
    wpAny (model P0 w) A (call (.type "range") [.int n t]) Q E s :=
  call_range_1 (h _ s.toks t (s.toks + 1) _ (H.push (t := s.toks + 1 + 1) (Heap.get?_push_size _ rfl)))
theorem rng_size (n : Nat) : Builtin.Range.rangeSize 0 n 1 = n := by
  unfold Builtin.Range.rangeSize
  rw [if_pos (by decide)]
  split
  · omega
  · omega
theorem rng_small {n : Nat} (h : n ≤ 3) : Builtin.Range.small 0 n 1 = true := by
  have : n = 0 ∨ n = 1 ∨ n = 2 ∨ n = 3 := by omega
  rcases this with rfl | rfl | rfl | rfl <;> decide +kernel
theorem Iter.range (w : World) (R : Addr) (n : Nat) (t u v : Tok) (hn : n ≤ 3) : Iter w R [(R, .ob (rangeO n t u v))] n (fun i x => ∃ t, x = .int (i : Nat) t) (fun i => .ob (rngIt (i : Nat) ((n : Int) - (i : Nat)))) where
  start {A E g os G l s Q} H hneed h := by
    have hr : IsRange s.heap R 0 n 1 t u v := H.get (hneed _ (.head _))
    refine wpAny_pyIter_range hr (rng_small hn) ?_
    rw [rng_size]
    exact h _ _ (H.push (t := s.toks) (Heap.get?_push_size _ rfl))
  again H q := wpAny_pyIter_rangeiter (H.get (.head _)) q
  next {A E g os G l s I i Q} H hneed hi h := by
    have hit : IsRangeIter s.heap I (i : Nat) ((n : Int) - (i : Nat)) 1 := H.get (.head _)
    refine wpAny_pyNext_range_item hit (by omega) (fun h' hit hs => ?_)
    refine h _ _ ⟨s.toks, rfl⟩ (H.set (t := s.toks + 1) (c' := .ob (rngIt ((i + 1 : Nat) : Int) ((n : Int) - ((i + 1 : Nat) : Int)))) .head hs ?_)
    have e1 : ((i + 1 : Nat) : Int) = (i : Int) + 1 := by omega
    have e2 : (n : Int) - ((i + 1 : Nat) : Int) = (n : Int) - (i : Nat) - 1 := by omega
    rw [e2, e1]
    exact hit
  stop {A E g os G l s I Q} hh H hneed h := by
    have hit : IsRangeIter s.heap I (n : Nat) ((n : Int) - (n : Nat)) 1 := H.get (.head _)
    exact wpAny_pyNext_range_end hh hit (by omega) (fun h' hs => h _ (H.drop (t := s.toks) hs))
  owned {A E g os G l s I i target v Q} H q := by
    have ho := H.get (.head _)
    unfold letOwnedTupleGo
    cases target <;> first
      | exact wpAny_pure q
      | (cases v <;> first
          | exact wpAny_pure q
          | (refine wpAny_bind (wpAny_load ho ?_)
             exact wpAny_pure q))
def nm3 : List Str := [⟨#[98]⟩, ⟨#[99]⟩, ⟨#[97]⟩]
theorem nm3_nd : nm3.Nodup := by decide +kernel
theorem str_item {k : Nat} {t u : Tok} {Q : Value → Shared → Prop} {E : Value → Shared → Prop} (hk : k < 3) (H : Ok w g os G l s) (h : ∀ t s', Ok w g os G l s' → Q (.str (nm3.getD k default) t) s') :
    wpAny (model P0 w) A (getItem (.str "bca" t) (.int (k : Nat) u)) Q E s := by
  have : k = 0 ∨ k = 1 ∨ k = 2 := by omega
  rcases this with rfl | rfl | rfl
  · exact P.getItem_str (c := 98) (by decide +kernel) (by decide +kernel) (h _ _ (H.toks _))
  · exact P.getItem_str (c := 99) (by decide +kernel) (by decide +kernel) (h _ _ (H.toks _))
  · exact P.getItem_str (c := 97) (by decide +kernel) (by decide +kernel) (h _ _ (H.toks _))
/-! ## small ints -/
theorem pow_room (a b : Nat) (h : a + 2 ≤ b) : 2 ^ a + 2 ≤ 2 ^ b := by
  have h1 : 1 ≤ 2 ^ a := Nat.one_le_two_pow
  have h2 : 2 ^ (a + 2) ≤ 2 ^ b := Nat.pow_le_pow_right (by decide) h
  have h3 : 2 ^ (a + 2) = 4 * 2 ^ a := by rw [Nat.pow_add]; omega
  omega
def Xs (k : Nat) (x : Int) : Prop := x.natAbs < 2 ^ k
theorem sm_of {k : Nat} {x : Int} (h : Xs k x) (hk : k ≤ 4194304) : Sm x := by
  unfold Sm Builtin.Int.intBits
  split
  · exact Nat.zero_le _
  · rename_i h0
    have hne : x.natAbs ≠ 0 := by
      intro e
      apply h0
      have : x = 0 := by omega
      rw [this]
      rfl
    have := (Nat.log2_lt hne).mpr h
    omega
theorem fdiv_abs (x : Int) (b : Nat) (hb : 0 < b) : (x.fdiv b).natAbs ≤ x.natAbs := by
  have e : x.fdiv b = x / (b : Int) := Int.fdiv_eq_ediv_of_nonneg x (by omega)
  rw [e]
  exact Int.natAbs_ediv_le_natAbs x b
theorem xs_div {k : Nat} {x : Int} (h : Xs k x) (b : Nat) (hb : 0 < b) : Xs k (x.fdiv b) := Nat.lt_of_le_of_lt (fdiv_abs x b hb) h
theorem xs_add {k : Nat} {x : Int} (h : Xs k x) (j : Nat) (hj : j ≤ 2) : Xs (k + 2) (x + j) := by
  unfold Xs at h ⊢
  have := pow_room k (k + 2) (Nat.le_refl _)
  omega
/-! ## a for loop over anything -/
theorem x_forI {d u : Nat} {env : Env} {nm : Str} {pp : Pos} {iter : Expr} {body orelse : List Stmt} {pos : Pos} {Q : Flow → Shared → Prop} (I : Nat → Shared → Prop)
    (h : wpAny (model P0 w) (AR d u) (eval iter env) (fun xv s₁ => wpAny (model P0 w) (AR d u) (pyIter xv) (fun it s₂ => (∃ n, I n s₂) ∧ ∀ n s, I n s → wpAny (model P0 w) (AR d u) (pyNext it) (fun r s₃ => match r with
      | none => wpAny (model P0 w) (AR d u) (execs orelse env) Q NoE s₃
      | some v => wpAny (model P0 w) (AR d u) (assign (.Name nm pp) env v) (fun _ s₄ => wpAny (model P0 w) (AR d u) (execs body env) (fun f s₅ => match f with
        | .next | .cont => ∃ m, m < n ∧ I m s₅
        | .brk => Q .next s₅
        | .ret v => Q (.ret v) s₅) NoE s₄) NoE s₃) NoE s) NoE s₁) NoE s)
    (hs : ∀ x, foldedSetIterable iter env x = pure x := by intro _; rfl) : wpAny (model P0 w) (AR d u) (exec (.For (.Name nm pp) iter body orelse pos) env) Q NoE s := by
  refine wpAny_For (wpAny_mono h (fun xv s₁ q => wpAny_mono q (fun it s₂ q => ?_) fun _ _ x => x.elim) fun _ _ x => x.elim) hs
  obtain ⟨⟨n, hn⟩, turn⟩ := q
  refine codeAny_forLoop_any I ?_ n hn
  intro k s' hI
  refine wpAny_mono (turn k s' hI) (fun r s₃ q => ?_) fun _ _ x => x.elim
  cases r with
  | none => exact wpAny_mono q (fun f s₄ q => q) fun _ _ x => x.elim
  | some v =>
    refine wpAny_pure (a := ()) ?_
    refine wpAny_mono q (fun _ s₄ q => wpAny_mono q (fun f s₅ q => ?_) fun _ _ x => x.elim) fun _ _ x => x.elim
    cases f <;> exact q
end
end Mine
end
section
open PySem PySem.W PySem.Calls PyProof.Rows PySem.W.X
set_option Elab.async false
set_option maxRecDepth 100000
set_option maxHeartbeats 8000000
set_option linter.unusedVariables false
namespace Mine
local macro_rules | `(tactic| walk_at "mem") => `(tactic| first | assumption | exact List.Mem.head _ | (refine' List.Mem.tail _ ?_; walk_at "mem") | (refine' List.mem_append_right _ ?_; walk_at "mem") | (refine' List.mem_append_left _ ?_; walk_at "mem") | exact Zip.at' (by assumption) | exact Zip.keep (by assumption) (by walk_at "mem") (by intro e; cases e))
local macro_rules | `(tactic| walk_at "zip") => `(tactic| first | assumption | exact Zip.head | exact Zip.tail (by walk_at "zip") | exact Zip.app (by walk_at "zip") | exact Zip.again (by assumption))
local macro_rules | `(tactic| walk_at "kv") => `(tactic| first | with_reducible_and_instances exact List.Mem.head _ | (refine' List.Mem.tail _ ?_; walk_at "kv") | assumption)
local macro_rules | `(tactic| walk_at "put") => `(tactic| first | with_reducible exact Put.head | exact Put.tail (by walk_at "put"))
local macro_rules | `(tactic| walk_at "putd") => `(tactic| first | with_reducible exact PutD.head | with_reducible exact PutD.nil | exact PutD.tail (by decide) (by walk_at "putd"))
local macro_rules | `(tactic| walk_at "nm") => `(tactic| first
  | (refine e_local (by assumption) (by walk_at "mem") (by walk_at "kv") ?_)
  | (refine e_cell (by assumption) (by rfl) (by walk_at "mem") ?_)
  | (refine e_free (by assumption) (by rfl) (by walk_at "mem") ?_))
local macro_rules | `(tactic| walk_at "gl") => `(tactic| refine e_global (by assumption) (by assumption) (by first | with_reducible exact gl_Problem _ | with_reducible exact gl_BacktrackingSolver _ | with_reducible exact gl_Domain _ | with_reducible exact gl_Constraint _ | with_reducible exact gl_FunctionConstraint _ | with_reducible exact gl_law_yes _ | with_reducible exact gl_law_rule _ | with_reducible exact gl_law_due _) ?_)
local macro_rules | `(tactic| walk_at "bi") => `(tactic| refine e_builtin (by assumption) (by assumption) (by first | with_reducible exact bn_isinstance _ | with_reducible exact bn_callable _ | with_reducible exact bn_list _ | with_reducible exact bn_tuple _ | with_reducible exact bn_len _ | with_reducible exact bn_range _ | with_reducible exact bn_next _ | with_reducible exact bn_dict _ | with_reducible exact bn_sorted _ | with_reducible exact bn_iter _) (by first | with_reducible exact bb_isinstance | with_reducible exact bb_callable | with_reducible exact bb_list | with_reducible exact bb_tuple | with_reducible exact bb_len | with_reducible exact bb_range | with_reducible exact bb_next | with_reducible exact bb_dict | with_reducible exact bb_sorted | with_reducible exact bb_iter) ?_)
local macro_rules | `(tactic| walk_at "ns") => `(tactic| (show (_ : List Str).Nodup; dsimp only [List.map, List.nil_append, List.cons_append, List.append_nil]; decide +kernel))
local macro_rules | `(tactic| walk_at "lt") => `(tactic| (show _ < 1000; omega))
local macro_rules | `(tactic| x_close) => `(tactic| exact xq_of (by first | assumption | exact Mem.start _) (by first | rfl | assumption))
local macro_rules | `(tactic| walk_at "ga") => `(tactic| refine i_get (by assumption) (by assumption) (by walk_at "mem") (by exact rfl) (by walk_at "mem") (by first | exact cls110 _ | exact cls186 _ | exact cls336 _) (by kernel_rfl) (by walk_at "kv") (by exact rfl) ?_)
local macro_rules | `(tactic| walk_at "sa") => `(tactic| refine i_set (by assumption) (by assumption) (by walk_at "mem") (by walk_at "zip") (by first | exact cls110 _ | exact cls186 _ | exact cls336 _) (by kernel_rfl) (by kernel_rfl) (by walk_at "putd") (Nat.le_of_ble_eq_true rfl) ?_)
local macro_rules | `(tactic| walk_at "st") => `(tactic| refine e_store (by assumption) (by walk_at "zip") (by walk_at "put") ?_)
local macro_rules | `(tactic| walk_at "nmc") => `(tactic| first
  | (refine e_local (by assumption) (List.Mem.head _) (by first | exact List.Mem.head _ | exact List.Mem.tail _ (List.Mem.head _) | exact List.Mem.tail _ (List.Mem.tail _ (List.Mem.head _))) ?_)
  | (refine e_cell (by assumption) (by rfl) (by walk_at "mem") ?_)
  | (refine e_free (by assumption) (by rfl) (by walk_at "mem") ?_))
local macro_rules | `(tactic| walk_at "subl") => `(tactic| first | exact List.Sublist.refl _ | (refine' List.Sublist.cons _ ?_; walk_at "subl"))
section
variable {w : World} {g : Heap} {os : OsState} {G : Array GenState} {l l' : Led} {s : Shared} {a : Addr} {c c' : Cell} {f : Cell → Led} {A : Around} {E : Value → Shared → Prop}
/-! ## the law's own text -/
def lawRec : Option (List Stmt × Scope) := match PySem.Challenge.pw_bm0022_01.main.body.getLast? with
  | some (.FunctionDef _ _ body _ _ _ sc _ _ _) => some (body, sc)
  | _ => none
def lawBody : List Stmt := match lawRec with | some (b, _) => b | none => []
def lawScope : Scope := match lawRec with | some (_, sc) => sc | none => default
def loopBody : List Stmt := match lawBody with | [_, _, _, _, .For _ _ b _ _, _, _] => b | _ => []
def chainO : Nat → List Stmt → List Stmt
  | 0, s => s
  | k + 1, [.If _ _ o _] => chainO k o
  | _, _ => []
def bOf (k : Nat) : List Stmt := match chainO k (loopBody.drop 3) with | [.If _ b _ _] => b | _ => []
abbrev lawEnv (L uc fa : Addr) (code : Value) : Env := newEnv lawScope L mainGlobals [("u", uc)] ((Str.ofString "law") ++ ".<locals>.") (some fa) code none builtinsNs
/-! ## what the law holds at the head of a turn -/
structure LC where
  (L uc x dx Sv dS C V : Addr) (sc : Value)
structure Bg where
  (t told due : Addr) (k : Wk) (dl tl : List (Addr × List (Str × Value)))
structure LS where
  (vs : List Var) (cs : List Con) (Ld Rd Bd : Addr) (ls : List LV) (rs : List LR) (bs : List Bg) (P : Led) (p4 p7 : Array Value)
structure F8 where
  (x deed names one other walk due told : Option Value)
def toldLed (bs : List Bg) : Led := bs.map fun b => (b.told, Cell.lst (dRefs b.tl))
def ownLed (bs : List Bg) : Led := bs.flatMap fun b => b.k.own
def lawLed (c : LC) (S : LS) (uo : Option Value) (f : F8) : Led :=
  (c.L, .ns [("script", some c.sc), ("problem", some (.ref c.x)), ("lists", some (.ref S.Ld)), ("rules", some (.ref S.Rd)), ("begun", some (.ref S.Bd)), ("x", f.x), ("deed", f.deed), ("names", f.names), ("one", f.one), ("other", f.other), ("walk", f.walk), ("due", f.due), ("told", f.told)]) ::
  (c.uc, .cl uo) :: (c.C, .lst (S.cs.map fun c => .ref c.t)) :: (c.V, .sd (dkvs S.vs)) :: (S.Ld, .sd (lkvs S.ls)) :: (S.Rd, .lst (S.rs.map fun r => .ref r.t)) :: (S.Bd, .lst (S.bs.map fun b => .ref b.t)) :: (354, .ob (tabObj S.p4)) :: (347, .ob (tabObj S.p7)) :: (toldLed S.bs ++ (ownLed S.bs ++ S.P))
structure BgOk (w : World) (g : Heap) (P : Led) (G : Array GenState) (b : Bg) : Prop where
  t : (b.t, .tup [.ref b.k.a, .ref b.due, .ref b.told]) ∈ P
  due : (b.due, .lst (dRefs b.dl)) ∈ P
  dl : ∀ p ∈ dLed b.dl, p ∈ P
  tl : ∀ p ∈ dLed b.tl, p ∈ P
  need : ∀ p ∈ b.k.need, p ∈ P
  k : WkOk w g G b.k
  gi : ∀ j, b.k.gi = some j → j < G.size
  same : b.dl.map (fun x => cont x.2) = b.tl.map (fun x => cont x.2) ++ b.k.sols.map cont
  idl : ∀ x ∈ b.dl, AllInt x.2
  itl : ∀ x ∈ b.tl, AllInt x.2
  iso : ∀ x ∈ b.k.sols, AllInt x
  len : b.dl.length ≤ 27
  isl : ∀ x ∈ b.k.sols, x.length ≤ 1000
structure LOk (w : World) (g : Heap) (c : LC) (G : Array GenState) (S : LS) : Prop where
  pn : PNeed w g S.P c.x c.dx c.C c.V c.Sv c.dS S.vs S.cs
  ln : LNeed S.P S.ls S.rs
  e1 : S.vs.map (fun v => (v.n, v.vals.map toI)) = absL S.ls
  e2 : S.cs.map (fun c => (c.n1, c.n2, c.m)) = absR S.rs
  nm : S.ls.map (·.n) = nm3.take S.ls.length
  bg : ∀ b ∈ S.bs, BgOk w g S.P G b
  gd : S.bs.Pairwise fun a b => a.k.gi = none ∨ a.k.gi ≠ b.k.gi
  t4 : TabOk S.P 254 30 "_law_due.<locals>.<lambda>" S.p4
  t7 : TabOk S.P 252 11 "_law_rule.<locals>.<lambda>" S.p7
  bare : AllBare G
  bl : S.bs.length ≤ 4
/-- after a turn -/
def TurnPost (w : World) (g : Heap) (os : OsState) (c : LC) (S : LS) (I : Addr) (itc : Cell) (new : Prop) (s' : Shared) : Prop :=
  ∃ G' S' uo f, LOk w g c G' S' ∧ (∀ p ∈ S.P, p ∈ S'.P) ∧ (S.bs ≠ [] → S'.bs ≠ []) ∧ (new → S'.bs ≠ []) ∧ Ok w g os G' ((I, itc) :: lawLed c S' uo f) s'
theorem perm_in (new A B C P : Led) : (new ++ (A ++ (B ++ (C ++ P)))).Perm (A ++ (B ++ (C ++ (new ++ P)))) := by
  have e1 : (new ++ (A ++ (B ++ (C ++ P)))).Perm (A ++ (new ++ (B ++ (C ++ P)))) := by
    rw [← List.append_assoc new A, ← List.append_assoc A new]
    exact List.Perm.append_right _ List.perm_append_comm
  have e2 : (new ++ (B ++ (C ++ P))).Perm (B ++ (new ++ (C ++ P))) := by
    rw [← List.append_assoc new B, ← List.append_assoc B new]
    exact List.Perm.append_right _ List.perm_append_comm
  have e3 : (new ++ (C ++ P)).Perm (C ++ (new ++ P)) := by
    rw [← List.append_assoc new C, ← List.append_assoc C new]
    exact List.Perm.append_right _ List.perm_append_comm
  exact e1.trans (List.Perm.append_left A (e2.trans (List.Perm.append_left B e3)))
theorem BgOk.mono {P P' : Led} {G G' : Array GenState} {b : Bg} (h : BgOk w g P G b) (k : ∀ p ∈ P, p ∈ P') (e : GLe G G') : BgOk w g P' G' b where
  t := k _ h.t
  due := k _ h.due
  dl := fun p hp => k _ (h.dl p hp)
  tl := fun p hp => k _ (h.tl p hp)
  need := fun p hp => k _ (h.need p hp)
  k := h.k.le e
  gi := fun j hj => by
    have h1 := h.gi j hj
    have h2 := e.1 j G[j] (Array.getElem?_eq_getElem h1)
    exact GLe.lt h2
  same := h.same
  idl := h.idl
  itl := h.itl
  iso := h.iso
  len := h.len
  isl := h.isl
theorem PNeed.mono {P P' : Led} {x dx C V Sv dS : Addr} {vs : List Var} {cs : List Con} (h : PNeed w g P x dx C V Sv dS vs cs) (k : ∀ p ∈ P, p ∈ P') : PNeed w g P' x dx C V Sv dS vs cs where
  x := k _ h.x
  dx := k _ h.dx
  S := k _ h.S
  dS := k _ h.dS
  con := fun c hc => ⟨(h.con c hc).1.mono k, (h.con c hc).2⟩
  var := fun v hv => (h.var v hv).mono k
  nd := h.nd
  three := h.three
  few := h.few
theorem LNeed.mono {P P' : Led} {vs : List LV} {rs : List LR} (h : LNeed P vs rs) (k : ∀ p ∈ P, p ∈ P') : LNeed P' vs rs where
  var := fun v hv => ⟨k _ (h.var v hv).1, (h.var v hv).2⟩
  rul := fun r hr => ⟨k _ (h.rul r hr).1, (h.rul r hr).2⟩
  nd := h.nd
  three := h.three
  few := h.few
theorem TabOk.mono {P P' : Led} {a b : Nat} {q : Str} {ps : Array Value} (h : TabOk P a b q ps) (k : ∀ p ∈ P, p ∈ P') : TabOk P' a b q ps := by
  rcases h with h | ⟨c', oc, e, hc, ho⟩
  · exact .inl h
  · exact .inr ⟨c', oc, e, k _ hc, ho⟩
/-! ## [u + j for j in range(1 + u // 4 % 3)] -/
def uints (u : Int) : List Int := (List.range (1 + (u.fdiv 4).fmod 3).toNat).map fun j => u + (j : Nat)
theorem ulen (u : Int) : 1 ≤ (1 + (u.fdiv 4).fmod 3).toNat ∧ (1 + (u.fdiv 4).fmod 3).toNat ≤ 3 ∧ ((1 + (u.fdiv 4).fmod 3).toNat : Int) = 1 + (u.fdiv 4).fmod 3 := by
  have h1 := Int.fmod_nonneg_of_pos (u.fdiv 4) (show (0 : Int) < 3 by decide)
  have h2 := Int.fmod_lt_of_pos (u.fdiv 4) (show (0 : Int) < 3 by decide)
  omega
abbrev uScope : Scope := { kind := .function, names := [(".0", .local), ("j", .local), ("u", .free)], isGenerator := false, isCoroutine := false, more := [] }
theorem ucomp {d u' : Nat} {env : Env} {u : Int} {tu : Tok} {uc : Addr} {p1 p2 p3 p4 p5 p6 p7 p8 p9 p10 p11 p12 p13 p14 : Pos} {Q : Value → Shared → Prop} (B : Base w g) (H : Ok w g os G l s) (hu : Xs 1048576 u) (huc : (uc, .cl (some (.int u tu))) ∈ l)
    (hclos : closureFor uScope env = pure [(("u" : Str), uc)]) (hc : env.cells.lookup ("u" : Str) = some uc) (hk : env.scope.kind = .function) (hx : env.kindOf "u" = some .cell) (hb : 0 = env.builtins) (hrg : env.kindOf "range" = some .globalImplicit) (hgl : env.globals = mainGlobals) (hbi : env.builtins = builtinsNs)
    (hxc : ∀ C, (compEnvC uScope [(("u" : Str), uc)] C env).kindOf "u" = some .cell) (hlc : ∀ C, (compEnvC uScope [(("u" : Str), uc)] C env).kindOf "j" = some .local) (hkc : ∀ C, (compEnvC uScope [(("u" : Str), uc)] C env).scope.kind = .function) (hlo : ∀ C, (compEnvC uScope [(("u" : Str), uc)] C env).locals = C) (hcc : ∀ C, (compEnvC uScope [(("u" : Str), uc)] C env).cells.lookup ("u" : Str) = some uc)
    (h : ∀ D (vals : List Value) s', vals.map toI = uints u → (∀ x ∈ vals, ∃ i t, x = Value.int i t ∧ Sm i) → Ok w g os G ((D, .lst vals) :: l) s' → Q (.ref D) s') :
    wpAny (model P0 w) (AR d u') (eval (.ListComp (.BinOp (.Name "u" p1) .Add (.Name "j" p2) p3) [⟨.Name "j" p4, .Call (.Name "range" p5) [.BinOp (.Constant (.int 1) 0 p6) .Add (.BinOp (.BinOp (.Name "u" p7) .FloorDiv (.Constant (.int 4) 0 p8) p9) .Mod (.Constant (.int 3) 0 p10) p11) p12] [] p13, [], 0⟩] uScope p14) env) Q NoE s := by
  obtain ⟨n1, n3, ne⟩ := ulen u
  have hui : uints u = (List.range (1 + (u.fdiv 4).fmod 3).toNat).map fun j => u + (j : Nat) := rfl
  generalize hn : (1 + (u.fdiv 4).fmod 3).toNat = n at *
  refine x_listcomp (g := g) (os := os) (vars := ["j"]) hclos (by decide) rfl (by decide) (by decide) ?_ (by intro _; rfl) hb
  refine Call_ ?_
  refine e_builtin B H (bn_range _) bb_range ?_ (by decide) hgl hbi hk hrg
  refine PyProof.Rows.callWith_type1 (args_cons (wpAny_BinOp (e_int H (fun t1 s₁ H₁ => wpAny_BinOp (wpAny_BinOp ?_)))))
  refine e_cell H₁ hc huc ?_ hk hx
  refine e_int H₁ (fun t2 s₂ H₂ => e_div H₂ (by decide) (by decide +kernel) (fun t3 s₃ H₃ => ?_))
  refine e_int H₃ (fun t4 s₄ H₄ => e_mod H₄ (by decide) (fun t5 s₅ H₅ => e_add H₅ (fun t6 s₆ H₆ => args_nil ?_)))
  rw [← ne]
  refine rng_call H₆ (fun r ta tb tc s₇ H₇ => ?_)
  refine ⟨r, _, _, _, _, G, _, fun i ys G' l' => G = G' ∧ l' = _ ∧ ys.map toI = (List.range i).map (fun j => u + (j : Nat)) ∧ ∀ x ∈ ys, ∃ i t, x = Value.int i t ∧ Sm i, Iter.range w r n ta tb tc n3, rfl, H₇, by omega, ⟨rfl, rfl, rfl, by intro x hx; cases hx⟩, ?_, ?_, ?_⟩
  · rintro i ys G' l' ⟨rfl, rfl, -⟩ p hp
    simp only [List.mem_singleton] at hp
    subst hp
    exact .head _
  · rintro i v ys C D I G' l' kv s₈ hi ⟨tv, rfl⟩ hys hkv ⟨rfl, rfl, hy1, hy2⟩ H₈
    obtain ⟨o, rfl⟩ := kv1 hkv
    refine wpAny_assign_Name (e_store H₈ (by rw [hlo]; exact .head) (by walk_at "put") (fun s₉ H₉ => ?_) (hlc C) (hkc C))
    refine wpAny_tests_nil ?_
    rw [if_pos rfl]
    refine wpAny_BinOp (e_cell H₉ (hcc C) (.tail _ (.tail _ (.tail _ (.tail _ huc)))) ?_ (hkc C) (hxc C))
    refine e_local H₉ (by rw [hlo]; exact .head _) (.head _) ?_ (hkc C) (hlc C)
    refine e_add H₉ (fun t7 s₁₀ H₁₀ => ?_)
    refine ⟨_, G, _, rfl, ⟨rfl, rfl, ?_, ?_⟩, H₁₀⟩
    · rw [List.map_append, hy1, List.range_succ, List.map_append]
      rfl
    · intro x hx
      rcases List.mem_append.mp hx with hx | hx
      · exact hy2 x hx
      · simp only [List.mem_singleton] at hx
        subst hx
        exact ⟨_, _, rfl, sm_of (xs_add hu i (by omega)) (by decide)⟩
  · rintro D ys G' l' s₈ ⟨rfl, rfl, hy1, hy2⟩ H₈
    exact h D ys s₈ (by rw [hy1, hui]) hy2 (H₈.sub (List.Sublist.cons₂ _ (List.sublist_cons_self ..)))
end
end Mine
end
section
open PySem PySem.W PySem.Calls PyProof.Rows PySem.W.X
set_option Elab.async false
set_option maxRecDepth 100000
set_option maxHeartbeats 8000000
set_option linter.unusedVariables false
namespace Mine
local macro_rules | `(tactic| walk_at "mem") => `(tactic| first | assumption | exact List.Mem.head _ | (refine' List.Mem.tail _ ?_; walk_at "mem") | (refine' List.mem_append_right _ ?_; walk_at "mem") | (refine' List.mem_append_left _ ?_; walk_at "mem") | exact Zip.at' (by assumption) | exact Zip.keep (by assumption) (by walk_at "mem") (by intro e; cases e))
local macro_rules | `(tactic| walk_at "zip") => `(tactic| first | assumption | exact Zip.head | exact Zip.tail (by walk_at "zip") | exact Zip.app (by walk_at "zip") | exact Zip.again (by assumption))
local macro_rules | `(tactic| walk_at "kv") => `(tactic| first | with_reducible_and_instances exact List.Mem.head _ | (refine' List.Mem.tail _ ?_; walk_at "kv") | assumption)
local macro_rules | `(tactic| walk_at "put") => `(tactic| first | with_reducible exact Put.head | exact Put.tail (by walk_at "put"))
local macro_rules | `(tactic| walk_at "putd") => `(tactic| first | with_reducible exact PutD.head | with_reducible exact PutD.nil | exact PutD.tail (by decide) (by walk_at "putd"))
local macro_rules | `(tactic| walk_at "nm") => `(tactic| first
  | (refine e_local (by assumption) (by walk_at "mem") (by walk_at "kv") ?_)
  | (refine e_cell (by assumption) (by rfl) (by walk_at "mem") ?_)
  | (refine e_free (by assumption) (by rfl) (by walk_at "mem") ?_))
local macro_rules | `(tactic| walk_at "gl") => `(tactic| refine e_global (by assumption) (by assumption) (by first | with_reducible exact gl_Problem _ | with_reducible exact gl_BacktrackingSolver _ | with_reducible exact gl_Domain _ | with_reducible exact gl_Constraint _ | with_reducible exact gl_FunctionConstraint _ | with_reducible exact gl_law_yes _ | with_reducible exact gl_law_rule _ | with_reducible exact gl_law_due _) ?_)
local macro_rules | `(tactic| walk_at "bi") => `(tactic| refine e_builtin (by assumption) (by assumption) (by first | with_reducible exact bn_isinstance _ | with_reducible exact bn_callable _ | with_reducible exact bn_list _ | with_reducible exact bn_tuple _ | with_reducible exact bn_len _ | with_reducible exact bn_range _ | with_reducible exact bn_next _ | with_reducible exact bn_dict _ | with_reducible exact bn_sorted _ | with_reducible exact bn_iter _) (by first | with_reducible exact bb_isinstance | with_reducible exact bb_callable | with_reducible exact bb_list | with_reducible exact bb_tuple | with_reducible exact bb_len | with_reducible exact bb_range | with_reducible exact bb_next | with_reducible exact bb_dict | with_reducible exact bb_sorted | with_reducible exact bb_iter) ?_)
local macro_rules | `(tactic| walk_at "ns") => `(tactic| (show (_ : List Str).Nodup; dsimp only [List.map, List.nil_append, List.cons_append, List.append_nil]; decide +kernel))
local macro_rules | `(tactic| walk_at "lt") => `(tactic| (show _ < 1000; omega))
local macro_rules | `(tactic| x_close) => `(tactic| exact xq_of (by first | assumption | exact Mem.start _) (by first | rfl | assumption))
local macro_rules | `(tactic| walk_at "ga") => `(tactic| refine i_get (by assumption) (by assumption) (by walk_at "mem") (by exact rfl) (by walk_at "mem") (by first | exact cls110 _ | exact cls186 _ | exact cls336 _) (by kernel_rfl) (by walk_at "kv") (by exact rfl) ?_)
local macro_rules | `(tactic| walk_at "sa") => `(tactic| refine i_set (by assumption) (by assumption) (by walk_at "mem") (by walk_at "zip") (by first | exact cls110 _ | exact cls186 _ | exact cls336 _) (by kernel_rfl) (by kernel_rfl) (by walk_at "putd") (Nat.le_of_ble_eq_true rfl) ?_)
local macro_rules | `(tactic| walk_at "st") => `(tactic| refine e_store (by assumption) (by walk_at "zip") (by walk_at "put") ?_)
local macro_rules | `(tactic| walk_at "nmc") => `(tactic| first
  | (refine e_local (by assumption) (List.Mem.head _) (by first | exact List.Mem.head _ | exact List.Mem.tail _ (List.Mem.head _) | exact List.Mem.tail _ (List.Mem.tail _ (List.Mem.head _))) ?_)
  | (refine e_cell (by assumption) (by rfl) (by walk_at "mem") ?_)
  | (refine e_free (by assumption) (by rfl) (by walk_at "mem") ?_))
local macro_rules | `(tactic| walk_at "subl") => `(tactic| first | exact List.Sublist.refl _ | (refine' List.Sublist.cons _ ?_; walk_at "subl"))
section
variable {w : World} {g : Heap} {os : OsState} {G : Array GenState} {l l' : Led} {s : Shared} {a : Addr} {c c' : Cell} {f : Cell → Led} {A : Around} {E : Value → Shared → Prop}
theorem names_eq {vs : List Var} {ls : List LV} (e : vs.map (fun v => (v.n, v.vals.map toI)) = absL ls) : vs.map (·.n) = ls.map (·.n) := by
  have := congrArg (List.map (·.1)) e
  simpa [absL, Function.comp_def] using this
theorem vals_len {vals : List Value} {u : Int} (h : vals.map toI = uints u) : 1 ≤ vals.length ∧ vals.length ≤ 3 := by
  have e := congrArg List.length h
  unfold uints at e
  simp only [List.length_map, List.length_range] at e
  have := ulen u
  omega
theorem nm3_take {k : Nat} (h : k < 3) : nm3.take (k + 1) = nm3.take k ++ [nm3.getD k default] ∧ nm3.getD k default ∉ nm3.take k := by
  have e : nm3[k]? = some (nm3.getD k default) := by
    have : k = 0 ∨ k = 1 ∨ k = 2 := by omega
    rcases this with rfl | rfl | rfl <;> rfl
  refine ⟨take_snoc e, fun hm => ?_⟩
  have nd := nm3_nd.sublist (List.take_sublist (k + 1) nm3)
  rw [take_snoc e, List.nodup_append] at nd
  exact nd.2.2 _ hm _ (by simp) rfl
/-! ## a variable more -/
theorem br0 {d u' : Nat} {c : LC} {S : LS} {f : F8} {NL I fa : Addr} {code : Value} {itc : Cell} {nv : List Value} {u : Int} {tu : Tok} (B : Base w g) (K : LOk w g c G S) (H : Ok w g os G ((NL, .lst nv) :: (I, itc) :: lawLed c S (some (.int u tu)) f) s) (hf : f.names = some (.ref NL)) (hnv : nv.length = S.ls.length)
    (hu : Xs 1048576 u) (h3 : S.ls.length < 3) (hd : d ≤ 310) (hu' : u' ≤ 100) :
    wpAny (model P0 w) (AR d u') (execs (bOf 0) (lawEnv c.L c.uc fa code)) (fun fl s' => fl = .next ∧ TurnPost w g os c S I itc False s') NoE s := by
  obtain ⟨f1, f2, f3, f4, f5, f6, f7, f8⟩ := f
  dsimp only at hf
  subst hf
  unfold lawLed at H
  dsimp only at H
  have hx := K.pn.x
  have hdx := K.pn.dx
  have hne := names_eq K.e1
  have hnew := nm3_take h3
  generalize hnm : nm3.getD S.ls.length default = nm at *
  have hvl : S.vs.length = S.ls.length := by simpa using congrArg List.length hne
  have hn1 : nm ∉ (lkvs S.ls).map (·.1) := by rw [lk_names, K.nm]; exact hnew.2
  have hn2 : nm ∉ (dkvs S.vs).map (·.1) := by
    have : (dkvs S.vs).map (·.1) = S.vs.map (·.n) := by simp [dkvs, Function.comp_def]
    rw [this, hne, K.nm]; exact hnew.2
  refine wpAny_execs_cons (wpAny_Assign_Subscript (ucomp B H hu (by walk_at "mem") rfl rfl rfl rfl rfl rfl rfl rfl (fun _ => rfl) (fun _ => rfl) (fun _ => rfl) (fun _ => rfl) (fun _ => rfl) (fun li vals1 s₁ hv1 hs1 H₁ => ?_)))
  walk_at "nm"
  refine x_sub (e_str H₁ (fun ts s₂ H₂ => Call_ ?_)) (fun o i => ⟨_, rfl⟩)
  walk_at "bi"
  refine c_bi (args_cons ?_)
  walk_at "nm"
  refine args_nil (l_len H₂ (by walk_at "mem") (by omega) (fun tl s₃ H₃ => ⟨notpy_T (typeIs_str _ _ _) PySem.F.slot_str_getitem.lookup, ?_⟩))
  rw [hnv]
  refine str_item h3 H₃ (fun tn s₄ H₄ => ?_)
  rw [hnm]
  refine d_set H₄ (by walk_at "zip") (by simp [lkvs]; omega) (fun s₅ H₅ => ?_)
  rw [stored_new hn1] at H₅
  refine wpAny_execs_cons (wpAny_Expr_any (MethodCall_ ?_))
  walk_at "nm"
  refine i_meth (fa := 64) B H₅ (show (c.x, Cell.ob (instObj 110 c.dx)) ∈ _ by walk_at "mem") rfl (show (c.dx, Cell.sd [("_solver", .ref c.Sv), ("_constraints", .ref c.C), ("_variables", .ref c.V)]) ∈ _ by walk_at "mem") (cls110 _) (by kernel_rfl) (by kernel_rfl) rfl ?_
  refine c_fn B (by kernel_rfl) (args_cons (x_sub (e_str H₅ (fun ts2 s₆ H₆ => Call_ ?_)) (fun o i => ⟨_, rfl⟩)))
  walk_at "bi"
  refine c_bi (args_cons ?_)
  walk_at "nm"
  refine args_nil (l_len H₆ (by walk_at "mem") (by omega) (fun tl2 s₇ H₇ => ⟨notpy_T (typeIs_str _ _ _) PySem.F.slot_str_getitem.lookup, ?_⟩))
  rw [hnv]
  refine str_item h3 H₇ (fun tn2 s₈ H₈ => ?_)
  rw [hnm]
  refine args_cons (ucomp B H₈ hu (by walk_at "mem") rfl rfl rfl rfl rfl rfl rfl rfl (fun _ => rfl) (fun _ => rfl) (fun _ => rfl) (fun _ => rfl) (fun _ => rfl) (fun l2 vals2 s₉ hv2 hs2 H₉ => ?_))
  obtain ⟨hv2a, hv2b⟩ := vals_len hv2
  obtain ⟨hv1a, hv1b⟩ := vals_len hv1
  have hne2 : vals2.isEmpty = false := by
    cases vals2 with
    | nil => simp at hv2a
    | cons => rfl
  refine args_nil ⟨⟨_, _, _, H₉⟩, wpAny_call (spec_addVariable (dx := c.dx) (C := c.C) (V := c.V) (S := c.Sv) B H₉ (by walk_at "mem") (by walk_at "mem") (by walk_at "zip") (by have := K.pn.three; simp [dkvs]; omega) (valueAt_none hn2) (.head _) (by omega) hne2 (by omega) (by omega) (fun D dD hi st s₁₀ H₁₀ => ?_))⟩
  rw [stored_new hn2] at H₁₀
  refine wpAny_execs_nil ⟨rfl, G, { S with vs := S.vs ++ [⟨nm, D, dD, hi, st, vals2⟩], ls := S.ls ++ [⟨nm, li, vals1⟩], P := [(st, .lst []), (hi, .lst []), (D, .dom vals2 dD), (dD, .sd [("_hidden", .ref hi), ("_states", .ref st)]), (li, .lst vals1)] ++ S.P }, some (.int u tu), ⟨f1, f2, some (.ref NL), f4, f5, f6, f7, f8⟩, ?_, fun p hp => List.mem_append_right _ hp, id, fun h => h.elim, ?_⟩
  · have gr : ∀ p ∈ S.P, p ∈ [(st, Cell.lst []), (hi, .lst []), (D, .dom vals2 dD), (dD, .sd [("_hidden", .ref hi), ("_states", .ref st)]), (li, .lst vals1)] ++ S.P := fun p hp => List.mem_append_right _ hp
    refine ⟨?_, ?_, ?_, ?_, ?_, fun b hb => (K.bg b hb).mono gr (.refl G), K.gd, K.t4.mono gr, K.t7.mono gr, K.bare, K.bl⟩
    · have M := K.pn.mono gr
      refine ⟨M.x, M.dx, M.S, M.dS, fun c hc => ⟨(M.con c hc).1, ?_, ?_⟩, fun v hv => ?_, ?_, by simp; omega, M.few⟩
      · rw [List.map_append]; exact List.mem_append_left _ (M.con c hc).2.1
      · rw [List.map_append]; exact List.mem_append_left _ (M.con c hc).2.2
      · rcases List.mem_append.mp hv with hv | hv
        · exact M.var v hv
        · simp only [List.mem_singleton] at hv
          subst hv
          exact ⟨by simp, by simp, by simp, by simp, hne2, Nat.le_trans hv2b (by decide), hs2⟩
      · dsimp only
        rw [List.map_append, hne, K.nm]
        show (nm3.take S.ls.length ++ [nm]).Nodup
        rw [← hnew.1]
        exact nm3_nd.sublist (List.take_sublist _ _)
    · have M := K.ln.mono gr
      refine ⟨fun v hv => ?_, fun r hr => ⟨(M.rul r hr).1, (M.rul r hr).2.1, ?_, ?_⟩, ?_, by simp; omega, M.few⟩
      · rcases List.mem_append.mp hv with hv | hv
        · exact M.var v hv
        · simp only [List.mem_singleton] at hv
          subst hv
          exact ⟨by simp, hv1b, hs1⟩
      · rw [List.map_append]; exact List.mem_append_left _ (M.rul r hr).2.2.1
      · rw [List.map_append]; exact List.mem_append_left _ (M.rul r hr).2.2.2
      · dsimp only
        rw [List.map_append, K.nm]
        show (nm3.take S.ls.length ++ [nm]).Nodup
        rw [← hnew.1]
        exact nm3_nd.sublist (List.take_sublist _ _)
    · dsimp only
      rw [List.map_append, K.e1]
      unfold absL
      rw [List.map_append]
      simp [hv1, hv2]
    · exact K.e2
    · dsimp only
      rw [List.map_append, K.nm, List.length_append]
      show nm3.take S.ls.length ++ [nm] = nm3.take (S.ls.length + 1)
      rw [hnew.1]
  · have e1 : dkvs (S.vs ++ [⟨nm, D, dD, hi, st, vals2⟩]) = dkvs S.vs ++ [(nm, .ref D)] := by simp [dkvs]
    have e2 : lkvs (S.ls ++ [⟨nm, li, vals1⟩]) = lkvs S.ls ++ [(nm, .ref li)] := by simp [lkvs]
    unfold lawLed
    dsimp only
    rw [e1, e2]
    have sb := H₁₀.sub (l' := [(st, Cell.lst []), (hi, .lst []), (D, .dom vals2 dD), (dD, .sd [("_hidden", .ref hi), ("_states", .ref st)]), (li, .lst vals1)] ++ ([(I, itc), (c.L, .ns [("script", some c.sc), ("problem", some (.ref c.x)), ("lists", some (.ref S.Ld)), ("rules", some (.ref S.Rd)), ("begun", some (.ref S.Bd)), ("x", f1), ("deed", f2), ("names", some (.ref NL)), ("one", f4), ("other", f5), ("walk", f6), ("due", f7), ("told", f8)]), (c.uc, .cl (some (.int u tu))), (c.C, .lst (S.cs.map fun c => .ref c.t)), (c.V, .sd (dkvs S.vs ++ [(nm, .ref D)])), (S.Ld, .sd (lkvs S.ls ++ [(nm, .ref li)])), (S.Rd, .lst (S.rs.map fun r => .ref r.t)), (S.Bd, .lst (S.bs.map fun b => .ref b.t)), (354, .ob (tabObj S.p4)), (347, .ob (tabObj S.p7))] ++ (toldLed S.bs ++ (ownLed S.bs ++ S.P)))) ?_
    · exact sb.perm (perm_in _ _ _ _ _)
    · exact List.Sublist.cons₂ _ (List.Sublist.cons₂ _ (List.Sublist.cons₂ _ (List.Sublist.cons₂ _ (List.Sublist.cons _ (List.Sublist.cons₂ _ (List.sublist_cons_self ..))))))
end
end Mine
end
section
open PySem PySem.W PySem.Calls PyProof.Rows PySem.W.X
set_option Elab.async false
set_option maxRecDepth 100000
set_option maxHeartbeats 8000000
set_option linter.unusedVariables false
namespace Mine
local macro_rules | `(tactic| walk_at "mem") => `(tactic| first | assumption | exact List.Mem.head _ | (refine' List.Mem.tail _ ?_; walk_at "mem") | (refine' List.mem_append_right _ ?_; walk_at "mem") | (refine' List.mem_append_left _ ?_; walk_at "mem") | exact Zip.at' (by assumption) | exact Zip.keep (by assumption) (by walk_at "mem") (by intro e; cases e))
local macro_rules | `(tactic| walk_at "zip") => `(tactic| first | assumption | exact Zip.head | exact Zip.tail (by walk_at "zip") | exact Zip.app (by walk_at "zip") | exact Zip.again (by assumption))
local macro_rules | `(tactic| walk_at "kv") => `(tactic| first | with_reducible_and_instances exact List.Mem.head _ | (refine' List.Mem.tail _ ?_; walk_at "kv") | assumption)
local macro_rules | `(tactic| walk_at "put") => `(tactic| first | with_reducible exact Put.head | exact Put.tail (by walk_at "put"))
local macro_rules | `(tactic| walk_at "putd") => `(tactic| first | with_reducible exact PutD.head | with_reducible exact PutD.nil | exact PutD.tail (by decide) (by walk_at "putd"))
local macro_rules | `(tactic| walk_at "nm") => `(tactic| first
  | (refine e_local (by assumption) (by walk_at "mem") (by walk_at "kv") ?_)
  | (refine e_cell (by assumption) (by rfl) (by walk_at "mem") ?_)
  | (refine e_free (by assumption) (by rfl) (by walk_at "mem") ?_))
local macro_rules | `(tactic| walk_at "gl") => `(tactic| refine e_global (by assumption) (by assumption) (by first | with_reducible exact gl_Problem _ | with_reducible exact gl_BacktrackingSolver _ | with_reducible exact gl_Domain _ | with_reducible exact gl_Constraint _ | with_reducible exact gl_FunctionConstraint _ | with_reducible exact gl_law_yes _ | with_reducible exact gl_law_rule _ | with_reducible exact gl_law_due _) ?_)
local macro_rules | `(tactic| walk_at "bi") => `(tactic| refine e_builtin (by assumption) (by assumption) (by first | with_reducible exact bn_isinstance _ | with_reducible exact bn_callable _ | with_reducible exact bn_list _ | with_reducible exact bn_tuple _ | with_reducible exact bn_len _ | with_reducible exact bn_range _ | with_reducible exact bn_next _ | with_reducible exact bn_dict _ | with_reducible exact bn_sorted _ | with_reducible exact bn_iter _) (by first | with_reducible exact bb_isinstance | with_reducible exact bb_callable | with_reducible exact bb_list | with_reducible exact bb_tuple | with_reducible exact bb_len | with_reducible exact bb_range | with_reducible exact bb_next | with_reducible exact bb_dict | with_reducible exact bb_sorted | with_reducible exact bb_iter) ?_)
local macro_rules | `(tactic| walk_at "ns") => `(tactic| (show (_ : List Str).Nodup; dsimp only [List.map, List.nil_append, List.cons_append, List.append_nil]; decide +kernel))
local macro_rules | `(tactic| walk_at "lt") => `(tactic| (show _ < 1000; omega))
local macro_rules | `(tactic| x_close) => `(tactic| exact xq_of (by first | assumption | exact Mem.start _) (by first | rfl | assumption))
local macro_rules | `(tactic| walk_at "ga") => `(tactic| refine i_get (by assumption) (by assumption) (by walk_at "mem") (by exact rfl) (by walk_at "mem") (by first | exact cls110 _ | exact cls186 _ | exact cls336 _) (by kernel_rfl) (by walk_at "kv") (by exact rfl) ?_)
local macro_rules | `(tactic| walk_at "sa") => `(tactic| refine i_set (by assumption) (by assumption) (by walk_at "mem") (by walk_at "zip") (by first | exact cls110 _ | exact cls186 _ | exact cls336 _) (by kernel_rfl) (by kernel_rfl) (by walk_at "putd") (Nat.le_of_ble_eq_true rfl) ?_)
local macro_rules | `(tactic| walk_at "st") => `(tactic| refine e_store (by assumption) (by walk_at "zip") (by walk_at "put") ?_)
local macro_rules | `(tactic| walk_at "nmc") => `(tactic| first
  | (refine e_local (by assumption) (List.Mem.head _) (by first | exact List.Mem.head _ | exact List.Mem.tail _ (List.Mem.head _) | exact List.Mem.tail _ (List.Mem.tail _ (List.Mem.head _))) ?_)
  | (refine e_cell (by assumption) (by rfl) (by walk_at "mem") ?_)
  | (refine e_free (by assumption) (by rfl) (by walk_at "mem") ?_))
local macro_rules | `(tactic| walk_at "subl") => `(tactic| first | exact List.Sublist.refl _ | (refine' List.Sublist.cons _ ?_; walk_at "subl"))
section
variable {w : World} {g : Heap} {os : OsState} {G : Array GenState} {l l' : Led} {s : Shared} {a : Addr} {c c' : Cell} {f : Cell → Led} {A : Around} {E : Value → Shared → Prop}
theorem oth {n : Nat} (h2 : 2 ≤ n) (h3 : n ≤ 3) (u : Int) : 0 ≤ u.fmod n ∧ u.fmod n < n ∧ 0 ≤ (u.fmod n + 1 + (u.fdiv 4).fmod ((n : Int) - 1)).fmod n ∧ (u.fmod n + 1 + (u.fdiv 4).fmod ((n : Int) - 1)).fmod n < n ∧ u.fmod n ≠ (u.fmod n + 1 + (u.fdiv 4).fmod ((n : Int) - 1)).fmod n := by
  have hn : n = 2 ∨ n = 3 := by omega
  rcases hn with rfl | rfl
  · have e : (((2 : Nat) : Int) - 1) = 1 := by decide
    rw [e]
    generalize u.fdiv 4 = q
    rw [Int.fmod_eq_emod_of_nonneg u (by decide), Int.fmod_eq_emod_of_nonneg q (by decide), Int.fmod_eq_emod_of_nonneg _ (by decide)]
    omega
  · have e : (((3 : Nat) : Int) - 1) = 2 := by decide
    rw [e]
    generalize u.fdiv 4 = q
    rw [Int.fmod_eq_emod_of_nonneg u (by decide), Int.fmod_eq_emod_of_nonneg q (by decide), Int.fmod_eq_emod_of_nonneg _ (by decide)]
    omega
/-! ## a function more -/
theorem br1 {d u' : Nat} {c : LC} {S : LS} {f : F8} {NL I fa : Addr} {code : Value} {itc : Cell} {nv : List Value} {u : Int} {tu : Tok} (B : Base w g) (K : LOk w g c G S) (H : Ok w g os G ((NL, .lst nv) :: (I, itc) :: lawLed c S (some (.int u tu)) f) s) (hf : f.names = some (.ref NL)) (hnv : nv.length = S.ls.length)
    (hns : ∀ (j : Nat) (v : Value), nv[j]? = some v → ∃ k x t, (lkvs S.ls)[j]? = some (k, x) ∧ v = Value.str k t)
    (hu : Xs 1048576 u) (h2 : 2 ≤ S.ls.length) (h4 : S.rs.length < 4) (hd : d ≤ 310) (hu' : u' ≤ 100) :
    wpAny (model P0 w) (AR d u') (execs (bOf 1) (lawEnv c.L c.uc fa code)) (fun fl s' => fl = .next ∧ TurnPost w g os c S I itc False s') NoE s := by
  obtain ⟨f1, f2, f3, f4, f5, f6, f7, f8⟩ := f
  dsimp only at hf
  subst hf
  unfold lawLed at H
  dsimp only at H
  have hx := K.pn.x
  have hdx := K.pn.dx
  have hl3 := K.ln.three
  obtain ⟨o1, o2, o3, o4, o5⟩ := oth h2 hl3 u
  rw [← hnv] at o1 o2 o3 o4 o5 h2 hl3
  have hsm : Sm (u.fdiv 12) := sm_of (xs_div hu 12 (by decide)) (by decide)
  refine wpAny_execs_cons (wpAny_Assign_Name (wpAny_BinOp ?_))
  walk_at "nm"
  refine Call_ ?_
  walk_at "bi"
  refine c_bi (args_cons ?_)
  walk_at "nm"
  refine args_nil (l_len H (by walk_at "mem") (by omega) (fun t1 s₁ H₁ => e_mod H₁ (by omega) (fun t2 s₂ H₂ => ?_)))
  refine e_store H₂ (by walk_at "zip") (by walk_at "put") (fun s₃ H₃ => ?_)
  refine wpAny_execs_cons (wpAny_Assign_Name (wpAny_BinOp (wpAny_BinOp (wpAny_BinOp ?_))))
  walk_at "nm"
  refine e_int H₃ (fun t3 s₄ H₄ => e_add H₄ (fun t4 s₅ H₅ => ?_))
  refine wpAny_BinOp (wpAny_BinOp ?_)
  walk_at "nm"
  refine e_int H₅ (fun t5 s₆ H₆ => e_div H₆ (by decide) (by decide +kernel) (fun t6 s₇ H₇ => ?_))
  refine wpAny_BinOp (Call_ ?_)
  walk_at "bi"
  refine c_bi (args_cons ?_)
  walk_at "nm"
  refine args_nil (l_len H₇ (by walk_at "mem") (by omega) (fun t7 s₈ H₈ => e_int H₈ (fun t8 s₉ H₉ => e_sub H₉ (fun t9 s₁₀ H₁₀ => e_mod H₁₀ (by omega) (fun t10 s₁₁ H₁₁ => e_add H₁₁ (fun t11 s₁₂ H₁₂ => ?_))))))
  refine Call_ ?_
  walk_at "bi"
  refine c_bi (args_cons ?_)
  walk_at "nm"
  refine args_nil (l_len H₁₂ (by walk_at "mem") (by omega) (fun t12 s₁₃ H₁₃ => e_mod H₁₃ (by omega) (fun t13 s₁₄ H₁₄ => ?_)))
  refine e_store H₁₄ (by walk_at "zip") (by walk_at "put") (fun s₁₅ H₁₅ => ?_)
  clear H₁₄ H₁₃ H₁₂ H₁₁ H₁₀ H₉ H₈ H₇ H₆ H₅ H₄ H₃ H₂ H₁ H
  generalize hone : u.fmod (nv.length : Nat) = one at *
  generalize hother : (one + 1 + (u.fdiv 4).fmod ((nv.length : Int) - 1)).fmod (nv.length : Nat) = other at *
  obtain ⟨a, ha⟩ : ∃ a : Nat, one.toNat = a := ⟨_, rfl⟩
  obtain ⟨b, hb⟩ : ∃ b : Nat, other.toNat = b := ⟨_, rfl⟩
  have hal : a < nv.length := by omega
  have hbl : b < nv.length := by omega
  have hab : a ≠ b := by omega
  obtain ⟨k1, x1, tk1, q1, g1⟩ := hns a nv[a] (List.getElem?_eq_getElem hal)
  obtain ⟨k2, x2, tk2, q2, g2⟩ := hns b nv[b] (List.getElem?_eq_getElem hbl)
  have hv1 : nv[one.toNat]? = some (.str k1 tk1) := by rw [ha, List.getElem?_eq_getElem hal, g1]
  have hv2 : nv[other.toNat]? = some (.str k2 tk2) := by rw [hb, List.getElem?_eq_getElem hbl, g2]
  have hm1 : k1 ∈ S.ls.map (·.n) := by rw [← lk_names]; exact List.mem_map_of_mem (f := (·.1)) (List.mem_of_getElem? q1)
  have hm2 : k2 ∈ S.ls.map (·.n) := by rw [← lk_names]; exact List.mem_map_of_mem (f := (·.1)) (List.mem_of_getElem? q2)
  have hkne : k1 ≠ k2 := by
    intro e
    have i1 : (S.ls.map (·.n))[a]? = some k1 := by rw [← lk_names, List.getElem?_map, q1]; rfl
    have i2 : (S.ls.map (·.n))[b]? = some k2 := by rw [← lk_names, List.getElem?_map, q2]; rfl
    exact hab ((List.getElem?_inj (by rw [List.length_map, ← hnv]; exact hal) K.ln.nd).mp (by rw [i1, i2, e]))
  have h63 : one < 2 ^ 63 := by
    have : (2 : Int) ^ 63 = 9223372036854775808 := by decide
    omega
  have h63' : other < 2 ^ 63 := by
    have : (2 : Int) ^ 63 = 9223372036854775808 := by decide
    omega
  refine wpAny_execs_cons (wpAny_Expr_any (m_bi PySem.F.plainAttrs_list PySem.F.slot_list_append PySem.F.type_list_append ?_))
  walk_at "nm"
  refine ⟨_, _, _, _, _, _, H₁₅, rfl, (show (S.Rd, Cell.lst (S.rs.map fun r => .ref r.t)) ∈ _ by walk_at "mem"), rfl, args_cons (Tuple_ (args_cons (x_sub ?_ (fun o i => ⟨_, rfl⟩))))⟩
  walk_at "nm"
  walk_at "nm"
  refine ⟨notpy_T (H₁₅.lst (.head _)).typeIs PySem.F.slot_list_getitem.lookup, ?_⟩
  refine l_item H₁₅ (.head _) o1 hv1 h63 (args_cons (x_sub ?_ (fun o i => ⟨_, rfl⟩)))
  walk_at "nm"
  walk_at "nm"
  refine ⟨notpy_T (H₁₅.lst (.head _)).typeIs PySem.F.slot_list_getitem.lookup, ?_⟩
  refine l_item H₁₅ (.head _) o3 hv2 h63' (args_cons (wpAny_BinOp ?_))
  walk_at "nm"
  refine e_int H₁₅ (fun t14 s₁₆ H₁₆ => e_div H₁₆ (by decide) (by decide +kernel) (fun t15 s₁₇ H₁₇ => ?_))
  refine args_nil (e_newTuple H₁₇ (fun rt s₁₈ H₁₈ => ?_) (by rw [sizeLine_eq]; exact Nat.le_of_ble_eq_true rfl))
  refine args_nil (b_append H₁₈ (by walk_at "zip") (by rw [List.length_map]; omega) (fun s₁₉ H₁₉ => ?_))
  clear H₁₈ H₁₇ H₁₆ H₁₅
  refine wpAny_execs_cons (wpAny_Expr_any (MethodCall_ ?_))
  walk_at "nm"
  refine i_meth (fa := 79) B H₁₉ (show (c.x, Cell.ob (instObj 110 c.dx)) ∈ _ by walk_at "mem") rfl (show (c.dx, Cell.sd [("_solver", .ref c.Sv), ("_constraints", .ref c.C), ("_variables", .ref c.V)]) ∈ _ by walk_at "mem") (cls110 _) (by kernel_rfl) (by kernel_rfl) rfl ?_
  refine c_fn B (by kernel_rfl) (args_cons (Call_ ?_))
  walk_at "gl"
  refine c_fn B (by kernel_rfl) (args_cons (wpAny_BinOp ?_))
  walk_at "nm"
  refine e_int H₁₉ (fun t16 s₂₀ H₂₀ => e_div H₂₀ (by decide) (by decide +kernel) (fun t17 s₂₁ H₂₁ => ?_))
  refine args_nil ⟨⟨_, _, _, H₂₁⟩, wpAny_call (spec_rule (ps := S.p7) (PL := S.P) B H₂₁ (by walk_at "zip") (fun p hp => by walk_at "mem") K.t7 hsm (by omega) (fun fn fd ca c' oc extra s₂₂ hx' ho hcalls H₂₂ => ?_))⟩
  have hc' : (c', Cell.ob oc) ∈ extra ++ S.P := by
    rcases hx' with ⟨rfl, hx⟩ | rfl
    · exact hx
    · exact .head _
  have pm : ((toldLed S.bs ++ (ownLed S.bs ++ S.P)) ++ extra).Perm (toldLed S.bs ++ (ownLed S.bs ++ (extra ++ S.P))) := by
    rw [List.append_assoc, List.append_assoc]
    exact List.Perm.append_left _ (List.Perm.append_left _ List.perm_append_comm)
  have H₂₃ := H₂₂.perm (List.Perm.append_left [_, _, _, _, _, _, _, _, _, _, _, _, _, _] pm)
  have hxP : (c.x, Cell.ob (instObj 110 c.dx)) ∈ extra ++ S.P := List.mem_append_right _ hx
  have hdxP : (c.dx, Cell.sd [("_solver", .ref c.Sv), ("_constraints", .ref c.C), ("_variables", .ref c.V)]) ∈ extra ++ S.P := List.mem_append_right _ hdx
  clear H₂₂ H₂₁ H₂₀ H₁₉
  refine args_cons (List_ (args_cons (x_sub ?_ (fun o i => ⟨_, rfl⟩))))
  walk_at "nm"
  walk_at "nm"
  refine ⟨notpy_T (H₂₃.lst (.tail _ (.tail _ (.tail _ (.head _))))).typeIs PySem.F.slot_list_getitem.lookup, ?_⟩
  refine l_item H₂₃ (.tail _ (.tail _ (.tail _ (.head _)))) o1 hv1 h63 (args_cons (x_sub ?_ (fun o i => ⟨_, rfl⟩)))
  walk_at "nm"
  walk_at "nm"
  refine ⟨notpy_T (H₂₃.lst (.tail _ (.tail _ (.tail _ (.head _))))).typeIs PySem.F.slot_list_getitem.lookup, ?_⟩
  refine l_item H₂₃ (.tail _ (.tail _ (.tail _ (.head _)))) o3 hv2 h63' (args_nil (e_newList H₂₃ (fun vl s₂₄ H₂₄ => ?_) (by rw [sizeLine_eq]; exact Nat.le_of_ble_eq_true rfl)))
  refine args_nil ⟨⟨_, _, _, H₂₄⟩, wpAny_call (spec_addConstraint (fd := fd) (dx := c.dx) (C := c.C) (V := c.V) (S := c.Sv) B H₂₄ (by walk_at "mem") (by walk_at "mem") (by walk_at "mem") (by walk_at "zip") (by have := K.pn.few; rw [List.length_map]; omega) (by omega) (by omega) (fun t fc dfc s₂₅ H₂₅ => ?_))⟩
  clear H₂₄ H₂₃
  have gr : ∀ p ∈ S.P, p ∈ [(t, Cell.tup [.ref fc, .ref vl]), (fc, .ob (instObj 336 dfc)), (dfc, .sd [("_func", .ref fn), ("_assigned", .bool true)]), (vl, .lst [.str k1 tk1, .str k2 tk2]), (fn, .ob (fnO fd)), (ca, .cl (some (.int (u.fdiv 12) t17))), (rt, .tup [.str k1 tk1, .str k2 tk2, .int (u.fdiv 12) t15])] ++ (extra ++ S.P) := fun p hp => List.mem_append_right _ (List.mem_append_right _ hp)
  have hne := names_eq K.e1
  refine wpAny_execs_nil ⟨rfl, G, { S with cs := S.cs ++ [⟨t, fc, dfc, fn, vl, fd, k1, k2, tk1, tk2, u.fdiv 12, [(fn, .ob (fnO fd)), (ca, .cl (some (.int (u.fdiv 12) t17))), (c', .ob oc)]⟩], rs := S.rs ++ [⟨rt, k1, k2, tk1, tk2, t15, u.fdiv 12⟩], P := [(t, Cell.tup [.ref fc, .ref vl]), (fc, .ob (instObj 336 dfc)), (dfc, .sd [("_func", .ref fn), ("_assigned", .bool true)]), (vl, .lst [.str k1 tk1, .str k2 tk2]), (fn, .ob (fnO fd)), (ca, .cl (some (.int (u.fdiv 12) t17))), (rt, .tup [.str k1 tk1, .str k2 tk2, .int (u.fdiv 12) t15])] ++ (extra ++ S.P), p7 := #[rawInt 252, rawInt 11, .ref c'] }, some (.int u tu), ⟨f1, f2, some (.ref NL), some (.int one t2), some (.int other t13), f6, f7, f8⟩, ?_, gr, id, fun h => h.elim, ?_⟩
  · refine ⟨?_, ?_, K.e1, ?_, K.nm, fun b hb => (K.bg b hb).mono gr (.refl G), K.gd, K.t4.mono gr, .inr ⟨c', oc, rfl, List.mem_append_right _ hc', ho⟩, K.bare, K.bl⟩
    · have M := K.pn.mono gr
      refine ⟨M.x, M.dx, M.S, M.dS, fun c hc => ?_, M.var, M.nd, M.three, ?_⟩
      · rcases List.mem_append.mp hc with hc | hc
        · exact M.con c hc
        · simp only [List.mem_singleton] at hc
          subst hc
          refine ⟨⟨by simp, by simp, by simp, by simp, by simp, hcalls, ?_, hkne⟩, ?_, ?_⟩
          · intro p hp
            simp only [List.mem_cons, List.not_mem_nil, or_false] at hp
            rcases hp with rfl | rfl | rfl
            · simp
            · simp
            · exact List.mem_append_right _ hc'
          · rw [hne]; exact hm1
          · rw [hne]; exact hm2
      · have e := congrArg List.length K.e2
        unfold absR at e
        rw [List.length_map, List.length_map] at e
        dsimp only
        rw [List.length_append, List.length_singleton]
        omega
    · have M := K.ln.mono gr
      refine ⟨M.var, fun r hr => ?_, M.nd, M.three, by dsimp only; rw [List.length_append, List.length_singleton]; omega⟩
      rcases List.mem_append.mp hr with hr | hr
      · exact M.rul r hr
      · simp only [List.mem_singleton] at hr
        subst hr
        exact ⟨by simp, hsm, hm1, hm2⟩
    · dsimp only
      rw [List.map_append, K.e2]
      unfold absR
      rw [List.map_append]
      rfl
  · have e1 : (S.cs ++ [(⟨t, fc, dfc, fn, vl, fd, k1, k2, tk1, tk2, u.fdiv 12, [(fn, .ob (fnO fd)), (ca, .cl (some (.int (u.fdiv 12) t17))), (c', .ob oc)]⟩ : Con)]).map (fun c => Value.ref c.t) = S.cs.map (fun c => Value.ref c.t) ++ [.ref t] := by rw [List.map_append]; rfl
    have e2 : (S.rs ++ [(⟨rt, k1, k2, tk1, tk2, t15, u.fdiv 12⟩ : LR)]).map (fun r => Value.ref r.t) = S.rs.map (fun r => Value.ref r.t) ++ [.ref rt] := by rw [List.map_append]; rfl
    unfold lawLed
    dsimp only
    rw [e1, e2]
    have sb := H₂₅.sub (l' := [(t, Cell.tup [.ref fc, .ref vl]), (fc, .ob (instObj 336 dfc)), (dfc, .sd [("_func", .ref fn), ("_assigned", .bool true)]), (vl, .lst [.str k1 tk1, .str k2 tk2]), (fn, .ob (fnO fd)), (ca, .cl (some (.int (u.fdiv 12) t17))), (rt, .tup [.str k1 tk1, .str k2 tk2, .int (u.fdiv 12) t15])] ++ ([(I, itc), (c.L, .ns [("script", some c.sc), ("problem", some (.ref c.x)), ("lists", some (.ref S.Ld)), ("rules", some (.ref S.Rd)), ("begun", some (.ref S.Bd)), ("x", f1), ("deed", f2), ("names", some (.ref NL)), ("one", some (.int one t2)), ("other", some (.int other t13)), ("walk", f6), ("due", f7), ("told", f8)]), (c.uc, .cl (some (.int u tu))), (c.C, .lst (S.cs.map (fun c => .ref c.t) ++ [.ref t])), (c.V, .sd (dkvs S.vs)), (S.Ld, .sd (lkvs S.ls)), (S.Rd, .lst (S.rs.map (fun r => .ref r.t) ++ [.ref rt])), (S.Bd, .lst (S.bs.map fun b => .ref b.t)), (354, .ob (tabObj S.p4)), (347, .ob (tabObj #[rawInt 252, rawInt 11, .ref c']))] ++ (toldLed S.bs ++ (ownLed S.bs ++ (extra ++ S.P))))) ?_
    · exact sb.perm (perm_in _ _ _ _ _)
    · exact List.Sublist.cons₂ _ (List.Sublist.cons₂ _ (List.Sublist.cons₂ _ (List.Sublist.cons₂ _ (List.Sublist.cons₂ _ (List.Sublist.cons₂ _ (List.Sublist.cons₂ _ (List.sublist_cons_self ..)))))))
end
end Mine
end
section
open PySem PySem.W PySem.Calls PyProof.Rows PySem.W.X
set_option Elab.async false
set_option maxRecDepth 100000
set_option maxHeartbeats 8000000
set_option linter.unusedVariables false
namespace Mine
local macro_rules | `(tactic| walk_at "mem") => `(tactic| first | assumption | exact List.Mem.head _ | (refine' List.Mem.tail _ ?_; walk_at "mem") | (refine' List.mem_append_right _ ?_; walk_at "mem") | (refine' List.mem_append_left _ ?_; walk_at "mem") | exact Zip.at' (by assumption) | exact Zip.keep (by assumption) (by walk_at "mem") (by intro e; cases e))
local macro_rules | `(tactic| walk_at "zip") => `(tactic| first | assumption | exact Zip.head | exact Zip.tail (by walk_at "zip") | exact Zip.app (by walk_at "zip") | exact Zip.again (by assumption))
local macro_rules | `(tactic| walk_at "kv") => `(tactic| first | with_reducible_and_instances exact List.Mem.head _ | (refine' List.Mem.tail _ ?_; walk_at "kv") | assumption)
local macro_rules | `(tactic| walk_at "put") => `(tactic| first | with_reducible exact Put.head | exact Put.tail (by walk_at "put"))
local macro_rules | `(tactic| walk_at "putd") => `(tactic| first | with_reducible exact PutD.head | with_reducible exact PutD.nil | exact PutD.tail (by decide) (by walk_at "putd"))
local macro_rules | `(tactic| walk_at "nm") => `(tactic| first
  | (refine e_local (by assumption) (by walk_at "mem") (by walk_at "kv") ?_)
  | (refine e_cell (by assumption) (by rfl) (by walk_at "mem") ?_)
  | (refine e_free (by assumption) (by rfl) (by walk_at "mem") ?_))
local macro_rules | `(tactic| walk_at "gl") => `(tactic| refine e_global (by assumption) (by assumption) (by first | with_reducible exact gl_Problem _ | with_reducible exact gl_BacktrackingSolver _ | with_reducible exact gl_Domain _ | with_reducible exact gl_Constraint _ | with_reducible exact gl_FunctionConstraint _ | with_reducible exact gl_law_yes _ | with_reducible exact gl_law_rule _ | with_reducible exact gl_law_due _) ?_)
local macro_rules | `(tactic| walk_at "bi") => `(tactic| refine e_builtin (by assumption) (by assumption) (by first | with_reducible exact bn_isinstance _ | with_reducible exact bn_callable _ | with_reducible exact bn_list _ | with_reducible exact bn_tuple _ | with_reducible exact bn_len _ | with_reducible exact bn_range _ | with_reducible exact bn_next _ | with_reducible exact bn_dict _ | with_reducible exact bn_sorted _ | with_reducible exact bn_iter _) (by first | with_reducible exact bb_isinstance | with_reducible exact bb_callable | with_reducible exact bb_list | with_reducible exact bb_tuple | with_reducible exact bb_len | with_reducible exact bb_range | with_reducible exact bb_next | with_reducible exact bb_dict | with_reducible exact bb_sorted | with_reducible exact bb_iter) ?_)
local macro_rules | `(tactic| walk_at "ns") => `(tactic| (show (_ : List Str).Nodup; dsimp only [List.map, List.nil_append, List.cons_append, List.append_nil]; decide +kernel))
local macro_rules | `(tactic| walk_at "lt") => `(tactic| (show _ < 1000; omega))
local macro_rules | `(tactic| x_close) => `(tactic| exact xq_of (by first | assumption | exact Mem.start _) (by first | rfl | assumption))
local macro_rules | `(tactic| walk_at "ga") => `(tactic| refine i_get (by assumption) (by assumption) (by walk_at "mem") (by exact rfl) (by walk_at "mem") (by first | exact cls110 _ | exact cls186 _ | exact cls336 _) (by kernel_rfl) (by walk_at "kv") (by exact rfl) ?_)
local macro_rules | `(tactic| walk_at "sa") => `(tactic| refine i_set (by assumption) (by assumption) (by walk_at "mem") (by walk_at "zip") (by first | exact cls110 _ | exact cls186 _ | exact cls336 _) (by kernel_rfl) (by kernel_rfl) (by walk_at "putd") (Nat.le_of_ble_eq_true rfl) ?_)
local macro_rules | `(tactic| walk_at "st") => `(tactic| refine e_store (by assumption) (by walk_at "zip") (by walk_at "put") ?_)
local macro_rules | `(tactic| walk_at "nmc") => `(tactic| first
  | (refine e_local (by assumption) (List.Mem.head _) (by first | exact List.Mem.head _ | exact List.Mem.tail _ (List.Mem.head _) | exact List.Mem.tail _ (List.Mem.tail _ (List.Mem.head _))) ?_)
  | (refine e_cell (by assumption) (by rfl) (by walk_at "mem") ?_)
  | (refine e_free (by assumption) (by rfl) (by walk_at "mem") ?_))
local macro_rules | `(tactic| walk_at "subl") => `(tactic| first | exact List.Sublist.refl _ | (refine' List.Sublist.cons _ ?_; walk_at "subl"))
section
variable {w : World} {g : Heap} {os : OsState} {G : Array GenState} {l l' : Led} {s : Shared} {a : Addr} {c c' : Cell} {f : Cell → Led} {A : Around} {E : Value → Shared → Prop}
theorem pm2a {α : Type} (A B C D E F K N T1 T2 : List α) : (A ++ (B ++ (C ++ (D ++ (E ++ (F ++ (K ++ N))))))).Perm (D ++ (C ++ (E ++ (F ++ (K ++ (A ++ (B ++ N))))))) := by
  classical
  exact List.perm_iff_count.mpr (fun x => by simp only [List.count_append]; omega)
theorem pm2b {α : Type} (A B C D E F K L M N : List α) : (A ++ (B ++ (C ++ (D ++ (E ++ (F ++ (K ++ (L ++ (M ++ N))))))))).Perm (E ++ (A ++ (F ++ (K ++ (L ++ (M ++ (B ++ (C ++ (D ++ N))))))))) := by
  classical
  exact List.perm_iff_count.mpr (fun x => by simp only [List.count_append]; omega)
theorem pm2c {α : Type} (A B C D E F K : List α) : (A ++ (B ++ (C ++ (D ++ (E ++ (F ++ K)))))).Perm (C ++ ((D ++ B) ++ ((E ++ F) ++ (A ++ K)))) := by
  classical
  exact List.perm_iff_count.mpr (fun x => by simp only [List.count_append]; omega)
theorem due_few {P : Led} {ls : List LV} {rs : List LR} (N : LNeed P ls rs) : (dueL ls rs).length ≤ 27 := by
  have pm := ordL_perm (vs := ls) (rs := rs) N.three
  unfold dueL
  refine Nat.le_trans (List.length_filter_le ..) ?_
  exact prodL_len (fun v hv => (N.var v (pm.mem_iff.mp hv)).2.1) (by split <;> simp) (by rw [pm.length_eq]; exact N.three)
theorem LOk.law {c : LC} {S : LS} (K : LOk w g c G S) : (solsOf S.vs S.cs).map cont = (dueL S.ls S.rs).map cont ∧ (∀ one ∈ solsOf S.vs S.cs, AllInt one) ∧ (solsOf S.vs S.cs).length ≤ 100000 ∧ (∀ one ∈ dueL S.ls S.rs, AllInt one) :=
  sols_law K.pn.nd K.pn.three (fun c hc => (K.pn.con c hc).2) (fun v hv => (K.pn.var v hv).sm) (fun v hv => (K.ln.var v hv).2.2) (fun v hv => (K.ln.var v hv).2.1) K.e1 K.e2
theorem LOk.short {c : LC} {S : LS} (K : LOk w g c G S) : ∀ x ∈ solsOf S.vs S.cs, x.length ≤ 1000 := by
  intro x hx
  have h1 : cont x ∈ (dueL S.ls S.rs).map cont := by rw [← K.law.1]; exact List.mem_map_of_mem hx
  obtain ⟨y, hy, e⟩ := List.mem_map.mp h1
  have hl := cont_len e
  have pm := ordL_perm (vs := S.ls) (rs := S.rs) K.ln.three
  have hy' := (List.mem_filter.mp hy).1
  have hn := prodL_names (ns := []) (by intro one ho; split at ho <;> simp at ho; subst ho; rfl) y hy'
  have h2 := congrArg List.length hn
  simp only [List.length_map, List.nil_append] at h2
  have := pm.length_eq
  have := K.ln.three
  omega
/-! ## an iterator more -/
theorem br2 {d u' : Nat} {c : LC} {S : LS} {f : F8} {NL I fa : Addr} {code : Value} {itc : Cell} {nv : List Value} {uo : Option Value} (B : Base w g) (K : LOk w g c G S) (H : Ok w g os G ((NL, .lst nv) :: (I, itc) :: lawLed c S uo f) s)
    (h4 : S.bs.length < 4) (hd : d ≤ 310) (hu' : u' ≤ 100) :
    wpAny (model P0 w) (AR d u') (execs (bOf 2) (lawEnv c.L c.uc fa code)) (fun fl s' => fl = .next ∧ TurnPost w g os c S I itc True s') NoE s := by
  obtain ⟨f1, f2, f3, f4, f5, f6, f7, f8⟩ := f
  obtain ⟨lw1, lw2, lw3, lw4⟩ := K.law
  have lfew := due_few K.ln
  unfold lawLed at H
  dsimp only at H
  have hx := K.pn.x
  have hdx := K.pn.dx
  refine wpAny_execs_cons (wpAny_Expr_any (m_bi PySem.F.plainAttrs_list PySem.F.slot_list_append PySem.F.type_list_append ?_))
  walk_at "nm"
  refine ⟨_, _, _, _, _, _, H, rfl, (show (S.Bd, Cell.lst (S.bs.map fun b => .ref b.t)) ∈ _ by walk_at "mem"), rfl, args_cons (Tuple_ (args_cons (MethodCall_ ?_)))⟩
  walk_at "nm"
  refine i_meth (fa := 100) B H (show (c.x, Cell.ob (instObj 110 c.dx)) ∈ _ by walk_at "mem") rfl (show (c.dx, Cell.sd [("_solver", .ref c.Sv), ("_constraints", .ref c.C), ("_variables", .ref c.V)]) ∈ _ by walk_at "mem") (cls110 _) (by kernel_rfl) (by kernel_rfl) rfl ?_
  refine c_fn0 B H (by kernel_rfl) (wpAny_call (spec_piter B H K.pn (fun p hp => by walk_at "mem") (by walk_at "mem") (by walk_at "mem") (by omega) (by omega) (fun k New G' s₁ hks hkw hkg hge hkn H₁ => ?_)))
  replace H₁ := H₁.perm (pm2a k.own New [_, _, _, _, _, _, _, _, _] [_] [_] (toldLed S.bs) (ownLed S.bs) S.P [] [])
  refine args_cons (Call_ ?_)
  walk_at "gl"
  refine c_fn B (by kernel_rfl) (args_cons ?_)
  walk_at "nm"
  refine args_cons ?_
  walk_at "nm"
  refine args_nil ⟨⟨_, _, _, H₁⟩, wpAny_call (spec_due (P := S.P) (PL := S.P) B H₁ K.ln (fun p hp => by walk_at "mem") (by walk_at "mem") (by walk_at "mem") (fun p hp => by walk_at "mem") K.t4 (by omega) (by omega) (fun D ds ps' extra s₂ hds ht' H₂ => ?_))⟩
  replace H₂ := H₂.perm (pm2b [_] [_] (dLed ds) extra [_, _, _, _, _, _, _, _, _] [_] (toldLed S.bs) (ownLed S.bs) k.own (New ++ S.P))
  refine args_cons (List_ (args_nil (e_newList H₂ (fun tl s₃ H₃ => ?_) (Nat.zero_le _))))
  refine args_nil (e_newTuple H₃ (fun tt s₄ H₄ => ?_) (by rw [sizeLine_eq]; exact Nat.le_of_ble_eq_true rfl))
  refine args_nil (b_append H₄ (by walk_at "zip") (by rw [List.length_map]; omega) (fun s₅ H₅ => ?_))
  clear H₄ H₃ H₂ H₁
  have gr : ∀ p ∈ S.P, p ∈ (tt, Cell.tup [.ref k.a, .ref D, .ref tl]) :: (D, Cell.lst (dRefs ds)) :: (dLed ds ++ (extra ++ (New ++ S.P))) := fun p hp => .tail _ (.tail _ (List.mem_append_right _ (List.mem_append_right _ (List.mem_append_right _ hp))))
  have hgi : ∀ j, k.gi = some j → j = G.size ∧ j < G'.size := by
    intro j e
    rcases hkg with ⟨e', -⟩ | ⟨e', z⟩
    · rw [e'] at e; cases e
    · rw [e'] at e; cases e; exact ⟨rfl, by omega⟩
  have hdsm : ∀ x ∈ ds, x.2 ∈ dueL S.ls S.rs := fun x hx => by rw [← hds]; exact List.mem_map_of_mem hx
  refine wpAny_execs_nil ⟨rfl, G', { S with bs := S.bs ++ [⟨tt, tl, D, k, ds, []⟩], P := (tt, Cell.tup [.ref k.a, .ref D, .ref tl]) :: (D, Cell.lst (dRefs ds)) :: (dLed ds ++ (extra ++ (New ++ S.P))), p4 := ps' }, uo, ⟨f1, f2, f3, f4, f5, f6, f7, f8⟩, ?_, gr, fun _ => by simp, fun _ => by simp, ?_⟩
  · refine ⟨K.pn.mono gr, K.ln.mono gr, K.e1, K.e2, K.nm, fun b hb => ?_, ?_, ?_, K.t7.mono gr, hge.2 K.bare, by simp; omega⟩
    · rcases List.mem_append.mp hb with hb | hb
      · exact (K.bg b hb).mono gr hge
      · simp only [List.mem_singleton] at hb
        subst hb
        refine ⟨.head _, .tail _ (.head _), fun p hp => .tail _ (.tail _ (List.mem_append_left _ hp)), (fun p hp => by cases hp), fun p hp => ?_, hkw, fun j e => (hgi j e).2, ?_, fun x hx => lw4 _ (hdsm x hx), (fun x hx => by cases hx), by rw [hks]; exact lw2, ?_, ?_⟩
        · refine .tail _ (.tail _ (List.mem_append_right _ (List.mem_append_right _ ?_)))
          exact hkn p hp
        · dsimp only
          rw [hks, lw1, ← hds, List.map_map]
          rfl
        · have := congrArg List.length hds
          rw [List.length_map] at this
          dsimp only
          omega
        · dsimp only
          rw [hks]
          exact K.short
    · rw [List.pairwise_append]
      refine ⟨K.gd, List.pairwise_singleton .., fun a ha b hb => ?_⟩
      simp only [List.mem_singleton] at hb
      subst hb
      cases ea : a.k.gi with
      | none => exact .inl rfl
      | some j =>
        refine .inr fun e => ?_
        have h1 := (K.bg a ha).gi j ea
        have h2 := (hgi j e.symm).1
        omega
    · exact ht'.mono fun p hp => .tail _ (.tail _ (List.mem_append_right _ (by
        rcases List.mem_append.mp hp with hp | hp
        · exact List.mem_append_left _ hp
        · exact List.mem_append_right _ (List.mem_append_right _ hp))))
  · have e1 : (S.bs ++ [(⟨tt, tl, D, k, ds, []⟩ : Bg)]).map (fun b => Value.ref b.t) = S.bs.map (fun b => Value.ref b.t) ++ [.ref tt] := by rw [List.map_append]; rfl
    have e2 : toldLed (S.bs ++ [(⟨tt, tl, D, k, ds, []⟩ : Bg)]) = toldLed S.bs ++ [(tl, .lst [])] := by unfold toldLed; rw [List.map_append]; rfl
    have e3 : ownLed (S.bs ++ [(⟨tt, tl, D, k, ds, []⟩ : Bg)]) = ownLed S.bs ++ k.own := by unfold ownLed; rw [List.flatMap_append]; simp
    unfold lawLed
    dsimp only
    rw [e1, e2, e3]
    have sb := H₅.sub (l' := [(tt, Cell.tup [.ref k.a, .ref D, .ref tl])] ++ ([(tl, Cell.lst [])] ++ ([(I, itc), (c.L, .ns [("script", some c.sc), ("problem", some (.ref c.x)), ("lists", some (.ref S.Ld)), ("rules", some (.ref S.Rd)), ("begun", some (.ref S.Bd)), ("x", f1), ("deed", f2), ("names", f3), ("one", f4), ("other", f5), ("walk", f6), ("due", f7), ("told", f8)]), (c.uc, .cl uo), (c.C, .lst (S.cs.map fun c => .ref c.t)), (c.V, .sd (dkvs S.vs)), (S.Ld, .sd (lkvs S.ls)), (S.Rd, .lst (S.rs.map fun r => .ref r.t)), (S.Bd, .lst (S.bs.map (fun b => .ref b.t) ++ [.ref tt])), (354, .ob (tabObj ps')), (347, .ob (tabObj S.p7))] ++ (toldLed S.bs ++ (ownLed S.bs ++ (k.own ++ ((D, .lst (dRefs ds)) :: (dLed ds ++ (extra ++ (New ++ S.P)))))))))) ?_
    · exact sb.perm (pm2c _ _ _ _ _ _ _)
    · exact List.Sublist.cons₂ _ (List.Sublist.cons₂ _ (List.sublist_cons_self ..))
end
end Mine
end
section
open PySem PySem.W PySem.Calls PyProof.Rows PySem.W.X
set_option Elab.async false
set_option maxRecDepth 100000
set_option maxHeartbeats 8000000
set_option linter.unusedVariables false
namespace Mine
local macro_rules | `(tactic| walk_at "mem") => `(tactic| first | assumption | exact List.Mem.head _ | (refine' List.Mem.tail _ ?_; walk_at "mem") | (refine' List.mem_append_right _ ?_; walk_at "mem") | (refine' List.mem_append_left _ ?_; walk_at "mem") | exact Zip.at' (by assumption) | exact Zip.keep (by assumption) (by walk_at "mem") (by intro e; cases e))
local macro_rules | `(tactic| walk_at "zip") => `(tactic| first | assumption | exact Zip.head | exact Zip.tail (by walk_at "zip") | exact Zip.app (by walk_at "zip") | exact Zip.again (by assumption))
local macro_rules | `(tactic| walk_at "kv") => `(tactic| first | with_reducible_and_instances exact List.Mem.head _ | (refine' List.Mem.tail _ ?_; walk_at "kv") | assumption)
local macro_rules | `(tactic| walk_at "put") => `(tactic| first | with_reducible exact Put.head | exact Put.tail (by walk_at "put"))
local macro_rules | `(tactic| walk_at "putd") => `(tactic| first | with_reducible exact PutD.head | with_reducible exact PutD.nil | exact PutD.tail (by decide) (by walk_at "putd"))
local macro_rules | `(tactic| walk_at "nm") => `(tactic| first
  | (refine e_local (by assumption) (by walk_at "mem") (by walk_at "kv") ?_)
  | (refine e_cell (by assumption) (by rfl) (by walk_at "mem") ?_)
  | (refine e_free (by assumption) (by rfl) (by walk_at "mem") ?_))
local macro_rules | `(tactic| walk_at "gl") => `(tactic| refine e_global (by assumption) (by assumption) (by first | with_reducible exact gl_Problem _ | with_reducible exact gl_BacktrackingSolver _ | with_reducible exact gl_Domain _ | with_reducible exact gl_Constraint _ | with_reducible exact gl_FunctionConstraint _ | with_reducible exact gl_law_yes _ | with_reducible exact gl_law_rule _ | with_reducible exact gl_law_due _) ?_)
local macro_rules | `(tactic| walk_at "bi") => `(tactic| refine e_builtin (by assumption) (by assumption) (by first | with_reducible exact bn_isinstance _ | with_reducible exact bn_callable _ | with_reducible exact bn_list _ | with_reducible exact bn_tuple _ | with_reducible exact bn_len _ | with_reducible exact bn_range _ | with_reducible exact bn_next _ | with_reducible exact bn_dict _ | with_reducible exact bn_sorted _ | with_reducible exact bn_iter _) (by first | with_reducible exact bb_isinstance | with_reducible exact bb_callable | with_reducible exact bb_list | with_reducible exact bb_tuple | with_reducible exact bb_len | with_reducible exact bb_range | with_reducible exact bb_next | with_reducible exact bb_dict | with_reducible exact bb_sorted | with_reducible exact bb_iter) ?_)
local macro_rules | `(tactic| walk_at "ns") => `(tactic| (show (_ : List Str).Nodup; dsimp only [List.map, List.nil_append, List.cons_append, List.append_nil]; decide +kernel))
local macro_rules | `(tactic| walk_at "lt") => `(tactic| (show _ < 1000; omega))
local macro_rules | `(tactic| x_close) => `(tactic| exact xq_of (by first | assumption | exact Mem.start _) (by first | rfl | assumption))
local macro_rules | `(tactic| walk_at "ga") => `(tactic| refine i_get (by assumption) (by assumption) (by walk_at "mem") (by exact rfl) (by walk_at "mem") (by first | exact cls110 _ | exact cls186 _ | exact cls336 _) (by kernel_rfl) (by walk_at "kv") (by exact rfl) ?_)
local macro_rules | `(tactic| walk_at "sa") => `(tactic| refine i_set (by assumption) (by assumption) (by walk_at "mem") (by walk_at "zip") (by first | exact cls110 _ | exact cls186 _ | exact cls336 _) (by kernel_rfl) (by kernel_rfl) (by walk_at "putd") (Nat.le_of_ble_eq_true rfl) ?_)
local macro_rules | `(tactic| walk_at "st") => `(tactic| refine e_store (by assumption) (by walk_at "zip") (by walk_at "put") ?_)
local macro_rules | `(tactic| walk_at "nmc") => `(tactic| first
  | (refine e_local (by assumption) (List.Mem.head _) (by first | exact List.Mem.head _ | exact List.Mem.tail _ (List.Mem.head _) | exact List.Mem.tail _ (List.Mem.tail _ (List.Mem.head _))) ?_)
  | (refine e_cell (by assumption) (by rfl) (by walk_at "mem") ?_)
  | (refine e_free (by assumption) (by rfl) (by walk_at "mem") ?_))
local macro_rules | `(tactic| walk_at "subl") => `(tactic| first | exact List.Sublist.refl _ | (refine' List.Sublist.cons _ ?_; walk_at "subl"))
section
variable {w : World} {g : Heap} {os : OsState} {G : Array GenState} {l l' : Led} {s : Shared} {a : Addr} {c c' : Cell} {f : Cell → Led} {A : Around} {E : Value → Shared → Prop}
/-! ## a reset -/
theorem pm4 {α : Type} (A B C D : List α) : (A ++ (B ++ (C ++ D))).Perm (C ++ (B ++ (A ++ D))) := by
  classical
  exact List.perm_iff_count.mpr (fun x => by simp only [List.count_append]; omega)
theorem br4 {d u' : Nat} {c : LC} {S : LS} {f : F8} {NL I fa : Addr} {code : Value} {itc : Cell} {nv : List Value} {uo : Option Value} (B : Base w g) (K : LOk w g c G S) (H : Ok w g os G ((NL, .lst nv) :: (I, itc) :: lawLed c S uo f) s)
    (hd : d ≤ 310) (hu' : u' ≤ 100) :
    wpAny (model P0 w) (AR d u') (execs (bOf 4) (lawEnv c.L c.uc fa code)) (fun fl s' => fl = .next ∧ TurnPost w g os c S I itc False s') NoE s := by
  obtain ⟨f1, f2, f3, f4, f5, f6, f7, f8⟩ := f
  unfold lawLed at H
  dsimp only at H
  have hx := K.pn.x
  have hdx := K.pn.dx
  have hfew := K.pn.few
  have hthree := K.pn.three
  refine wpAny_execs_cons (wpAny_Expr_any (MethodCall_ ?_))
  walk_at "nm"
  refine i_meth (fa := 43) B H (show (c.x, Cell.ob (instObj 110 c.dx)) ∈ _ by walk_at "mem") rfl (show (c.dx, Cell.sd [("_solver", .ref c.Sv), ("_constraints", .ref c.C), ("_variables", .ref c.V)]) ∈ _ by walk_at "mem") (cls110 _) (by kernel_rfl) (by kernel_rfl) rfl ?_
  refine c_fn0 B H (by kernel_rfl) (wpAny_call (spec_reset (dx := c.dx) (C := c.C) (V := c.V) (S := c.Sv) (cs := S.cs.map fun c => .ref c.t) (vs := dkvs S.vs) B H (by walk_at "mem") (by walk_at "mem") (by walk_at "zip") (by walk_at "zip") (by rw [List.length_map]; omega) (by simp [dkvs]; omega) (by omega) (by omega) (fun s₁ H₁ => ?_)))
  refine wpAny_execs_cons (wpAny_Assign_Name (e_dict0 H₁ (fun Ld s₂ H₂ => ?_)))
  refine e_store H₂ (by walk_at "zip") (by walk_at "put") (fun s₃ H₃ => ?_)
  refine wpAny_execs_cons (wpAny_Assign_Name (List_ (args_nil (e_newList H₃ (fun Rd s₄ H₄ => ?_) (Nat.zero_le _)))))
  refine e_store H₄ (by walk_at "zip") (by walk_at "put") (fun s₅ H₅ => ?_)
  clear H₄ H₃ H₂ H₁
  refine wpAny_execs_nil ⟨rfl, G, { S with vs := [], cs := [], ls := [], rs := [], Ld := Ld, Rd := Rd }, uo, ⟨f1, f2, f3, f4, f5, f6, f7, f8⟩, ?_, fun p hp => hp, id, fun h => h.elim, ?_⟩
  · refine ⟨⟨K.pn.x, K.pn.dx, K.pn.S, K.pn.dS, (fun c hc => by cases hc), (fun c hc => by cases hc), List.nodup_nil, Nat.zero_le _, Nat.zero_le _⟩, ⟨(fun c hc => by cases hc), (fun c hc => by cases hc), List.nodup_nil, Nat.zero_le _, Nat.zero_le _⟩, rfl, rfl, rfl, K.bg, K.gd, K.t4, K.t7, K.bare, K.bl⟩
  · unfold lawLed
    dsimp only
    have sb := H₅.sub (l' := [(Rd, Cell.lst [])] ++ ([(Ld, Cell.sd [])] ++ ([(I, itc), (c.L, .ns [("script", some c.sc), ("problem", some (.ref c.x)), ("lists", some (.ref Ld)), ("rules", some (.ref Rd)), ("begun", some (.ref S.Bd)), ("x", f1), ("deed", f2), ("names", f3), ("one", f4), ("other", f5), ("walk", f6), ("due", f7), ("told", f8)]), (c.uc, .cl uo), (c.C, .lst []), (c.V, .sd [])] ++ ([(S.Bd, .lst (S.bs.map fun b => .ref b.t)), (354, .ob (tabObj S.p4)), (347, .ob (tabObj S.p7))] ++ (toldLed S.bs ++ (ownLed S.bs ++ S.P)))))) ?_
    · exact sb.perm (pm4 _ _ _ _)
    · exact List.Sublist.cons₂ _ (List.Sublist.cons₂ _ (List.Sublist.cons _ (List.Sublist.cons₂ _ (List.Sublist.cons₂ _ (List.Sublist.cons₂ _ (List.Sublist.cons₂ _ (List.Sublist.cons₂ _ (List.Sublist.cons _ (List.sublist_cons_self ..)))))))))
end
end Mine
end
section
open PySem PySem.W PySem.Calls PyProof.Rows PySem.W.X
set_option Elab.async false
set_option maxRecDepth 100000
set_option maxHeartbeats 8000000
set_option linter.unusedVariables false
namespace Mine
local macro_rules | `(tactic| walk_at "mem") => `(tactic| first | assumption | exact List.Mem.head _ | (refine' List.Mem.tail _ ?_; walk_at "mem") | (refine' List.mem_append_right _ ?_; walk_at "mem") | (refine' List.mem_append_left _ ?_; walk_at "mem") | exact Zip.at' (by assumption) | exact Zip.keep (by assumption) (by walk_at "mem") (by intro e; cases e))
local macro_rules | `(tactic| walk_at "zip") => `(tactic| first | assumption | exact Zip.head | exact Zip.tail (by walk_at "zip") | exact Zip.app (by walk_at "zip") | exact Zip.again (by assumption))
local macro_rules | `(tactic| walk_at "kv") => `(tactic| first | with_reducible_and_instances exact List.Mem.head _ | (refine' List.Mem.tail _ ?_; walk_at "kv") | assumption)
local macro_rules | `(tactic| walk_at "put") => `(tactic| first | with_reducible exact Put.head | exact Put.tail (by walk_at "put"))
local macro_rules | `(tactic| walk_at "putd") => `(tactic| first | with_reducible exact PutD.head | with_reducible exact PutD.nil | exact PutD.tail (by decide) (by walk_at "putd"))
local macro_rules | `(tactic| walk_at "nm") => `(tactic| first
  | (refine e_local (by assumption) (by walk_at "mem") (by walk_at "kv") ?_)
  | (refine e_cell (by assumption) (by rfl) (by walk_at "mem") ?_)
  | (refine e_free (by assumption) (by rfl) (by walk_at "mem") ?_))
local macro_rules | `(tactic| walk_at "gl") => `(tactic| refine e_global (by assumption) (by assumption) (by first | with_reducible exact gl_Problem _ | with_reducible exact gl_BacktrackingSolver _ | with_reducible exact gl_Domain _ | with_reducible exact gl_Constraint _ | with_reducible exact gl_FunctionConstraint _ | with_reducible exact gl_law_yes _ | with_reducible exact gl_law_rule _ | with_reducible exact gl_law_due _) ?_)
local macro_rules | `(tactic| walk_at "bi") => `(tactic| refine e_builtin (by assumption) (by assumption) (by first | with_reducible exact bn_isinstance _ | with_reducible exact bn_callable _ | with_reducible exact bn_list _ | with_reducible exact bn_tuple _ | with_reducible exact bn_len _ | with_reducible exact bn_range _ | with_reducible exact bn_next _ | with_reducible exact bn_dict _ | with_reducible exact bn_sorted _ | with_reducible exact bn_iter _) (by first | with_reducible exact bb_isinstance | with_reducible exact bb_callable | with_reducible exact bb_list | with_reducible exact bb_tuple | with_reducible exact bb_len | with_reducible exact bb_range | with_reducible exact bb_next | with_reducible exact bb_dict | with_reducible exact bb_sorted | with_reducible exact bb_iter) ?_)
local macro_rules | `(tactic| walk_at "ns") => `(tactic| (show (_ : List Str).Nodup; dsimp only [List.map, List.nil_append, List.cons_append, List.append_nil]; decide +kernel))
local macro_rules | `(tactic| walk_at "lt") => `(tactic| (show _ < 1000; omega))
local macro_rules | `(tactic| x_close) => `(tactic| exact xq_of (by first | assumption | exact Mem.start _) (by first | rfl | assumption))
local macro_rules | `(tactic| walk_at "ga") => `(tactic| refine i_get (by assumption) (by assumption) (by walk_at "mem") (by exact rfl) (by walk_at "mem") (by first | exact cls110 _ | exact cls186 _ | exact cls336 _) (by kernel_rfl) (by walk_at "kv") (by exact rfl) ?_)
local macro_rules | `(tactic| walk_at "sa") => `(tactic| refine i_set (by assumption) (by assumption) (by walk_at "mem") (by walk_at "zip") (by first | exact cls110 _ | exact cls186 _ | exact cls336 _) (by kernel_rfl) (by kernel_rfl) (by walk_at "putd") (Nat.le_of_ble_eq_true rfl) ?_)
local macro_rules | `(tactic| walk_at "st") => `(tactic| refine e_store (by assumption) (by walk_at "zip") (by walk_at "put") ?_)
local macro_rules | `(tactic| walk_at "nmc") => `(tactic| first
  | (refine e_local (by assumption) (List.Mem.head _) (by first | exact List.Mem.head _ | exact List.Mem.tail _ (List.Mem.head _) | exact List.Mem.tail _ (List.Mem.tail _ (List.Mem.head _))) ?_)
  | (refine e_cell (by assumption) (by rfl) (by walk_at "mem") ?_)
  | (refine e_free (by assumption) (by rfl) (by walk_at "mem") ?_))
local macro_rules | `(tactic| walk_at "subl") => `(tactic| first | exact List.Sublist.refl _ | (refine' List.Sublist.cons _ ?_; walk_at "subl"))
section
variable {w : World} {g : Heap} {os : OsState} {G : Array GenState} {l l' : Led} {s : Shared} {a : Addr} {c c' : Cell} {f : Cell → Led} {A : Around} {E : Value → Shared → Prop}
/-! ## all solutions against what is due -/
theorem pm5a {α : Type} (A B X C D E F : List α) : (A ++ (B ++ (X ++ (C ++ (D ++ (E ++ F)))))).Perm (D ++ (C ++ (E ++ (X ++ (A ++ (B ++ F)))))) := by
  classical
  exact List.perm_iff_count.mpr (fun x => by simp only [List.count_append]; omega)
theorem pm5b {α : Type} (A B C D E F X K L M N P : List α) : (A ++ (B ++ (C ++ (D ++ (E ++ (F ++ (X ++ (K ++ (L ++ (M ++ (N ++ P))))))))))).Perm (X ++ (E ++ (A ++ (F ++ (M ++ (N ++ (B ++ (C ++ (D ++ (K ++ (L ++ P))))))))))) := by
  classical
  exact List.perm_iff_count.mpr (fun x => by simp only [List.count_append]; omega)
theorem law_ask {d u' : Nat} {c : LC} {S : LS} {f : F8} {X : Led} {fa : Addr} {code : Value} {uo : Option Value} {p1 p2 p3 p4 p5 p6 p7 : Pos} {pl : Sem Bool} {op : CmpOp} {n : Nat} {r : Bool} {Q : Value → Shared → Prop} (B : Base w g) (K : LOk w g c G S) (H : Ok w g os G (X ++ lawLed c S uo f) s)
    (hd : d ≤ 310) (hu' : u' ≤ 100) (hr : (op = .Eq ∧ n = 2 ∧ r = true) ∨ (op = .NotEq ∧ n = 3 ∧ r = false))
    (he : eval (.Call (.Attribute (.Name "problem" p1) "getSolutions" p2) [] [] p3) (lawEnv c.L c.uc fa code) = (do
      let ov ← eval (.Name "problem" p1) (lawEnv c.L c.uc fa code)
      standAt p2.atName
      let (f, first) ← holding [ov] (getMethod ov "getSolutions" pl)
      callWith p3 f first (backTo p3 (starEach [] (lawEnv c.L c.uc fa code))) []))
    (h : ∀ G' P' ps' s', (∀ p ∈ S.P, p ∈ P') → LOk w g c G' { S with P := P', p4 := ps' } → Ok w g os G' (X ++ lawLed c { S with P := P', p4 := ps' } uo f) s' → Q (.bool r) s') :
    wpAny (model P0 w) (AR d u') (eval (.Call (.Attribute (.Name "problem" p1) "getSolutions" p2) [] [] p3) (lawEnv c.L c.uc fa code)) (fun a s₁ => wpAny (model P0 w) (AR d u') (eval (.Call (.Name "_law_due" p4) [.Name "lists" p5, .Name "rules" p6] [] p7) (lawEnv c.L c.uc fa code)) (fun b s₂ => wpAny (model P0 w) (AR d u') (compareOp op a b) Q NoE s₂) NoE s₁) NoE s := by
  obtain ⟨f1, f2, f3, f4, f5, f6, f7, f8⟩ := f
  obtain ⟨lw1, lw2, lw3, lw4⟩ := K.law
  unfold lawLed at H
  dsimp only at H
  have hx := K.pn.x
  have hdx := K.pn.dx
  refine MethodCall_ ?_ he
  walk_at "nm"
  refine i_meth (fa := 93) B H (show (c.x, Cell.ob (instObj 110 c.dx)) ∈ _ by walk_at "mem") rfl (show (c.dx, Cell.sd [("_solver", .ref c.Sv), ("_constraints", .ref c.C), ("_variables", .ref c.V)]) ∈ _ by walk_at "mem") (cls110 _) (by kernel_rfl) (by kernel_rfl) rfl ?_
  refine c_fn0 B H (by kernel_rfl) (wpAny_call (spec_psols B H K.pn (fun p hp => by walk_at "mem") (by walk_at "mem") (by walk_at "mem") (by omega) (by omega) lw3 (fun D1 ds1 G' s₁ hds1 hge H₁ => ?_)))
  replace H₁ := H₁.perm (pm5a [_] (dLed ds1) X [_, _, _, _, _, _, _] [_] [_] (toldLed S.bs ++ (ownLed S.bs ++ S.P)))
  refine Call_ ?_
  walk_at "gl"
  refine c_fn B (by kernel_rfl) (args_cons ?_)
  walk_at "nm"
  refine args_cons ?_
  walk_at "nm"
  refine args_nil ⟨⟨_, _, _, H₁⟩, wpAny_call (spec_due (P := S.P) (PL := S.P) B H₁ K.ln (fun p hp => by walk_at "mem") (by walk_at "mem") (by walk_at "mem") (fun p hp => by walk_at "mem") K.t4 (by omega) (by omega) (fun D2 ds2 ps' extra s₂ hds2 ht' H₂ => ?_))⟩
  have hm1 : ∀ x ∈ ds1, x.2 ∈ solsOf S.vs S.cs := fun x hx => by rw [← hds1]; exact List.mem_map_of_mem hx
  have hm2 : ∀ x ∈ ds2, x.2 ∈ dueL S.ls S.rs := fun x hx => by rw [← hds2]; exact List.mem_map_of_mem hx
  refine l_cmp H₂ (p := D1) (q := D2) (ds := ds1) (es := ds2) (by walk_at "mem") (.tail _ (.head _)) (fun p hp => by walk_at "mem") (fun p hp => by walk_at "mem") ?_ (fun x hx => lw2 _ (hm1 x hx)) (fun x hx => lw4 _ (hm2 x hx)) ?_ n r hr ?_
  · have e1 : ds1.map (fun x => cont x.2) = (ds1.map (·.2)).map cont := by rw [List.map_map]; rfl
    have e2 : ds2.map (fun x => cont x.2) = (ds2.map (·.2)).map cont := by rw [List.map_map]; rfl
    rw [e1, e2, hds1, hds2, lw1]
  · show u' + 4 < 9900
    omega
  have gr : ∀ p ∈ S.P, p ∈ (D2, Cell.lst (dRefs ds2)) :: (dLed ds2 ++ (extra ++ ((D1, Cell.lst (dRefs ds1)) :: (dLed ds1 ++ S.P)))) := fun p hp => .tail _ (List.mem_append_right _ (List.mem_append_right _ (.tail _ (List.mem_append_right _ hp))))
  refine h G' _ ps' s₂ gr ⟨K.pn.mono gr, K.ln.mono gr, K.e1, K.e2, K.nm, fun b hb => (K.bg b hb).mono gr hge, K.gd, ?_, K.t7.mono gr, hge.2 K.bare, K.bl⟩ ?_
  · exact ht'.mono fun p hp => .tail _ (List.mem_append_right _ (by
      rcases List.mem_append.mp hp with hp | hp
      · exact List.mem_append_left _ hp
      · exact List.mem_append_right _ (.tail _ (List.mem_append_right _ hp))))
  · unfold lawLed
    dsimp only
    exact H₂.perm (pm5b [_] [_] (dLed ds2) extra [_, _, _, _, _, _, _] [_] X [_] (dLed ds1) (toldLed S.bs) (ownLed S.bs) S.P)
theorem br5 {d u' : Nat} {c : LC} {S : LS} {f : F8} {NL I fa : Addr} {code : Value} {itc : Cell} {nv : List Value} {uo : Option Value} (B : Base w g) (K : LOk w g c G S) (H : Ok w g os G ((NL, .lst nv) :: (I, itc) :: lawLed c S uo f) s)
    (hd : d ≤ 310) (hu' : u' ≤ 100) :
    wpAny (model P0 w) (AR d u') (execs (chainO 5 (loopBody.drop 3)) (lawEnv c.L c.uc fa code)) (fun fl s' => fl = .next ∧ TurnPost w g os c S I itc False s') NoE s := by
  refine wpAny_execs_cons (wpAny_If (wpAny_isTrue_Compare1 ?_))
  refine law_ask (X := [(NL, .lst nv), (I, itc)]) B K H hd hu' (.inr ⟨rfl, rfl, rfl⟩) rfl (fun G' P' ps' s₁ gr K' H₁ => ?_)
  refine wpAny_truthy_bool ?_
  refine wpAny_execs_nil (wpAny_execs_nil ⟨rfl, G', _, uo, f, K', gr, id, fun h => h.elim, H₁.sub (List.sublist_cons_self ..)⟩)
end
end Mine
end
section
open PySem PySem.W PySem.Calls PyProof.Rows PySem.W.X
set_option Elab.async false
set_option maxRecDepth 100000
set_option maxHeartbeats 8000000
set_option linter.unusedVariables false
namespace Mine
local macro_rules | `(tactic| walk_at "mem") => `(tactic| first | assumption | exact List.Mem.head _ | (refine' List.Mem.tail _ ?_; walk_at "mem") | (refine' List.mem_append_right _ ?_; walk_at "mem") | (refine' List.mem_append_left _ ?_; walk_at "mem") | exact Zip.at' (by assumption) | exact Zip.keep (by assumption) (by walk_at "mem") (by intro e; cases e))
local macro_rules | `(tactic| walk_at "zip") => `(tactic| first | assumption | exact Zip.head | exact Zip.tail (by walk_at "zip") | exact Zip.app (by walk_at "zip") | exact Zip.again (by assumption))
local macro_rules | `(tactic| walk_at "kv") => `(tactic| first | with_reducible_and_instances exact List.Mem.head _ | (refine' List.Mem.tail _ ?_; walk_at "kv") | assumption)
local macro_rules | `(tactic| walk_at "put") => `(tactic| first | with_reducible exact Put.head | exact Put.tail (by walk_at "put"))
local macro_rules | `(tactic| walk_at "putd") => `(tactic| first | with_reducible exact PutD.head | with_reducible exact PutD.nil | exact PutD.tail (by decide) (by walk_at "putd"))
local macro_rules | `(tactic| walk_at "nm") => `(tactic| first
  | (refine e_local (by assumption) (by walk_at "mem") (by walk_at "kv") ?_)
  | (refine e_cell (by assumption) (by rfl) (by walk_at "mem") ?_)
  | (refine e_free (by assumption) (by rfl) (by walk_at "mem") ?_))
local macro_rules | `(tactic| walk_at "gl") => `(tactic| refine e_global (by assumption) (by assumption) (by first | with_reducible exact gl_Problem _ | with_reducible exact gl_BacktrackingSolver _ | with_reducible exact gl_Domain _ | with_reducible exact gl_Constraint _ | with_reducible exact gl_FunctionConstraint _ | with_reducible exact gl_law_yes _ | with_reducible exact gl_law_rule _ | with_reducible exact gl_law_due _) ?_)
local macro_rules | `(tactic| walk_at "bi") => `(tactic| refine e_builtin (by assumption) (by assumption) (by first | with_reducible exact bn_isinstance _ | with_reducible exact bn_callable _ | with_reducible exact bn_list _ | with_reducible exact bn_tuple _ | with_reducible exact bn_len _ | with_reducible exact bn_range _ | with_reducible exact bn_next _ | with_reducible exact bn_dict _ | with_reducible exact bn_sorted _ | with_reducible exact bn_iter _) (by first | with_reducible exact bb_isinstance | with_reducible exact bb_callable | with_reducible exact bb_list | with_reducible exact bb_tuple | with_reducible exact bb_len | with_reducible exact bb_range | with_reducible exact bb_next | with_reducible exact bb_dict | with_reducible exact bb_sorted | with_reducible exact bb_iter) ?_)
local macro_rules | `(tactic| walk_at "ns") => `(tactic| (show (_ : List Str).Nodup; dsimp only [List.map, List.nil_append, List.cons_append, List.append_nil]; decide +kernel))
local macro_rules | `(tactic| walk_at "lt") => `(tactic| (show _ < 1000; omega))
local macro_rules | `(tactic| x_close) => `(tactic| exact xq_of (by first | assumption | exact Mem.start _) (by first | rfl | assumption))
local macro_rules | `(tactic| walk_at "ga") => `(tactic| refine i_get (by assumption) (by assumption) (by walk_at "mem") (by exact rfl) (by walk_at "mem") (by first | exact cls110 _ | exact cls186 _ | exact cls336 _) (by kernel_rfl) (by walk_at "kv") (by exact rfl) ?_)
local macro_rules | `(tactic| walk_at "sa") => `(tactic| refine i_set (by assumption) (by assumption) (by walk_at "mem") (by walk_at "zip") (by first | exact cls110 _ | exact cls186 _ | exact cls336 _) (by kernel_rfl) (by kernel_rfl) (by walk_at "putd") (Nat.le_of_ble_eq_true rfl) ?_)
local macro_rules | `(tactic| walk_at "st") => `(tactic| refine e_store (by assumption) (by walk_at "zip") (by walk_at "put") ?_)
local macro_rules | `(tactic| walk_at "nmc") => `(tactic| first
  | (refine e_local (by assumption) (List.Mem.head _) (by first | exact List.Mem.head _ | exact List.Mem.tail _ (List.Mem.head _) | exact List.Mem.tail _ (List.Mem.tail _ (List.Mem.head _))) ?_)
  | (refine e_cell (by assumption) (by rfl) (by walk_at "mem") ?_)
  | (refine e_free (by assumption) (by rfl) (by walk_at "mem") ?_))
local macro_rules | `(tactic| walk_at "subl") => `(tactic| first | exact List.Sublist.refl _ | (refine' List.Sublist.cons _ ?_; walk_at "subl"))
section
variable {w : World} {g : Heap} {os : OsState} {G : Array GenState} {l l' : Led} {s : Shared} {a : Addr} {c c' : Cell} {f : Cell → Led} {A : Around} {E : Value → Shared → Prop}
/-! ## told.append(dict(one.items())); one.clear() -/
def takeB1 : List Stmt := match bOf 3 with | [_, .For _ _ b _ _] => b | _ => []
def takeB2 : List Stmt := match lawBody with | [_, _, _, _, _, .For _ _ [.For _ _ b _ _, _] _ _, _] => b | _ => []
theorem take {d u' : Nat} {c : LC} {fa : Addr} {code : Value} {bd : List Stmt} {kvs : List (Str × Option Value)} {T dd : Addr} {tl : List (Addr × List (Str × Value))} {sol : List (Str × Value)} (B : Base w g) (hbd : bd = takeB1 ∨ bd = takeB2) (H : Ok w g os G ((dd, .sd sol) :: (T, .lst (dRefs tl)) :: l) s) (hL : (c.L, .ns kvs) ∈ l)
    (hk1 : (("told" : Str), some (Value.ref T)) ∈ kvs) (hk2 : (("one" : Str), some (Value.ref dd)) ∈ kvs) (hz : tl.length ≤ 1000) (hs : sol.length ≤ 1000) (hu' : u' ≤ 100) :
    wpAny (model P0 w) (AR d u') (execs bd (lawEnv c.L c.uc fa code)) (fun fl s' => fl = .next ∧ ∃ N, Ok w g os G ((T, .lst (dRefs (tl ++ [(N, sol)]))) :: (N, .sd sol) :: l) s') NoE s := by
  rcases hbd with rfl | rfl
  all_goals
    refine wpAny_execs_cons (wpAny_Expr_any (m_bi PySem.F.plainAttrs_list PySem.F.slot_list_append PySem.F.type_list_append ?_))
    walk_at "nm"
    refine ⟨_, _, _, _, _, _, H, rfl, (show (T, Cell.lst (dRefs tl)) ∈ _ by walk_at "mem"), rfl, args_cons (Call_ ?_)⟩
    walk_at "bi"
    refine PyProof.Rows.callWith_type1 (args_cons (m_bi0 PySem.F.plainAttrs_dict PySem.F.slot_dict_items PySem.F.type_dict_items ?_))
    walk_at "nm"
    refine ⟨_, _, _, _, _, _, H, rfl, List.Mem.head _, rfl, d_items H (.head _) (fun V s₁ H₁ => ?_)⟩
    refine args_nil (d_of_items H₁ (.head _) (.tail _ (.head _)) hs (fun N s₂ H₂ => ?_))
    refine args_nil (b_append H₂ (.tail (.tail (.tail .head))) (by simp only [dRefs, List.length_map]; omega) (fun s₃ H₃ => ?_))
    refine wpAny_execs_cons (wpAny_Expr_any (m_bi0 PySem.F.plainAttrs_dict PySem.F.slot_dict_clear PySem.F.type_dict_clear ?_))
    walk_at "nm"
    refine ⟨_, _, _, _, _, _, H₃, rfl, (show (dd, Cell.sd sol) ∈ _ by walk_at "mem"), rfl, d_clear H₃ (.tail (.tail .head)) (by omega) (fun s₄ H₄ => wpAny_execs_nil ⟨rfl, N, ?_⟩)⟩
    have e : dRefs (tl ++ [(N, sol)]) = dRefs tl ++ [.ref N] := by unfold dRefs; rw [List.map_append]; rfl
    rw [e]
    exact (H₄.sub (l' := (N, .sd sol) :: (T, .lst (dRefs tl ++ [.ref N])) :: l) (List.Sublist.cons₂ _ (List.Sublist.cons _ (List.sublist_cons_self ..)))).perm (List.Perm.swap ..)
end
end Mine
end
section
open PySem PySem.W PySem.Calls PyProof.Rows PySem.W.X
set_option Elab.async false
set_option maxRecDepth 100000
set_option maxHeartbeats 8000000
set_option linter.unusedVariables false
namespace Mine
local macro_rules | `(tactic| walk_at "mem") => `(tactic| first | assumption | exact List.Mem.head _ | (refine' List.Mem.tail _ ?_; walk_at "mem") | (refine' List.mem_append_right _ ?_; walk_at "mem") | (refine' List.mem_append_left _ ?_; walk_at "mem") | exact Zip.at' (by assumption) | exact Zip.keep (by assumption) (by walk_at "mem") (by intro e; cases e))
local macro_rules | `(tactic| walk_at "zip") => `(tactic| first | assumption | exact Zip.head | exact Zip.tail (by walk_at "zip") | exact Zip.app (by walk_at "zip") | exact Zip.again (by assumption))
local macro_rules | `(tactic| walk_at "kv") => `(tactic| first | with_reducible_and_instances exact List.Mem.head _ | (refine' List.Mem.tail _ ?_; walk_at "kv") | assumption)
local macro_rules | `(tactic| walk_at "put") => `(tactic| first | with_reducible exact Put.head | exact Put.tail (by walk_at "put"))
local macro_rules | `(tactic| walk_at "putd") => `(tactic| first | with_reducible exact PutD.head | with_reducible exact PutD.nil | exact PutD.tail (by decide) (by walk_at "putd"))
local macro_rules | `(tactic| walk_at "nm") => `(tactic| first
  | (refine e_local (by assumption) (by walk_at "mem") (by walk_at "kv") ?_)
  | (refine e_cell (by assumption) (by rfl) (by walk_at "mem") ?_)
  | (refine e_free (by assumption) (by rfl) (by walk_at "mem") ?_))
local macro_rules | `(tactic| walk_at "gl") => `(tactic| refine e_global (by assumption) (by assumption) (by first | with_reducible exact gl_Problem _ | with_reducible exact gl_BacktrackingSolver _ | with_reducible exact gl_Domain _ | with_reducible exact gl_Constraint _ | with_reducible exact gl_FunctionConstraint _ | with_reducible exact gl_law_yes _ | with_reducible exact gl_law_rule _ | with_reducible exact gl_law_due _) ?_)
local macro_rules | `(tactic| walk_at "bi") => `(tactic| refine e_builtin (by assumption) (by assumption) (by first | with_reducible exact bn_isinstance _ | with_reducible exact bn_callable _ | with_reducible exact bn_list _ | with_reducible exact bn_tuple _ | with_reducible exact bn_len _ | with_reducible exact bn_range _ | with_reducible exact bn_next _ | with_reducible exact bn_dict _ | with_reducible exact bn_sorted _ | with_reducible exact bn_iter _) (by first | with_reducible exact bb_isinstance | with_reducible exact bb_callable | with_reducible exact bb_list | with_reducible exact bb_tuple | with_reducible exact bb_len | with_reducible exact bb_range | with_reducible exact bb_next | with_reducible exact bb_dict | with_reducible exact bb_sorted | with_reducible exact bb_iter) ?_)
local macro_rules | `(tactic| walk_at "ns") => `(tactic| (show (_ : List Str).Nodup; dsimp only [List.map, List.nil_append, List.cons_append, List.append_nil]; decide +kernel))
local macro_rules | `(tactic| walk_at "lt") => `(tactic| (show _ < 1000; omega))
local macro_rules | `(tactic| x_close) => `(tactic| exact xq_of (by first | assumption | exact Mem.start _) (by first | rfl | assumption))
local macro_rules | `(tactic| walk_at "ga") => `(tactic| refine i_get (by assumption) (by assumption) (by walk_at "mem") (by exact rfl) (by walk_at "mem") (by first | exact cls110 _ | exact cls186 _ | exact cls336 _) (by kernel_rfl) (by walk_at "kv") (by exact rfl) ?_)
local macro_rules | `(tactic| walk_at "sa") => `(tactic| refine i_set (by assumption) (by assumption) (by walk_at "mem") (by walk_at "zip") (by first | exact cls110 _ | exact cls186 _ | exact cls336 _) (by kernel_rfl) (by kernel_rfl) (by walk_at "putd") (Nat.le_of_ble_eq_true rfl) ?_)
local macro_rules | `(tactic| walk_at "st") => `(tactic| refine e_store (by assumption) (by walk_at "zip") (by walk_at "put") ?_)
local macro_rules | `(tactic| walk_at "nmc") => `(tactic| first
  | (refine e_local (by assumption) (List.Mem.head _) (by first | exact List.Mem.head _ | exact List.Mem.tail _ (List.Mem.head _) | exact List.Mem.tail _ (List.Mem.tail _ (List.Mem.head _))) ?_)
  | (refine e_cell (by assumption) (by rfl) (by walk_at "mem") ?_)
  | (refine e_free (by assumption) (by rfl) (by walk_at "mem") ?_))
local macro_rules | `(tactic| walk_at "subl") => `(tactic| first | exact List.Sublist.refl _ | (refine' List.Sublist.cons _ ?_; walk_at "subl"))
section
variable {w : World} {g : Heap} {os : OsState} {G : Array GenState} {l l' : Led} {s : Shared} {a : Addr} {c c' : Cell} {f : Cell → Led} {A : Around} {E : Value → Shared → Prop}
/-! ## one walk goes on -/
theorem pm3a {α : Type} (W O T H A Z P Q R : List α) : (W ++ (O ++ (T ++ (H ++ (A ++ (Z ++ (P ++ (Q ++ R)))))))).Perm (H ++ ((A ++ (T ++ Z)) ++ ((P ++ (O ++ Q)) ++ (W ++ R)))) := by
  classical
  exact List.perm_iff_count.mpr (fun x => by simp only [List.count_append]; omega)
theorem pm3b {α : Type} (O T H A Z P Q R : List α) : (H ++ ((A ++ (T ++ Z)) ++ ((P ++ (O ++ Q)) ++ R))).Perm (O ++ (T ++ (H ++ (A ++ (Z ++ (P ++ (Q ++ R))))))) := by
  classical
  exact List.perm_iff_count.mpr (fun x => by simp only [List.count_append]; omega)
theorem pm3c {α : Type} (A B C D E : List α) : (A ++ (B ++ (C ++ (D ++ E)))).Perm (B ++ (D ++ (A ++ (C ++ E)))) := by
  classical
  exact List.perm_iff_count.mpr (fun x => by simp only [List.count_append]; omega)
theorem pm3d {α : Type} (A B C D : List α) : (A ++ (B ++ (C ++ D))).Perm (C ++ (A ++ (B ++ D))) := by
  classical
  exact List.perm_iff_count.mpr (fun x => by simp only [List.count_append]; omega)
def headLed (c : LC) (S : LS) (uo : Option Value) (f : F8) : Led :=
  [(c.L, .ns [("script", some c.sc), ("problem", some (.ref c.x)), ("lists", some (.ref S.Ld)), ("rules", some (.ref S.Rd)), ("begun", some (.ref S.Bd)), ("x", f.x), ("deed", f.deed), ("names", f.names), ("one", f.one), ("other", f.other), ("walk", f.walk), ("due", f.due), ("told", f.told)]),
  (c.uc, .cl uo), (c.C, .lst (S.cs.map fun c => .ref c.t)), (c.V, .sd (dkvs S.vs)), (S.Ld, .sd (lkvs S.ls)), (S.Rd, .lst (S.rs.map fun r => .ref r.t)), (S.Bd, .lst (S.bs.map fun b => .ref b.t)), (354, .ob (tabObj S.p4)), (347, .ob (tabObj S.p7))]
def restLed (A Z : List Bg) (P : Led) : Led := toldLed A ++ (toldLed Z ++ (ownLed A ++ (ownLed Z ++ P)))
theorem law_open {c : LC} {S : LS} {uo : Option Value} {f : F8} {A Z : List Bg} {b : Bg} {X : Led} (e : S.bs = A ++ b :: Z) (H : Ok w g os G (X ++ lawLed c S uo f) s) :
    Ok w g os G (b.k.own ++ ((b.told, .lst (dRefs b.tl)) :: (X ++ headLed c S uo f ++ restLed A Z S.P))) s := by
  unfold lawLed at H
  have e1 : toldLed S.bs = toldLed A ++ ([(b.told, .lst (dRefs b.tl))] ++ toldLed Z) := by rw [e]; unfold toldLed; rw [List.map_append]; rfl
  have e2 : ownLed S.bs = ownLed A ++ (b.k.own ++ ownLed Z) := by rw [e]; unfold ownLed; rw [List.flatMap_append]; rfl
  rw [e1, e2] at H
  have q := (H.perm (l' := (X ++ headLed c S uo f) ++ ((toldLed A ++ ([(b.told, .lst (dRefs b.tl))] ++ toldLed Z)) ++ ((ownLed A ++ (b.k.own ++ ownLed Z)) ++ S.P))) (by rw [List.append_assoc X]; exact .refl _)).perm (pm3b _ _ _ _ _ _ _ _)
  exact q
theorem bs_step {c : LC} {S : LS} {A Z : List Bg} {b : Bg} {G' : Array GenState} {own' W : Led} {r : List (List (Str × Value))} {tl' : List (Addr × List (Str × Value))} (K : LOk w g c G S) (e : S.bs = A ++ b :: Z) (gx : GEx b.k.gi G G') (hk : WkOk w g G' { b.k with own := own', sols := r })
    (htl : ∀ p ∈ dLed tl', p ∈ W ++ S.P) (hsame : b.dl.map (fun x => cont x.2) = tl'.map (fun x => cont x.2) ++ r.map cont) (hitl : ∀ x ∈ tl', AllInt x.2) (hr : ∀ x ∈ r, x ∈ b.k.sols) :
    LOk w g c G' { S with bs := A ++ { b with k := { b.k with own := own', sols := r }, tl := tl' } :: Z, P := W ++ S.P } ∧
    ∀ X uo f s', Ok w g os G' (W ++ (own' ++ ((b.told, .lst (dRefs tl')) :: (X ++ headLed c S uo f ++ restLed A Z S.P)))) s' → Ok w g os G' (X ++ lawLed c { S with bs := A ++ { b with k := { b.k with own := own', sols := r }, tl := tl' } :: Z, P := W ++ S.P } uo f) s' := by
  have gr : ∀ p ∈ S.P, p ∈ W ++ S.P := fun p hp => List.mem_append_right _ hp
  have gd := K.gd
  rw [e, List.pairwise_append, List.pairwise_cons] at gd
  obtain ⟨gA, ⟨gb, gZ⟩, gAZ⟩ := gd
  have hb := K.bg b (by rw [e]; simp)
  have oth : ∀ y ∈ S.bs, (y.k.gi ≠ b.k.gi ∨ b.k.gi = none) → BgOk w g (W ++ S.P) G' y := by
    intro y hy hn
    have M := K.bg y hy
    exact ⟨gr _ M.t, gr _ M.due, fun p hp => gr _ (M.dl p hp), fun p hp => gr _ (M.tl p hp), fun p hp => gr _ (M.need p hp), M.k.ex (k' := y.k) gx hn, fun j hj => by rw [gx.1]; exact M.gi j hj, M.same, M.idl, M.itl, M.iso, M.len, M.isl⟩
  refine ⟨⟨K.pn.mono gr, K.ln.mono gr, K.e1, K.e2, K.nm, ?_, ?_, K.t4.mono gr, K.t7.mono gr, gx.2.2 K.bare, ?_⟩, ?_⟩
  · intro y hy
    rcases List.mem_append.mp hy with hy | hy
    · refine oth y (by rw [e]; exact List.mem_append_left _ hy) ?_
      rcases gAZ y hy b (.head _) with h | h
      · cases q : b.k.gi with
        | none => exact .inr rfl
        | some j => exact .inl (by rw [h]; intro h; cases h)
      · exact .inl h
    · rcases List.mem_cons.mp hy with rfl | hy
      · exact ⟨gr _ hb.t, gr _ hb.due, fun p hp => gr _ (hb.dl p hp), htl, fun p hp => gr _ (hb.need p hp), hk, fun j hj => by rw [gx.1]; exact hb.gi j hj, hsame, hb.idl, hitl, fun x hx => hb.iso x (hr x hx), hb.len, fun x hx => hb.isl x (hr x hx)⟩
      · refine oth y (by rw [e]; exact List.mem_append_right _ (.tail _ hy)) ?_
        rcases gb y hy with h | h
        · exact .inr h
        · exact .inl fun h' => h h'.symm
  · rw [List.pairwise_append, List.pairwise_cons]
    refine ⟨gA, ⟨gb, gZ⟩, fun a ha y hy => ?_⟩
    rcases List.mem_cons.mp hy with rfl | hy
    · exact gAZ a ha b (.head _)
    · exact gAZ a ha y (.tail _ hy)
  · have := K.bl
    rw [e] at this
    simpa using this
  · intro X uo f s' H
    have e0 : S.bs.map (fun b => Value.ref b.t) = (A ++ { b with k := { b.k with own := own', sols := r }, tl := tl' } :: Z).map (fun b => Value.ref b.t) := by rw [e]; simp
    have e1 : toldLed (A ++ { b with k := { b.k with own := own', sols := r }, tl := tl' } :: Z) = toldLed A ++ ([(b.told, .lst (dRefs tl'))] ++ toldLed Z) := by unfold toldLed; rw [List.map_append]; rfl
    have e2 : ownLed (A ++ { b with k := { b.k with own := own', sols := r }, tl := tl' } :: Z) = ownLed A ++ (own' ++ ownLed Z) := by unfold ownLed; rw [List.flatMap_append]; rfl
    unfold headLed at H
    rw [e0] at H
    unfold lawLed
    dsimp only
    rw [e1, e2]
    have q := Ok.perm H (pm3a W own' [(b.told, .lst (dRefs tl'))] _ (toldLed A) (toldLed Z) (ownLed A) (ownLed Z) S.P)
    rw [List.append_assoc X] at q
    exact q
end
end Mine
end
section
open PySem PySem.W PySem.Calls PyProof.Rows PySem.W.X
set_option Elab.async false
set_option maxRecDepth 100000
set_option maxHeartbeats 8000000
set_option linter.unusedVariables false
namespace Mine
local macro_rules | `(tactic| walk_at "mem") => `(tactic| first | assumption | exact List.Mem.head _ | (refine' List.Mem.tail _ ?_; walk_at "mem") | (refine' List.mem_append_right _ ?_; walk_at "mem") | (refine' List.mem_append_left _ ?_; walk_at "mem") | exact Zip.at' (by assumption) | exact Zip.keep (by assumption) (by walk_at "mem") (by intro e; cases e))
local macro_rules | `(tactic| walk_at "zip") => `(tactic| first | assumption | exact Zip.head | exact Zip.tail (by walk_at "zip") | exact Zip.app (by walk_at "zip") | exact Zip.again (by assumption))
local macro_rules | `(tactic| walk_at "kv") => `(tactic| first | with_reducible_and_instances exact List.Mem.head _ | (refine' List.Mem.tail _ ?_; walk_at "kv") | assumption)
local macro_rules | `(tactic| walk_at "put") => `(tactic| first | with_reducible exact Put.head | exact Put.tail (by walk_at "put"))
local macro_rules | `(tactic| walk_at "putd") => `(tactic| first | with_reducible exact PutD.head | with_reducible exact PutD.nil | exact PutD.tail (by decide) (by walk_at "putd"))
local macro_rules | `(tactic| walk_at "nm") => `(tactic| first
  | (refine e_local (by assumption) (by walk_at "mem") (by walk_at "kv") ?_)
  | (refine e_cell (by assumption) (by rfl) (by walk_at "mem") ?_)
  | (refine e_free (by assumption) (by rfl) (by walk_at "mem") ?_))
local macro_rules | `(tactic| walk_at "gl") => `(tactic| refine e_global (by assumption) (by assumption) (by first | with_reducible exact gl_Problem _ | with_reducible exact gl_BacktrackingSolver _ | with_reducible exact gl_Domain _ | with_reducible exact gl_Constraint _ | with_reducible exact gl_FunctionConstraint _ | with_reducible exact gl_law_yes _ | with_reducible exact gl_law_rule _ | with_reducible exact gl_law_due _) ?_)
local macro_rules | `(tactic| walk_at "bi") => `(tactic| refine e_builtin (by assumption) (by assumption) (by first | with_reducible exact bn_isinstance _ | with_reducible exact bn_callable _ | with_reducible exact bn_list _ | with_reducible exact bn_tuple _ | with_reducible exact bn_len _ | with_reducible exact bn_range _ | with_reducible exact bn_next _ | with_reducible exact bn_dict _ | with_reducible exact bn_sorted _ | with_reducible exact bn_iter _) (by first | with_reducible exact bb_isinstance | with_reducible exact bb_callable | with_reducible exact bb_list | with_reducible exact bb_tuple | with_reducible exact bb_len | with_reducible exact bb_range | with_reducible exact bb_next | with_reducible exact bb_dict | with_reducible exact bb_sorted | with_reducible exact bb_iter) ?_)
local macro_rules | `(tactic| walk_at "ns") => `(tactic| (show (_ : List Str).Nodup; dsimp only [List.map, List.nil_append, List.cons_append, List.append_nil]; decide +kernel))
local macro_rules | `(tactic| walk_at "lt") => `(tactic| (show _ < 1000; omega))
local macro_rules | `(tactic| x_close) => `(tactic| exact xq_of (by first | assumption | exact Mem.start _) (by first | rfl | assumption))
local macro_rules | `(tactic| walk_at "ga") => `(tactic| refine i_get (by assumption) (by assumption) (by walk_at "mem") (by exact rfl) (by walk_at "mem") (by first | exact cls110 _ | exact cls186 _ | exact cls336 _) (by kernel_rfl) (by walk_at "kv") (by exact rfl) ?_)
local macro_rules | `(tactic| walk_at "sa") => `(tactic| refine i_set (by assumption) (by assumption) (by walk_at "mem") (by walk_at "zip") (by first | exact cls110 _ | exact cls186 _ | exact cls336 _) (by kernel_rfl) (by kernel_rfl) (by walk_at "putd") (Nat.le_of_ble_eq_true rfl) ?_)
local macro_rules | `(tactic| walk_at "st") => `(tactic| refine e_store (by assumption) (by walk_at "zip") (by walk_at "put") ?_)
local macro_rules | `(tactic| walk_at "nmc") => `(tactic| first
  | (refine e_local (by assumption) (List.Mem.head _) (by first | exact List.Mem.head _ | exact List.Mem.tail _ (List.Mem.head _) | exact List.Mem.tail _ (List.Mem.tail _ (List.Mem.head _))) ?_)
  | (refine e_cell (by assumption) (by rfl) (by walk_at "mem") ?_)
  | (refine e_free (by assumption) (by rfl) (by walk_at "mem") ?_))
local macro_rules | `(tactic| walk_at "subl") => `(tactic| first | exact List.Sublist.refl _ | (refine' List.Sublist.cons _ ?_; walk_at "subl"))
section
variable {w : World} {g : Heap} {os : OsState} {G : Array GenState} {l l' : Led} {s : Shared} {a : Addr} {c c' : Cell} {f : Cell → Led} {A : Around} {E : Value → Shared → Prop}
/-! ## the next solution of a begun one -/
theorem pm3e {α : Type} (A B C D : List α) : (A ++ (B ++ (C ++ D))).Perm (B ++ (C ++ (A ++ D))) := by
  classical
  exact List.perm_iff_count.mpr (fun x => by simp only [List.count_append]; omega)
theorem br3 {d u' : Nat} {c : LC} {S : LS} {f : F8} {NL I fa : Addr} {code : Value} {itc : Cell} {nv : List Value} {u : Int} {tu : Tok} (B : Base w g) (K : LOk w g c G S) (H : Ok w g os G ((NL, .lst nv) :: (I, itc) :: lawLed c S (some (.int u tu)) f) s)
    (hne : S.bs ≠ []) (hd : d ≤ 310) (hu' : u' ≤ 100) :
    wpAny (model P0 w) (AR d u') (execs (bOf 3) (lawEnv c.L c.uc fa code)) (fun fl s' => fl = .next ∧ TurnPost w g os c S I itc False s') NoE s := by
  obtain ⟨f1, f2, f3, f4, f5, f6, f7, f8⟩ := f
  have hb0 : 0 < S.bs.length := List.length_pos_iff.mpr hne
  have hbl := K.bl
  have h0 := Int.fmod_nonneg_of_pos u (show (0 : Int) < S.bs.length by omega)
  have h1 := Int.fmod_lt_of_pos u (show (0 : Int) < S.bs.length by omega)
  generalize hm : u.fmod (S.bs.length : Nat) = m at h0 h1
  obtain ⟨b, hb⟩ : ∃ b, S.bs[m.toNat]? = some b := ⟨S.bs[m.toNat]'(by omega), List.getElem?_eq_getElem (by omega)⟩
  have hbm := List.mem_of_getElem? hb
  have hbt := (K.bg b hbm).t
  have hv : (S.bs.map fun b => Value.ref b.t)[m.toNat]? = some (.ref b.t) := by rw [List.getElem?_map, hb]; rfl
  have h63 : m < 2 ^ 63 := by
    have : (2 : Int) ^ 63 = 9223372036854775808 := by decide
    omega
  obtain ⟨A, Z, e⟩ := List.append_of_mem hbm
  unfold lawLed at H
  dsimp only at H
  refine wpAny_execs_cons (Assign_Tuple (x_sub ?_ (fun o i => ⟨_, rfl⟩)))
  walk_at "nm"
  refine wpAny_BinOp ?_
  walk_at "nm"
  refine Call_ ?_
  walk_at "bi"
  refine c_bi (args_cons ?_)
  walk_at "nm"
  refine args_nil (l_len H (by walk_at "mem") (by rw [List.length_map]; omega) (fun t1 s₁ H₁ => e_mod H₁ (by rw [List.length_map]; omega) (fun t2 s₂ H₂ => ⟨notpy_T (H₂.lst (show (S.Bd, Cell.lst (S.bs.map fun b => .ref b.t)) ∈ _ by walk_at "mem")).typeIs PySem.F.slot_list_getitem.lookup, ?_⟩)))
  rw [List.length_map, hm]
  refine l_item H₂ (show (S.Bd, Cell.lst (S.bs.map fun b => .ref b.t)) ∈ _ by walk_at "mem") h0 hv h63 ?_
  refine a_tup3 H₂ (show (b.t, Cell.tup [.ref b.k.a, .ref b.due, .ref b.told]) ∈ _ by walk_at "mem") (fun s₃ H₃ => ?_)
  refine e_store H₃ (by walk_at "zip") (by walk_at "put") (fun s₄ H₄ => ?_)
  refine e_store H₄ (by walk_at "zip") (by walk_at "put") (fun s₅ H₅ => ?_)
  refine e_store H₅ (by walk_at "zip") (by walk_at "put") (fun s₆ H₆ => ?_)
  replace H₆ := law_open (c := c) (S := S) (uo := some (.int u tu)) (f := ⟨f1, f2, f3, f4, f5, some (.ref b.k.a), some (.ref b.due), some (.ref b.told)⟩) (X := [(NL, .lst nv), (I, itc)]) e H₆
  clear H₅ H₄ H₃ H₂ H₁ H
  have hneed : ∀ p ∈ b.k.need, p ∈ (b.told, Cell.lst (dRefs b.tl)) :: ([(NL, Cell.lst nv), (I, itc)] ++ headLed c S (some (.int u tu)) ⟨f1, f2, f3, f4, f5, some (.ref b.k.a), some (.ref b.due), some (.ref b.told)⟩ ++ restLed A Z S.P) := by
    intro p hp
    have := (K.bg b hbm).need p hp
    unfold restLed
    refine .tail _ (List.mem_append_right _ (List.mem_append_right _ (List.mem_append_right _ (List.mem_append_right _ (List.mem_append_right _ this)))))
  have nx : wpAny (model P0 w) (AR d u') (call (.builtin "next") [.ref b.k.a, .none]) (fun v s' => ∃ ys dds G' own' r, ((dds = [] ∧ v = .none ∧ ys = [] ∧ b.k.sols = [] ∧ r = []) ∨ ∃ sol dd, dds = [(dd, Cell.sd sol)] ∧ v = .ref dd ∧ ys = [Value.ref dd] ∧ b.k.sols = sol :: r) ∧ GEx b.k.gi G G' ∧ WkOk w g G' { b.k with own := own', sols := r } ∧
      Ok w g os G' (dds ++ (own' ++ ((b.told, .lst (dRefs b.tl)) :: ([(NL, .lst nv), (I, itc)] ++ headLed c S (some (.int u tu)) ⟨f1, f2, f3, f4, f5, some (.ref b.k.a), some (.ref b.due), some (.ref b.told)⟩ ++ restLed A Z S.P)))) s') NoE s₆ := by
    refine w_next2 B H₆ (K.bg b hbm).k hneed (by omega) (by omega) (fun hs G' own' s' gx hk H' => ?_) (fun sol r hs dd G' own' s' gx hk H' => ?_)
    · exact ⟨[], [], G', own', [], .inl ⟨rfl, rfl, rfl, hs, rfl⟩, gx, by rw [← hs]; exact hk, H'⟩
    · exact ⟨[.ref dd], [(dd, .sd sol)], G', own', r, .inr ⟨sol, dd, rfl, rfl, rfl, hs⟩, gx, hk, H'⟩
  have hL : (c.L, Cell.ns [("script", some c.sc), ("problem", some (.ref c.x)), ("lists", some (.ref S.Ld)), ("rules", some (.ref S.Rd)), ("begun", some (.ref S.Bd)), ("x", f1), ("deed", f2), ("names", f3), ("one", f4), ("other", f5), ("walk", some (.ref b.k.a)), ("due", some (.ref b.due)), ("told", some (.ref b.told))]) ∈ b.k.own ++ ((b.told, Cell.lst (dRefs b.tl)) :: ([(NL, Cell.lst nv), (I, itc)] ++ headLed c S (some (.int u tu)) ⟨f1, f2, f3, f4, f5, some (.ref b.k.a), some (.ref b.due), some (.ref b.told)⟩ ++ restLed A Z S.P)) := by
    refine List.mem_append_right _ (.tail _ (List.mem_append_left _ (List.mem_append_right _ (.head _))))
  refine wpAny_execs_cons (x_for (g := g) (os := os) (x_listcomp (g := g) (os := os) (vars := ["one"]) rfl (by decide) rfl (by decide) (by decide) ?_))
  refine List_ (args_cons (Call_ ?_))
  walk_at "bi"
  refine c_bi (args_cons ?_)
  refine e_local H₆ hL (by walk_at "kv") ?_
  refine args_cons (wpAny_Constant_none (args_nil ?_))
  refine wpAny_mono nx (fun v s₇ q => ?_) fun _ _ x => x
  clear nx hneed hL H₆
  obtain ⟨ys, dds, G', own', r, hq, gx, hk, H₇⟩ := q
  refine args_nil (e_newList H₇ (fun D0 s₈ H₈ => ?_) (by rw [sizeLine_eq]; exact Nat.le_of_ble_eq_true rfl))
  refine ⟨D0, _, _, _, _, G', _, fun i zs G'' l'' => G' = G'' ∧ l'' = _ ∧ zs = if i = 0 then [] else ys, Iter.list w D0 [v], rfl, H₈, Nat.le_of_ble_eq_true rfl, ⟨rfl, rfl, rfl⟩, ?_, ?_, ?_⟩
  · rintro i zs G'' l'' ⟨rfl, rfl, -⟩ p hp
    simp only [List.mem_singleton] at hp
    subst hp
    exact .head _
  · rintro i v' zs C D I2 G'' l'' kv s₉ hi hv hzs hkv ⟨rfl, rfl, rfl⟩ H₉
    have hi0 : i = 0 := Nat.lt_one_iff.mp hi
    subst hi0
    cases hv
    obtain ⟨o, rfl⟩ := kv1 hkv
    refine wpAny_assign_Name (e_store H₉ .head (by walk_at "put") (fun s₁₀ H₁₀ => ?_))
    refine wpAny_tests_one (wpAny_isTrue_Compare1 (e_local H₁₀ (.head _) (.head _) ?_))
    refine wpAny_Constant_none ?_
    rcases hq with ⟨rfl, rfl, rfl, hs, rfl⟩ | ⟨sol, dd, rfl, rfl, rfl, hs⟩
    · refine wpAny_isNot_self rfl (wpAny_truthy_bool ?_)
      exact ⟨_, G', _, rfl, ⟨rfl, rfl, rfl⟩, H₁₀⟩
    · refine wpAny_isNot_other rfl (fun h => by cases h) (wpAny_truthy_bool ?_)
      rw [if_pos rfl]
      refine e_local H₁₀ (.head _) (.head _) ?_
      exact ⟨_, G', _, rfl, ⟨rfl, rfl, rfl⟩, H₁₀⟩
  rintro D zs G'' l'' s₉ ⟨rfl, rfl, rfl⟩ H₉
  have K' := K
  rcases hq with ⟨rfl, rfl, rfl, hs, rfl⟩ | ⟨sol, dd, rfl, rfl, rfl, hs⟩
  · refine ⟨D, _, _, _, _, G', _, fun i G'' l'' => G' = G'' ∧ l'' = _, Iter.list w D [], rfl, H₉, ⟨rfl, rfl⟩, ?_, fun i _ _ _ _ _ hi => absurd hi (Nat.not_lt_zero _), ?_⟩
    · rintro i G'' l'' ⟨rfl, rfl⟩ p hp
      simp only [List.mem_singleton] at hp
      subst hp
      exact .head _
    · rintro G'' l'' s₁₀ ⟨rfl, rfl⟩ H₁₀
      obtain ⟨hK, hl⟩ := bs_step (W := []) (tl' := b.tl) K e gx hk (fun p hp => (K.bg b hbm).tl p hp) (by rw [(K.bg b hbm).same, hs]) (K.bg b hbm).itl (fun x hx => by cases hx)
      refine wpAny_execs_nil (wpAny_execs_nil ⟨rfl, G', _, some (.int u tu), ⟨f1, f2, f3, f4, f5, some (.ref b.k.a), some (.ref b.due), some (.ref b.told)⟩, hK, fun p hp => hp, fun _ => by simp, fun h => h.elim, ?_⟩)
      exact (hl [(NL, .lst nv), (I, itc)] _ _ _ (H₁₀.sub (List.Sublist.cons _ (List.sublist_cons_self ..)))).sub (List.sublist_cons_self ..)
  · have hbo := K.bg b hbm
    have hsl := hbo.isl sol (by rw [hs]; exact .head _)
    have htl : b.tl.length ≤ 1000 := by
      have h1 := congrArg List.length hbo.same
      simp only [List.length_append, List.length_map] at h1
      have := hbo.len
      omega
    refine ⟨D, _, _, _, _, G', _, fun i G'' l'' => G' = G'' ∧ ((i = 0 ∧ l'' = _) ∨ (i = 1 ∧ ∃ N, l'' = (b.told, .lst (dRefs (b.tl ++ [(N, sol)]))) :: (N, .sd sol) :: (D, .lst [.ref dd]) :: (D0, .lst [.ref dd]) :: (own' ++ ([(NL, .lst nv), (I, itc)] ++ headLed c S (some (.int u tu)) ⟨f1, f2, f3, some (.ref dd), f5, some (.ref b.k.a), some (.ref b.due), some (.ref b.told)⟩ ++ restLed A Z S.P)))), Iter.list w D [.ref dd], rfl, H₉, ⟨rfl, .inl ⟨rfl, rfl⟩⟩, ?_, ?_, ?_⟩
    · rintro i G'' l'' ⟨rfl, ⟨-, rfl⟩ | ⟨-, N, rfl⟩⟩ p hp
      · simp only [List.mem_singleton] at hp
        subst hp
        exact .head _
      · simp only [List.mem_singleton] at hp
        subst hp
        exact .tail _ (.tail _ (.head _))
    · rintro i v' I2 G'' l'' s₁₀ hi hv ⟨rfl, hcase⟩ H₁₀
      have hi0 : i = 0 := Nat.lt_one_iff.mp hi
      subst hi0
      rcases hcase with ⟨-, rfl⟩ | ⟨h, -⟩
      rotate_left
      · cases h
      cases hv
      dsimp only [headLed, List.cons_append, List.nil_append] at H₁₀
      refine wpAny_assign_Name (e_store H₁₀ (.tail (.tail (.tail (.tail (.app (.tail (.tail (.tail .head)))))))) (by walk_at "put") (fun s₁₁ H₁₁ => ?_))
      replace H₁₁ := H₁₁.perm (pm3c [_, _, _] [_] own' [_] _)
      refine wpAny_mono (take (c := c) (T := b.told) (dd := dd) (tl := b.tl) (sol := sol) B (.inl rfl) H₁₁ (by refine .tail _ (.tail _ (.tail _ (List.mem_append_right own' (.tail _ (.tail _ ?_))))); exact .head _) (by walk_at "kv") (by walk_at "kv") htl hsl hu') (fun fl s₁₂ q => ?_) (fun _ _ x => x)
      obtain ⟨rfl, N, H₁₂⟩ := q
      exact ⟨G', _, ⟨rfl, .inr ⟨rfl, N, rfl⟩⟩, H₁₂.perm (pm3d [_] [_] [_] _)⟩
    · rintro G'' l'' s₁₀ ⟨rfl, ⟨h, -⟩ | ⟨-, N, rfl⟩⟩ H₁₀
      · cases h
      obtain ⟨hK, hl⟩ := bs_step (W := [(N, .sd sol)]) (tl' := b.tl ++ [(N, sol)]) K e gx hk (fun p hp => by
        unfold dLed at hp
        rw [List.map_append] at hp
        rcases List.mem_append.mp hp with hp | hp
        · exact .tail _ (hbo.tl p hp)
        · simp only [List.map_cons, List.map_nil, List.mem_singleton] at hp
          subst hp
          exact .head _) (by rw [hbo.same, hs, List.map_append]; simp) (fun x hx => by
        rcases List.mem_append.mp hx with hx | hx
        · exact hbo.itl x hx
        · simp only [List.mem_singleton] at hx
          subst hx
          exact hbo.iso sol (by rw [hs]; exact .head _)) (fun x hx => by rw [hs]; exact .tail _ hx)
      refine wpAny_execs_nil (wpAny_execs_nil ⟨rfl, G', _, some (.int u tu), ⟨f1, f2, f3, some (.ref dd), f5, some (.ref b.k.a), some (.ref b.due), some (.ref b.told)⟩, hK, fun p hp => List.mem_append_right _ hp, fun _ => by simp, fun h => h.elim, ?_⟩)
      have H₁₁ := (H₁₀.sub (l' := [(b.told, .lst (dRefs (b.tl ++ [(N, sol)])))] ++ ([(N, .sd sol)] ++ (own' ++ ([(NL, .lst nv), (I, itc)] ++ headLed c S (some (.int u tu)) ⟨f1, f2, f3, some (.ref dd), f5, some (.ref b.k.a), some (.ref b.due), some (.ref b.told)⟩ ++ restLed A Z S.P)))) (List.Sublist.cons₂ _ (List.Sublist.cons₂ _ (List.Sublist.cons _ (List.sublist_cons_self ..))))).perm (pm3e _ _ _ _)
      exact (hl [(NL, .lst nv), (I, itc)] _ _ _ H₁₁).sub (List.sublist_cons_self ..)
end
end Mine
end
section
open PySem PySem.W PySem.Calls PyProof.Rows PySem.W.X
set_option Elab.async false
set_option maxRecDepth 100000
set_option maxHeartbeats 8000000
set_option linter.unusedVariables false
namespace Mine
local macro_rules | `(tactic| walk_at "mem") => `(tactic| first | assumption | exact List.Mem.head _ | (refine' List.Mem.tail _ ?_; walk_at "mem") | (refine' List.mem_append_right _ ?_; walk_at "mem") | (refine' List.mem_append_left _ ?_; walk_at "mem") | exact Zip.at' (by assumption) | exact Zip.keep (by assumption) (by walk_at "mem") (by intro e; cases e))
local macro_rules | `(tactic| walk_at "zip") => `(tactic| first | assumption | exact Zip.head | exact Zip.tail (by walk_at "zip") | exact Zip.app (by walk_at "zip") | exact Zip.again (by assumption))
local macro_rules | `(tactic| walk_at "kv") => `(tactic| first | with_reducible_and_instances exact List.Mem.head _ | (refine' List.Mem.tail _ ?_; walk_at "kv") | assumption)
local macro_rules | `(tactic| walk_at "put") => `(tactic| first | with_reducible exact Put.head | exact Put.tail (by walk_at "put"))
local macro_rules | `(tactic| walk_at "putd") => `(tactic| first | with_reducible exact PutD.head | with_reducible exact PutD.nil | exact PutD.tail (by decide) (by walk_at "putd"))
local macro_rules | `(tactic| walk_at "nm") => `(tactic| first
  | (refine e_local (by assumption) (by walk_at "mem") (by walk_at "kv") ?_)
  | (refine e_cell (by assumption) (by rfl) (by walk_at "mem") ?_)
  | (refine e_free (by assumption) (by rfl) (by walk_at "mem") ?_))
local macro_rules | `(tactic| walk_at "gl") => `(tactic| refine e_global (by assumption) (by assumption) (by first | with_reducible exact gl_Problem _ | with_reducible exact gl_BacktrackingSolver _ | with_reducible exact gl_Domain _ | with_reducible exact gl_Constraint _ | with_reducible exact gl_FunctionConstraint _ | with_reducible exact gl_law_yes _ | with_reducible exact gl_law_rule _ | with_reducible exact gl_law_due _) ?_)
local macro_rules | `(tactic| walk_at "bi") => `(tactic| refine e_builtin (by assumption) (by assumption) (by first | with_reducible exact bn_isinstance _ | with_reducible exact bn_callable _ | with_reducible exact bn_list _ | with_reducible exact bn_tuple _ | with_reducible exact bn_len _ | with_reducible exact bn_range _ | with_reducible exact bn_next _ | with_reducible exact bn_dict _ | with_reducible exact bn_sorted _ | with_reducible exact bn_iter _) (by first | with_reducible exact bb_isinstance | with_reducible exact bb_callable | with_reducible exact bb_list | with_reducible exact bb_tuple | with_reducible exact bb_len | with_reducible exact bb_range | with_reducible exact bb_next | with_reducible exact bb_dict | with_reducible exact bb_sorted | with_reducible exact bb_iter) ?_)
local macro_rules | `(tactic| walk_at "ns") => `(tactic| (show (_ : List Str).Nodup; dsimp only [List.map, List.nil_append, List.cons_append, List.append_nil]; decide +kernel))
local macro_rules | `(tactic| walk_at "lt") => `(tactic| (show _ < 1000; omega))
local macro_rules | `(tactic| x_close) => `(tactic| exact xq_of (by first | assumption | exact Mem.start _) (by first | rfl | assumption))
local macro_rules | `(tactic| walk_at "ga") => `(tactic| refine i_get (by assumption) (by assumption) (by walk_at "mem") (by exact rfl) (by walk_at "mem") (by first | exact cls110 _ | exact cls186 _ | exact cls336 _) (by kernel_rfl) (by walk_at "kv") (by exact rfl) ?_)
local macro_rules | `(tactic| walk_at "sa") => `(tactic| refine i_set (by assumption) (by assumption) (by walk_at "mem") (by walk_at "zip") (by first | exact cls110 _ | exact cls186 _ | exact cls336 _) (by kernel_rfl) (by kernel_rfl) (by walk_at "putd") (Nat.le_of_ble_eq_true rfl) ?_)
local macro_rules | `(tactic| walk_at "st") => `(tactic| refine e_store (by assumption) (by walk_at "zip") (by walk_at "put") ?_)
local macro_rules | `(tactic| walk_at "nmc") => `(tactic| first
  | (refine e_local (by assumption) (List.Mem.head _) (by first | exact List.Mem.head _ | exact List.Mem.tail _ (List.Mem.head _) | exact List.Mem.tail _ (List.Mem.tail _ (List.Mem.head _))) ?_)
  | (refine e_cell (by assumption) (by rfl) (by walk_at "mem") ?_)
  | (refine e_free (by assumption) (by rfl) (by walk_at "mem") ?_))
local macro_rules | `(tactic| walk_at "subl") => `(tactic| first | exact List.Sublist.refl _ | (refine' List.Sublist.cons _ ?_; walk_at "subl"))
section
variable {w : World} {g : Heap} {os : OsState} {G : Array GenState} {l l' : Led} {s : Shared} {a : Addr} {c c' : Cell} {f : Cell → Led} {A : Around} {E : Value → Shared → Prop}
/-! ## a whole turn -/
theorem TurnPost.mk {c : LC} {S : LS} {I : Addr} {itc : Cell} {new new' : Prop} {s' : Shared} (h : TurnPost w g os c S I itc new s') (k : new' → new ∨ S.bs ≠ []) : TurnPost w g os c S I itc new' s' := by
  obtain ⟨G', S', uo, f, a, b, e, n, H⟩ := h
  exact ⟨G', S', uo, f, a, b, e, fun q => (k q).elim n e, H⟩
theorem ch_body {d u' : Nat} {env : Env} {P : Flow → Shared → Prop} {st : List Stmt} (h : wpAny (model P0 w) (AR d u') (execs st env) (fun fl s' => fl = .next ∧ P .next s') NoE s) :
    wpAny (model P0 w) (AR d u') (execs st env) (fun f s' => match f with | .next => wpAny (model P0 w) (AR d u') (execs [] env) P NoE s' | f => P f s') NoE s :=
  wpAny_mono h (fun fl s' q => by obtain ⟨rfl, q⟩ := q; exact wpAny_execs_nil q) fun _ _ x => x
theorem ch4 {d u' : Nat} {c : LC} {S : LS} {f : F8} {NL I fa : Addr} {code : Value} {itc : Cell} {nv : List Value} {u dv : Int} {tu td : Tok} (B : Base w g) (K : LOk w g c G S) (H : Ok w g os G ((NL, .lst nv) :: (I, itc) :: lawLed c S (some (.int u tu)) f) s) (hdv : f.deed = some (.int dv td))
    (h2 : dv = 2 → S.bs ≠ []) (hd : d ≤ 310) (hu' : u' ≤ 100) :
    wpAny (model P0 w) (AR d u') (execs (chainO 4 (loopBody.drop 3)) (lawEnv c.L c.uc fa code)) (fun fl s' => fl = .next ∧ TurnPost w g os c S I itc (dv = 2) s') NoE s := by
  have key : ∀ s', Ok w g os G ((NL, .lst nv) :: (I, itc) :: lawLed c S (some (.int u tu)) f) s' → wpAny (model P0 w) (AR d u') (execs (chainO 5 (loopBody.drop 3)) (lawEnv c.L c.uc fa code)) (fun fl s' => fl = .next ∧ TurnPost w g os c S I itc (dv = 2) s') NoE s' := fun s' H' =>
    wpAny_mono (br5 B K H' hd hu') (fun fl s₁ q => ⟨q.1, q.2.mk fun h => .inr (h2 h)⟩) fun _ _ x => x
  have H0 := H
  obtain ⟨f1, f2, f3, f4, f5, f6, f7, f8⟩ := f
  dsimp only at hdv
  subst hdv
  unfold lawLed at H
  dsimp only at H
  refine wpAny_execs_cons (wpAny_If (isTrue_and (wpAny_isTrue_Compare1 ?_)))
  walk_at "nm"
  refine e_int H (fun t1 s₁ H₁ => wpAny_eq_int (wpAny_truthy_bool ?_))
  by_cases h : dv = 4
  · rw [if_pos (by rw [h]; rfl)]
    refine isTrue_and (wpAny_isTrue_Compare1 (wpAny_BinOp ?_))
    walk_at "nm"
    refine e_int H₁ (fun t2 s₂ H₂ => e_mod H₂ (by decide) (fun t3 s₃ H₃ => e_int H₃ (fun t4 s₄ H₄ => wpAny_eq_int (wpAny_truthy_bool ?_))))
    by_cases h' : u.fmod 3 = 0
    · rw [if_pos (by rw [h']; rfl)]
      refine isTrue_and_nil ?_
      rw [if_pos rfl]
      refine ch_body (P := fun fl s' => fl = .next ∧ TurnPost w g os c S I itc (dv = 2) s') (wpAny_mono (br4 (f := ⟨f1, some (.int dv td), f3, f4, f5, f6, f7, f8⟩) B K H₄ hd hu') (fun fl s₁ q => ⟨q.1, rfl, q.2.mk fun h => .inr (h2 h)⟩) fun _ _ x => x)
    · rw [if_neg (by intro e; exact h' (eq_of_beq e))]
      rw [if_neg (by decide)]
      exact ch_body (P := fun fl s' => fl = .next ∧ TurnPost w g os c S I itc (dv = 2) s') (wpAny_mono (key _ H₄) (fun fl s₁ q => ⟨q.1, rfl, q.2⟩) fun _ _ x => x)
  · rw [if_neg (by intro e; exact h (eq_of_beq e))]
    rw [if_neg (by decide)]
    exact ch_body (P := fun fl s' => fl = .next ∧ TurnPost w g os c S I itc (dv = 2) s') (wpAny_mono (key _ H₁) (fun fl s₁ q => ⟨q.1, rfl, q.2⟩) fun _ _ x => x)
theorem ch3 {d u' : Nat} {c : LC} {S : LS} {f : F8} {NL I fa : Addr} {code : Value} {itc : Cell} {nv : List Value} {u dv : Int} {tu td : Tok} (B : Base w g) (K : LOk w g c G S) (H : Ok w g os G ((NL, .lst nv) :: (I, itc) :: lawLed c S (some (.int u tu)) f) s) (hdv : f.deed = some (.int dv td))
    (h2 : dv = 2 → S.bs ≠ []) (h3 : dv = 3 → S.bs ≠ []) (hd : d ≤ 310) (hu' : u' ≤ 100) :
    wpAny (model P0 w) (AR d u') (execs (chainO 3 (loopBody.drop 3)) (lawEnv c.L c.uc fa code)) (fun fl s' => fl = .next ∧ TurnPost w g os c S I itc (dv = 2) s') NoE s := by
  have key : ∀ s', Ok w g os G ((NL, .lst nv) :: (I, itc) :: lawLed c S (some (.int u tu)) f) s' → wpAny (model P0 w) (AR d u') (execs (chainO 4 (loopBody.drop 3)) (lawEnv c.L c.uc fa code)) (fun fl s' => fl = .next ∧ TurnPost w g os c S I itc (dv = 2) s') NoE s' := fun s' H' => ch4 B K H' hdv h2 hd hu'
  have hb := K.bl
  have hr := K.ln.few
  have hl := K.ln.three
  obtain ⟨f1, f2, f3, f4, f5, f6, f7, f8⟩ := f
  dsimp only at hdv
  subst hdv
  unfold lawLed at H
  dsimp only at H
  refine wpAny_execs_cons (wpAny_If (wpAny_isTrue_Compare1 ?_))
  walk_at "nm"
  refine e_int H (fun t1 s₁ H₁ => wpAny_eq_int (wpAny_truthy_bool ?_))
  by_cases h : dv = 3
  · rw [if_pos (by rw [h]; rfl)]
    exact ch_body (P := fun fl s' => fl = .next ∧ TurnPost w g os c S I itc (dv = 2) s') (wpAny_mono (br3 (f := ⟨f1, some (.int dv td), f3, f4, f5, f6, f7, f8⟩) B K H₁ (h3 h) hd hu') (fun fl s₁ q => ⟨q.1, rfl, q.2.mk fun h => .inr (h2 h)⟩) fun _ _ x => x)
  · rw [if_neg (by intro e; exact h (eq_of_beq e))]
    exact ch_body (P := fun fl s' => fl = .next ∧ TurnPost w g os c S I itc (dv = 2) s') (wpAny_mono (key _ H₁) (fun fl s₁ q => ⟨q.1, rfl, q.2⟩) fun _ _ x => x)
theorem ch2 {d u' : Nat} {c : LC} {S : LS} {f : F8} {NL I fa : Addr} {code : Value} {itc : Cell} {nv : List Value} {u dv : Int} {tu td : Tok} (B : Base w g) (K : LOk w g c G S) (H : Ok w g os G ((NL, .lst nv) :: (I, itc) :: lawLed c S (some (.int u tu)) f) s) (hdv : f.deed = some (.int dv td))
    (h3 : dv = 3 → S.bs ≠ []) (hd : d ≤ 310) (hu' : u' ≤ 100) :
    wpAny (model P0 w) (AR d u') (execs (chainO 2 (loopBody.drop 3)) (lawEnv c.L c.uc fa code)) (fun fl s' => fl = .next ∧ TurnPost w g os c S I itc (dv = 2) s') NoE s := by
  have key : ∀ s', (dv = 2 → S.bs ≠ []) → Ok w g os G ((NL, .lst nv) :: (I, itc) :: lawLed c S (some (.int u tu)) f) s' → wpAny (model P0 w) (AR d u') (execs (chainO 3 (loopBody.drop 3)) (lawEnv c.L c.uc fa code)) (fun fl s' => fl = .next ∧ TurnPost w g os c S I itc (dv = 2) s') NoE s' := fun s' h2 H' => ch3 B K H' hdv h2 h3 hd hu'
  have hb := K.bl
  have hr := K.ln.few
  have hl := K.ln.three
  obtain ⟨f1, f2, f3, f4, f5, f6, f7, f8⟩ := f
  dsimp only at hdv
  subst hdv
  unfold lawLed at H
  dsimp only at H
  refine wpAny_execs_cons (wpAny_If (isTrue_and (wpAny_isTrue_Compare1 ?_)))
  walk_at "nm"
  refine e_int H (fun t1 s₁ H₁ => wpAny_eq_int (wpAny_truthy_bool ?_))
  by_cases h : dv = 2
  · rw [if_pos (by rw [h]; rfl)]
    refine isTrue_and (wpAny_isTrue_Compare1 (Call_ ?_))
    walk_at "bi"
    refine c_bi (args_cons ?_)
    walk_at "nm"
    refine args_nil (l_len H₁ (by walk_at "mem") (by rw [List.length_map]; omega) (fun t2 s₂ H₂ => e_int H₂ (fun t3 s₃ H₃ => wpAny_lt_int (wpAny_truthy_bool ?_))))
    rw [List.length_map]
    by_cases h' : S.bs.length < 4
    · rw [if_pos (decide_eq_true (by omega))]
      refine isTrue_and_nil ?_
      rw [if_pos rfl]
      exact ch_body (P := fun fl s' => fl = .next ∧ TurnPost w g os c S I itc (dv = 2) s') (wpAny_mono (br2 (f := ⟨f1, some (.int dv td), f3, f4, f5, f6, f7, f8⟩) B K H₃ h' hd hu') (fun fl s₁ q => ⟨q.1, rfl, q.2.mk fun _ => .inl trivial⟩) fun _ _ x => x)
    · rw [if_neg (by intro e; have := of_decide_eq_true e; omega)]
      rw [if_neg (by decide)]
      exact ch_body (P := fun fl s' => fl = .next ∧ TurnPost w g os c S I itc (dv = 2) s') (wpAny_mono (key _ (fun _ e => h' (by rw [e]; decide)) H₃) (fun fl s₁ q => ⟨q.1, rfl, q.2⟩) fun _ _ x => x)
  · rw [if_neg (by intro e; exact h (eq_of_beq e))]
    rw [if_neg (by decide)]
    exact ch_body (P := fun fl s' => fl = .next ∧ TurnPost w g os c S I itc (dv = 2) s') (wpAny_mono (key _ (fun e => absurd e h) H₁) (fun fl s₁ q => ⟨q.1, rfl, q.2⟩) fun _ _ x => x)
theorem ch1 {d u' : Nat} {c : LC} {S : LS} {f : F8} {NL I fa : Addr} {code : Value} {itc : Cell} {nv : List Value} {u dv : Int} {tu td : Tok} (B : Base w g) (K : LOk w g c G S) (H : Ok w g os G ((NL, .lst nv) :: (I, itc) :: lawLed c S (some (.int u tu)) f) s) (hdv : f.deed = some (.int dv td)) (hf : f.names = some (.ref NL)) (hnv : nv.length = S.ls.length)
    (hns : ∀ (j : Nat) (v : Value), nv[j]? = some v → ∃ k x t, (lkvs S.ls)[j]? = some (k, x) ∧ v = Value.str k t) (hu : Xs 1048576 u)
    (h3 : dv = 3 → S.bs ≠ []) (hd : d ≤ 310) (hu' : u' ≤ 100) :
    wpAny (model P0 w) (AR d u') (execs (chainO 1 (loopBody.drop 3)) (lawEnv c.L c.uc fa code)) (fun fl s' => fl = .next ∧ TurnPost w g os c S I itc (dv = 2) s') NoE s := by
  have key : ∀ s', Ok w g os G ((NL, .lst nv) :: (I, itc) :: lawLed c S (some (.int u tu)) f) s' → wpAny (model P0 w) (AR d u') (execs (chainO 2 (loopBody.drop 3)) (lawEnv c.L c.uc fa code)) (fun fl s' => fl = .next ∧ TurnPost w g os c S I itc (dv = 2) s') NoE s' := fun s' H' => ch2 B K H' hdv h3 hd hu'
  have hb := K.bl
  have hr := K.ln.few
  have hl := K.ln.three
  obtain ⟨f1, f2, f3, f4, f5, f6, f7, f8⟩ := f
  dsimp only at hdv
  subst hdv
  dsimp only at hf
  subst hf
  unfold lawLed at H
  dsimp only at H
  refine wpAny_execs_cons (wpAny_If (isTrue_and (wpAny_isTrue_Compare1 ?_)))
  walk_at "nm"
  refine e_int H (fun t1 s₁ H₁ => wpAny_eq_int (wpAny_truthy_bool ?_))
  by_cases h : dv = 1
  · rw [if_pos (by rw [h]; rfl)]
    refine isTrue_and (wpAny_isTrue_Compare1 (Call_ ?_))
    walk_at "bi"
    refine c_bi (args_cons ?_)
    walk_at "nm"
    refine args_nil (l_len H₁ (by walk_at "mem") (by omega) (fun t2 s₂ H₂ => e_int H₂ (fun t3 s₃ H₃ => PyProof.Rows.gt_int (wpAny_truthy_bool ?_))))
    by_cases h' : 2 ≤ S.ls.length
    · rw [if_pos (decide_eq_true (by omega))]
      refine isTrue_and (wpAny_isTrue_Compare1 (Call_ ?_))
      walk_at "bi"
      refine c_bi (args_cons ?_)
      walk_at "nm"
      refine args_nil (l_len H₃ (by walk_at "mem") (by rw [List.length_map]; omega) (fun t4 s₄ H₄ => e_int H₄ (fun t5 s₅ H₅ => wpAny_lt_int (wpAny_truthy_bool ?_))))
      rw [List.length_map]
      by_cases h'' : S.rs.length < 4
      · rw [if_pos (decide_eq_true (by omega))]
        refine isTrue_and_nil ?_
        rw [if_pos rfl]
        exact ch_body (P := fun fl s' => fl = .next ∧ TurnPost w g os c S I itc (dv = 2) s') (wpAny_mono (br1 (f := ⟨f1, some (.int dv td), some (.ref NL), f4, f5, f6, f7, f8⟩) B K H₅ rfl hnv hns hu h' h'' hd hu') (fun fl s₁ q => ⟨q.1, rfl, q.2.mk fun e => by rw [h] at e; exact absurd e (by decide)⟩) fun _ _ x => x)
      · rw [if_neg (by intro e; have := of_decide_eq_true e; omega)]
        rw [if_neg (by decide)]
        exact ch_body (P := fun fl s' => fl = .next ∧ TurnPost w g os c S I itc (dv = 2) s') (wpAny_mono (key _ H₅) (fun fl s₁ q => ⟨q.1, rfl, q.2⟩) fun _ _ x => x)
    · rw [if_neg (by intro e; have := of_decide_eq_true e; omega)]
      rw [if_neg (by decide)]
      exact ch_body (P := fun fl s' => fl = .next ∧ TurnPost w g os c S I itc (dv = 2) s') (wpAny_mono (key _ H₃) (fun fl s₁ q => ⟨q.1, rfl, q.2⟩) fun _ _ x => x)
  · rw [if_neg (by intro e; exact h (eq_of_beq e))]
    rw [if_neg (by decide)]
    exact ch_body (P := fun fl s' => fl = .next ∧ TurnPost w g os c S I itc (dv = 2) s') (wpAny_mono (key _ H₁) (fun fl s₁ q => ⟨q.1, rfl, q.2⟩) fun _ _ x => x)
theorem ch0 {d u' : Nat} {c : LC} {S : LS} {f : F8} {NL I fa : Addr} {code : Value} {itc : Cell} {nv : List Value} {u dv : Int} {tu td : Tok} (B : Base w g) (K : LOk w g c G S) (H : Ok w g os G ((NL, .lst nv) :: (I, itc) :: lawLed c S (some (.int u tu)) f) s) (hdv : f.deed = some (.int dv td)) (hf : f.names = some (.ref NL)) (hnv : nv.length = S.ls.length)
    (hns : ∀ (j : Nat) (v : Value), nv[j]? = some v → ∃ k x t, (lkvs S.ls)[j]? = some (k, x) ∧ v = Value.str k t) (hu : Xs 1048576 u)
    (h3 : dv = 3 → S.bs ≠ []) (hd : d ≤ 310) (hu' : u' ≤ 100) :
    wpAny (model P0 w) (AR d u') (execs (chainO 0 (loopBody.drop 3)) (lawEnv c.L c.uc fa code)) (fun fl s' => fl = .next ∧ TurnPost w g os c S I itc (dv = 2) s') NoE s := by
  have key : ∀ s', Ok w g os G ((NL, .lst nv) :: (I, itc) :: lawLed c S (some (.int u tu)) f) s' → wpAny (model P0 w) (AR d u') (execs (chainO 1 (loopBody.drop 3)) (lawEnv c.L c.uc fa code)) (fun fl s' => fl = .next ∧ TurnPost w g os c S I itc (dv = 2) s') NoE s' := fun s' H' => ch1 B K H' hdv hf hnv hns hu h3 hd hu'
  have hb := K.bl
  have hr := K.ln.few
  have hl := K.ln.three
  obtain ⟨f1, f2, f3, f4, f5, f6, f7, f8⟩ := f
  dsimp only at hdv
  subst hdv
  dsimp only at hf
  subst hf
  unfold lawLed at H
  dsimp only at H
  refine wpAny_execs_cons (wpAny_If (isTrue_and (wpAny_isTrue_Compare1 ?_)))
  walk_at "nm"
  refine e_int H (fun t1 s₁ H₁ => wpAny_eq_int (wpAny_truthy_bool ?_))
  by_cases h : dv = 0
  · rw [if_pos (by rw [h]; rfl)]
    refine isTrue_and (wpAny_isTrue_Compare1 (Call_ ?_))
    walk_at "bi"
    refine c_bi (args_cons ?_)
    walk_at "nm"
    refine args_nil (l_len H₁ (by walk_at "mem") (by omega) (fun t2 s₂ H₂ => e_int H₂ (fun t3 s₃ H₃ => wpAny_lt_int (wpAny_truthy_bool ?_))))
    by_cases h' : S.ls.length < 3
    · rw [if_pos (decide_eq_true (by omega))]
      refine isTrue_and_nil ?_
      rw [if_pos rfl]
      exact ch_body (P := fun fl s' => fl = .next ∧ TurnPost w g os c S I itc (dv = 2) s') (wpAny_mono (br0 (f := ⟨f1, some (.int dv td), some (.ref NL), f4, f5, f6, f7, f8⟩) B K H₃ rfl hnv hu h' hd hu') (fun fl s₁ q => ⟨q.1, rfl, q.2.mk fun e => by rw [h] at e; exact absurd e (by decide)⟩) fun _ _ x => x)
    · rw [if_neg (by intro e; have := of_decide_eq_true e; omega)]
      rw [if_neg (by decide)]
      exact ch_body (P := fun fl s' => fl = .next ∧ TurnPost w g os c S I itc (dv = 2) s') (wpAny_mono (key _ H₃) (fun fl s₁ q => ⟨q.1, rfl, q.2⟩) fun _ _ x => x)
  · rw [if_neg (by intro e; exact h (eq_of_beq e))]
    rw [if_neg (by decide)]
    exact ch_body (P := fun fl s' => fl = .next ∧ TurnPost w g os c S I itc (dv = 2) s') (wpAny_mono (key _ H₁) (fun fl s₁ q => ⟨q.1, rfl, q.2⟩) fun _ _ x => x)
theorem turn {d u' : Nat} {c : LC} {S : LS} {f : F8} {I fa : Addr} {code : Value} {itc : Cell} {xi : Int} {tx : Tok} {uo : Option Value} (B : Base w g) (K : LOk w g c G S) (H : Ok w g os G ((I, itc) :: lawLed c S uo f) s) (hx : f.x = some (.int xi tx))
    (hxs : Xs 1048576 xi) (h3 : xi.fmod 5 = 3 → S.bs ≠ []) (hd : d ≤ 310) (hu' : u' ≤ 100) :
    wpAny (model P0 w) (AR d u') (execs loopBody (lawEnv c.L c.uc fa code)) (fun fl s' => fl = .next ∧ TurnPost w g os c S I itc (xi.fmod 5 = 2) s') NoE s := by
  obtain ⟨f1, f2, f3, f4, f5, f6, f7, f8⟩ := f
  dsimp only at hx
  subst hx
  have hl := K.ln.three
  unfold lawLed at H
  dsimp only at H
  refine wpAny_execs_cons (wpAny_Assign_Name (wpAny_BinOp ?_))
  walk_at "nm"
  refine e_int H (fun t1 s₁ H₁ => e_mod H₁ (by decide) (fun t2 s₂ H₂ => ?_))
  refine e_store H₂ (by walk_at "zip") (by walk_at "put") (fun s₃ H₃ => ?_)
  refine wpAny_execs_cons (wpAny_Assign_Name (wpAny_BinOp ?_))
  walk_at "nm"
  refine e_int H₃ (fun t3 s₄ H₄ => e_div H₄ (by decide) (by decide +kernel) (fun t4 s₅ H₅ => ?_))
  refine e_storeC (ca := c.uc) H₅ rfl (by walk_at "zip") (fun s₆ H₆ => ?_)
  refine wpAny_execs_cons (wpAny_Assign_Name (Call_ ?_))
  walk_at "bi"
  refine PyProof.Rows.callWith_type1 (args_cons ?_)
  walk_at "nm"
  refine args_nil (l_keys H₆ (show (S.Ld, Cell.sd (lkvs S.ls)) ∈ _ by walk_at "mem") (by simp [lkvs]; omega) (fun NL nv s₇ hnv hns H₇ => ?_))
  refine e_store H₇ (by walk_at "zip") (by walk_at "put") (fun s₈ H₈ => ?_)
  refine ch0 (f := ⟨some (.int xi tx), some (.int (xi.fmod 5) t2), some (.ref NL), f4, f5, f6, f7, f8⟩) B K H₈ rfl rfl (by rw [hnv]; simp [lkvs]) hns (xs_div hxs 5 (by decide)) h3 hd hu'
end
end Mine
end
section
open PySem PySem.W PySem.Calls PyProof.Rows PySem.W.X
set_option Elab.async false
set_option maxRecDepth 100000
set_option maxHeartbeats 8000000
set_option linter.unusedVariables false
namespace Mine
local macro_rules | `(tactic| walk_at "mem") => `(tactic| first | assumption | exact List.Mem.head _ | (refine' List.Mem.tail _ ?_; walk_at "mem") | (refine' List.mem_append_right _ ?_; walk_at "mem") | (refine' List.mem_append_left _ ?_; walk_at "mem") | exact Zip.at' (by assumption) | exact Zip.keep (by assumption) (by walk_at "mem") (by intro e; cases e))
local macro_rules | `(tactic| walk_at "zip") => `(tactic| first | assumption | exact Zip.head | exact Zip.tail (by walk_at "zip") | exact Zip.app (by walk_at "zip") | exact Zip.again (by assumption))
local macro_rules | `(tactic| walk_at "kv") => `(tactic| first | with_reducible_and_instances exact List.Mem.head _ | (refine' List.Mem.tail _ ?_; walk_at "kv") | assumption)
local macro_rules | `(tactic| walk_at "put") => `(tactic| first | with_reducible exact Put.head | exact Put.tail (by walk_at "put"))
local macro_rules | `(tactic| walk_at "putd") => `(tactic| first | with_reducible exact PutD.head | with_reducible exact PutD.nil | exact PutD.tail (by decide) (by walk_at "putd"))
local macro_rules | `(tactic| walk_at "nm") => `(tactic| first
  | (refine e_local (by assumption) (by walk_at "mem") (by walk_at "kv") ?_)
  | (refine e_cell (by assumption) (by rfl) (by walk_at "mem") ?_)
  | (refine e_free (by assumption) (by rfl) (by walk_at "mem") ?_))
local macro_rules | `(tactic| walk_at "gl") => `(tactic| refine e_global (by assumption) (by assumption) (by first | with_reducible exact gl_Problem _ | with_reducible exact gl_BacktrackingSolver _ | with_reducible exact gl_Domain _ | with_reducible exact gl_Constraint _ | with_reducible exact gl_FunctionConstraint _ | with_reducible exact gl_law_yes _ | with_reducible exact gl_law_rule _ | with_reducible exact gl_law_due _) ?_)
local macro_rules | `(tactic| walk_at "bi") => `(tactic| refine e_builtin (by assumption) (by assumption) (by first | with_reducible exact bn_isinstance _ | with_reducible exact bn_callable _ | with_reducible exact bn_list _ | with_reducible exact bn_tuple _ | with_reducible exact bn_len _ | with_reducible exact bn_range _ | with_reducible exact bn_next _ | with_reducible exact bn_dict _ | with_reducible exact bn_sorted _ | with_reducible exact bn_iter _) (by first | with_reducible exact bb_isinstance | with_reducible exact bb_callable | with_reducible exact bb_list | with_reducible exact bb_tuple | with_reducible exact bb_len | with_reducible exact bb_range | with_reducible exact bb_next | with_reducible exact bb_dict | with_reducible exact bb_sorted | with_reducible exact bb_iter) ?_)
local macro_rules | `(tactic| walk_at "ns") => `(tactic| (show (_ : List Str).Nodup; dsimp only [List.map, List.nil_append, List.cons_append, List.append_nil]; decide +kernel))
local macro_rules | `(tactic| walk_at "lt") => `(tactic| (show _ < 1000; omega))
local macro_rules | `(tactic| x_close) => `(tactic| exact xq_of (by first | assumption | exact Mem.start _) (by first | rfl | assumption))
local macro_rules | `(tactic| walk_at "ga") => `(tactic| refine i_get (by assumption) (by assumption) (by walk_at "mem") (by exact rfl) (by walk_at "mem") (by first | exact cls110 _ | exact cls186 _ | exact cls336 _) (by kernel_rfl) (by walk_at "kv") (by exact rfl) ?_)
local macro_rules | `(tactic| walk_at "sa") => `(tactic| refine i_set (by assumption) (by assumption) (by walk_at "mem") (by walk_at "zip") (by first | exact cls110 _ | exact cls186 _ | exact cls336 _) (by kernel_rfl) (by kernel_rfl) (by walk_at "putd") (Nat.le_of_ble_eq_true rfl) ?_)
local macro_rules | `(tactic| walk_at "st") => `(tactic| refine e_store (by assumption) (by walk_at "zip") (by walk_at "put") ?_)
local macro_rules | `(tactic| walk_at "nmc") => `(tactic| first
  | (refine e_local (by assumption) (List.Mem.head _) (by first | exact List.Mem.head _ | exact List.Mem.tail _ (List.Mem.head _) | exact List.Mem.tail _ (List.Mem.tail _ (List.Mem.head _))) ?_)
  | (refine e_cell (by assumption) (by rfl) (by walk_at "mem") ?_)
  | (refine e_free (by assumption) (by rfl) (by walk_at "mem") ?_))
local macro_rules | `(tactic| walk_at "subl") => `(tactic| first | exact List.Sublist.refl _ | (refine' List.Sublist.cons _ ?_; walk_at "subl"))
section
variable {w : World} {g : Heap} {os : OsState} {G : Array GenState} {l l' : Led} {s : Shared} {a : Addr} {c c' : Cell} {f : Cell → Led} {A : Around} {E : Value → Shared → Prop}
/-! ## the last loop -/
def JI (w : World) (g : Heap) (os : OsState) (c : LC) (Pz : Led) (Bd I : Addr) (itc : Cell) (ts : List Value) (t T D wa : Addr) (n : Nat) (s : Shared) : Prop :=
  ∃ A Z b G S uo f, LOk w g c G S ∧ (∀ p ∈ Pz, p ∈ S.P) ∧ S.bs = A ++ b :: Z ∧ b.t = t ∧ b.k.a = wa ∧ b.told = T ∧ b.due = D ∧ f.walk = some (.ref wa) ∧ f.due = some (.ref D) ∧ f.told = some (.ref T) ∧ S.Bd = Bd ∧ (S.bs.map fun b => Value.ref b.t) = ts ∧ b.k.sols.length = n ∧ Ok w g os G ([(I, itc)] ++ lawLed c S uo f) s
theorem lawTail {d u' : Nat} {c : LC} {S : LS} {f : F8} {fa : Addr} {code : Value} {uo : Option Value} {Q : Flow → Shared → Prop} (B : Base w g) (K : LOk w g c G S) (H : Ok w g os G (lawLed c S uo f) s) (hd : d ≤ 310) (hu' : u' ≤ 100)
    (h : ∀ G' S' uo f s', LOk w g c G' S' → (∀ p ∈ S.P, p ∈ S'.P) → Ok w g os G' (lawLed c S' uo f) s' → Q (.ret (.bool true)) s') :
    wpAny (model P0 w) (AR d u') (execs (lawBody.drop 5) (lawEnv c.L c.uc fa code)) Q NoE s := by
  refine wpAny_execs_cons (x_for (g := g) (os := os) ?_)
  have H0 := H
  obtain ⟨f1, f2, f3, f4, f5, f6, f7, f8⟩ := f
  unfold lawLed at H
  dsimp only at H
  walk_at "nm"
  refine ⟨S.Bd, _, _, _, _, G, _, fun i G' l' => ∃ S' uo f, LOk w g c G' S' ∧ (∀ p ∈ S.P, p ∈ S'.P) ∧ S'.Bd = S.Bd ∧ (S'.bs.map fun b => Value.ref b.t) = (S.bs.map fun b => Value.ref b.t) ∧ l' = lawLed c S' uo f, Iter.list w S.Bd (S.bs.map fun b => .ref b.t), rfl, H0, ⟨S, uo, _, K, fun p hp => hp, rfl, rfl, rfl⟩, ?_, ?_, ?_⟩
  · rintro i G' l' ⟨S', uo', f', K', hP, hBd, hts, rfl⟩ p hp
    simp only [List.mem_singleton] at hp
    subst hp
    rw [← hBd, ← hts]
    unfold lawLed
    walk_at "mem"
  · rintro i v I G₁ l' s₁ hi hv ⟨S₁, uo₁, f', K₁, hP, hBd, hts, rfl⟩ H₁
    rw [← hts, List.getElem?_map] at hv
    obtain ⟨b, hb, rfl⟩ : ∃ b, S₁.bs[i]? = some b ∧ v = .ref b.t := by
      cases q : S₁.bs[i]? with
      | none => rw [q] at hv; cases hv
      | some b => rw [q] at hv; cases hv; exact ⟨b, rfl, rfl⟩
    have hbm := List.mem_of_getElem? hb
    have hbt := (K₁.bg b hbm).t
    obtain ⟨A, Z, e⟩ := List.append_of_mem hbm
    obtain ⟨f1, f2, f3, f4, f5, f6, f7, f8⟩ := f'
    unfold lawLed at H₁
    dsimp only at H₁
    refine a_tup3 H₁ (show (b.t, Cell.tup [.ref b.k.a, .ref b.due, .ref b.told]) ∈ _ by walk_at "mem") (fun s₃ H₃ => ?_)
    refine e_store H₃ (by walk_at "zip") (by walk_at "put") (fun s₄ H₄ => ?_)
    refine e_store H₄ (by walk_at "zip") (by walk_at "put") (fun s₅ H₅ => ?_)
    refine e_store H₅ (by walk_at "zip") (by walk_at "put") (fun s₆ H₆ => ?_)
    generalize hitc : Cell.it "list_iterator" (.fields #[.ref S.Bd, .int (i + 1 : Nat) 0]) = itc at *
    have HJ : JI w g os c S.P S.Bd I itc (S.bs.map fun b => .ref b.t) b.t b.told b.due b.k.a b.k.sols.length s₆ := ⟨A, Z, b, G₁, S₁, uo₁, ⟨f1, f2, f3, f4, f5, some (.ref b.k.a), some (.ref b.due), some (.ref b.told)⟩, K₁, hP, e, rfl, rfl, rfl, rfl, rfl, rfl, rfl, hBd, hts, rfl, H₆⟩
    refine wpAny_execs_cons (x_forI (JI w g os c S.P S.Bd I itc (S.bs.map fun b => .ref b.t) b.t b.told b.due b.k.a) ?_)
    refine e_local H₆ (.tail _ (.head _)) (by walk_at "kv") ?_
    have Ho := law_open (c := c) (S := S₁) (uo := uo₁) (f := ⟨f1, f2, f3, f4, f5, some (.ref b.k.a), some (.ref b.due), some (.ref b.told)⟩) (X := [(I, itc)]) e H₆
    refine w_iter Ho (K₁.bg b hbm).k ⟨⟨_, HJ⟩, ?_⟩
    clear HJ Ho H₆ H₅ H₄ H₃ H₁ hbt
    rintro n s₇ ⟨A', Z', b', G₂, S₂, uo₂, f₂, K₂, hP₂, e₂, t1, t2, t3, t4, w1, w2, w3, hBd₂, hts₂, hn, H₇⟩
    obtain ⟨g1, g2, g3, g4, g5, g6, g7, g8⟩ := f₂
    dsimp only at w1 w2 w3
    subst w1 w2 w3
    have hbm' : b' ∈ S₂.bs := by rw [e₂]; simp
    have hbo := K₂.bg b' hbm'
    have Ho := law_open (X := [(I, itc)]) e₂ H₇
    rw [← t2]
    refine w_next B Ho hbo.k (fun p hp => ?_) (by omega) (by omega) (fun hs G' own' s' gx hk H' => ?_) (fun sol r hs dd G' own' s' gx hk H' => ?_)
    · have := hbo.need p hp
      unfold restLed
      exact .tail _ (List.mem_append_right _ (List.mem_append_right _ (List.mem_append_right _ (List.mem_append_right _ (List.mem_append_right _ this)))))
    · obtain ⟨hK, hl⟩ := bs_step (W := []) (tl' := b'.tl) (r := []) K₂ e₂ gx (by rw [← hs]; exact hk) (fun p hp => hbo.tl p hp) (by rw [hbo.same, hs]) hbo.itl (fun x hx => by cases hx)
      have H₈ := hl [(I, itc)] _ _ _ H'
      have inP : ∀ p ∈ S₂.P, p ∈ own' ++ ((b'.told, Cell.lst (dRefs b'.tl)) :: ([(I, itc)] ++ headLed c S₂ uo₂ ⟨g1, g2, g3, g4, g5, some (.ref b.k.a), some (.ref b.due), some (.ref b.told)⟩ ++ restLed A' Z' S₂.P)) := by
        intro p hp
        unfold restLed
        exact List.mem_append_right _ (.tail _ (List.mem_append_right _ (List.mem_append_right _ (List.mem_append_right _ (List.mem_append_right _ (List.mem_append_right _ hp))))))
      have hL : (c.L, Cell.ns [("script", some c.sc), ("problem", some (.ref c.x)), ("lists", some (.ref S₂.Ld)), ("rules", some (.ref S₂.Rd)), ("begun", some (.ref S₂.Bd)), ("x", g1), ("deed", g2), ("names", g3), ("one", g4), ("other", g5), ("walk", some (.ref b.k.a)), ("due", some (.ref b.due)), ("told", some (.ref b.told))]) ∈ own' ++ ((b'.told, Cell.lst (dRefs b'.tl)) :: ([(I, itc)] ++ headLed c S₂ uo₂ ⟨g1, g2, g3, g4, g5, some (.ref b.k.a), some (.ref b.due), some (.ref b.told)⟩ ++ restLed A' Z' S₂.P)) := by
        refine List.mem_append_right _ (.tail _ (List.mem_append_left _ (List.mem_append_right _ (.head _))))
      refine wpAny_execs_nil ?_
      refine wpAny_execs_cons (wpAny_If (wpAny_isTrue_Compare1 ?_))
      refine e_local H' hL (by walk_at "kv") ?_
      refine e_local H' hL (by walk_at "kv") ?_
      rw [← t3, ← t4]
      refine l_cmp H' (p := b'.told) (q := b'.due) (ds := b'.tl) (es := b'.dl) (List.mem_append_right _ (.head _)) (inP _ hbo.due) (fun p hp => inP _ (hbo.tl p hp)) (fun p hp => inP _ (hbo.dl p hp)) (by rw [hbo.same, hs]; simp) hbo.itl hbo.idl (by show u' + 4 < 9900; omega) 3 false (.inr ⟨rfl, rfl, rfl⟩) ?_
      refine wpAny_truthy_bool ?_
      rw [if_neg (by decide)]
      refine wpAny_execs_nil (wpAny_execs_nil ?_)
      refine ⟨G', _, ⟨_, uo₂, _, hK, fun p hp => hP₂ p hp, hBd₂, ?_, rfl⟩, H₈⟩
      rw [← hts₂, e₂]
      simp
    · have hsl := hbo.isl sol (by rw [hs]; exact .head _)
      have htl : b'.tl.length ≤ 1000 := by
        have h1 := congrArg List.length hbo.same
        simp only [List.length_append, List.length_map] at h1
        have := hbo.len
        omega
      dsimp only [headLed, List.cons_append, List.nil_append] at H'
      refine wpAny_assign_Name (e_store H' (.tail (.app (.tail (.tail .head)))) (by walk_at "put") (fun s₈ H₈ => ?_))
      replace H₈ := H₈.perm (List.Perm.cons _ List.perm_middle)
      rw [← t3] at H₈
      refine wpAny_mono (take (c := c) (T := b'.told) (dd := dd) (tl := b'.tl) (sol := sol) B (.inr rfl) H₈ (by refine List.mem_append_right own' (.tail _ ?_); exact .head _) (by walk_at "kv") (by walk_at "kv") htl hsl hu') (fun fl s₉ q => ?_) (fun _ _ x => x)
      obtain ⟨rfl, N, H₉⟩ := q
      obtain ⟨hK, hl⟩ := bs_step (W := [(N, .sd sol)]) (tl' := b'.tl ++ [(N, sol)]) K₂ e₂ gx hk (fun p hp => by
        unfold dLed at hp
        rw [List.map_append] at hp
        rcases List.mem_append.mp hp with hp | hp
        · exact .tail _ (hbo.tl p hp)
        · simp only [List.map_cons, List.map_nil, List.mem_singleton] at hp
          subst hp
          exact .head _) (by rw [hbo.same, hs, List.map_append]; simp) (fun x hx => by
        rcases List.mem_append.mp hx with hx | hx
        · exact hbo.itl x hx
        · simp only [List.mem_singleton] at hx
          subst hx
          exact hbo.iso sol (by rw [hs]; exact .head _)) (fun x hx => by rw [hs]; exact .tail _ hx)
      have H₁₀ := H₉.perm (pm3e [_] [_] own' _)
      have H₁₁ := hl [(I, itc)] uo₂ ⟨g1, g2, g3, some (.ref dd), g5, some (.ref b.k.a), some (.ref b.due), some (.ref b.told)⟩ s₉ (by rw [← t3]; exact H₁₀)
      refine ⟨r.length, ?_, A', Z', _, G', _, uo₂, _, hK, fun p hp => List.mem_append_right _ (hP₂ p hp), rfl, t1, rfl, t3, t4, by dsimp only; rw [t2], rfl, rfl, hBd₂, ?_, rfl, H₁₁⟩
      · rw [hs] at hn
        rw [← hn]
        exact Nat.lt_succ_self _
      · rw [← hts₂, e₂]
        simp
  · rintro G' l' s₁ ⟨S', uo', f', K', hP, hBd, hts, rfl⟩ H₁
    refine wpAny_execs_nil ?_
    refine wpAny_execs_cons (wpAny_Return_some (wpAny_Compare1 ?_))
    refine law_ask (X := []) B K' H₁ hd hu' (.inl ⟨rfl, rfl, rfl⟩) rfl (fun G'' P' ps' s₂ gr K'' H₂ => ?_)
    exact h G'' _ _ _ s₂ K'' (fun p hp => gr _ (hP p hp)) H₂
end
end Mine
end
section
open PySem PySem.W PySem.Calls PyProof.Rows PySem.W.X
set_option Elab.async false
set_option maxRecDepth 100000
set_option maxHeartbeats 8000000
set_option linter.unusedVariables false
namespace Mine
local macro_rules | `(tactic| walk_at "mem") => `(tactic| first | assumption | exact List.Mem.head _ | (refine' List.Mem.tail _ ?_; walk_at "mem") | (refine' List.mem_append_right _ ?_; walk_at "mem") | (refine' List.mem_append_left _ ?_; walk_at "mem") | exact Zip.at' (by assumption) | exact Zip.keep (by assumption) (by walk_at "mem") (by intro e; cases e))
local macro_rules | `(tactic| walk_at "zip") => `(tactic| first | assumption | exact Zip.head | exact Zip.tail (by walk_at "zip") | exact Zip.app (by walk_at "zip") | exact Zip.again (by assumption))
local macro_rules | `(tactic| walk_at "kv") => `(tactic| first | with_reducible_and_instances exact List.Mem.head _ | (refine' List.Mem.tail _ ?_; walk_at "kv") | assumption)
local macro_rules | `(tactic| walk_at "put") => `(tactic| first | with_reducible exact Put.head | exact Put.tail (by walk_at "put"))
local macro_rules | `(tactic| walk_at "putd") => `(tactic| first | with_reducible exact PutD.head | with_reducible exact PutD.nil | exact PutD.tail (by decide) (by walk_at "putd"))
local macro_rules | `(tactic| walk_at "nm") => `(tactic| first
  | (refine e_local (by assumption) (by walk_at "mem") (by walk_at "kv") ?_)
  | (refine e_cell (by assumption) (by rfl) (by walk_at "mem") ?_)
  | (refine e_free (by assumption) (by rfl) (by walk_at "mem") ?_))
local macro_rules | `(tactic| walk_at "gl") => `(tactic| refine e_global (by assumption) (by assumption) (by first | with_reducible exact gl_Problem _ | with_reducible exact gl_BacktrackingSolver _ | with_reducible exact gl_Domain _ | with_reducible exact gl_Constraint _ | with_reducible exact gl_FunctionConstraint _ | with_reducible exact gl_law_yes _ | with_reducible exact gl_law_rule _ | with_reducible exact gl_law_due _) ?_)
local macro_rules | `(tactic| walk_at "bi") => `(tactic| refine e_builtin (by assumption) (by assumption) (by first | with_reducible exact bn_isinstance _ | with_reducible exact bn_callable _ | with_reducible exact bn_list _ | with_reducible exact bn_tuple _ | with_reducible exact bn_len _ | with_reducible exact bn_range _ | with_reducible exact bn_next _ | with_reducible exact bn_dict _ | with_reducible exact bn_sorted _ | with_reducible exact bn_iter _) (by first | with_reducible exact bb_isinstance | with_reducible exact bb_callable | with_reducible exact bb_list | with_reducible exact bb_tuple | with_reducible exact bb_len | with_reducible exact bb_range | with_reducible exact bb_next | with_reducible exact bb_dict | with_reducible exact bb_sorted | with_reducible exact bb_iter) ?_)
local macro_rules | `(tactic| walk_at "ns") => `(tactic| (show (_ : List Str).Nodup; dsimp only [List.map, List.nil_append, List.cons_append, List.append_nil]; decide +kernel))
local macro_rules | `(tactic| walk_at "lt") => `(tactic| (show _ < 1000; omega))
local macro_rules | `(tactic| x_close) => `(tactic| exact xq_of (by first | assumption | exact Mem.start _) (by first | rfl | assumption))
local macro_rules | `(tactic| walk_at "ga") => `(tactic| refine i_get (by assumption) (by assumption) (by walk_at "mem") (by exact rfl) (by walk_at "mem") (by first | exact cls110 _ | exact cls186 _ | exact cls336 _) (by kernel_rfl) (by walk_at "kv") (by exact rfl) ?_)
local macro_rules | `(tactic| walk_at "sa") => `(tactic| refine i_set (by assumption) (by assumption) (by walk_at "mem") (by walk_at "zip") (by first | exact cls110 _ | exact cls186 _ | exact cls336 _) (by kernel_rfl) (by kernel_rfl) (by walk_at "putd") (Nat.le_of_ble_eq_true rfl) ?_)
local macro_rules | `(tactic| walk_at "st") => `(tactic| refine e_store (by assumption) (by walk_at "zip") (by walk_at "put") ?_)
local macro_rules | `(tactic| walk_at "nmc") => `(tactic| first
  | (refine e_local (by assumption) (List.Mem.head _) (by first | exact List.Mem.head _ | exact List.Mem.tail _ (List.Mem.head _) | exact List.Mem.tail _ (List.Mem.tail _ (List.Mem.head _))) ?_)
  | (refine e_cell (by assumption) (by rfl) (by walk_at "mem") ?_)
  | (refine e_free (by assumption) (by rfl) (by walk_at "mem") ?_))
local macro_rules | `(tactic| walk_at "subl") => `(tactic| first | exact List.Sublist.refl _ | (refine' List.Sublist.cons _ ?_; walk_at "subl"))
section
variable {w : World} {g : Heap} {os : OsState} {G : Array GenState} {l l' : Led} {s : Shared} {a : Addr} {c c' : Cell} {f : Cell → Led} {A : Around} {E : Value → Shared → Prop}
/-! ## the law -/
theorem pm6 {α : Type} (A B C D E F K L M : List α) : (A ++ (B ++ (C ++ (D ++ (E ++ (F ++ (K ++ (L ++ M)))))))).Perm (L ++ (F ++ (E ++ (D ++ (C ++ (B ++ (M ++ (A ++ K)))))))) := by
  classical
  exact List.perm_iff_count.mpr (fun x => by simp only [List.count_append]; omega)
theorem pm7 {α : Type} (A B C : List α) : (A ++ (B ++ C)).Perm (B ++ (A ++ C)) := by
  classical
  exact List.perm_iff_count.mpr (fun x => by simp only [List.count_append]; omega)
theorem lawMain {d u' : Nat} {L uc fa sc : Addr} {code : Value} {vs : List Value} {R : Flow → Shared → Prop} (B : Base w g) (H : Ok w g os G [(L, .ns [("script", some (.ref sc)), ("problem", none), ("lists", none), ("rules", none), ("begun", none), ("x", none), ("deed", none), ("names", none), ("one", none), ("other", none), ("walk", none), ("due", none), ("told", none)]), (uc, .cl none), (354, .ob (tabObj #[])), (347, .ob (tabObj #[]))] s)
    (hsc : g.IsList sc vs.toArray) (hvs : ∀ v ∈ vs, ∃ i t, v = Value.int i t ∧ Xs 1048576 i) (hlen : vs.length ≤ 2000000) (hbare : AllBare G) (hd : d ≤ 310) (hu' : u' ≤ 100)
    (h : ∀ G' p4 p7 l' s', AllBare G' → Ok w g os G' ((354, .ob (tabObj p4)) :: (347, .ob (tabObj p7)) :: l') s' → TabOk l' 254 30 "_law_due.<locals>.<lambda>" p4 → TabOk l' 252 11 "_law_rule.<locals>.<lambda>" p7 → R (.ret (.bool true)) s') :
    wpAny (model P0 w) (AR d u') (execs lawBody (lawEnv L uc fa code)) R NoE s := by
  refine wpAny_execs_cons (wpAny_Assign_Name (Call_ ?_))
  walk_at "gl"
  refine c_fn B (by kernel_rfl) (args_cons (Call_ ?_))
  walk_at "gl"
  refine c_fn B (by kernel_rfl) (args_cons (wpAny_Constant_bool ?_))
  refine args_nil ⟨⟨_, _, _, H⟩, wpAny_call (e_make (fI := 164) B H (by kernel_rfl) (by kernel_rfl) (by kernel_rfl) (fun sv dS s₁ H₁ => ?_))⟩
  refine spec_bsinit B H₁ (.head _) (.tail .head) (by omega) (fun s₂ H₂ => ⟨rfl, ?_⟩)
  refine args_nil ⟨⟨_, _, _, H₂⟩, wpAny_call (e_make (fI := 36) B H₂ (by kernel_rfl) (by kernel_rfl) (by kernel_rfl) (fun x dx s₃ H₃ => ?_))⟩
  refine spec_probinit (S := sv) (dS := dS) B H₃ (.head _) (.tail _ (.tail _ (.head _))) (.tail .head) (by omega) (fun C V s₄ H₄ => ⟨rfl, ?_⟩)
  refine e_store H₄ (by walk_at "zip") (by walk_at "put") (fun s₅ H₅ => ?_)
  refine wpAny_execs_cons (wpAny_Assign_Name (e_dict0 H₅ (fun Ld s₆ H₆ => ?_)))
  refine e_store H₆ (by walk_at "zip") (by walk_at "put") (fun s₇ H₇ => ?_)
  refine wpAny_execs_cons (wpAny_Assign_Name (List_ (args_nil (e_newList H₇ (fun Rd s₈ H₈ => ?_) (Nat.zero_le _)))))
  refine e_store H₈ (by walk_at "zip") (by walk_at "put") (fun s₉ H₉ => ?_)
  refine wpAny_execs_cons (wpAny_Assign_Name (List_ (args_nil (e_newList H₉ (fun Bd s₁₀ H₁₀ => ?_) (Nat.zero_le _)))))
  refine e_store H₁₀ (by walk_at "zip") (by walk_at "put") (fun s₁₁ H₁₁ => ?_)
  clear H₁₀ H₉ H₈ H₇ H₆ H₅ H₄ H₃ H₂ H₁ H
  refine wpAny_execs_cons (x_for (g := g) (os := os) (wpAny_BinOp (List_ ?_)))
  refine args_cons (e_int H₁₁ (fun t1 s₁₂ H₁₂ => args_cons (e_int H₁₂ (fun t2 s₁₃ H₁₃ => args_cons (e_int H₁₃ (fun t3 s₁₄ H₁₄ => args_nil (e_newList H₁₄ (fun D0 s₁₅ H₁₅ => ?_) (by rw [sizeLine_eq]; exact Nat.le_of_ble_eq_true rfl))))))))
  refine x_sub ?_ (fun o i => ⟨_, rfl⟩)
  walk_at "nm"
  refine x_upto H₁₅ (fun sl tt s₁₆ H₁₆ hsl => ?_)
  have hL : s₁₆.heap.IsList sc vs.toArray := by
    obtain ⟨o, ho, r⟩ := hsc
    exact ⟨o, H₁₆.keep _ _ ho, r⟩
  refine ⟨notpy_T hL.typeIs PySem.F.slot_list_getitem.lookup, ?_⟩
  refine wpAny_getItem_list_slice hL hsl .none (.int 18 tt) .none (by decide) ?_ (by rw [List.size_toArray, sizeLine_eq]; omega)
  rw [show ((18 : Int)) = ((18 : Nat) : Int) from rfl, slicePick_upto']
  have H₁₇ := H₁₆.push (t := s₁₆.toks) (c := .lst (vs.take 18)) (o := { cls := .type "list", data := .seq (vs.take 18).toArray }) ⟨0, Heap.get?_push_size _ rfl⟩
  generalize s₁₆.heap.objs.size = D1 at H₁₇ ⊢
  refine l_add H₁₇ (a := D0) (b := D1) (.tail _ (.head _)) (.head _) (by simp; omega) (fun X s₁₈ H₁₈ => ?_)
  replace H₁₈ := H₁₈.perm (pm6 [_, _, _] [_] [_] [_] [_] [_] [_, _, _, _] [_, _] [_, _])
  have hvs' : ∀ (i : Nat) (v : Value), ([Value.int 5 t1, .int 40 t2, .int 2 t3] ++ vs.take 18)[i]? = some v → ∃ xi t, v = Value.int xi t ∧ Xs 1048576 xi ∧ (i < 3 → xi.fmod 5 ≠ 3) ∧ (i = 2 → xi.fmod 5 = 2) := by
    intro i v hv
    rcases Nat.lt_or_ge i 3 with hi | hi
    · have hi' : i = 0 ∨ i = 1 ∨ i = 2 := by omega
      rcases hi' with rfl | rfl | rfl
      · cases hv; exact ⟨5, t1, rfl, by unfold Xs; exact Nat.lt_of_lt_of_le (by decide : Int.natAbs 5 < 2 ^ 10) (Nat.pow_le_pow_right (by decide) (by decide)), fun _ => by decide, fun e => by cases e⟩
      · cases hv; exact ⟨40, t2, rfl, by unfold Xs; exact Nat.lt_of_lt_of_le (by decide : Int.natAbs 40 < 2 ^ 10) (Nat.pow_le_pow_right (by decide) (by decide)), fun _ => by decide, fun e => by cases e⟩
      · cases hv; exact ⟨2, t3, rfl, by unfold Xs; exact Nat.lt_of_lt_of_le (by decide : Int.natAbs 2 < 2 ^ 10) (Nat.pow_le_pow_right (by decide) (by decide)), fun _ => by decide, fun _ => by decide⟩
    · rw [List.getElem?_append_right (by simpa using hi)] at hv
      obtain ⟨xi, t, e, hx⟩ := hvs v (List.mem_of_mem_take (List.mem_of_getElem? hv))
      exact ⟨xi, t, e, hx, fun h => by omega, fun h => by omega⟩
  have hS0 : LOk w g ⟨L, uc, x, dx, sv, dS, C, V, .ref sc⟩ G ⟨[], [], Ld, Rd, Bd, [], [], [], [(X, .lst ([Value.int 5 t1, .int 40 t2, .int 2 t3] ++ vs.take 18)), (D1, .lst (vs.take 18)), (D0, .lst [Value.int 5 t1, .int 40 t2, .int 2 t3]), (x, .ob (instObj 110 dx)), (dx, .sd [("_solver", .ref sv), ("_constraints", .ref C), ("_variables", .ref V)]), (sv, .ob (instObj 186 dS)), (dS, .sd [("_forwardcheck", .bool false)])], #[], #[]⟩ :=
    ⟨⟨by simp, by simp, by simp, by simp, (fun c hc => by cases hc), (fun c hc => by cases hc), List.nodup_nil, Nat.zero_le _, Nat.zero_le _⟩, ⟨(fun c hc => by cases hc), (fun c hc => by cases hc), List.nodup_nil, Nat.zero_le _, Nat.zero_le _⟩, rfl, rfl, rfl, (fun b hb => by cases hb), List.Pairwise.nil, .inl rfl, .inl rfl, hbare, Nat.zero_le _⟩
  refine ⟨X, _, _, _, _, G, _, fun i G' l' => ∃ S uo f, LOk w g ⟨L, uc, x, dx, sv, dS, C, V, .ref sc⟩ G' S ∧ (X, Cell.lst ([Value.int 5 t1, .int 40 t2, .int 2 t3] ++ vs.take 18)) ∈ S.P ∧ (3 ≤ i → S.bs ≠ []) ∧ l' = lawLed ⟨L, uc, x, dx, sv, dS, C, V, .ref sc⟩ S uo f, Iter.list w X ([Value.int 5 t1, .int 40 t2, .int 2 t3] ++ vs.take 18), rfl, H₁₈, ⟨_, none, ⟨none, none, none, none, none, none, none, none⟩, hS0, .head _, fun h => absurd h (by decide), rfl⟩, ?_, ?_, ?_⟩
  · rintro i G' l' ⟨S, uo, f, K, hX, h3, rfl⟩ p hp
    simp only [List.mem_singleton] at hp
    subst hp
    unfold lawLed
    walk_at "mem"
  · rintro i v I G' l' s₁₉ hi hv ⟨S, uo, f, K, hX, h3, rfl⟩ H₁₉
    obtain ⟨xi, tx, rfl, hxs, hx3, hx2⟩ := hvs' i v hv
    obtain ⟨f1, f2, f3, f4, f5, f6, f7, f8⟩ := f
    unfold lawLed at H₁₉
    dsimp only at H₁₉
    refine wpAny_assign_Name (e_store H₁₉ (by walk_at "zip") (by walk_at "put") (fun s₂₀ H₂₀ => ?_))
    refine wpAny_mono (turn (c := ⟨L, uc, x, dx, sv, dS, C, V, .ref sc⟩) (f := ⟨some (.int xi tx), f2, f3, f4, f5, f6, f7, f8⟩) B K H₂₀ rfl hxs (fun e => ?_) hd hu') (fun fl s₂₁ q => ?_) fun _ _ x => x
    · rcases Nat.lt_or_ge i 3 with hlt | hge
      · exact absurd e (hx3 hlt)
      · exact h3 hge
    · obtain ⟨rfl, G'', S', uo', f', K', kP, kb, kn, H₂₁⟩ := q
      refine ⟨G'', _, ⟨S', uo', f', K', kP _ hX, fun hi3 => ?_, rfl⟩, H₂₁⟩
      rcases Nat.lt_or_ge i 3 with hlt | hge
      · exact kn (hx2 (by omega))
      · exact kb (h3 hge)
  · rintro G' l' s₁₉ ⟨S, uo, f, K, hX, h3, rfl⟩ H₁₉
    refine wpAny_execs_nil ?_
    refine lawTail (c := ⟨L, uc, x, dx, sv, dS, C, V, .ref sc⟩) B K H₁₉ hd hu' (fun G'' S' uo' f' s₂₀ K' kP H₂₀ => ?_)
    unfold lawLed at H₂₀
    dsimp only at H₂₀
    have H₂₁ := H₂₀.perm (pm7 [_, _, _, _, _, _, _] [_, _] (toldLed S'.bs ++ (ownLed S'.bs ++ S'.P)))
    have inP : ∀ p ∈ S'.P, p ∈ [(L, Cell.ns [("script", some (.ref sc)), ("problem", some (.ref x)), ("lists", some (.ref S'.Ld)), ("rules", some (.ref S'.Rd)), ("begun", some (.ref S'.Bd)), ("x", f'.x), ("deed", f'.deed), ("names", f'.names), ("one", f'.one), ("other", f'.other), ("walk", f'.walk), ("due", f'.due), ("told", f'.told)]), (uc, .cl uo'), (C, .lst (S'.cs.map fun c => .ref c.t)), (V, .sd (dkvs S'.vs)), (S'.Ld, .sd (lkvs S'.ls)), (S'.Rd, .lst (S'.rs.map fun r => .ref r.t)), (S'.Bd, .lst (S'.bs.map fun b => .ref b.t))] ++ (toldLed S'.bs ++ (ownLed S'.bs ++ S'.P)) := fun p hp => List.mem_append_right _ (List.mem_append_right _ (List.mem_append_right _ hp))
    exact h G'' S'.p4 S'.p7 _ s₂₀ K'.bare H₂₁ (K'.t4.mono inP) (K'.t7.mono inP)
end
end Mine
end
section
open PySem PySem.W PySem.Calls PyProof.Rows PySem.W.X
set_option Elab.async false
set_option maxRecDepth 100000
set_option maxHeartbeats 8000000
set_option linter.unusedVariables false
namespace Mine
local macro_rules | `(tactic| walk_at "mem") => `(tactic| first | assumption | exact List.Mem.head _ | (refine' List.Mem.tail _ ?_; walk_at "mem") | (refine' List.mem_append_right _ ?_; walk_at "mem") | (refine' List.mem_append_left _ ?_; walk_at "mem") | exact Zip.at' (by assumption) | exact Zip.keep (by assumption) (by walk_at "mem") (by intro e; cases e))
local macro_rules | `(tactic| walk_at "zip") => `(tactic| first | assumption | exact Zip.head | exact Zip.tail (by walk_at "zip") | exact Zip.app (by walk_at "zip") | exact Zip.again (by assumption))
local macro_rules | `(tactic| walk_at "kv") => `(tactic| first | with_reducible_and_instances exact List.Mem.head _ | (refine' List.Mem.tail _ ?_; walk_at "kv") | assumption)
local macro_rules | `(tactic| walk_at "put") => `(tactic| first | with_reducible exact Put.head | exact Put.tail (by walk_at "put"))
local macro_rules | `(tactic| walk_at "putd") => `(tactic| first | with_reducible exact PutD.head | with_reducible exact PutD.nil | exact PutD.tail (by decide) (by walk_at "putd"))
local macro_rules | `(tactic| walk_at "nm") => `(tactic| first
  | (refine e_local (by assumption) (by walk_at "mem") (by walk_at "kv") ?_)
  | (refine e_cell (by assumption) (by rfl) (by walk_at "mem") ?_)
  | (refine e_free (by assumption) (by rfl) (by walk_at "mem") ?_))
local macro_rules | `(tactic| walk_at "gl") => `(tactic| refine e_global (by assumption) (by assumption) (by first | with_reducible exact gl_Problem _ | with_reducible exact gl_BacktrackingSolver _ | with_reducible exact gl_Domain _ | with_reducible exact gl_Constraint _ | with_reducible exact gl_FunctionConstraint _ | with_reducible exact gl_law_yes _ | with_reducible exact gl_law_rule _ | with_reducible exact gl_law_due _) ?_)
local macro_rules | `(tactic| walk_at "bi") => `(tactic| refine e_builtin (by assumption) (by assumption) (by first | with_reducible exact bn_isinstance _ | with_reducible exact bn_callable _ | with_reducible exact bn_list _ | with_reducible exact bn_tuple _ | with_reducible exact bn_len _ | with_reducible exact bn_range _ | with_reducible exact bn_next _ | with_reducible exact bn_dict _ | with_reducible exact bn_sorted _ | with_reducible exact bn_iter _) (by first | with_reducible exact bb_isinstance | with_reducible exact bb_callable | with_reducible exact bb_list | with_reducible exact bb_tuple | with_reducible exact bb_len | with_reducible exact bb_range | with_reducible exact bb_next | with_reducible exact bb_dict | with_reducible exact bb_sorted | with_reducible exact bb_iter) ?_)
local macro_rules | `(tactic| walk_at "ns") => `(tactic| (show (_ : List Str).Nodup; dsimp only [List.map, List.nil_append, List.cons_append, List.append_nil]; decide +kernel))
local macro_rules | `(tactic| walk_at "lt") => `(tactic| (show _ < 1000; omega))
local macro_rules | `(tactic| x_close) => `(tactic| exact xq_of (by first | assumption | exact Mem.start _) (by first | rfl | assumption))
local macro_rules | `(tactic| walk_at "ga") => `(tactic| refine i_get (by assumption) (by assumption) (by walk_at "mem") (by exact rfl) (by walk_at "mem") (by first | exact cls110 _ | exact cls186 _ | exact cls336 _) (by kernel_rfl) (by walk_at "kv") (by exact rfl) ?_)
local macro_rules | `(tactic| walk_at "sa") => `(tactic| refine i_set (by assumption) (by assumption) (by walk_at "mem") (by walk_at "zip") (by first | exact cls110 _ | exact cls186 _ | exact cls336 _) (by kernel_rfl) (by kernel_rfl) (by walk_at "putd") (Nat.le_of_ble_eq_true rfl) ?_)
local macro_rules | `(tactic| walk_at "st") => `(tactic| refine e_store (by assumption) (by walk_at "zip") (by walk_at "put") ?_)
local macro_rules | `(tactic| walk_at "nmc") => `(tactic| first
  | (refine e_local (by assumption) (List.Mem.head _) (by first | exact List.Mem.head _ | exact List.Mem.tail _ (List.Mem.head _) | exact List.Mem.tail _ (List.Mem.tail _ (List.Mem.head _))) ?_)
  | (refine e_cell (by assumption) (by rfl) (by walk_at "mem") ?_)
  | (refine e_free (by assumption) (by rfl) (by walk_at "mem") ?_))
local macro_rules | `(tactic| walk_at "subl") => `(tactic| first | exact List.Sublist.refl _ | (refine' List.Sublist.cons _ ?_; walk_at "subl"))
section
variable {w : World} {g : Heap} {os : OsState} {G : Array GenState} {l l' : Led} {s : Shared} {a : Addr} {c c' : Cell} {f : Cell → Led} {A : Around} {E : Value → Shared → Prop}
/-! ## the two tables are put out of the old heap -/
def fz : Obj := { cls := .none, data := .freed }
def mask (h : Heap) : Heap := ⟨(h.objs.setIfInBounds 354 fz).setIfInBounds 347 fz, h.life⟩
theorem mask_none (h : Heap) {b : Addr} (hb : b = 354 ∨ b = 347) : (mask h).get? b = none := by
  unfold mask Heap.get?
  dsimp only
  rw [Array.getElem?_setIfInBounds, Array.getElem?_setIfInBounds]
  rcases hb with rfl | rfl
  · rw [if_neg (by decide), if_pos rfl]
    by_cases q : 354 < h.objs.size
    · rw [if_pos q]; rfl
    · rw [if_neg q]
  · rw [if_pos rfl]
    by_cases q : 347 < (h.objs.setIfInBounds 354 fz).size
    · rw [if_pos q]; rfl
    · rw [if_neg q]
theorem mask_ne (h : Heap) {b : Addr} (h1 : b ≠ 354) (h2 : b ≠ 347) : (mask h).get? b = h.get? b := by
  unfold mask Heap.get?
  dsimp only
  rw [Array.getElem?_setIfInBounds, Array.getElem?_setIfInBounds, if_neg (Ne.symm h2), if_neg (Ne.symm h1)]
theorem mask_keep {h : Heap} {b : Addr} {o : Obj} (e : (mask h).get? b = some o) : h.get? b = some o ∧ b ≠ 354 ∧ b ≠ 347 := by
  by_cases h1 : b = 354
  · rw [mask_none h (.inl h1)] at e; cases e
  by_cases h2 : b = 347
  · rw [mask_none h (.inr h2)] at e; cases e
  rw [mask_ne h h1 h2] at e
  exact ⟨e, h1, h2⟩
theorem mask_ns {h : Heap} {a : Addr} {m : Str → Option Value} (x : h.Ns a m) (h1 : a ≠ 354) (h2 : a ≠ 347) : (mask h).Ns a m := by
  obtain ⟨o, es, ep, e, r⟩ := x
  exact ⟨o, es, ep, by rw [mask_ne h h1 h2]; exact e, r⟩
theorem base_of {h : Heap} {mg mb : Str → Option Value} (X : (Kf w).In h) (g1 : h.Ns mainGlobals mg) (g2 : h.Ns builtinsNs mb) (g3 : ∀ x : Str, x ≠ "__name__" → mb x = bootBuiltins x)
    (g4 : ∃ bm ob, mg "__builtins__" = some (.ref bm) ∧ bm ≠ builtinsNs ∧ h.get? bm = some ob ∧ ob.cls = .type "module" ∧ ob.dict = some builtinsNs ∧ ob.data = .plain) (g5 : h.NoLimit) (t1 : h.get? 354 = some (tabObj #[])) (t2 : h.get? 347 = some (tabObj #[])) : Base w (mask h) := by
  refine ⟨fun b o e => ?_, ⟨mg, mb, mask_ns g1 (by decide) (by decide), mask_ns g2 (by decide) (by decide), g3, ?_⟩, ?_⟩
  · have h1 : b ≠ 354 := by
      rintro rfl
      have : (Kf w).lookup 354 = none := rfl
      rw [this] at e; cases e
    have h2 : b ≠ 347 := by
      rintro rfl
      have : (Kf w).lookup 347 = none := rfl
      rw [this] at e; cases e
    rw [mask_ne h h1 h2]
    exact X _ _ e
  · obtain ⟨bm, ob, a1, a2, a3, a4, a5⟩ := g4
    have h1 : bm ≠ 354 := by rintro rfl; rw [t1] at a3; cases a3; cases a4
    have h2 : bm ≠ 347 := by rintro rfl; rw [t2] at a3; cases a3; cases a4
    exact ⟨bm, ob, a1, a2, by rw [mask_ne h h1 h2]; exact a3, a4, a5⟩
  · obtain ⟨mc, a, b⟩ := g5
    exact ⟨mc, mask_ns a (by decide) (by decide), b⟩
theorem call_fnH {d u : Nat} {fa : Addr} {o : Obj} {fd : FuncData} {body : List Stmt} {args : Args} {binds : List (Str × Value)} {kvs cn : List (Str × Option Value)} {R : Result → Shared → Prop}
    (B : Base w g) (H : Ok w g os G l s) (hf : s.heap.get? fa = some o) (ho : o.data = .func fd) (hcd : s.heap.CodeRec fd.code fd.qualname) (hbody : fd.body = .stmts body) (hbind : BindsTo s fd args binds) (hclo : fd.closure = [])
    (hkind : ∀ x ∈ binds, fd.scope.names.lookup x.1 = some .local ∨ (fd.scope.names.lookup x.1 = some .cell ∧ (cn.lookup x.1).isSome = true))
    (hcn : ∀ n, (cellsFrom n fd.scope.names []).map (·.1) = cn.map (·.1)) (hndc : (cn.map (·.1)).Nodup)
    (hL : ∀ x, bindL (fun y => fd.scope.names.lookup y) binds (fun _ => none) x = (kvs.lookup x).join) (hnd : (kvs.map (·.1)).Nodup)
    (hC : ∀ p ∈ cn, bindC (fun y => fd.scope.names.lookup y) binds (fun _ => none) p.1 = p.2) (hd : d < recursionLimit)
    (h : ∀ L cs s', cs.map (·.1) = cn.map (·.1) → Ok w g os G ((L, .ns kvs) :: (cellsLed cs cn ++ l)) s' →
      wpAny (model P0 w) (AR (d + 1) (u + 3)) (execs body (newEnv fd.scope L fd.globals cs (fd.qualname ++ ".<locals>.") (some fa) fd.code none fd.builtins)) (fun fl s'' => R (.ok (.ret (retOf fl))) s'') (fun _ _ => False) s')
    (hco : fd.scope.isCoroutine = false := by rfl) (hgen : fd.scope.isGenerator = false := by rfl) (hk : fd.scope.kind = .function := by rfl) :
    codeAny (model P0 w) (AR d u) (.call (.ref fa) args) R s := by
  refine codeAny_call_function (A := AR d u) hd hf ho hco hgen hbody hcd (hbind _ _ _ _ ?_)
  rw [hclo]
  refine e_envC H hkind hcn hndc hL hnd hC (fun L cs s' e k H' => ⟨B.lim' H', codeAny_func ?_⟩) hk
  refine wpAny_mono (h L cs s' e H') (fun fl s'' q => ?_) fun _ _ x => x.elim
  cases fl <;> exact q
/-! ## what is handed in -/
theorem ints_read {cl : Str → Option Addr} {h : Heap} : ∀ {vs : List Value} {xs : List WData} {as : List Addr}, ReadsAllW [] cl h vs xs as → WShape.hasItems [] xs .int = true → WData.weightAll xs ≤ 2 ^ 20 → vs.length ≤ 2000000 ∧ ∀ v ∈ vs, ∃ i t, v = Value.int i t ∧ Xs 1048576 i := by
  have e20 : (2 : Nat) ^ 20 = 1048576 := by decide
  rw [e20]
  have gen : ∀ {vs : List Value} {xs : List WData} {as : List Addr} (n : Nat), ReadsAllW [] cl h vs xs as → WShape.hasItems [] xs .int = true → WData.weightAll xs ≤ n → n ≤ 1048576 → vs.length ≤ n ∧ ∀ v ∈ vs, ∃ i t, v = Value.int i t ∧ Xs 1048576 i := by
    intro vs
    induction vs with
    | nil => intro xs as n _ _ _ _; exact ⟨Nat.zero_le _, fun v hv => by cases hv⟩
    | cons v vs ih =>
      intro xs as n hr hs hw hn
      cases hr with
      | @cons _ _ d ds as bs h1 h2 =>
        have hs' : WShape.has [] d .int = true ∧ WShape.hasItems [] ds .int = true := by
          rw [WShape.hasItems] at hs
          exact Bool.and_eq_true_iff.mp hs
        have hw' : WData.weight d + 1 + WData.weightAll ds ≤ n := by
          rw [WData.weightAll] at hw
          exact hw
        obtain ⟨l1, l2⟩ := ih (n - 1 - WData.weight d) h2 hs'.2 (by omega) (by omega)
        refine ⟨by rw [List.length_cons]; omega, fun x hx => ?_⟩
        rcases List.mem_cons.mp hx with rfl | hx
        · have hd : ∃ i, d = .int i := by
            cases d <;> first | exact ⟨_, rfl⟩ | (exfalso; have := hs'.1; simp [WShape.has, WShape.arms] at this)
          obtain ⟨i, rfl⟩ := hd
          cases h1 with
          | int _ t =>
            refine ⟨i, t, rfl, ?_⟩
            have hwi : WData.weight (.int i) ≤ 1048576 := by omega
            rw [WData.weight] at hwi
            unfold Xs
            by_cases hz : i = 0
            · subst hz
              exact Nat.pow_pos (by decide)
            · rw [if_neg (by simpa using hz)] at hwi
              exact Nat.lt_of_lt_of_le Nat.lt_log2_self (Nat.pow_le_pow_right (by decide) hwi)
        · exact l2 x hx
  intro vs xs as hr hs hw
  obtain ⟨a, b⟩ := gen 1048576 hr hs hw (Nat.le_refl _)
  exact ⟨by omega, b⟩
end
end Mine
end
section
open PySem PySem.W PySem.Calls PyProof.Rows PySem.W.X
set_option Elab.async false
set_option maxRecDepth 100000
set_option maxHeartbeats 8000000
set_option linter.unusedVariables false
namespace Mine
local macro_rules | `(tactic| walk_at "mem") => `(tactic| first | assumption | exact List.Mem.head _ | (refine' List.Mem.tail _ ?_; walk_at "mem") | (refine' List.mem_append_right _ ?_; walk_at "mem") | (refine' List.mem_append_left _ ?_; walk_at "mem") | exact Zip.at' (by assumption) | exact Zip.keep (by assumption) (by walk_at "mem") (by intro e; cases e))
local macro_rules | `(tactic| walk_at "zip") => `(tactic| first | assumption | exact Zip.head | exact Zip.tail (by walk_at "zip") | exact Zip.app (by walk_at "zip") | exact Zip.again (by assumption))
local macro_rules | `(tactic| walk_at "kv") => `(tactic| first | with_reducible_and_instances exact List.Mem.head _ | (refine' List.Mem.tail _ ?_; walk_at "kv") | assumption)
local macro_rules | `(tactic| walk_at "put") => `(tactic| first | with_reducible exact Put.head | exact Put.tail (by walk_at "put"))
local macro_rules | `(tactic| walk_at "putd") => `(tactic| first | with_reducible exact PutD.head | with_reducible exact PutD.nil | exact PutD.tail (by decide) (by walk_at "putd"))
local macro_rules | `(tactic| walk_at "nm") => `(tactic| first
  | (refine e_local (by assumption) (by walk_at "mem") (by walk_at "kv") ?_)
  | (refine e_cell (by assumption) (by rfl) (by walk_at "mem") ?_)
  | (refine e_free (by assumption) (by rfl) (by walk_at "mem") ?_))
local macro_rules | `(tactic| walk_at "gl") => `(tactic| refine e_global (by assumption) (by assumption) (by first | with_reducible exact gl_Problem _ | with_reducible exact gl_BacktrackingSolver _ | with_reducible exact gl_Domain _ | with_reducible exact gl_Constraint _ | with_reducible exact gl_FunctionConstraint _ | with_reducible exact gl_law_yes _ | with_reducible exact gl_law_rule _ | with_reducible exact gl_law_due _) ?_)
local macro_rules | `(tactic| walk_at "bi") => `(tactic| refine e_builtin (by assumption) (by assumption) (by first | with_reducible exact bn_isinstance _ | with_reducible exact bn_callable _ | with_reducible exact bn_list _ | with_reducible exact bn_tuple _ | with_reducible exact bn_len _ | with_reducible exact bn_range _ | with_reducible exact bn_next _ | with_reducible exact bn_dict _ | with_reducible exact bn_sorted _ | with_reducible exact bn_iter _) (by first | with_reducible exact bb_isinstance | with_reducible exact bb_callable | with_reducible exact bb_list | with_reducible exact bb_tuple | with_reducible exact bb_len | with_reducible exact bb_range | with_reducible exact bb_next | with_reducible exact bb_dict | with_reducible exact bb_sorted | with_reducible exact bb_iter) ?_)
local macro_rules | `(tactic| walk_at "ns") => `(tactic| (show (_ : List Str).Nodup; dsimp only [List.map, List.nil_append, List.cons_append, List.append_nil]; decide +kernel))
local macro_rules | `(tactic| walk_at "lt") => `(tactic| (show _ < 1000; omega))
local macro_rules | `(tactic| x_close) => `(tactic| exact xq_of (by first | assumption | exact Mem.start _) (by first | rfl | assumption))
local macro_rules | `(tactic| walk_at "ga") => `(tactic| refine i_get (by assumption) (by assumption) (by walk_at "mem") (by exact rfl) (by walk_at "mem") (by first | exact cls110 _ | exact cls186 _ | exact cls336 _) (by kernel_rfl) (by walk_at "kv") (by exact rfl) ?_)
local macro_rules | `(tactic| walk_at "sa") => `(tactic| refine i_set (by assumption) (by assumption) (by walk_at "mem") (by walk_at "zip") (by first | exact cls110 _ | exact cls186 _ | exact cls336 _) (by kernel_rfl) (by kernel_rfl) (by walk_at "putd") (Nat.le_of_ble_eq_true rfl) ?_)
local macro_rules | `(tactic| walk_at "st") => `(tactic| refine e_store (by assumption) (by walk_at "zip") (by walk_at "put") ?_)
local macro_rules | `(tactic| walk_at "nmc") => `(tactic| first
  | (refine e_local (by assumption) (List.Mem.head _) (by first | exact List.Mem.head _ | exact List.Mem.tail _ (List.Mem.head _) | exact List.Mem.tail _ (List.Mem.tail _ (List.Mem.head _))) ?_)
  | (refine e_cell (by assumption) (by rfl) (by walk_at "mem") ?_)
  | (refine e_free (by assumption) (by rfl) (by walk_at "mem") ?_))
local macro_rules | `(tactic| walk_at "subl") => `(tactic| first | exact List.Sublist.refl _ | (refine' List.Sublist.cons _ ?_; walk_at "subl"))
section
variable {w : World} {g : Heap} {os : OsState} {G : Array GenState} {l l' : Led} {s : Shared} {a : Addr} {c c' : Cell} {f : Cell → Led} {A : Around} {E : Value → Shared → Prop}
theorem law_in {args : List WData} (hp : WShape.hasAll [] args [.list .int] = true) : ∃ xs, args = [.list xs] ∧ WShape.hasItems [] xs .int = true := by
  cases args with
  | nil => simp [WShape.hasAll] at hp
  | cons x rest =>
    rw [WShape.hasAll] at hp
    obtain ⟨h1, h2⟩ := Bool.and_eq_true_iff.mp hp
    cases rest with
    | cons y r => simp [WShape.hasAll] at h2
    | nil =>
      cases x <;> first | (exfalso; simp [WShape.has, WShape.arms] at h1; done) | skip
      rename_i xs
      exact ⟨xs, rfl, by simpa [WShape.has, WShape.arms] using h1⟩
theorem law_out (xs : List WData) : PySem.Challenge.rw_bm0022_01.row.toRowW.claim.post [.list xs] (.bool true) [.list xs] = true := by
  show (WShape.has [] (.bool true) .bool && (WTm.eq .res (.lit (.bool true))).holds [] { args := [.list xs], res := some (.bool true), after := [.list xs] }) = true
  simp [WShape.has, WShape.arms, WTm.holds, WTm.value, PySem.W.same]
theorem lawHolds : PySem.Challenge.rw_bm0022_01.Holds := by
  apply hd
  intro w s₀ s₁ mg mb G Y a o pm cd doc dV kV ho hod hcode hdf hmg hgens args vals as hpre hlay hreads hwell hsys
  have X : (Kf w).In s₁.heap := Y.1
  have t1 : s₁.heap.get? 354 = some (tabObj #[]) := Y.2 354 (by simp)
  have t2 : s₁.heap.get? 347 = some (tabObj #[]) := Y.2 347 (by simp)
  have B : Base w (mask s₁.heap) := base_of X G.T.g G.T.b G.T.builtins G.T.bmain G.T.nolimit t1 t2
  obtain ⟨xs, rfl, hxs⟩ := law_in (Bool.and_eq_true_iff.mp hpre).1
  have hw : WData.weightAll xs ≤ 2 ^ 20 := by
    unfold WData.layableAll at hlay
    simp only [List.all_cons, List.all_nil, Bool.and_true] at hlay
    unfold WData.layable at hlay
    have := of_decide_eq_true (Bool.and_eq_true_iff.mp hlay).2
    rw [WData.weight] at this
    exact this
  cases hreads with
  | cons h1 h2 =>
  cases h2 with
  | nil =>
  cases h1 with
  | @list sc o' arr n _ as' e1 e2 e3 e4 =>
  obtain ⟨hlen, hints⟩ := ints_read e4 hxs hw
  have hdv : dV = .none := by
    rcases hdf.pos with ⟨-, h⟩ | ⟨h, -⟩
    · exact h
    · exact absurd rfl h
  subst hdv
  have hsc : (mask s₁.heap).IsList sc arr.toList.toArray := by
    have n1 : sc ≠ 354 := by rintro rfl; rw [t1] at e1; cases e1; cases e2
    have n2 : sc ≠ 347 := by rintro rfl; rw [t2] at e1; cases e1; cases e2
    exact ⟨o', by rw [mask_ne _ n1 n2]; exact e1, e2, n, e3⟩
  have H : Ok w (mask s₁.heap) s₁.os #[] [(354, .ob (tabObj #[])), (347, .ob (tabObj #[]))] s₁ := by
    refine ⟨rfl, hgens, fun b o e => (mask_keep e).1, ?_, ?_, by simp, ⟨351, _, B.X 351 _ rfl, by decide⟩, ?_⟩
    · intro p hp
      simp only [List.mem_cons, List.not_mem_nil, or_false] at hp
      rcases hp with rfl | rfl
      · exact t1
      · exact t2
    · intro p hp
      simp only [List.mem_cons, List.not_mem_nil, or_false] at hp
      rcases hp with rfl | rfl
      · exact mask_none _ (.inl rfl)
      · exact mask_none _ (.inr rfl)
    · intro p hp
      simp only [List.mem_cons, List.not_mem_nil, or_false] at hp
      rcases hp with rfl | rfl
      · decide
      · decide
  refine weaken (d := 301) (u := 4) (wpAny_call ?_)
  refine call_fnH (binds := [("script", .ref sc)]) (kvs := [("script", some (.ref sc)), ("problem", none), ("lists", none), ("rules", none), ("begun", none), ("x", none), ("deed", none), ("names", none), ("one", none), ("other", none), ("walk", none), ("due", none), ("told", none)]) (cn := [("u", none)]) B H ho hod hcode rfl (BindsTo.of_eq rfl) rfl ?_ (fun n => rfl) (by walk_at "ns") (hL_of (lb := [("script", .ref sc)]) (rest := ["problem", "lists", "rules", "begun", "x", "deed", "names", "one", "other", "walk", "due", "told"]) rfl rfl (by walk_at "ns")) (by walk_at "ns") ?_ (by walk_at "lt") (fun L cs s' e H₁ => ?_)
  · intro x hx
    simp only [List.mem_singleton] at hx
    subst hx
    exact .inl rfl
  · intro p hp
    simp only [List.mem_singleton] at hp
    subst hp
    rfl
  obtain ⟨uc, rfl⟩ := cs1 e
  refine lawMain (fa := a) (code := cd) (uc := uc) (L := L) (sc := sc) (vs := arr.toList) B H₁ hsc hints hlen (by intro i; simp) (by omega) (by omega) (fun G' p4 p7 l' s₂ hb H₂ k4 k7 => ?_)
  refine ⟨.inl ⟨.bool true, .bool true, [], rfl, fun cls => rfl, .bool true, law_out xs, fun _ => ⟨List.nodup_nil, fun a ha => by cases ha⟩⟩, ⟨fun b o e => ?_, fun b o e => ?_⟩, H₂.os, by rw [H₂.gens]; exact hb⟩
  · by_cases n1 : b = 354
    · subst n1
      rw [t1] at e
      cases e
      refine .inr (.inl ⟨⟨356, _, _, X 356 _ rfl, rfl, rfl, rfl⟩, rfl, #[], p4, rfl, ?_⟩)
      rw [Array.empty_append]
      exact H₂.at_ _ (.head _)
    by_cases n2 : b = 347
    · subst n2
      rw [t2] at e
      cases e
      refine .inr (.inl ⟨⟨351, _, _, X 351 _ rfl, rfl, rfl, rfl⟩, rfl, #[], p7, rfl, ?_⟩)
      rw [Array.empty_append]
      exact H₂.at_ _ (.tail _ (.head _))
    exact .inl (H₂.keep _ _ (by rw [mask_ne _ n1 n2]; exact e))
  · by_cases n1 : b = 354
    · subst n1
      exact ⟨_, H₂.at_ _ (.head _)⟩
    by_cases n2 : b = 347
    · subst n2
      exact ⟨_, H₂.at_ _ (.tail _ (.head _))⟩
    exact ⟨o, H₂.keep _ _ (by rw [mask_ne _ n1 n2]; exact e)⟩
end
end Mine
end
theorem PySem.Challenge.cw_bm0022_01_holds : PySem.Challenge.rw_bm0022_01.Holds := by
  exact Mine.lawHolds
