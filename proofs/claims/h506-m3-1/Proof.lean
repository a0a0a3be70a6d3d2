import JvmDerived
import JvmDerived.Pilot.@@N@@Statement
import JvmDerived.Pilot.@@N@@Code
set_option linter.unusedVariables false
set_option linter.unusedSimpArgs false
@@BLOCK:NumsL.lean.txt@@
namespace Jvm.OwnWp
open Jvm Jvm.ClassFile Sem Op Lib Jvm.Free Jvm.Stand Jvm.LawKit Jvm.RoadKit
/-! The heap of a walk as a plain list of the objects that it may touch. -/
abbrev Fd := String × String × String × Value
abbrev Ob := (String × List Fd) ⊕ (FieldType × List Value)
abbrev Hs := List (Addr × Ob)
section Heaps
variable {Z : State} {a0 : Array Value} {h h' h0 : Heap} {a b : Addr} {sl : Nat} {v : Value} {o o' : Ob} {os os' rest : Hs} {dm fp fp2 : List Addr}
def ObAt (Z : State) (a0 : Array Value) (h : Heap) (a : Addr) : Ob → Prop
  | .inl x => Exa Z h a x.1 ∧ (x.2.map (·.2.1)).Nodup ∧ ∀ q ∈ x.2, Fld Z h a q.1 q.2.1 q.2.2.1 q.2.2.2 ∧ Laid Z a0 x.1 q.1 q.2.1 q.2.2.1 ∧ ∃ t, parseFieldDescriptor q.2.2.1 = some t
  | .inr x => ∃ c : Cell, Arr Z h a c x.1 ∧ c.slots.toList = x.2 ∧ Exa Z h a ("[" ++ x.1.toString) ∧ ∀ v ∈ x.2, fits x.1 v = true
theorem ObAt.lt (F : ObAt Z a0 h a o) : a < h.size := by
  cases o with
  | inl x => exact F.1.lt
  | inr x => obtain ⟨c, A, -⟩ := F; exact A.lt
theorem ObAt.move (hm : ∀ c, h[a]? = some c → h'[a]? = some c) (F : ObAt Z a0 h a o) : ObAt Z a0 h' a o := by
  cases o with
  | inl x =>
    obtain ⟨⟨cell, k, h1, r⟩, hn, hq⟩ := F
    refine ⟨⟨cell, k, hm _ h1, r⟩, hn, fun q hq' => ?_⟩
    obtain ⟨⟨cell, cf, k, i, f, h1, r⟩, L⟩ := hq q hq'
    exact ⟨⟨cell, cf, k, i, f, hm _ h1, r⟩, L⟩
  | inr x =>
    obtain ⟨c, A, e, ⟨cell, k, h1, r⟩, hf⟩ := F
    exact ⟨c, ⟨hm _ A.1, A.2⟩, e, ⟨cell, k, hm _ h1, r⟩, hf⟩
theorem ObAt.ext (E : Ext h h') (F : ObAt Z a0 h a o) : ObAt Z a0 h' a o := F.move fun c hc => E.2 _ _ hc
theorem wr_ne (W : Wr h h' a sl v) (hne : b ≠ a) {c : Cell} (hc : h[b]? = some c) : h'[b]? = some c := by
  obtain ⟨cb', h1, -, -, -, h5, -⟩ := wr_at W hc
  rw [h1, h5 hne]
/-- the cells that a walk may write: those of its footprint, and the new ones -/
def Dm (fp : List Addr) (n0 : Nat) (a : Addr) : Prop := a ∈ fp ∨ n0 ≤ a
def Hq (Z : State) (a0 : Array Value) (h : Heap) (os : Hs) : Prop := (os.map (·.1)).Nodup ∧ ∀ q ∈ os, ObAt Z a0 h q.1 q.2
def Hp (Z : State) (a0 : Array Value) (dm fp : List Addr) (h0 h : Heap) (os : Hs) : Prop :=
  Hq Z a0 h os ∧ (∀ q ∈ os, Dm dm h0.size q.1) ∧ h0.size ≤ h.size ∧ ∀ a c, h0[a]? = some c → a ∉ fp → h[a]? = some c
theorem Hp.start (H : Hq Z a0 h os) : Hp Z a0 (os.map (·.1)) fp h h os := ⟨H, fun q hq => Or.inl (List.mem_map.mpr ⟨q, hq, rfl⟩), Nat.le_refl _, fun _ _ q _ => q⟩
theorem Hp.ext (E : Ext h h') (H : Hp Z a0 dm fp h0 h os) : Hp Z a0 dm fp h0 h' os :=
  ⟨⟨H.1.1, fun q hq => (H.1.2 q hq).ext E⟩, H.2.1, Nat.le_trans H.2.2.1 E.1, fun a c q n => E.2 _ _ (H.2.2.2 a c q n)⟩
theorem Hp.push (E : Ext h h') (F : ObAt Z a0 h' h.size o) (H : Hp Z a0 dm fp h0 h os) : Hp Z a0 dm fp h0 h' (os ++ [(h.size, o)]) := by
  have H' := H.ext E
  refine ⟨⟨?_, fun q hq => ?_⟩, fun q hq => ?_, H'.2.2⟩
  · rw [List.map_append, List.nodup_append]
    refine ⟨H.1.1, by simp, fun x hx y hy => ?_⟩
    obtain ⟨q, hq, rfl⟩ := List.mem_map.mp hx
    have := (H.1.2 q hq).lt
    simp only [List.map_cons, List.map_nil, List.mem_singleton] at hy
    intro e
    rw [e, hy] at this
    exact Nat.lt_irrefl _ this
  · rcases List.mem_append.mp hq with hq | hq
    · exact H'.1.2 q hq
    · cases List.mem_singleton.mp hq; exact F
  · rcases List.mem_append.mp hq with hq | hq
    · exact H.2.1 q hq
    · cases List.mem_singleton.mp hq; exact Or.inr H.2.2.1
theorem mem_set {α : Type} {l : List α} {k : Nat} {x q : α} (hq : q ∈ l.set k x) : q = x ∨ ∃ i, i ≠ k ∧ l[i]? = some q := by
  obtain ⟨i, hi⟩ := List.mem_iff_getElem?.mp hq
  rw [List.getElem?_set] at hi
  by_cases e : k = i
  · rw [if_pos e] at hi
    split at hi
    · exact Or.inl (Option.some.inj hi).symm
    · cases hi
  · rw [if_neg e] at hi
    exact Or.inr ⟨i, fun z => e z.symm, hi⟩
theorem nodup_inj {α : Type} {l : List α} (hn : l.Nodup) {i j : Nat} {x : α} (hi : l[i]? = some x) (hj : l[j]? = some x) : i = j := by
  obtain ⟨h1, e1⟩ := List.getElem?_eq_some_iff.mp hi
  obtain ⟨h2, e2⟩ := List.getElem?_eq_some_iff.mp hj
  exact (List.getElem_inj hn).mp (e1.trans e2.symm)
theorem map_at {α β : Type} {l : List α} {f : α → β} {i : Nat} {x : α} (hi : l[i]? = some x) : (l.map f)[i]? = some (f x) := by rw [List.getElem?_map, hi]; rfl
theorem map_set_same {α β : Type} {l : List α} {f : α → β} {k : Nat} {x x' : α} (hk : l[k]? = some x) (e : f x' = f x) : (l.set k x').map f = l.map f := by
  apply List.ext_getElem?
  intro i
  rw [List.getElem?_map, List.getElem?_map, List.getElem?_set]
  by_cases z : k = i
  · subst z
    rw [if_pos rfl]
    have := (List.getElem?_eq_some_iff.mp hk).1
    rw [if_pos this, hk]
    exact congrArg some e
  · rw [if_neg z]
theorem Hp.wr {k : Nat} (hD : Dm fp h0.size a) (W : Wr h h' a sl v) (ho : os[k]? = some (a, o)) (F : ObAt Z a0 h' a o') (H : Hp Z a0 dm fp h0 h os) : Hp Z a0 dm fp h0 h' (os.set k (a, o')) := by
  have hM : Dm dm h0.size a := H.2.1 _ (List.mem_of_getElem? ho)
  refine ⟨⟨?_, fun q hq => ?_⟩, fun q hq => ?_, by rw [W.size]; exact H.2.2.1, fun x c hx hn => ?_⟩
  · rw [map_set_same (f := fun x : Addr × Ob => x.1) (x' := (a, o')) ho rfl]; exact H.1.1
  · rcases mem_set hq with rfl | ⟨i, hi, hq⟩
    · exact F
    · have hne : q.1 ≠ a := fun e => hi (nodup_inj H.1.1 (map_at hq) (by rw [map_at ho, e]))
      exact (H.1.2 q (List.mem_of_getElem? hq)).move fun c hc => wr_ne W hne hc
  · rcases mem_set hq with rfl | ⟨i, hi, hq⟩
    · exact hM
    · exact H.2.1 q (List.mem_of_getElem? hq)
  · refine wr_ne W (fun e => ?_) (H.2.2.2 x c hx hn)
    subst e
    rcases hD with hD | hD
    · exact hn hD
    · exact absurd (Array.getElem?_eq_some_iff.mp hx).1 (Nat.not_lt.mpr hD)
theorem Hp.fld {k : Nat} {C : String} {fs : List Fd} {j : Nat} {O n d : String} {w : Value} (ho : os[k]? = some (a, .inl (C, fs))) (hj : fs[j]? = some (O, n, d, w)) (H : Hp Z a0 dm fp h0 h os) : Fld Z h a O n d w :=
  ((H.1.2 _ (List.mem_of_getElem? ho)).2.2 _ (List.mem_of_getElem? hj)).1
theorem Hp.exa {k : Nat} {C : String} {fs : List Fd} (ho : os[k]? = some (a, .inl (C, fs))) (H : Hp Z a0 dm fp h0 h os) : Exa Z h a C := (H.1.2 _ (List.mem_of_getElem? ho)).1
theorem Hp.putf {k : Nat} {C : String} {fs : List Fd} {j : Nat} {O n d : String} {w : Value} (hD : Dm fp h0.size a) (ho : os[k]? = some (a, .inl (C, fs))) (hj : fs[j]? = some (O, n, d, w)) (W : Wr h h' a (RoadKit.slotOf Z O n d) v) (H : Hp Z a0 dm fp h0 h os) :
    Hp Z a0 dm fp h0 h' (os.set k (a, .inl (C, fs.set j (O, n, d, v)))) := by
  refine H.wr hD W ho ?_
  obtain ⟨hE, hN, hF⟩ := H.1.2 _ (List.mem_of_getElem? ho)
  dsimp only at hE hN hF
  obtain ⟨F, L, t, ht⟩ := hF _ (List.mem_of_getElem? hj)
  refine ⟨hE.wr W, ?_, fun q hq => ?_⟩
  · dsimp only
    rw [map_set_same (f := fun x : Fd => x.2.1) (x' := (O, n, d, v)) hj rfl]; exact hN
  · rcases mem_set hq with rfl | ⟨i, hi, hq⟩
    · exact ⟨F.same W, L, t, ht⟩
    · obtain ⟨F', L', t', ht'⟩ := hF _ (List.mem_of_getElem? hq)
      have hne : q.2.1 ≠ n := fun e => hi (nodup_inj hN (map_at hq) (by rw [map_at hj, e]))
      exact ⟨F'.other W (Or.inr (slot_ne L' L hne ht' ht)), L', t', ht'⟩
theorem Hp.arr {k : Nat} {ty : FieldType} {vs : List Value} (ho : os[k]? = some (a, .inr (ty, vs))) (H : Hp Z a0 dm fp h0 h os) : ∃ c : Cell, Arr Z h a c ty ∧ c.slots.toList = vs := by
  obtain ⟨c, A, e, -⟩ := H.1.2 _ (List.mem_of_getElem? ho)
  exact ⟨c, A, e⟩
theorem Hp.puta {k : Nat} {ty : FieldType} {vs : List Value} {j : Nat} (hD : Dm fp h0.size a) (hf : fits ty v = true) (ho : os[k]? = some (a, .inr (ty, vs))) (W : Wr h h' a j v) (H : Hp Z a0 dm fp h0 h os) : Hp Z a0 dm fp h0 h' (os.set k (a, .inr (ty, vs.set j v))) := by
  refine H.wr hD W ho ?_
  obtain ⟨c, A, e, E, F⟩ := H.1.2 _ (List.mem_of_getElem? ho)
  refine ⟨_, A.same W, ?_, E.wr W, fun q hq => ?_⟩
  · dsimp only at e ⊢
    rw [← e]
    simp [Cell.setSlot]
  · rcases mem_set hq with rfl | ⟨i, -, hq⟩
    · exact hf
    · exact F q (List.mem_of_getElem? hq)
theorem Hp.call (H : Hp Z a0 dm fp h0 h (rest ++ os)) (H' : Hp Z a0 (os.map (·.1)) fp2 h h' os') (hc : fp2 = [] ∨ (fp2 = os.map (·.1) ∧ dm = fp)) : Hp Z a0 dm fp h0 h' (rest ++ os') := by
  have hN := H.1.1
  rw [List.map_append, List.nodup_append] at hN
  have hsub : ∀ x ∈ fp2, x ∈ os.map (·.1) := fun x hx => by
    rcases hc with rfl | ⟨rfl, -⟩
    · exact absurd hx List.not_mem_nil
    · exact hx
  have hD : ∀ x, Dm (os.map (·.1)) h.size x → Dm dm h0.size x := fun x hx => by
    rcases hx with hx | hx
    · obtain ⟨q, hq, rfl⟩ := List.mem_map.mp hx
      exact H.2.1 q (List.mem_append.mpr (Or.inr hq))
    · exact Or.inr (Nat.le_trans H.2.2.1 hx)
  have hR : ∀ q ∈ rest, q.1 ∉ os.map (·.1) := fun q hq hm => hN.2.2 _ (List.mem_map.mpr ⟨q, hq, rfl⟩) _ hm rfl
  refine ⟨⟨?_, fun q hq => ?_⟩, fun q hq => ?_, Nat.le_trans H.2.2.1 H'.2.2.1, fun x c hx hn => ?_⟩
  · rw [List.map_append, List.nodup_append]
    refine ⟨hN.1, H'.1.1, fun x hx y hy e => ?_⟩
    subst e
    obtain ⟨q, hq, rfl⟩ := List.mem_map.mp hx
    obtain ⟨q', hq', e⟩ := List.mem_map.mp hy
    have := H'.2.1 q' hq'
    rw [e] at this
    rcases this with t | t
    · exact hR q hq t
    · exact absurd (H.1.2 q (List.mem_append.mpr (Or.inl hq))).lt (Nat.not_lt.mpr t)
  · rcases List.mem_append.mp hq with hq | hq
    · exact (H.1.2 q (List.mem_append.mpr (Or.inl hq))).move fun c hc => H'.2.2.2 _ _ hc (fun z => hR q hq (hsub _ z))
    · exact H'.1.2 q hq
  · rcases List.mem_append.mp hq with hq | hq
    · exact H.2.1 q (List.mem_append.mpr (Or.inl hq))
    · exact hD _ (H'.2.1 q hq)
  · refine H'.2.2.2 _ _ (H.2.2.2 x c hx hn) fun hm => ?_
    rcases hc with rfl | ⟨rfl, rfl⟩
    · exact absurd hm List.not_mem_nil
    · obtain ⟨q, hq, rfl⟩ := List.mem_map.mp hm
      rcases H.2.1 q (List.mem_append.mpr (Or.inr hq)) with t | t
      · exact hn t
      · exact absurd (Array.getElem?_eq_some_iff.mp hx).1 (Nat.not_lt.mpr t)
theorem pick_mem {is : List Nat} {os2 : Hs} (he : is.map (fun i => os[i]?) = os2.map some) {q : Addr × Ob} (hq : q ∈ os2) : ∃ i ∈ is, os[i]? = some q := by
  have : some q ∈ is.map (fun i => os[i]?) := by rw [he]; exact List.mem_map.mpr ⟨q, hq, rfl⟩
  obtain ⟨i, hi, e⟩ := List.mem_map.mp this
  exact ⟨i, hi, e⟩
theorem pick_nodup (hN : (os.map (·.1)).Nodup) : ∀ {is : List Nat} {os2 : Hs}, is.Nodup → is.map (fun i => os[i]?) = os2.map some → (os2.map (·.1)).Nodup
  | [], [], _, _ => List.nodup_nil
  | [], _ :: _, _, he => by cases he
  | _ :: _, [], _, he => by cases he
  | i :: is, q :: os2, hi, he => by
    simp only [List.map_cons, List.cons.injEq] at he
    rw [List.nodup_cons] at hi
    rw [List.map_cons, List.nodup_cons]
    refine ⟨fun hm => ?_, pick_nodup hN hi.2 he.2⟩
    obtain ⟨q', hq', e⟩ := List.mem_map.mp hm
    obtain ⟨i', hi', e'⟩ := pick_mem he.2 hq'
    have := nodup_inj hN (map_at he.1) (by rw [map_at e', e])
    exact hi.1 (this ▸ hi')
theorem Hp.pick {is : List Nat} {os2 : Hs} (H : Hp Z a0 dm fp h0 h os) (hn : is.Nodup) (he : is.map (fun i => os[i]?) = os2.map some) : Hp Z a0 dm fp h0 h os2 :=
  have hm : ∀ q ∈ os2, q ∈ os := fun q hq => by obtain ⟨i, -, e⟩ := pick_mem he hq; exact List.mem_of_getElem? e
  ⟨⟨pick_nodup H.1.1 hn he, fun q hq => H.1.2 q (hm q hq)⟩, fun q hq => H.2.1 q (hm q hq), H.2.2⟩
end Heaps
/-- what a walk holds at a point -/
def Here (p : Program) (l : Launch) (e : Env) (R : Room) (s : State) (m : MethodId) (args : Array Value) (below : List Frame) (meth : Method) (c : Code) (Z : State) (a0 : Array Value) (y : MethodName) (bytes : ByteArray) (ml : Nat) (ret : Option FieldType) (dm fp : List Addr) (T : State) (k n : Nat) (os : Hs) : Prop :=
  ∃ locs, Stand p l e R s m args below meth c T locs k n ∧ (∀ q ∈ locs, Dm fp s.heap.size q.base) ∧ Hp Z a0 dm fp s.heap T.heap os ∧ p.tables.exec = Jvm.exec ∧ Z.Warmed39 s.vm ∧ c.code = bytes ∧ c.maxLocals = ml ∧ s.vm.findClass y.cls = some m.cls ∧ meth.name = y.name ∧ meth.sig.returnType = ret ∧ meth.locks = false
/-- from here the body returns, and what it leaves is as Post says -/
def Wp (p : Program) (e : Env) (below : List Frame) (Z : State) (a0 : Array Value) (dm fp : List Addr) (R : Room) (s : State) (Post : Option Value → Hs → Prop) (T : State) (g : JFrame) : Prop :=
  ∃ s₂ o, Steps p.tables e below (T.setTop g) s₂ ∧ s₂.status = .running ∧ Ended s₂ below o ∧ ∃ v L, o = .returned v ∧ ((∀ q ∈ L, Dm fp s.heap.size q.base) ∧ ∃ os', Hp Z a0 dm fp s.heap s₂.heap os' ∧ Post v os') ∧ FrameEnd s o s₂ L R.cells R.slots
/-- a body's contract -/
def Pays (l : Launch) (Z : State) (a0 : Array Value) (y : MethodName) (bytes : ByteArray) (ml : Nat) (ret : Option FieldType) (R : Room) (args : Array Value) (os : Hs) (fp : List Addr) (Post : Option Value → Hs → Prop) : Prop :=
  ∀ (ws : List Jvm.Cond) (h0 : Heap), Hq Z a0 h0 os → MetFree l y (head1 (Jvm.Cond.code y bytes ml ret :: ws) R) (fun a U => a = args ∧ Z.Warmed39 U.vm ∧ U.heap = h0) (fun _ _ _ _ _ => True)
    (fun _ U o U' => ∃ v L, o = .returned v ∧ ((∀ q ∈ L, Dm fp h0.size q.base) ∧ ∃ os', Hp Z a0 (os.map (·.1)) fp h0 U'.heap os' ∧ Post v os') ∧ FrameEnd U o U' L R.cells R.slots)
section Walks
variable {p : Program} {l : Launch} {e : Env} {R : Room} {s : State} {m : MethodId} {args : Array Value} {below : List Frame} {meth : Method} {c : Code} {Z : State} {a0 : Array Value} {y : MethodName} {bytes : ByteArray} {ml : Nat} {ret : Option FieldType} {dm fp fp2 : List Addr} {T T' : State} {k n : Nat} {os : Hs} {Post : Option Value → Hs → Prop} {pc : Nat} {Ls : Array Slot} {st rest : List Value}
theorem Wp.go {g g' : JFrame} (hs : ∀ t, Steps p.tables e below (T'.setTop g') t → Steps p.tables e below (T.setTop g) t) (K : Wp p e below Z a0 dm fp R s Post T' g') : Wp p e below Z a0 dm fp R s Post T g := by
  obtain ⟨s₂, o, h1, r⟩ := K
  exact ⟨s₂, o, hs _ h1, r⟩
theorem Here.hr (A : Here p l e R s m args below meth c Z a0 y bytes ml ret dm fp T k n os) : At T m c below := by obtain ⟨_, X, -⟩ := A; exact X.here
theorem Here.hx (A : Here p l e R s m args below meth c Z a0 y bytes ml ret dm fp T k n os) : p.tables.exec = Jvm.exec := by obtain ⟨_, -, -, -, hx, -⟩ := A; exact hx
theorem Here.hb {r : Except DecodeError (Instr × Nat)} (A : Here p l e R s m args below meth c Z a0 y bytes ml ret dm fp T k n os) (hd : decode bytes pc = r) : decode c.code pc = r := by obtain ⟨_, -, -, -, -, -, hb, -⟩ := A; exact hb ▸ hd
theorem Here.pick {is : List Nat} {os2 : Hs} (A : Here p l e R s m args below meth c Z a0 y bytes ml ret dm fp T k n os) (hn : is.Nodup) (he : is.map (fun i => os[i]?) = os2.map some) : Here p l e R s m args below meth c Z a0 y bytes ml ret dm fp T k n os2 := by
  obtain ⟨locs, X, N, H, r⟩ := A
  exact ⟨locs, X, N, H.pick hn he, r⟩
theorem Here.cast {k2 n2 : Nat} {os2 : Hs} (A : Here p l e R s m args below meth c Z a0 y bytes ml ret dm fp T k n os) (h1 : k = k2) (h2 : n = n2) (h3 : os = os2) : Here p l e R s m args below meth c Z a0 y bytes ml ret dm fp T k2 n2 os2 := by
  subst h1 h2 h3
  exact A
theorem Here.more {k2 n2 : Nat} (A : Here p l e R s m args below meth c Z a0 y bytes ml ret dm fp T k n os) (h1 : k ≤ k2) (h2 : n ≤ n2) : Here p l e R s m args below meth c Z a0 y bytes ml ret dm fp T k2 n2 os := by
  obtain ⟨locs, X, r⟩ := A
  exact ⟨locs, X.more h1 h2, r⟩
theorem Here.irem {x z : Int32} (A : Here p l e R s m args below meth c Z a0 y bytes ml ret dm fp T k n os) (hd : decode bytes pc = .ok (.irem, 1)) (hz : z ≠ 0) {qn : Nat} (hq : pc + 1 = qn)
    (K : Wp p e below Z a0 dm fp R s Post T (mkF m qn Ls (.int (x % z) :: rest))) : Wp p e below Z a0 dm fp R s Post T (mkF m pc Ls (.int z :: .int x :: rest)) := by
  subst hq
  have q := irem_eq_mod x z
  exact Wp.go (fun t kt => XS.irem A.hr A.hx rfl (A.hb hd) rfl hz (by rw [q]; exact kt)) K
theorem lrem_eq (x z : Int64) : x - (x / z) * z = x % z := by
  apply Int64.toInt_inj.mp
  rw [Jvm.Kit.i64_rem, Int64.toInt_mod]
theorem Here.lrem {x z : Int64} (A : Here p l e R s m args below meth c Z a0 y bytes ml ret dm fp T k n os) (hd : decode bytes pc = .ok (.lrem, 1)) (hz : z ≠ 0) {qn : Nat} (hq : pc + 1 = qn)
    (K : Wp p e below Z a0 dm fp R s Post T (mkF m qn Ls (.long (x % z) :: rest))) : Wp p e below Z a0 dm fp R s Post T (mkF m pc Ls (.long z :: .long x :: rest)) := by
  subst hq
  have q := lrem_eq x z
  exact Wp.go (fun t kt => XS.lrem A.hr A.hx rfl (A.hb hd) rfl hz (by rw [q]; exact kt)) K
theorem Pays.of (hpl : plainFor y = true) (hef : ∀ m, entryFrame m args ml = mkF m 0 Ls [])
    (body : ∀ p e s m below meth c T, Here p l e R s m args below meth c Z a0 y bytes ml ret (os.map (·.1)) fp T 0 0 os → Wp p e below Z a0 (os.map (·.1)) fp R s Post T (mkF m 0 Ls [])) : Pays l Z a0 y bytes ml ret R args os fp Post := by
  intro ws h0 hq
  refine MetFree.of_bodySF hpl hisR ?_
  intro p e s m args' below meth c s₁ Bd hml0 hP hK
  obtain ⟨rfl, hZ, hh⟩ := hP
  have X0 : Stand p l e R s m args' below meth c s₁ [] 0 0 := Stand.of_body Bd
  have e0 : s₁.heap = s.heap := by rw [Bd.state]; rfl
  subst hh
  obtain ⟨s₂, o, h1, h2, h3, h4⟩ := body p e s m below meth c s₁ ⟨[], X0, fun _ q => (nomatch q), by rw [e0]; exact Hp.start hq, Bd.exec, hZ, Bd.bytes, hml0, findClass_of_methodNamed Bd.named, (name_of_methodNamed Bd.named Bd.method).1, Bd.returns, Bd.notSynchronized⟩
  exact ⟨s₂, o, castTop (hef m) h1, h2, h3, h4⟩
theorem Here.fin {v : Option Value} {g : JFrame} (A : Here p l e R s m args below meth c Z a0 y bytes ml ret dm fp T k n os) (hv : ret = none → v = none) (hk : k ≤ R.cells) (hn : n ≤ R.slots) (hP : Post v os)
    (hs : ∀ (locs : List Loc), Stand p l e R s m args below meth c T locs k n → meth.sig.returnType = ret → ∀ fs : List Frame, (∀ (f : JFrame) (acts : List Action), f.method = m → f.locked = none → f.entered = [] → (doReturn e (T.setTop f) acts v).1 = T.setFrames fs) → Steps p.tables e below (T.setTop g) (T.setFrames fs)) :
    Wp p e below Z a0 dm fp R s Post T g := by
  obtain ⟨locs, X, N, H, hx, hZ, hb, hml, hown, hnm, hret, hlk⟩ := A
  obtain ⟨fs, hr, hrun, hended, hW, hsame⟩ := X.leave (v := v) (fun h => hv (hret ▸ h)) hlk
  exact ⟨_, _, hs locs X hret fs hr, hrun, hended, v, locs, rfl, ⟨N, os, H, hP⟩, ⟨_, rfl⟩, hW, hsame.mono hk hn⟩
theorem Here.retV (A : Here p l e R s m args below meth c Z a0 y bytes ml none dm fp T k n os) (hd : decode bytes pc = .ok (.return_, 1)) (hk : k ≤ R.cells) (hn : n ≤ R.slots) (hP : Post none os) : Wp p e below Z a0 dm fp R s Post T (mkF m pc Ls []) :=
  A.fin (v := none) (fun _ => rfl) hk hn hP fun _ X hret _ hr => X.returnOut A.hx hret (A.hb hd) hr
theorem Here.retT {w : Value} {t : FieldType} {i : Instr} (A : Here p l e R s m args below meth c Z a0 y bytes ml (some t) dm fp T k n os) (hd : decode bytes pc = .ok (i, 1)) (hw : narrow t w = w)
    (hi : (i = .ireturn ∧ (t = .int ∨ t = .boolean ∨ t = .byte ∨ t = .char ∨ t = .short) ∧ ∃ z, w = .int z) ∨ (i = .lreturn ∧ t = .long ∧ ∃ z, w = .long z) ∨ (i = .dreturn ∧ t = .double ∧ ∃ z, w = .double z) ∨ (i = .freturn ∧ t = .float ∧ ∃ z, w = .float z) ∨ (i = .areturn ∧ t.isReference = true ∧ w.isRef = true))
    (hk : k ≤ R.cells) (hn : n ≤ R.slots) (hP : Post (some w) os) : Wp p e below Z a0 dm fp R s Post T (mkF m pc Ls (w :: rest)) :=
  A.fin (v := some w) (fun h => by cases h) hk hn hP fun _ X hret _ hr => retOut X A.hx hret hw hi (A.hb hd) hr
theorem Here.retI {z : Int32} (A : Here p l e R s m args below meth c Z a0 y bytes ml (some .int) dm fp T k n os) (hd : decode bytes pc = .ok (.ireturn, 1)) (hk : k ≤ R.cells) (hn : n ≤ R.slots) (hP : Post (some (.int z)) os) : Wp p e below Z a0 dm fp R s Post T (mkF m pc Ls (.int z :: rest)) :=
  A.retT hd rfl (Or.inl ⟨rfl, Or.inl rfl, z, rfl⟩) hk hn hP
theorem Here.retJ {z : Int64} (A : Here p l e R s m args below meth c Z a0 y bytes ml (some .long) dm fp T k n os) (hd : decode bytes pc = .ok (.lreturn, 1)) (hk : k ≤ R.cells) (hn : n ≤ R.slots) (hP : Post (some (.long z)) os) : Wp p e below Z a0 dm fp R s Post T (mkF m pc Ls (.long z :: rest)) :=
  A.retT hd rfl (Or.inr (Or.inl ⟨rfl, rfl, z, rfl⟩)) hk hn hP
theorem Here.retR {a : Addr} {t : FieldType} (A : Here p l e R s m args below meth c Z a0 y bytes ml (some t) dm fp T k n os) (hd : decode bytes pc = .ok (.areturn, 1)) (ht : t.isReference = true) (hk : k ≤ R.cells) (hn : n ≤ R.slots) (hP : Post (some (.ref a)) os) : Wp p e below Z a0 dm fp R s Post T (mkF m pc Ls (.ref a :: rest)) :=
  A.retT hd (by cases t <;> first | rfl | (cases ht)) (Or.inr (Or.inr (Or.inr (Or.inr ⟨rfl, ht, rfl⟩)))) hk hn hP
/-- of a boolean, byte, char, short: what comes out is narrowed -/
theorem Here.retN {z : Int32} {t : FieldType} (A : Here p l e R s m args below meth c Z a0 y bytes ml (some t) dm fp T k n os) (ht : t = .boolean ∨ t = .byte ∨ t = .char ∨ t = .short) (hd : decode bytes pc = .ok (.ireturn, 1)) (hk : k ≤ R.cells) (hn : n ≤ R.slots) (hP : Post (some (.int (nar t z))) os) : Wp p e below Z a0 dm fp R s Post T (mkF m pc Ls (.int z :: rest)) :=
  A.fin (v := some (.int (nar t z))) (fun h => by cases h) hk hn hP fun _ X hret _ hr => RoadKit.retN X A.hx hret ht (A.hb hd) hr
/-! single instructions (printed by mkops.py) -/
theorem Here.iloadN {j : Fin 4} {v : Int32} {q : Nat} (A : Here p l e R s m args below meth c Z a0 y bytes ml ret dm fp T k n os) (hd : decode bytes pc = .ok (.iload_n j, 1)) (hl : Ls[j.val]? = some (.val (.int v))) (hq : pc + 1 = q) (K : Wp p e below Z a0 dm fp R s Post T (mkF m q Ls (.int v :: st))) : Wp p e below Z a0 dm fp R s Post T (mkF m pc Ls st) := by
  subst hq
  exact Wp.go (fun t kt => XS.iloadN A.hr A.hx rfl (A.hb hd) hl kt) K
theorem Here.iload {j : Nat} {v : Int32} {q : Nat} (A : Here p l e R s m args below meth c Z a0 y bytes ml ret dm fp T k n os) (hd : decode bytes pc = .ok (.iload j, 2)) (hl : Ls[j]? = some (.val (.int v))) (hq : pc + 2 = q) (K : Wp p e below Z a0 dm fp R s Post T (mkF m q Ls (.int v :: st))) : Wp p e below Z a0 dm fp R s Post T (mkF m pc Ls st) := by
  subst hq
  exact Wp.go (fun t kt => XS.iload A.hr A.hx rfl (A.hb hd) hl kt) K
theorem Here.istoreN {j : Fin 4} {v : Int32} {l' : Array Slot} {q : Nat} (A : Here p l e R s m args below meth c Z a0 y bytes ml ret dm fp T k n os) (hd : decode bytes pc = .ok (.istore_n j, 1)) (hl : storeLocals Ls j.val (.int v) = some l') (hq : pc + 1 = q) (K : Wp p e below Z a0 dm fp R s Post T (mkF m q l' rest)) : Wp p e below Z a0 dm fp R s Post T (mkF m pc Ls (.int v :: rest)) := by
  subst hq
  exact Wp.go (fun t kt => XS.istoreN A.hr A.hx rfl (A.hb hd) rfl hl kt) K
theorem Here.istore {j : Nat} {v : Int32} {l' : Array Slot} {q : Nat} (A : Here p l e R s m args below meth c Z a0 y bytes ml ret dm fp T k n os) (hd : decode bytes pc = .ok (.istore j, 2)) (hl : storeLocals Ls j (.int v) = some l') (hq : pc + 2 = q) (K : Wp p e below Z a0 dm fp R s Post T (mkF m q l' rest)) : Wp p e below Z a0 dm fp R s Post T (mkF m pc Ls (.int v :: rest)) := by
  subst hq
  exact Wp.go (fun t kt => XS.istore A.hr A.hx rfl (A.hb hd) rfl hl kt) K
theorem Here.lloadN {j : Fin 4} {v : Int64} {q : Nat} (A : Here p l e R s m args below meth c Z a0 y bytes ml ret dm fp T k n os) (hd : decode bytes pc = .ok (.lload_n j, 1)) (hl : Ls[j.val]? = some (.val (.long v))) (hq : pc + 1 = q) (K : Wp p e below Z a0 dm fp R s Post T (mkF m q Ls (.long v :: st))) : Wp p e below Z a0 dm fp R s Post T (mkF m pc Ls st) := by
  subst hq
  exact Wp.go (fun t kt => XS.lloadN A.hr A.hx rfl (A.hb hd) hl kt) K
theorem Here.lload {j : Nat} {v : Int64} {q : Nat} (A : Here p l e R s m args below meth c Z a0 y bytes ml ret dm fp T k n os) (hd : decode bytes pc = .ok (.lload j, 2)) (hl : Ls[j]? = some (.val (.long v))) (hq : pc + 2 = q) (K : Wp p e below Z a0 dm fp R s Post T (mkF m q Ls (.long v :: st))) : Wp p e below Z a0 dm fp R s Post T (mkF m pc Ls st) := by
  subst hq
  exact Wp.go (fun t kt => XS.lload A.hr A.hx rfl (A.hb hd) hl kt) K
theorem Here.lstoreN {j : Fin 4} {v : Int64} {l' : Array Slot} {q : Nat} (A : Here p l e R s m args below meth c Z a0 y bytes ml ret dm fp T k n os) (hd : decode bytes pc = .ok (.lstore_n j, 1)) (hl : storeLocals Ls j.val (.long v) = some l') (hq : pc + 1 = q) (K : Wp p e below Z a0 dm fp R s Post T (mkF m q l' rest)) : Wp p e below Z a0 dm fp R s Post T (mkF m pc Ls (.long v :: rest)) := by
  subst hq
  exact Wp.go (fun t kt => XS.lstoreN A.hr A.hx rfl (A.hb hd) rfl hl kt) K
theorem Here.lstore {j : Nat} {v : Int64} {l' : Array Slot} {q : Nat} (A : Here p l e R s m args below meth c Z a0 y bytes ml ret dm fp T k n os) (hd : decode bytes pc = .ok (.lstore j, 2)) (hl : storeLocals Ls j (.long v) = some l') (hq : pc + 2 = q) (K : Wp p e below Z a0 dm fp R s Post T (mkF m q l' rest)) : Wp p e below Z a0 dm fp R s Post T (mkF m pc Ls (.long v :: rest)) := by
  subst hq
  exact Wp.go (fun t kt => XS.lstore A.hr A.hx rfl (A.hb hd) rfl hl kt) K
theorem Here.aloadN {j : Fin 4} {v : Value} {q : Nat} (A : Here p l e R s m args below meth c Z a0 y bytes ml ret dm fp T k n os) (hd : decode bytes pc = .ok (.aload_n j, 1)) (hl : Ls[j.val]? = some (.val v)) (hv : v.isRef = true) (hq : pc + 1 = q) (K : Wp p e below Z a0 dm fp R s Post T (mkF m q Ls (v :: st))) : Wp p e below Z a0 dm fp R s Post T (mkF m pc Ls st) := by
  subst hq
  exact Wp.go (fun t kt => XS.aloadN A.hr A.hx rfl (A.hb hd) hl hv kt) K
theorem Here.aload {j : Nat} {v : Value} {q : Nat} (A : Here p l e R s m args below meth c Z a0 y bytes ml ret dm fp T k n os) (hd : decode bytes pc = .ok (.aload j, 2)) (hl : Ls[j]? = some (.val v)) (hv : v.isRef = true) (hq : pc + 2 = q) (K : Wp p e below Z a0 dm fp R s Post T (mkF m q Ls (v :: st))) : Wp p e below Z a0 dm fp R s Post T (mkF m pc Ls st) := by
  subst hq
  exact Wp.go (fun t kt => XS.aload A.hr A.hx rfl (A.hb hd) hl hv kt) K
theorem Here.astoreN {j : Fin 4} {v : Value} {l' : Array Slot} {q : Nat} (A : Here p l e R s m args below meth c Z a0 y bytes ml ret dm fp T k n os) (hd : decode bytes pc = .ok (.astore_n j, 1)) (hv : v.isRef = true) (hl : storeLocals Ls j.val v = some l') (hq : pc + 1 = q) (K : Wp p e below Z a0 dm fp R s Post T (mkF m q l' rest)) : Wp p e below Z a0 dm fp R s Post T (mkF m pc Ls (v :: rest)) := by
  subst hq
  exact Wp.go (fun t kt => XS.astoreN A.hr A.hx rfl (A.hb hd) rfl hv hl kt) K
theorem Here.astore {j : Nat} {v : Value} {l' : Array Slot} {q : Nat} (A : Here p l e R s m args below meth c Z a0 y bytes ml ret dm fp T k n os) (hd : decode bytes pc = .ok (.astore j, 2)) (hv : v.isRef = true) (hl : storeLocals Ls j v = some l') (hq : pc + 2 = q) (K : Wp p e below Z a0 dm fp R s Post T (mkF m q l' rest)) : Wp p e below Z a0 dm fp R s Post T (mkF m pc Ls (v :: rest)) := by
  subst hq
  exact Wp.go (fun t kt => XS.astore A.hr A.hx rfl (A.hb hd) rfl hv hl kt) K
theorem Here.iconst {i : Int} {v : Int32} {q : Nat} (A : Here p l e R s m args below meth c Z a0 y bytes ml ret dm fp T k n os) (hd : decode bytes pc = .ok (.iconst i, 1)) (hv : Int32.ofInt i = v) (hq : pc + 1 = q) (K : Wp p e below Z a0 dm fp R s Post T (mkF m q Ls (.int v :: st))) : Wp p e below Z a0 dm fp R s Post T (mkF m pc Ls st) := by
  subst hq hv
  exact Wp.go (fun t kt => XS.iconst A.hr A.hx rfl (A.hb hd) kt) K
theorem Here.bipush {i : Int} {v : Int32} {q : Nat} (A : Here p l e R s m args below meth c Z a0 y bytes ml ret dm fp T k n os) (hd : decode bytes pc = .ok (.bipush i, 2)) (hv : (Int8.ofInt i).toInt32 = v) (hq : pc + 2 = q) (K : Wp p e below Z a0 dm fp R s Post T (mkF m q Ls (.int v :: st))) : Wp p e below Z a0 dm fp R s Post T (mkF m pc Ls st) := by
  subst hq hv
  exact Wp.go (fun t kt => XS.bipush A.hr A.hx rfl (A.hb hd) kt) K
theorem Here.sipush {i : Int} {v : Int32} {q : Nat} (A : Here p l e R s m args below meth c Z a0 y bytes ml ret dm fp T k n os) (hd : decode bytes pc = .ok (.sipush i, 3)) (hv : (Int16.ofInt i).toInt32 = v) (hq : pc + 3 = q) (K : Wp p e below Z a0 dm fp R s Post T (mkF m q Ls (.int v :: st))) : Wp p e below Z a0 dm fp R s Post T (mkF m pc Ls st) := by
  subst hq hv
  exact Wp.go (fun t kt => XS.sipush A.hr A.hx rfl (A.hb hd) kt) K
theorem Here.lconst {i : Fin 2} {v : Int64} {q : Nat} (A : Here p l e R s m args below meth c Z a0 y bytes ml ret dm fp T k n os) (hd : decode bytes pc = .ok (.lconst i, 1)) (hv : Int64.ofNat i.val = v) (hq : pc + 1 = q) (K : Wp p e below Z a0 dm fp R s Post T (mkF m q Ls (.long v :: st))) : Wp p e below Z a0 dm fp R s Post T (mkF m pc Ls st) := by
  subst hq hv
  exact Wp.go (fun t kt => XS.lconst A.hr A.hx rfl (A.hb hd) kt) K
theorem Here.aconstNull  {q : Nat} (A : Here p l e R s m args below meth c Z a0 y bytes ml ret dm fp T k n os) (hd : decode bytes pc = .ok (.aconst_null, 1)) (hq : pc + 1 = q) (K : Wp p e below Z a0 dm fp R s Post T (mkF m q Ls (.null :: st))) : Wp p e below Z a0 dm fp R s Post T (mkF m pc Ls st) := by
  subst hq
  exact Wp.go (fun t kt => XS.aconstNull A.hr A.hx rfl (A.hb hd)  kt) K
theorem Here.iadd {x z : Int32} {q : Nat} (A : Here p l e R s m args below meth c Z a0 y bytes ml ret dm fp T k n os) (hd : decode bytes pc = .ok (.iadd, 1)) (hq : pc + 1 = q) (K : Wp p e below Z a0 dm fp R s Post T (mkF m q Ls (.int (x + z) :: rest))) : Wp p e below Z a0 dm fp R s Post T (mkF m pc Ls (.int z :: .int x :: rest)) := by
  subst hq
  exact Wp.go (fun t kt => XS.iadd A.hr A.hx rfl (A.hb hd) rfl kt) K
theorem Here.ladd {x z : Int64} {q : Nat} (A : Here p l e R s m args below meth c Z a0 y bytes ml ret dm fp T k n os) (hd : decode bytes pc = .ok (.ladd, 1)) (hq : pc + 1 = q) (K : Wp p e below Z a0 dm fp R s Post T (mkF m q Ls (.long (x + z) :: rest))) : Wp p e below Z a0 dm fp R s Post T (mkF m pc Ls (.long z :: .long x :: rest)) := by
  subst hq
  exact Wp.go (fun t kt => XS.ladd A.hr A.hx rfl (A.hb hd) rfl kt) K
theorem Here.isub {x z : Int32} {q : Nat} (A : Here p l e R s m args below meth c Z a0 y bytes ml ret dm fp T k n os) (hd : decode bytes pc = .ok (.isub, 1)) (hq : pc + 1 = q) (K : Wp p e below Z a0 dm fp R s Post T (mkF m q Ls (.int (x - z) :: rest))) : Wp p e below Z a0 dm fp R s Post T (mkF m pc Ls (.int z :: .int x :: rest)) := by
  subst hq
  exact Wp.go (fun t kt => XS.isub A.hr A.hx rfl (A.hb hd) rfl kt) K
theorem Here.lsub {x z : Int64} {q : Nat} (A : Here p l e R s m args below meth c Z a0 y bytes ml ret dm fp T k n os) (hd : decode bytes pc = .ok (.lsub, 1)) (hq : pc + 1 = q) (K : Wp p e below Z a0 dm fp R s Post T (mkF m q Ls (.long (x - z) :: rest))) : Wp p e below Z a0 dm fp R s Post T (mkF m pc Ls (.long z :: .long x :: rest)) := by
  subst hq
  exact Wp.go (fun t kt => XS.lsub A.hr A.hx rfl (A.hb hd) rfl kt) K
theorem Here.imul {x z : Int32} {q : Nat} (A : Here p l e R s m args below meth c Z a0 y bytes ml ret dm fp T k n os) (hd : decode bytes pc = .ok (.imul, 1)) (hq : pc + 1 = q) (K : Wp p e below Z a0 dm fp R s Post T (mkF m q Ls (.int (x * z) :: rest))) : Wp p e below Z a0 dm fp R s Post T (mkF m pc Ls (.int z :: .int x :: rest)) := by
  subst hq
  exact Wp.go (fun t kt => XS.imul A.hr A.hx rfl (A.hb hd) rfl kt) K
theorem Here.lmul {x z : Int64} {q : Nat} (A : Here p l e R s m args below meth c Z a0 y bytes ml ret dm fp T k n os) (hd : decode bytes pc = .ok (.lmul, 1)) (hq : pc + 1 = q) (K : Wp p e below Z a0 dm fp R s Post T (mkF m q Ls (.long (x * z) :: rest))) : Wp p e below Z a0 dm fp R s Post T (mkF m pc Ls (.long z :: .long x :: rest)) := by
  subst hq
  exact Wp.go (fun t kt => XS.lmul A.hr A.hx rfl (A.hb hd) rfl kt) K
theorem Here.iand {x z : Int32} {q : Nat} (A : Here p l e R s m args below meth c Z a0 y bytes ml ret dm fp T k n os) (hd : decode bytes pc = .ok (.iand, 1)) (hq : pc + 1 = q) (K : Wp p e below Z a0 dm fp R s Post T (mkF m q Ls (.int (x &&& z) :: rest))) : Wp p e below Z a0 dm fp R s Post T (mkF m pc Ls (.int z :: .int x :: rest)) := by
  subst hq
  exact Wp.go (fun t kt => XS.iand A.hr A.hx rfl (A.hb hd) rfl kt) K
theorem Here.land {x z : Int64} {q : Nat} (A : Here p l e R s m args below meth c Z a0 y bytes ml ret dm fp T k n os) (hd : decode bytes pc = .ok (.land, 1)) (hq : pc + 1 = q) (K : Wp p e below Z a0 dm fp R s Post T (mkF m q Ls (.long (x &&& z) :: rest))) : Wp p e below Z a0 dm fp R s Post T (mkF m pc Ls (.long z :: .long x :: rest)) := by
  subst hq
  exact Wp.go (fun t kt => XS.land A.hr A.hx rfl (A.hb hd) rfl kt) K
theorem Here.ior {x z : Int32} {q : Nat} (A : Here p l e R s m args below meth c Z a0 y bytes ml ret dm fp T k n os) (hd : decode bytes pc = .ok (.ior, 1)) (hq : pc + 1 = q) (K : Wp p e below Z a0 dm fp R s Post T (mkF m q Ls (.int (x ||| z) :: rest))) : Wp p e below Z a0 dm fp R s Post T (mkF m pc Ls (.int z :: .int x :: rest)) := by
  subst hq
  exact Wp.go (fun t kt => XS.ior A.hr A.hx rfl (A.hb hd) rfl kt) K
theorem Here.lor {x z : Int64} {q : Nat} (A : Here p l e R s m args below meth c Z a0 y bytes ml ret dm fp T k n os) (hd : decode bytes pc = .ok (.lor, 1)) (hq : pc + 1 = q) (K : Wp p e below Z a0 dm fp R s Post T (mkF m q Ls (.long (x ||| z) :: rest))) : Wp p e below Z a0 dm fp R s Post T (mkF m pc Ls (.long z :: .long x :: rest)) := by
  subst hq
  exact Wp.go (fun t kt => XS.lor A.hr A.hx rfl (A.hb hd) rfl kt) K
theorem Here.ixor {x z : Int32} {q : Nat} (A : Here p l e R s m args below meth c Z a0 y bytes ml ret dm fp T k n os) (hd : decode bytes pc = .ok (.ixor, 1)) (hq : pc + 1 = q) (K : Wp p e below Z a0 dm fp R s Post T (mkF m q Ls (.int (x ^^^ z) :: rest))) : Wp p e below Z a0 dm fp R s Post T (mkF m pc Ls (.int z :: .int x :: rest)) := by
  subst hq
  exact Wp.go (fun t kt => XS.ixor A.hr A.hx rfl (A.hb hd) rfl kt) K
theorem Here.lxor {x z : Int64} {q : Nat} (A : Here p l e R s m args below meth c Z a0 y bytes ml ret dm fp T k n os) (hd : decode bytes pc = .ok (.lxor, 1)) (hq : pc + 1 = q) (K : Wp p e below Z a0 dm fp R s Post T (mkF m q Ls (.long (x ^^^ z) :: rest))) : Wp p e below Z a0 dm fp R s Post T (mkF m pc Ls (.long z :: .long x :: rest)) := by
  subst hq
  exact Wp.go (fun t kt => XS.lxor A.hr A.hx rfl (A.hb hd) rfl kt) K
theorem Here.idiv {x z : Int32} {q : Nat} (A : Here p l e R s m args below meth c Z a0 y bytes ml ret dm fp T k n os) (hd : decode bytes pc = .ok (.idiv, 1)) (hz : z ≠ 0) (hq : pc + 1 = q) (K : Wp p e below Z a0 dm fp R s Post T (mkF m q Ls (.int (x / z) :: rest))) : Wp p e below Z a0 dm fp R s Post T (mkF m pc Ls (.int z :: .int x :: rest)) := by
  subst hq
  exact Wp.go (fun t kt => XS.idiv A.hr A.hx rfl (A.hb hd) rfl hz kt) K
theorem Here.ineg {x : Int32} {q : Nat} (A : Here p l e R s m args below meth c Z a0 y bytes ml ret dm fp T k n os) (hd : decode bytes pc = .ok (.ineg, 1)) (hq : pc + 1 = q) (K : Wp p e below Z a0 dm fp R s Post T (mkF m q Ls (.int (-x) :: rest))) : Wp p e below Z a0 dm fp R s Post T (mkF m pc Ls (.int x :: rest)) := by
  subst hq
  exact Wp.go (fun t kt => XS.ineg A.hr A.hx rfl (A.hb hd) rfl kt) K
theorem Here.ldiv {x z : Int64} {q : Nat} (A : Here p l e R s m args below meth c Z a0 y bytes ml ret dm fp T k n os) (hd : decode bytes pc = .ok (.ldiv, 1)) (hz : z ≠ 0) (hq : pc + 1 = q) (K : Wp p e below Z a0 dm fp R s Post T (mkF m q Ls (.long (x / z) :: rest))) : Wp p e below Z a0 dm fp R s Post T (mkF m pc Ls (.long z :: .long x :: rest)) := by
  subst hq
  exact Wp.go (fun t kt => XS.ldiv A.hr A.hx rfl (A.hb hd) rfl hz kt) K
theorem Here.lneg {x : Int64} {q : Nat} (A : Here p l e R s m args below meth c Z a0 y bytes ml ret dm fp T k n os) (hd : decode bytes pc = .ok (.lneg, 1)) (hq : pc + 1 = q) (K : Wp p e below Z a0 dm fp R s Post T (mkF m q Ls (.long (-x) :: rest))) : Wp p e below Z a0 dm fp R s Post T (mkF m pc Ls (.long x :: rest)) := by
  subst hq
  exact Wp.go (fun t kt => XS.lneg A.hr A.hx rfl (A.hb hd) rfl kt) K
theorem Here.i2l {x : Int32} {q : Nat} (A : Here p l e R s m args below meth c Z a0 y bytes ml ret dm fp T k n os) (hd : decode bytes pc = .ok (.i2l, 1)) (hq : pc + 1 = q) (K : Wp p e below Z a0 dm fp R s Post T (mkF m q Ls (.long (x.toInt64) :: rest))) : Wp p e below Z a0 dm fp R s Post T (mkF m pc Ls (.int x :: rest)) := by
  subst hq
  exact Wp.go (fun t kt => XS.i2l A.hr A.hx rfl (A.hb hd) rfl kt) K
theorem Here.l2i {x : Int64} {q : Nat} (A : Here p l e R s m args below meth c Z a0 y bytes ml ret dm fp T k n os) (hd : decode bytes pc = .ok (.l2i, 1)) (hq : pc + 1 = q) (K : Wp p e below Z a0 dm fp R s Post T (mkF m q Ls (.int (x.toInt32) :: rest))) : Wp p e below Z a0 dm fp R s Post T (mkF m pc Ls (.long x :: rest)) := by
  subst hq
  exact Wp.go (fun t kt => XS.l2i A.hr A.hx rfl (A.hb hd) rfl kt) K
theorem Here.i2b {x : Int32} {q : Nat} (A : Here p l e R s m args below meth c Z a0 y bytes ml ret dm fp T k n os) (hd : decode bytes pc = .ok (.i2b, 1)) (hq : pc + 1 = q) (K : Wp p e below Z a0 dm fp R s Post T (mkF m q Ls (.int (x.toInt8.toInt32) :: rest))) : Wp p e below Z a0 dm fp R s Post T (mkF m pc Ls (.int x :: rest)) := by
  subst hq
  exact Wp.go (fun t kt => XS.i2b A.hr A.hx rfl (A.hb hd) rfl kt) K
theorem Here.i2s {x : Int32} {q : Nat} (A : Here p l e R s m args below meth c Z a0 y bytes ml ret dm fp T k n os) (hd : decode bytes pc = .ok (.i2s, 1)) (hq : pc + 1 = q) (K : Wp p e below Z a0 dm fp R s Post T (mkF m q Ls (.int (x.toInt16.toInt32) :: rest))) : Wp p e below Z a0 dm fp R s Post T (mkF m pc Ls (.int x :: rest)) := by
  subst hq
  exact Wp.go (fun t kt => XS.i2s A.hr A.hx rfl (A.hb hd) rfl kt) K
theorem Here.i2c {x : Int32} {q : Nat} (A : Here p l e R s m args below meth c Z a0 y bytes ml ret dm fp T k n os) (hd : decode bytes pc = .ok (.i2c, 1)) (hq : pc + 1 = q) (K : Wp p e below Z a0 dm fp R s Post T (mkF m q Ls (.int (x.toUInt32.toUInt16.toUInt32.toInt32) :: rest))) : Wp p e below Z a0 dm fp R s Post T (mkF m pc Ls (.int x :: rest)) := by
  subst hq
  exact Wp.go (fun t kt => XS.i2c A.hr A.hx rfl (A.hb hd) rfl kt) K
theorem Here.ishl {x : Int32} {z : Int32} {q : Nat} (A : Here p l e R s m args below meth c Z a0 y bytes ml ret dm fp T k n os) (hd : decode bytes pc = .ok (.ishl, 1)) (hq : pc + 1 = q) (K : Wp p e below Z a0 dm fp R s Post T (mkF m q Ls (.int (x <<< (z &&& 31)) :: rest))) : Wp p e below Z a0 dm fp R s Post T (mkF m pc Ls (.int z :: .int x :: rest)) := by
  subst hq
  exact Wp.go (fun t kt => XS.ishl A.hr A.hx rfl (A.hb hd) rfl kt) K
theorem Here.ishr {x : Int32} {z : Int32} {q : Nat} (A : Here p l e R s m args below meth c Z a0 y bytes ml ret dm fp T k n os) (hd : decode bytes pc = .ok (.ishr, 1)) (hq : pc + 1 = q) (K : Wp p e below Z a0 dm fp R s Post T (mkF m q Ls (.int (x >>> (z &&& 31)) :: rest))) : Wp p e below Z a0 dm fp R s Post T (mkF m pc Ls (.int z :: .int x :: rest)) := by
  subst hq
  exact Wp.go (fun t kt => XS.ishr A.hr A.hx rfl (A.hb hd) rfl kt) K
theorem Here.iushr {x : Int32} {z : Int32} {q : Nat} (A : Here p l e R s m args below meth c Z a0 y bytes ml ret dm fp T k n os) (hd : decode bytes pc = .ok (.iushr, 1)) (hq : pc + 1 = q) (K : Wp p e below Z a0 dm fp R s Post T (mkF m q Ls (.int ((x.toUInt32 >>> (z &&& 31).toUInt32).toInt32) :: rest))) : Wp p e below Z a0 dm fp R s Post T (mkF m pc Ls (.int z :: .int x :: rest)) := by
  subst hq
  exact Wp.go (fun t kt => XS.iushr A.hr A.hx rfl (A.hb hd) rfl kt) K
theorem Here.lshl {x : Int64} {z : Int32} {q : Nat} (A : Here p l e R s m args below meth c Z a0 y bytes ml ret dm fp T k n os) (hd : decode bytes pc = .ok (.lshl, 1)) (hq : pc + 1 = q) (K : Wp p e below Z a0 dm fp R s Post T (mkF m q Ls (.long (x <<< (z &&& 0x3f).toInt64) :: rest))) : Wp p e below Z a0 dm fp R s Post T (mkF m pc Ls (.int z :: .long x :: rest)) := by
  subst hq
  exact Wp.go (fun t kt => XS.lshl A.hr A.hx rfl (A.hb hd) rfl kt) K
theorem Here.lshr {x : Int64} {z : Int32} {q : Nat} (A : Here p l e R s m args below meth c Z a0 y bytes ml ret dm fp T k n os) (hd : decode bytes pc = .ok (.lshr, 1)) (hq : pc + 1 = q) (K : Wp p e below Z a0 dm fp R s Post T (mkF m q Ls (.long (x >>> (z &&& 0x3f).toInt64) :: rest))) : Wp p e below Z a0 dm fp R s Post T (mkF m pc Ls (.int z :: .long x :: rest)) := by
  subst hq
  exact Wp.go (fun t kt => XS.lshr A.hr A.hx rfl (A.hb hd) rfl kt) K
theorem Here.lushr {x : Int64} {z : Int32} {q : Nat} (A : Here p l e R s m args below meth c Z a0 y bytes ml ret dm fp T k n os) (hd : decode bytes pc = .ok (.lushr, 1)) (hq : pc + 1 = q) (K : Wp p e below Z a0 dm fp R s Post T (mkF m q Ls (.long ((x.toUInt64 >>> (z &&& 0x3f).toInt64.toUInt64).toInt64) :: rest))) : Wp p e below Z a0 dm fp R s Post T (mkF m pc Ls (.int z :: .long x :: rest)) := by
  subst hq
  exact Wp.go (fun t kt => XS.lushr A.hr A.hx rfl (A.hb hd) rfl kt) K
theorem Here.lcmp {x z : Int64} {q : Nat} (A : Here p l e R s m args below meth c Z a0 y bytes ml ret dm fp T k n os) (hd : decode bytes pc = .ok (.lcmp, 1)) (hq : pc + 1 = q) (K : Wp p e below Z a0 dm fp R s Post T (mkF m q Ls (.int (lcmpW x z) :: rest))) : Wp p e below Z a0 dm fp R s Post T (mkF m pc Ls (.long z :: .long x :: rest)) := by
  subst hq
  exact Wp.go (fun t kt => XS.lcmp A.hr A.hx rfl (A.hb hd) rfl kt) K
theorem Here.iinc {j : Nat} {i : Int} {x : Int32} {l' : Array Slot} {q : Nat} (A : Here p l e R s m args below meth c Z a0 y bytes ml ret dm fp T k n os) (hd : decode bytes pc = .ok (.iinc j i, 3)) (hl : Ls[j]? = some (.val (.int x))) (hl' : storeLocals Ls j (.int (x + Int32.ofInt i)) = some l') (hq : pc + 3 = q) (K : Wp p e below Z a0 dm fp R s Post T (mkF m q l' st)) : Wp p e below Z a0 dm fp R s Post T (mkF m pc Ls st) := by
  subst hq
  exact Wp.go (fun t kt => XS.iinc A.hr A.hx rfl (A.hb hd) hl hl' kt) K
theorem Here.dup {v : Value} {q : Nat} (A : Here p l e R s m args below meth c Z a0 y bytes ml ret dm fp T k n os) (hd : decode bytes pc = .ok (.dup, 1)) (hv : v.category = 1) (hq : pc + 1 = q) (K : Wp p e below Z a0 dm fp R s Post T (mkF m q Ls (v :: v :: rest))) : Wp p e below Z a0 dm fp R s Post T (mkF m pc Ls (v :: rest)) := by
  subst hq
  exact Wp.go (fun t kt => XS.dup A.hr A.hx rfl (A.hb hd) rfl hv kt) K
theorem Here.pop {v : Value} {q : Nat} (A : Here p l e R s m args below meth c Z a0 y bytes ml ret dm fp T k n os) (hd : decode bytes pc = .ok (.pop, 1)) (hv : v.category = 1) (hq : pc + 1 = q) (K : Wp p e below Z a0 dm fp R s Post T (mkF m q Ls rest)) : Wp p e below Z a0 dm fp R s Post T (mkF m pc Ls (v :: rest)) := by
  subst hq
  exact Wp.go (fun t kt => XS.pop A.hr A.hx rfl (A.hb hd) rfl hv kt) K
theorem Here.dup_x1 {v w : Value} {q : Nat} (A : Here p l e R s m args below meth c Z a0 y bytes ml ret dm fp T k n os) (hd : decode bytes pc = .ok (.dup_x1, 1)) (hv : v.category = 1) (hw : w.category = 1) (hq : pc + 1 = q) (K : Wp p e below Z a0 dm fp R s Post T (mkF m q Ls (v :: w :: v :: rest))) : Wp p e below Z a0 dm fp R s Post T (mkF m pc Ls (v :: w :: rest)) := by
  subst hq
  exact Wp.go (fun t kt => XS.dupX1 A.hr A.hx rfl (A.hb hd) rfl hv hw kt) K
theorem Here.dup2 {v w : Value} {q : Nat} (A : Here p l e R s m args below meth c Z a0 y bytes ml ret dm fp T k n os) (hd : decode bytes pc = .ok (.dup2, 1)) (hv : v.category = 1) (hw : w.category = 1) (hq : pc + 1 = q) (K : Wp p e below Z a0 dm fp R s Post T (mkF m q Ls (v :: w :: v :: w :: rest))) : Wp p e below Z a0 dm fp R s Post T (mkF m pc Ls (v :: w :: rest)) := by
  subst hq
  exact Wp.go (fun t kt => Jvm.Free.XT.dup2 A.hr A.hx rfl (A.hb hd) rfl hv hw kt) K
theorem Here.dup2L {x : Int64} {q : Nat} (A : Here p l e R s m args below meth c Z a0 y bytes ml ret dm fp T k n os) (hd : decode bytes pc = .ok (.dup2, 1)) (hq : pc + 1 = q) (K : Wp p e below Z a0 dm fp R s Post T (mkF m q Ls (.long x :: .long x :: rest))) : Wp p e below Z a0 dm fp R s Post T (mkF m pc Ls (.long x :: rest)) := by
  subst hq
  exact Wp.go (fun t kt => Jvm.Free.XT.dup2L A.hr A.hx rfl (A.hb hd) rfl kt) K
theorem Here.goto {o : Int} {q : Nat} (A : Here p l e R s m args below meth c Z a0 y bytes ml ret dm fp T k n os) (hd : decode bytes pc = .ok (.goto o, 3)) (ho : 0 ≤ (pc : Int) + o) (hq : ((pc : Int) + o).toNat = q) (K : Wp p e below Z a0 dm fp R s Post T (mkF m q Ls st)) : Wp p e below Z a0 dm fp R s Post T (mkF m pc Ls st) :=
  Wp.go (fun t kt => XS.goto A.hr A.hx rfl (pc0 := pc) (pc' := q) rfl (A.hb hd) ho hq kt) K
theorem Here.ifYes {cd : ClassFile.Cond} {o : Int} {x : Int32} {q : Nat} (A : Here p l e R s m args below meth c Z a0 y bytes ml ret dm fp T k n os) (hd : decode bytes pc = .ok (.ifCond cd o, 3)) (hc : ifCond.holds cd x = true) (ho : 0 ≤ (pc : Int) + o) (hq : ((pc : Int) + o).toNat = q) (K : Wp p e below Z a0 dm fp R s Post T (mkF m q Ls rest)) : Wp p e below Z a0 dm fp R s Post T (mkF m pc Ls (.int x :: rest)) :=
  Wp.go (fun t kt => XS.ifYes A.hr A.hx rfl (pc0 := pc) (pc' := q) rfl (A.hb hd) rfl hc ho hq kt) K
theorem Here.ifNo {cd : ClassFile.Cond} {o : Int} {x : Int32} {q : Nat} (A : Here p l e R s m args below meth c Z a0 y bytes ml ret dm fp T k n os) (hd : decode bytes pc = .ok (.ifCond cd o, 3)) (hc : ifCond.holds cd x = false) (hq : pc + 3 = q) (K : Wp p e below Z a0 dm fp R s Post T (mkF m q Ls rest)) : Wp p e below Z a0 dm fp R s Post T (mkF m pc Ls (.int x :: rest)) := by
  subst hq
  exact Wp.go (fun t kt => XS.ifNo A.hr A.hx rfl (A.hb hd) rfl hc kt) K
theorem Here.icmpYes {cd : ClassFile.Cond} {o : Int} {x z : Int32} {q : Nat} (A : Here p l e R s m args below meth c Z a0 y bytes ml ret dm fp T k n os) (hd : decode bytes pc = .ok (.if_icmp cd o, 3)) (hc : if_icmp.holds cd x z = true) (ho : 0 ≤ (pc : Int) + o) (hq : ((pc : Int) + o).toNat = q) (K : Wp p e below Z a0 dm fp R s Post T (mkF m q Ls rest)) : Wp p e below Z a0 dm fp R s Post T (mkF m pc Ls (.int z :: .int x :: rest)) :=
  Wp.go (fun t kt => XS.icmpYes A.hr A.hx rfl (pc0 := pc) (pc' := q) rfl (A.hb hd) rfl hc ho hq kt) K
theorem Here.icmpNo {cd : ClassFile.Cond} {o : Int} {x z : Int32} {q : Nat} (A : Here p l e R s m args below meth c Z a0 y bytes ml ret dm fp T k n os) (hd : decode bytes pc = .ok (.if_icmp cd o, 3)) (hc : if_icmp.holds cd x z = false) (hq : pc + 3 = q) (K : Wp p e below Z a0 dm fp R s Post T (mkF m q Ls rest)) : Wp p e below Z a0 dm fp R s Post T (mkF m pc Ls (.int z :: .int x :: rest)) := by
  subst hq
  exact Wp.go (fun t kt => XS.icmpNo A.hr A.hx rfl (A.hb hd) rfl hc kt) K
theorem Wp.top {v v' : Value} (h : v = v') (K : Wp p e below Z a0 dm fp R s Post T (mkF m pc Ls (v' :: st))) : Wp p e below Z a0 dm fp R s Post T (mkF m pc Ls (v :: st)) := by
  subst h
  exact K
/-! reads and writes -/
theorem Here.getF {O f d R0 : String} {idx i j : Nat} {a : Addr} {C : String} {fs : List Fd} {v : Value} (A : Here p l e R s m args below meth c Z a0 y bytes ml ret dm fp T k n os) (w : (Jvm.Cond.fieldLink y.cls idx R0 f d).before a0 Z = true) (via : Via Z R0 O f d) (hd : decode bytes pc = .ok (.getfield idx, 3)) (ho : os[i]? = some (a, .inl (C, fs))) (hj : fs[j]? = some (O, f, d, v)) {qn : Nat} (hq : pc + 3 = qn)
    (K : ∀ T', Here p l e R s m args below meth c Z a0 y bytes ml ret dm fp T' k n os → Wp p e below Z a0 dm fp R s Post T' (mkF m qn Ls (v :: rest))) : Wp p e below Z a0 dm fp R s Post T (mkF m pc Ls (.ref a :: rest)) := by
  subst hq
  have A' := A
  obtain ⟨locs, X, N, H, hx, hZ, hb, hml, hown, q⟩ := A
  obtain ⟨T1, X1, e1, st1⟩ := RoadKit.getF X hx hZ hown (host := "") (Or.inl w) via rfl (H.fld ho hj) (g := mkF m pc Ls (.ref a :: rest)) rfl rfl (A'.hb hd)
  exact Wp.go st1 (K T1 ⟨locs, X1, N, by rw [e1]; exact H, hx, hZ, hb, hml, hown, q⟩)
theorem Here.putF {O f d R0 : String} {idx i j kk : Nat} {a : Addr} {C : String} {fs : List Fd} {v old : Value} {ty : FieldType} (A : Here p l e R s m args below meth c Z a0 y bytes ml ret dm fp T k n os) (w : (Jvm.Cond.fieldLink y.cls idx R0 f d).before a0 Z = true) (via : Via Z R0 O f d)
    (hL : (Jvm.Cond.lays C O f d).before a0 Z = true ∨ ((Jvm.Cond.laysFinal C O f d).before a0 Z = true ∧ y.cls = O ∧ y.name = "<init>")) (wi : (Jvm.Cond.instantiable C kk).before a0 Z = true) (hty : parseFieldDescriptor d = some ty) (hnw : narrow ty v = v) (hf : fits ty v = true)
    (hd : decode bytes pc = .ok (.putfield idx, 3)) (ho : os[i]? = some (a, .inl (C, fs))) (hj : fs[j]? = some (O, f, d, old)) (hdf : dm = fp) {qn : Nat} (hq : pc + 3 = qn)
    (K : ∀ T', Here p l e R s m args below meth c Z a0 y bytes ml ret dm fp T' k n (os.set i (a, .inl (C, fs.set j (O, f, d, v)))) → Wp p e below Z a0 dm fp R s Post T' (mkF m qn Ls rest)) : Wp p e below Z a0 dm fp R s Post T (mkF m pc Ls (v :: .ref a :: rest)) := by
  subst hq
  have A' := A
  obtain ⟨locs, X, N, H, hx, hZ, hb, hml, hown, hnm, q⟩ := A
  have hD : Dm fp s.heap.size a := hdf ▸ H.2.1 _ (List.mem_of_getElem? ho)
  obtain ⟨T1, h1, X1, e1, W1, st1⟩ := RoadKit.putF X hx hZ hown (host := "") (Or.inl w) via rfl (H.fld ho hj) (H.exa ho) (hL.imp id fun z => ⟨z.1, z.2.1, hnm.trans z.2.2⟩) wi hty hnw hf (g := mkF m pc Ls (v :: .ref a :: rest)) rfl rfl (A'.hb hd)
  refine Wp.go st1 (K T1 ⟨_, X1, fun q hq => ?_, by rw [e1]; exact H.putf hD ho hj W1, hx, hZ, hb, hml, hown, hnm, q⟩)
  rcases List.mem_append.mp hq with hq | hq
  · exact N q hq
  · cases List.mem_singleton.mp hq; exact hD
theorem Here.putFN {O f d R0 : String} {idx i j kk : Nat} {a : Addr} {C : String} {fs : List Fd} {v v' old : Value} {ty : FieldType} (A : Here p l e R s m args below meth c Z a0 y bytes ml ret dm fp T k n os) (w : (Jvm.Cond.fieldLink y.cls idx R0 f d).before a0 Z = true) (via : Via Z R0 O f d)
    (hL : (Jvm.Cond.lays C O f d).before a0 Z = true ∨ ((Jvm.Cond.laysFinal C O f d).before a0 Z = true ∧ y.cls = O ∧ y.name = "<init>")) (wi : (Jvm.Cond.instantiable C kk).before a0 Z = true) (hty : parseFieldDescriptor d = some ty) (hnw : narrow ty v = v') (hf : fits ty v' = true)
    (hd : decode bytes pc = .ok (.putfield idx, 3)) (ho : os[i]? = some (a, .inl (C, fs))) (hj : fs[j]? = some (O, f, d, old)) (hdf : dm = fp) {qn : Nat} (hq : pc + 3 = qn)
    (K : ∀ T', Here p l e R s m args below meth c Z a0 y bytes ml ret dm fp T' k n (os.set i (a, .inl (C, fs.set j (O, f, d, v')))) → Wp p e below Z a0 dm fp R s Post T' (mkF m qn Ls rest)) : Wp p e below Z a0 dm fp R s Post T (mkF m pc Ls (v :: .ref a :: rest)) := by
  subst hq
  have A' := A
  obtain ⟨locs, X, N, H, hx, hZ, hb, hml, hown, hnm, q⟩ := A
  have hD : Dm fp s.heap.size a := hdf ▸ H.2.1 _ (List.mem_of_getElem? ho)
  obtain ⟨T1, h1, X1, e1, W1, st1⟩ := RoadKit.putFN X hx hZ hown w via rfl (H.fld ho hj) (H.exa ho) (hL.imp id fun z => ⟨z.1, z.2.1, hnm.trans z.2.2⟩) wi hty hnw hf (g := mkF m pc Ls (v :: .ref a :: rest)) rfl rfl (A'.hb hd)
  refine Wp.go st1 (K T1 ⟨_, X1, fun q hq => ?_, by rw [e1]; exact H.putf hD ho hj W1, hx, hZ, hb, hml, hown, hnm, q⟩)
  rcases List.mem_append.mp hq with hq | hq
  · exact N q hq
  · cases List.mem_singleton.mp hq; exact hD
theorem Here.newO {idx nn : Nat} {C : String} {fs : List Fd} (A : Here p l e R s m args below meth c Z a0 y bytes ml ret dm fp T k n os) (w : (Jvm.Cond.classLink y.cls idx C).before a0 Z = true) (wi : (Jvm.Cond.instantiable C nn).before a0 Z = true) (wz : (Jvm.Cond.initialized C).before a0 Z = true) (hd : decode bytes pc = .ok (.new idx, 3)) (hc : k + 1 ≤ R.cells) (hl : n + nn ≤ R.slots)
    (hnd : (fs.map (·.2.1)).Nodup) (hfs : ∀ q ∈ fs, Laid Z a0 C q.1 q.2.1 q.2.2.1 ∧ ∃ t, parseFieldDescriptor q.2.2.1 = some t ∧ q.2.2.2 = defaultValue t) {qn : Nat} (hq : pc + 3 = qn)
    (K : ∀ T' a, Here p l e R s m args below meth c Z a0 y bytes ml ret dm fp T' (k + 1) (n + nn) (os ++ [(a, .inl (C, fs))]) → Wp p e below Z a0 dm fp R s Post T' (mkF m qn Ls (.ref a :: st))) : Wp p e below Z a0 dm fp R s Post T (mkF m pc Ls st) := by
  subst hq
  have A' := A
  obtain ⟨locs, X, N, H, hx, hZ, hb, hml, hown, q⟩ := A
  obtain ⟨T1, h1, X1, e1, E1, A1, D1, -, st1⟩ := RoadKit.newO X hx hZ hown w wi wz rfl (g := mkF m pc Ls st) rfl (A'.hb hd) hc hl
  have F1 : ObAt Z a0 h1 T.heap.size (.inl (C, fs)) := ⟨A1, hnd, fun q hq => by
    obtain ⟨L, t, ht, hv⟩ := hfs q hq
    refine ⟨?_, L, t, ht⟩
    rw [hv]
    exact D1 L ht⟩
  exact Wp.go st1 (K T1 _ ⟨_, X1, N, by rw [e1]; exact H.push E1 F1, hx, hZ, hb, hml, hown, q⟩)
theorem Here.newP {aty : ArrayType} {z : Int32} {cap : Nat} (A : Here p l e R s m args below meth c Z a0 y bytes ml ret dm fp T k n os) (w : (Jvm.Cond.arrayClass (newarray.typeOf aty)).before a0 Z = true) (hd : decode bytes pc = .ok (.newarray aty, 2)) (hz : ¬ z < 0) (hcap : z.toNatClampNeg ≤ cap) (hb8 : cap * 8 ≤ 536870912) (hc : k + 1 ≤ R.cells) (hl : n + cap ≤ R.slots) {qn : Nat} (hq : pc + 2 = qn)
    (K : ∀ T' a, Here p l e R s m args below meth c Z a0 y bytes ml ret dm fp T' (k + 1) (n + cap) (os ++ [(a, .inr (newarray.typeOf aty, List.replicate z.toNatClampNeg (defaultValue (newarray.typeOf aty))))]) → Wp p e below Z a0 dm fp R s Post T' (mkF m qn Ls (.ref a :: st))) : Wp p e below Z a0 dm fp R s Post T (mkF m pc Ls (.int z :: st)) := by
  subst hq
  have A' := A
  obtain ⟨locs, X, N, H, hx, hZ, hb, hml, hown, q⟩ := A
  obtain ⟨T1, h1, cA, X1, e1, E1, A1, B1, st1⟩ := RoadKit.newPE X hx hZ w rfl (g := mkF m pc Ls (.int z :: st)) rfl (A'.hb hd) rfl hz hcap hb8 hc hl rfl
  have F1 : ObAt Z a0 h1 T.heap.size (.inr (newarray.typeOf aty, List.replicate z.toNatClampNeg (defaultValue (newarray.typeOf aty)))) := ⟨_, A1, by simp [newA], B1, fun v hv => by
    rw [(List.mem_replicate.mp hv).2]
    cases aty <;> rfl⟩
  exact Wp.go st1 (K T1 _ ⟨_, X1, N, by rw [e1]; exact H.push E1 F1, hx, hZ, hb, hml, hown, q⟩)
theorem inb {vs : List Value} {cl : Cell} {j : Int32} (e : cl.slots.toList = vs) (hj : ¬ j < 0) (hl : j.toNatClampNeg < vs.length) : ¬ (j < 0 ∨ cl.slots.size ≤ j.toNatClampNeg) := by
  subst e
  rw [Array.length_toList] at hl
  rintro (h | h)
  · exact hj h
  · exact absurd hl (Nat.not_lt.mpr h)
theorem Here.stOf {i : Nat} {a : Addr} {ty : FieldType} {vs : List Value} {j : Int32} {v : Value} {g : JFrame} (hf : fits ty v = true) (A : Here p l e R s m args below meth c Z a0 y bytes ml ret dm fp T k n os) (ho : os[i]? = some (a, .inr (ty, vs))) (hj : ¬ j < 0) (hl : j.toNatClampNeg < vs.length) (hdf : dm = fp)
    (S : ∀ (locs : List Loc) (cl : Cell), Stand p l e R s m args below meth c T locs k n → Arr Z T.heap a cl ty → ¬ (j < 0 ∨ cl.slots.size ≤ j.toNatClampNeg) → ∃ T' h', Stand p l e R s m args below meth c T' (locs ++ [⟨a, j.toNatClampNeg⟩]) k n ∧ T'.heap = h' ∧ Wr T.heap h' a j.toNatClampNeg v ∧ ∀ target, Steps p.tables e below (T'.setTop (mkF m (pc + 1) Ls rest)) target → Steps p.tables e below (T.setTop g) target)
    (K : ∀ T', Here p l e R s m args below meth c Z a0 y bytes ml ret dm fp T' k n (os.set i (a, .inr (ty, vs.set j.toNatClampNeg v))) → Wp p e below Z a0 dm fp R s Post T' (mkF m (pc + 1) Ls rest)) : Wp p e below Z a0 dm fp R s Post T g := by
  obtain ⟨locs, X, N, H, q⟩ := A
  obtain ⟨cl, Ar, ec⟩ := H.arr ho
  have hD : Dm fp s.heap.size a := hdf ▸ H.2.1 _ (List.mem_of_getElem? ho)
  obtain ⟨T1, h1, X1, e1, W1, st1⟩ := S locs cl X Ar (inb ec hj hl)
  refine Wp.go st1 (K T1 ⟨_, X1, fun q hq => ?_, by rw [e1]; exact H.puta hD hf ho W1, q⟩)
  rcases List.mem_append.mp hq with hq | hq
  · exact N q hq
  · cases List.mem_singleton.mp hq; exact hD
theorem Here.hz (A : Here p l e R s m args below meth c Z a0 y bytes ml ret dm fp T k n os) : Z.Warmed39 s.vm := by obtain ⟨_, -, -, -, -, hZ, -⟩ := A; exact hZ
theorem Here.stI {i : Nat} {a : Addr} {vs : List Value} {j x : Int32} (A : Here p l e R s m args below meth c Z a0 y bytes ml ret dm fp T k n os) (hd : decode bytes pc = .ok (.iastore, 1)) (ho : os[i]? = some (a, .inr (.int, vs))) (hj : ¬ j < 0) (hl : j.toNatClampNeg < vs.length) (hdf : dm = fp) {qn : Nat} (hq : pc + 1 = qn)
    (K : ∀ T', Here p l e R s m args below meth c Z a0 y bytes ml ret dm fp T' k n (os.set i (a, .inr (.int, vs.set j.toNatClampNeg (.int x)))) → Wp p e below Z a0 dm fp R s Post T' (mkF m qn Ls rest)) : Wp p e below Z a0 dm fp R s Post T (mkF m pc Ls (.int x :: .int j :: .ref a :: rest)) := by
  subst hq
  exact Here.stOf rfl A ho hj hl hdf (fun _ _ X Ar hin => RoadKit.stI X A.hx A.hz rfl Ar hin (g := mkF m pc Ls (.int x :: .int j :: .ref a :: rest)) rfl rfl (A.hb hd)) K
theorem Here.stJ {i : Nat} {a : Addr} {vs : List Value} {j : Int32} {x : Int64} (A : Here p l e R s m args below meth c Z a0 y bytes ml ret dm fp T k n os) (hd : decode bytes pc = .ok (.lastore, 1)) (ho : os[i]? = some (a, .inr (.long, vs))) (hj : ¬ j < 0) (hl : j.toNatClampNeg < vs.length) (hdf : dm = fp) {qn : Nat} (hq : pc + 1 = qn)
    (K : ∀ T', Here p l e R s m args below meth c Z a0 y bytes ml ret dm fp T' k n (os.set i (a, .inr (.long, vs.set j.toNatClampNeg (.long x)))) → Wp p e below Z a0 dm fp R s Post T' (mkF m qn Ls rest)) : Wp p e below Z a0 dm fp R s Post T (mkF m pc Ls (.long x :: .int j :: .ref a :: rest)) := by
  subst hq
  exact Here.stOf rfl A ho hj hl hdf (fun _ _ X Ar hin => RoadKit.stJ X A.hx A.hz rfl Ar hin (g := mkF m pc Ls (.long x :: .int j :: .ref a :: rest)) rfl rfl (A.hb hd)) K
theorem Here.stC {i : Nat} {a : Addr} {vs : List Value} {j x : Int32} (A : Here p l e R s m args below meth c Z a0 y bytes ml ret dm fp T k n os) (hd : decode bytes pc = .ok (.castore, 1)) (ho : os[i]? = some (a, .inr (.char, vs))) (hj : ¬ j < 0) (hl : j.toNatClampNeg < vs.length) (hdf : dm = fp) {qn : Nat} (hq : pc + 1 = qn)
    (K : ∀ T', Here p l e R s m args below meth c Z a0 y bytes ml ret dm fp T' k n (os.set i (a, .inr (.char, vs.set j.toNatClampNeg (.int (nar .char x))))) → Wp p e below Z a0 dm fp R s Post T' (mkF m qn Ls rest)) : Wp p e below Z a0 dm fp R s Post T (mkF m pc Ls (.int x :: .int j :: .ref a :: rest)) := by
  subst hq
  exact Here.stOf (fits_nar_char _) A ho hj hl hdf (fun _ _ X Ar hin => RoadKit.stC X A.hx A.hz rfl Ar hin (g := mkF m pc Ls (.int x :: .int j :: .ref a :: rest)) rfl rfl (A.hb hd)) K
theorem Here.stB {i : Nat} {a : Addr} {vs : List Value} {j x : Int32} (A : Here p l e R s m args below meth c Z a0 y bytes ml ret dm fp T k n os) (hd : decode bytes pc = .ok (.bastore, 1)) (ho : os[i]? = some (a, .inr (.byte, vs))) (hj : ¬ j < 0) (hl : j.toNatClampNeg < vs.length) (hdf : dm = fp) {qn : Nat} (hq : pc + 1 = qn)
    (K : ∀ T', Here p l e R s m args below meth c Z a0 y bytes ml ret dm fp T' k n (os.set i (a, .inr (.byte, vs.set j.toNatClampNeg (.int (nar .byte x))))) → Wp p e below Z a0 dm fp R s Post T' (mkF m qn Ls rest)) : Wp p e below Z a0 dm fp R s Post T (mkF m pc Ls (.int x :: .int j :: .ref a :: rest)) := by
  subst hq
  exact Here.stOf (fits_nar_byte _) A ho hj hl hdf (fun _ _ X Ar hin => RoadKit.stB X A.hx A.hz rfl Ar hin (g := mkF m pc Ls (.int x :: .int j :: .ref a :: rest)) rfl rfl (A.hb hd)) K
theorem Here.ldOf {i : Nat} {a : Addr} {ty : FieldType} {vs : List Value} {j : Int32} {v : Value} {g g' : JFrame} (A : Here p l e R s m args below meth c Z a0 y bytes ml ret dm fp T k n os) (ho : os[i]? = some (a, .inr (ty, vs))) (hj : ¬ j < 0) (hv : vs[j.toNatClampNeg]? = some v)
    (S : ∀ (locs : List Loc) (cl : Cell), Stand p l e R s m args below meth c T locs k n → T.heap[a]? = some cl → s.isArrayOf cl ty → cl.vm ≠ .unknown → ¬ (j < 0 ∨ cl.slots.size ≤ j.toNatClampNeg) → cl.slots[j.toNatClampNeg]? = some v → ∀ target, Steps p.tables e below (T.setTop g') target → Steps p.tables e below (T.setTop g) target)
    (K : Wp p e below Z a0 dm fp R s Post T g') : Wp p e below Z a0 dm fp R s Post T g := by
  have hz := A.hz
  obtain ⟨locs, X, N, H, q⟩ := A
  obtain ⟨cl, Ar, ec⟩ := H.arr ho
  refine Wp.go (S locs cl X Ar.1 (State.isArrayOf_alike hz.alike Ar.2.1) Ar.2.2 (inb ec hj (List.getElem?_eq_some_iff.mp hv).1) ?_) K
  rw [← ec, Array.getElem?_toList] at hv
  exact hv
theorem Here.ldI {i : Nat} {a : Addr} {vs : List Value} {j : Int32} {v : Value} (A : Here p l e R s m args below meth c Z a0 y bytes ml ret dm fp T k n os) (hd : decode bytes pc = .ok (.iaload, 1)) (ho : os[i]? = some (a, .inr (.int, vs))) (hj : ¬ j < 0) (hv : vs[j.toNatClampNeg]? = some v) {qn : Nat} (hq : pc + 1 = qn)
    (K : Wp p e below Z a0 dm fp R s Post T (mkF m qn Ls (v :: rest))) : Wp p e below Z a0 dm fp R s Post T (mkF m pc Ls (.int j :: .ref a :: rest)) := by
  subst hq
  exact A.ldOf ho hj hv (fun _ _ X h1 h2 h3 h4 h5 t kt => X.iaload A.hx h1 h2 h3 h4 h5 (g := mkF m pc Ls (.int j :: .ref a :: rest)) rfl rfl (A.hb hd) t kt) K
theorem Here.ldJ {i : Nat} {a : Addr} {vs : List Value} {j : Int32} {v : Value} (A : Here p l e R s m args below meth c Z a0 y bytes ml ret dm fp T k n os) (hd : decode bytes pc = .ok (.laload, 1)) (ho : os[i]? = some (a, .inr (.long, vs))) (hj : ¬ j < 0) (hv : vs[j.toNatClampNeg]? = some v) {qn : Nat} (hq : pc + 1 = qn)
    (K : Wp p e below Z a0 dm fp R s Post T (mkF m qn Ls (v :: rest))) : Wp p e below Z a0 dm fp R s Post T (mkF m pc Ls (.int j :: .ref a :: rest)) := by
  subst hq
  exact A.ldOf ho hj hv (fun _ _ X h1 h2 h3 h4 h5 t kt => X.laload A.hx h1 h2 h3 h4 h5 (g := mkF m pc Ls (.int j :: .ref a :: rest)) rfl rfl (A.hb hd) t kt) K
theorem Here.ldC {i : Nat} {a : Addr} {vs : List Value} {j : Int32} {v : Value} (A : Here p l e R s m args below meth c Z a0 y bytes ml ret dm fp T k n os) (hd : decode bytes pc = .ok (.caload, 1)) (ho : os[i]? = some (a, .inr (.char, vs))) (hj : ¬ j < 0) (hv : vs[j.toNatClampNeg]? = some v) {qn : Nat} (hq : pc + 1 = qn)
    (K : Wp p e below Z a0 dm fp R s Post T (mkF m qn Ls (v :: rest))) : Wp p e below Z a0 dm fp R s Post T (mkF m pc Ls (.int j :: .ref a :: rest)) := by
  subst hq
  exact A.ldOf ho hj hv (fun _ _ X h1 h2 h3 h4 h5 t kt => X.caload A.hx h1 h2 h3 h4 h5 (g := mkF m pc Ls (.int j :: .ref a :: rest)) rfl rfl (A.hb hd) t kt) K
theorem Here.ldB {i : Nat} {a : Addr} {vs : List Value} {j : Int32} {v : Value} (A : Here p l e R s m args below meth c Z a0 y bytes ml ret dm fp T k n os) (hd : decode bytes pc = .ok (.baload, 1)) (ho : os[i]? = some (a, .inr (.byte, vs))) (hj : ¬ j < 0) (hv : vs[j.toNatClampNeg]? = some v) {qn : Nat} (hq : pc + 1 = qn)
    (K : Wp p e below Z a0 dm fp R s Post T (mkF m qn Ls (v :: rest))) : Wp p e below Z a0 dm fp R s Post T (mkF m pc Ls (.int j :: .ref a :: rest)) := by
  subst hq
  exact A.ldOf ho hj hv (fun _ _ X h1 h2 h3 h4 h5 t kt => X.baloadBytes A.hx h1 h2 h3 h4 h5 (g := mkF m pc Ls (.int j :: .ref a :: rest)) rfl rfl (A.hb hd) t kt) K
theorem Here.len {i : Nat} {a : Addr} {ty : FieldType} {vs : List Value} {z : Int32} (A : Here p l e R s m args below meth c Z a0 y bytes ml ret dm fp T k n os) (hd : decode bytes pc = .ok (.arraylength, 1)) (ho : os[i]? = some (a, .inr (ty, vs))) (hz : vs.length.toInt32 = z) {qn : Nat} (hq : pc + 1 = qn)
    (K : Wp p e below Z a0 dm fp R s Post T (mkF m qn Ls (.int z :: rest))) : Wp p e below Z a0 dm fp R s Post T (mkF m pc Ls (.ref a :: rest)) := by
  subst hq
  have A' := A
  obtain ⟨locs, X, N, H, q⟩ := A
  obtain ⟨cl, Ar, ec⟩ := H.arr ho
  subst hz
  rw [← ec, Array.length_toList] at K
  exact Wp.go (fun t kt => X.arraylength A'.hx Ar.1 (State.isArrayOf_alike A'.hz.alike Ar.2.1) (g := mkF m pc Ls (.ref a :: rest)) rfl rfl (A'.hb hd) t kt) K
theorem Here.ldc {idx : Nat} {v : Int32} (A : Here p l e R s m args below meth c Z a0 y bytes ml ret dm fp T k n os) (w : (Jvm.Cond.constant y.cls idx v).before a0 Z = true) (hd : decode bytes pc = .ok (.ldc idx, 2)) {qn : Nat} (hq : pc + 2 = qn)
    (K : Wp p e below Z a0 dm fp R s Post T (mkF m qn Ls (.int v :: st))) : Wp p e below Z a0 dm fp R s Post T (mkF m pc Ls st) := by
  subst hq
  have A' := A
  obtain ⟨locs, X, N, H, hx, hZ, hb, hml, hown, q⟩ := A
  exact Wp.go (X.ldcInt hx hown (mvT hZ w) (g := mkF m pc Ls st) rfl (A'.hb hd)) K
theorem Here.ldcw {idx : Nat} {v : Int32} (A : Here p l e R s m args below meth c Z a0 y bytes ml ret dm fp T k n os) (w : (Jvm.Cond.constant y.cls idx v).before a0 Z = true) (hd : decode bytes pc = .ok (.ldc_w idx, 3)) {qn : Nat} (hq : pc + 3 = qn)
    (K : Wp p e below Z a0 dm fp R s Post T (mkF m qn Ls (.int v :: st))) : Wp p e below Z a0 dm fp R s Post T (mkF m pc Ls st) := by
  subst hq
  have A' := A
  obtain ⟨locs, X, N, H, hx, hZ, hb, hml, hown, q⟩ := A
  exact Wp.go (X.ldcwInt hx hown (mvT hZ w) (g := mkF m pc Ls st) rfl (A'.hb hd)) K
theorem Here.ldc2 {idx : Nat} {v : Int64} (A : Here p l e R s m args below meth c Z a0 y bytes ml ret dm fp T k n os) (w : (Jvm.Cond.constantLong y.cls idx v).before a0 Z = true) (hd : decode bytes pc = .ok (.ldc2_w idx, 3)) {qn : Nat} (hq : pc + 3 = qn)
    (K : Wp p e below Z a0 dm fp R s Post T (mkF m qn Ls (.long v :: st))) : Wp p e below Z a0 dm fp R s Post T (mkF m pc Ls st) := by
  subst hq
  have A' := A
  obtain ⟨locs, X, N, H, hx, hZ, hb, hml, hown, q⟩ := A
  exact Wp.go (X.ldc2Long hx hown (mvT hZ w) (g := mkF m pc Ls st) rfl (A'.hb hd)) K
/-- a primitive array's clone -/
theorem Here.clone {idx W i cap : Nat} {a : Addr} {ty : FieldType} {vs : List Value} {ad : String} (A : Here p l e R s m args below meth c Z a0 y bytes ml ret dm fp T k n os)
    (w1 : (Jvm.Cond.methodLink y.cls idx ⟨ad, "clone", "()Ljava/lang/Object;"⟩).before a0 Z = true) (w2 : (Jvm.Cond.sameMethod ad "java/lang/Object" "clone" "()Ljava/lang/Object;").before a0 Z = true) (w3 : (Jvm.Cond.native ⟨"java/lang/Object", "clone", "()Ljava/lang/Object;"⟩).before a0 Z = true)
    (w4 : (Jvm.Cond.instanceMethod ⟨"java/lang/Object", "clone", "()Ljava/lang/Object;"⟩).before a0 Z = true) (w5 : (Jvm.Cond.selects ad ⟨ad, "clone", "()Ljava/lang/Object;"⟩ ⟨"java/lang/Object", "clone", "()Ljava/lang/Object;"⟩).before a0 Z = true) (w6 : (Jvm.Cond.castable ad "java/lang/Cloneable").before a0 Z = true)
    (had : "[" ++ ty.toString = ad) (hd : decode bytes pc = .ok (.invokevirtual idx, 3)) (hsz : Ls.size = ml) (ho : os[i]? = some (a, .inr (ty, vs))) (hW : (rest.map fun v => v.category).sum ≤ W) (hf : 1 ≤ R.frames) (hl : W + 14 ≤ R.locals) (hcap : vs.length ≤ cap) (hc : k + 1 ≤ R.cells) (hs : n + cap ≤ R.slots) {qn : Nat} (hq : pc + 3 = qn)
    (K : ∀ T' b, Here p l e R s m args below meth c Z a0 y bytes ml ret dm fp T' (k + 1) (n + cap) (os ++ [(b, .inr (ty, vs))]) → Wp p e below Z a0 dm fp R s Post T' (mkF m qn Ls (.ref b :: rest))) : Wp p e below Z a0 dm fp R s Post T (mkF m pc Ls (.ref a :: rest)) := by
  subst hq
  have A' := A
  obtain ⟨locs, X, N, H, hx, hZ, hb, hml, hown, q⟩ := A
  obtain ⟨cl, Ar, ec, E, F⟩ := H.1.2 _ (List.mem_of_getElem? ho)
  dsimp only at ec E F Ar
  subst had
  have FC : FitC Z cl := fitC_of Ar fun j hj v hv => F v (by rw [← ec, Array.mem_toList_iff]; exact Array.mem_of_getElem? hv)
  obtain ⟨T1, h1, X1, e1, E1, A1, B1, st1⟩ := cloneA X hx hZ hown w1 w2 w3 w4 w5 w6 rfl Ar E FC (g := mkF m pc Ls (.ref a :: rest)) rfl (hsz.trans hml.symm) rfl (A'.hb hd) hf (W := W) (by show 2 * 0 + _ ≤ _; rw [Nat.mul_zero, Nat.zero_add]; exact hW) hl (cap := cap) (by rw [← Array.length_toList, ec]; exact hcap) hc hs
  exact Wp.go st1 (K T1 _ ⟨_, X1, N, by rw [e1]; exact H.push E1 ⟨_, A1, ec, B1, F⟩, hx, hZ, hb, hml, hown, q⟩)
theorem Here.ccast {idx i : Nat} {a : Addr} {ty : FieldType} {vs : List Value} {K0 : String} (A : Here p l e R s m args below meth c Z a0 y bytes ml ret dm fp T k n os) (w : (Jvm.Cond.classLink y.cls idx K0).before a0 Z = true) (had : "[" ++ ty.toString = K0) (hd : decode bytes pc = .ok (.checkcast idx, 3)) (ho : os[i]? = some (a, .inr (ty, vs))) {qn : Nat} (hq : pc + 3 = qn)
    (K : ∀ T', Here p l e R s m args below meth c Z a0 y bytes ml ret dm fp T' k n os → Wp p e below Z a0 dm fp R s Post T' (mkF m qn Ls (.ref a :: rest))) : Wp p e below Z a0 dm fp R s Post T (mkF m pc Ls (.ref a :: rest)) := by
  subst hq
  have A' := A
  obtain ⟨locs, X, N, H, hx, hZ, hb, hml, hown, q⟩ := A
  obtain ⟨cl, Ar, ec, E, F⟩ := H.1.2 _ (List.mem_of_getElem? ho)
  subst had
  obtain ⟨T1, X1, e1, st1⟩ := castY X hx hZ hown w rfl (Ins.self E) (g := mkF m pc Ls (.ref a :: rest)) rfl rfl (A'.hb hd)
  exact Wp.go st1 (K T1 ⟨locs, X1, N, by rw [e1]; exact H, hx, hZ, hb, hml, hown, q⟩)
/-! calls -/
theorem Here.initO {idx W : Nat} {a : Addr} (A : Here p l e R s m args below meth c Z a0 y bytes ml ret dm fp T k n os) (w1 : (Jvm.Cond.methodLink y.cls idx Lib.objectInit).before a0 Z = true) (w2 : (Jvm.Cond.instanceMethod Lib.objectInit).before a0 Z = true) (w3 : (Jvm.Cond.code Lib.objectInit Jvm.Example.Point.objCode 1 none).before a0 Z = true)
    (hd : decode bytes pc = .ok (.invokespecial idx, 3)) (hsz : Ls.size = ml) (hW : (rest.map fun v => v.category).sum ≤ W) (hf : 1 ≤ R.frames) (hl : W + 12 ≤ R.locals) {qn : Nat} (hq : pc + 3 = qn)
    (K : ∀ T', Here p l e R s m args below meth c Z a0 y bytes ml ret dm fp T' k n os → Wp p e below Z a0 dm fp R s Post T' (mkF m qn Ls rest)) : Wp p e below Z a0 dm fp R s Post T (mkF m pc Ls (.ref a :: rest)) := by
  subst hq
  have A' := A
  obtain ⟨locs, X, N, H, hx, hZ, hb, hml, hown, q⟩ := A
  obtain ⟨T1, X1, e1, st1⟩ := RoadKit.initO X hx hZ hown w1 w2 w3 rfl (g := mkF m pc Ls (.ref a :: rest)) rfl (hsz.trans hml.symm) rfl (A'.hb hd) hf (W := W) (by show 2 * 0 + _ ≤ _; rw [Nat.mul_zero, Nat.zero_add]; exact hW) hl
  exact Wp.go st1 (K T1 ⟨locs, X1, N, by rw [e1]; exact H, hx, hZ, hb, hml, hown, q⟩)
theorem dm_call {h0 h : Heap} {os1 os2 : Hs} (H : Hp Z a0 dm fp h0 h (os1 ++ os2)) (hc : fp2 = [] ∨ (fp2 = os2.map (·.1) ∧ dm = fp)) {x : Addr} (hx : Dm fp2 h.size x) : Dm fp h0.size x := by
  rcases hx with hx | hx
  · rcases hc with rfl | ⟨rfl, rfl⟩
    · exact absurd hx List.not_mem_nil
    · obtain ⟨q, hq, rfl⟩ := List.mem_map.mp hx
      exact H.2.1 q (List.mem_append.mpr (Or.inr hq))
  · exact Or.inr (Nat.le_trans H.2.2.1 hx)
theorem Here.callS {idx W : Nat} {y' : MethodName} {bytes' : ByteArray} {ml' : Nat} {ret' : Option FieldType} {R' : Room} {argsL : List Value} {os1 os2 : Hs} {Post' : Option Value → Hs → Prop}
    (A : Here p l e R s m args below meth c Z a0 y bytes ml ret dm fp T k n (os1 ++ os2)) (M : Pays l Z a0 y' bytes' ml' ret' R' argsL.toArray os2 fp2 Post') (hcc : fp2 = [] ∨ (fp2 = os2.map (·.1) ∧ dm = fp))
    (w1 : (Jvm.Cond.methodLink y.cls idx y').before a0 Z = true) (w2 : (Jvm.Cond.static y').before a0 Z = true) (w3 : (Jvm.Cond.initialized y'.cls).before a0 Z = true) (w4 : (Jvm.Cond.code y' bytes' ml' ret').before a0 Z = true) (hy : y'.cls ≠ "java/lang/invoke/MethodHandle" ∧ y'.cls ≠ "java/lang/invoke/VarHandle")
    (hd : decode bytes pc = .ok (.invokestatic idx, 3)) (hsz : Ls.size = ml) (hlen : ∀ sig, parseMethodDescriptor y'.desc = some sig → argsL.length = sig.parameters.length) (hst : st = argsL.reverse ++ rest) (hW : (rest.map fun v => v.category).sum ≤ W) (hf : R'.frames + 1 ≤ R.frames) (hl : W + (ml' + 11) + R'.locals ≤ R.locals) (hc : k + R'.cells ≤ R.cells) (hs : n + R'.slots ≤ R.slots) {qn : Nat} (hq : pc + 3 = qn)
    (K : ∀ T' v os', Here p l e R s m args below meth c Z a0 y bytes ml ret dm fp T' (k + R'.cells) (n + R'.slots) (os1 ++ os') → Post' v os' → Wp p e below Z a0 dm fp R s Post T' (mkF m qn Ls (v.toList ++ rest))) : Wp p e below Z a0 dm fp R s Post T (mkF m pc Ls st) := by
  subst hq
  have A' := A
  obtain ⟨locs, X, N, H, hx, hZ, hb, hml, hown, q⟩ := A
  have hq : Hq Z a0 T.heap os2 := ⟨by have := H.1.1; rw [List.map_append, List.nodup_append] at this; exact this.2.1, fun q hq => H.1.2 q (List.mem_append.mpr (Or.inr hq))⟩
  obtain ⟨v, _, ⟨T1, L1, k1, n1⟩, -, X1, ⟨Lc, hQ, l1, y1, z1⟩, st1⟩ := Jvm.LawKit.callS X hx (y := y') hown (mvT hZ w1) (mvT hZ w2) (mvT hZ w3) (mvT hZ w4) hy (backOf (W := W) (h := T.heap) (Q := fun v h L => (∀ q ∈ L, Dm fp2 T.heap.size q.base) ∧ ∃ os', Hp Z a0 (os2.map (·.1)) fp2 T.heap h os' ∧ Post' v os') (M [] T.heap hq) hZ w4 w3 hf hl) (g := mkF m pc Ls st) rfl (hsz.trans hml.symm) (argsL := argsL) (rest := rest) hlen hst (by show 2 * 0 + _ ≤ _; rw [Nat.mul_zero, Nat.zero_add]; exact hW) (A'.hb hd) (fun _ _ => ⟨rfl, rfl, hc, hs⟩)
  dsimp only [Pt.U, Pt.locs, Pt.cells, Pt.slots] at X1 l1 y1 z1 st1 hQ
  subst l1 y1 z1
  obtain ⟨N1, os', H1, hP⟩ := hQ
  refine Wp.go st1 (K T1 v os' ⟨_, X1, fun q hq => ?_, H.call H1 hcc, hx, hZ, hb, hml, hown, q⟩ hP)
  rcases List.mem_append.mp hq with hq | hq
  · exact N q hq
  · exact dm_call H hcc (N1 q hq)
theorem Here.callI {idx W : Nat} {y' : MethodName} {bytes' : ByteArray} {ml' : Nat} {R' : Room} {argsL : List Value} {a : Addr} {os1 os2 : Hs} {Post' : Option Value → Hs → Prop}
    (A : Here p l e R s m args below meth c Z a0 y bytes ml ret dm fp T k n (os1 ++ os2)) (M : Pays l Z a0 y' bytes' ml' none R' (.ref a :: argsL).toArray os2 fp2 Post') (hcc : fp2 = [] ∨ (fp2 = os2.map (·.1) ∧ dm = fp)) (hini : y'.name = "<init>")
    (w1 : (Jvm.Cond.methodLink y.cls idx y').before a0 Z = true) (w2 : (Jvm.Cond.instanceMethod y').before a0 Z = true) (w3 : (Jvm.Cond.initialized y'.cls).before a0 Z = true) (w4 : (Jvm.Cond.code y' bytes' ml' none).before a0 Z = true) (hy : y'.cls ≠ "java/lang/invoke/MethodHandle" ∧ y'.cls ≠ "java/lang/invoke/VarHandle")
    (hd : decode bytes pc = .ok (.invokespecial idx, 3)) (hsz : Ls.size = ml) (hlen : ∀ sig, parseMethodDescriptor y'.desc = some sig → argsL.length = sig.parameters.length) (hst : st = argsL.reverse ++ .ref a :: rest) (hW : (rest.map fun v => v.category).sum ≤ W) (hf : R'.frames + 1 ≤ R.frames) (hl : W + (ml' + 11) + R'.locals ≤ R.locals) (hc : k + R'.cells ≤ R.cells) (hs : n + R'.slots ≤ R.slots) {qn : Nat} (hq : pc + 3 = qn)
    (K : ∀ T' v os', Here p l e R s m args below meth c Z a0 y bytes ml ret dm fp T' (k + R'.cells) (n + R'.slots) (os1 ++ os') → Post' v os' → Wp p e below Z a0 dm fp R s Post T' (mkF m qn Ls (v.toList ++ rest))) : Wp p e below Z a0 dm fp R s Post T (mkF m pc Ls st) := by
  subst hq
  have A' := A
  obtain ⟨locs, X, N, H, hx, hZ, hb, hml, hown, q⟩ := A
  have hq : Hq Z a0 T.heap os2 := ⟨by have := H.1.1; rw [List.map_append, List.nodup_append] at this; exact this.2.1, fun q hq => H.1.2 q (List.mem_append.mpr (Or.inr hq))⟩
  obtain ⟨v, _, ⟨T1, L1, k1, n1⟩, -, X1, ⟨Lc, hQ, l1, y1, z1⟩, st1⟩ := X.specialBack hx (y := y') hini hown (mvT hZ w1) (mvT hZ w2) (mvT hZ w4) hy (backOf (W := W) (h := T.heap) (Q := fun v h L => (∀ q ∈ L, Dm fp2 T.heap.size q.base) ∧ ∃ os', Hp Z a0 (os2.map (·.1)) fp2 T.heap h os' ∧ Post' v os') (M [] T.heap hq) hZ w4 w3 hf hl) (g := mkF m pc Ls st) rfl (hsz.trans hml.symm) (Steps.refl _) (a := a) (argsL := argsL) (rest := rest) hlen hst (by show 2 * 0 + _ ≤ _; rw [Nat.mul_zero, Nat.zero_add]; exact hW) (A'.hb hd) (fun _ _ => ⟨rfl, rfl, hc, hs⟩)
  dsimp only [Pt.U, Pt.locs, Pt.cells, Pt.slots] at X1 l1 y1 z1 st1 hQ
  subst l1 y1 z1
  obtain ⟨N1, os', H1, hP⟩ := hQ
  refine Wp.go (fun t kt => st1.trans kt) (K T1 v os' ⟨_, X1, fun q hq => ?_, H.call H1 hcc, hx, hZ, hb, hml, hown, q⟩ hP)
  rcases List.mem_append.mp hq with hq | hq
  · exact N q hq
  · exact dm_call H hcc (N1 q hq)
theorem Here.callV {idx W i : Nat} {y' : MethodName} {bytes' : ByteArray} {ml' : Nat} {ret' : Option FieldType} {R' : Room} {argsL : List Value} {a : Addr} {C : String} {fs : List Fd} {os1 os2 : Hs} {Post' : Option Value → Hs → Prop}
    (A : Here p l e R s m args below meth c Z a0 y bytes ml ret dm fp T k n (os1 ++ os2)) (M : Pays l Z a0 y' bytes' ml' ret' R' (.ref a :: argsL).toArray os2 fp2 Post') (hcc : fp2 = [] ∨ (fp2 = os2.map (·.1) ∧ dm = fp)) (ho : (os1 ++ os2)[i]? = some (a, .inl (C, fs)))
    (w1 : (Jvm.Cond.methodLink y.cls idx y').before a0 Z = true) (wd : (Jvm.Cond.declares y').before a0 Z = true) (ws : (Jvm.Cond.selects C y' y').before a0 Z = true) (w2 : (Jvm.Cond.instanceMethod y').before a0 Z = true) (w3 : (Jvm.Cond.initialized y'.cls).before a0 Z = true) (w4 : (Jvm.Cond.code y' bytes' ml' ret').before a0 Z = true) (hy : y'.cls ≠ "java/lang/invoke/MethodHandle" ∧ y'.cls ≠ "java/lang/invoke/VarHandle")
    (hd : decode bytes pc = .ok (.invokevirtual idx, 3)) (hsz : Ls.size = ml) (hlen : ∀ sig, parseMethodDescriptor y'.desc = some sig → argsL.length = sig.parameters.length) (hst : st = argsL.reverse ++ .ref a :: rest) (hW : (rest.map fun v => v.category).sum ≤ W) (hf : R'.frames + 1 ≤ R.frames) (hl : W + (ml' + 11) + R'.locals ≤ R.locals) (hc : k + R'.cells ≤ R.cells) (hs : n + R'.slots ≤ R.slots) {qn : Nat} (hq : pc + 3 = qn)
    (K : ∀ T' v os', Here p l e R s m args below meth c Z a0 y bytes ml ret dm fp T' (k + R'.cells) (n + R'.slots) (os1 ++ os') → Post' v os' → Wp p e below Z a0 dm fp R s Post T' (mkF m qn Ls (v.toList ++ rest))) : Wp p e below Z a0 dm fp R s Post T (mkF m pc Ls st) := by
  subst hq
  have A' := A
  obtain ⟨locs, X, N, H, hx, hZ, hb, hml, hown, q⟩ := A
  have hq : Hq Z a0 T.heap os2 := ⟨by have := H.1.1; rw [List.map_append, List.nodup_append] at this; exact this.2.1, fun q hq => H.1.2 q (List.mem_append.mpr (Or.inr hq))⟩
  obtain ⟨cq, kq, qa, qb, qc⟩ := isOf (T := T) hZ rfl (H.exa ho)
  obtain ⟨v, _, ⟨T1, L1, k1, n1⟩, -, X1, ⟨Lc, hQ, l1, y1, z1⟩, st1⟩ := X.virtualBack hx (y := y') (z := y') hown (mvT hZ w1) (mvT hZ wd) (notFace_of_selects (args := #[]) (mvT hZ ws)) (mvT hZ ws) (mvT hZ w2) hy (backOf (W := W) (h := T.heap) (Q := fun v h L => (∀ q ∈ L, Dm fp2 T.heap.size q.base) ∧ ∃ os', Hp Z a0 (os2.map (·.1)) fp2 T.heap h os' ∧ Post' v os') (M [] T.heap hq) hZ w4 w3 hf hl) qa qc (g := mkF m pc Ls st) rfl (hsz.trans hml.symm) (Steps.refl _) (argsL := argsL) (rest := rest) hlen hst (by show 2 * 0 + _ ≤ _; rw [Nat.mul_zero, Nat.zero_add]; exact hW) (A'.hb hd) (fun _ _ => ⟨rfl, rfl, hc, hs⟩)
  dsimp only [Pt.U, Pt.locs, Pt.cells, Pt.slots] at X1 l1 y1 z1 st1 hQ
  subst l1 y1 z1
  obtain ⟨N1, os', H1, hP⟩ := hQ
  refine Wp.go (fun t kt => st1.trans kt) (K T1 v os' ⟨_, X1, fun q hq => ?_, H.call H1 hcc, hx, hZ, hb, hml, hown, q⟩ hP)
  rcases List.mem_append.mp hq with hq | hq
  · exact N q hq
  · exact dm_call H hcc (N1 q hq)
end Walks
end Jvm.OwnWp
namespace Jvm.Pilot.@@N@@
open Jvm Jvm.ClassFile Sem Op Lib Jvm.Free Jvm.Stand Jvm.LawKit Jvm.RoadKit Bundle Jvm.OwnWp Jvm.Pilot.@@N@@.Jvm.D
theorem tw {a0 : Array Value} {Z : State} (hw : ∀ d ∈ tables_1, d.before a0 Z = true) (k : Nat) {d : Jvm.Cond} (h : tables_1[k]? = some d) : d.before a0 Z = true := hw d (List.mem_of_getElem? h)
abbrev ob0 (v0 v1 v2 v3 v4 : Value) : Ob := .inl ("com/example/nomoc/nomoc/checker/StateLayout", [("com/example/nomoc/nomoc/checker/StateLayout", "words", "[I", v0), ("com/example/nomoc/nomoc/checker/StateLayout", "shifts", "[I", v1), ("com/example/nomoc/nomoc/checker/StateLayout", "masks", "[J", v2), ("com/example/nomoc/nomoc/checker/StateLayout", "lows", "[I", v3), ("com/example/nomoc/nomoc/checker/StateLayout", "width", "I", v4)])
theorem bm32 (x : Int) : x.bmod (2 ^ 32) = (x + 2147483648) % 4294967296 - 2147483648 := by
  rw [Int.bmod_def]; split <;> omega
theorem bm64 (x : Int) : x.bmod (2 ^ 64) = (x + 9223372036854775808) % 18446744073709551616 - 9223372036854775808 := by
  rw [Int.bmod_def]; split <;> omega
theorem l32_0 : (0 : Int32).toInt = 0 := by decide
theorem l32_1 : (1 : Int32).toInt = 1 := by decide
theorem l32_2 : (2 : Int32).toInt = 2 := by decide
theorem l32_3 : (3 : Int32).toInt = 3 := by decide
theorem l32_32 : (32 : Int32).toInt = 32 := by decide
theorem l32_64 : (64 : Int32).toInt = 64 := by decide
theorem l64_0 : (0 : Int64).toInt = 0 := by decide
theorem l64_1 : (1 : Int64).toInt = 1 := by decide
def own_n4 (z n : Int32) : Int32 := n - ((z.toUInt32 >>> ((1 : Int32) &&& 31).toUInt32).toInt32)
def own_n3 (z n : Int32) : Int32 := if z < 4 then own_n4 z n else own_n4 ((z.toUInt32 >>> ((2 : Int32) &&& 31).toUInt32).toInt32) (n + -2)
def own_n2 (z n : Int32) : Int32 := if z < 16 then own_n3 z n else own_n3 ((z.toUInt32 >>> ((4 : Int32) &&& 31).toUInt32).toInt32) (n + -4)
def own_n1 (z n : Int32) : Int32 := if z < 256 then own_n2 z n else own_n2 ((z.toUInt32 >>> ((8 : Int32) &&& 31).toUInt32).toInt32) (n + -8)
def own_nlz (z : Int32) : Int32 := if 0 < z then (if z < 65536 then own_n1 z 31 else own_n1 ((z.toUInt32 >>> ((16 : Int32) &&& 31).toUInt32).toInt32) (31 + -16)) else if z = 0 then 32 else 0
def own_min (x z : Int32) : Int32 := if z < x then z else x
def own_max (x z : Int32) : Int32 := if x < z then z else x
def own_h32 (q : Int64) : Int32 := ((q.toUInt64 >>> ((32 : Int32) &&& 0x3f).toInt64.toUInt64).toInt64).toInt32
def own_lo (q : Int64) : Int32 := own_min q.toInt32 (own_h32 q)
def own_hi (q : Int64) : Int32 := own_max q.toInt32 (own_h32 q)
def own_nlz64 (q : Int64) : Int32 := if own_h32 q = 0 then (32 : Int32) + own_nlz q.toInt32 else own_nlz (own_h32 q)
def own_bits (lo hi : Int32) : Int32 := (64 : Int32) - own_nlz64 (((hi.toInt64 - lo.toInt64) + (1 : Int64)) - (1 : Int64))
def own_mk (b : Int32) : Int64 := ((1 : Int64) <<< (b &&& 0x3f).toInt64) - (1 : Int64)
def own_get (q : Int64) (s : Int32) (mk : Int64) (lo : Int32) : Int32 := ((((q.toUInt64 >>> (s &&& 0x3f).toInt64.toUInt64).toInt64) &&& mk) + lo.toInt64).toInt32
def own_put (q : Int64) (s : Int32) (mk : Int64) (lo v : Int32) : Int64 := (q &&& ((mk <<< (s &&& 0x3f).toInt64) ^^^ (-1 : Int64))) ||| (((v.toInt64 - lo.toInt64) &&& mk) <<< (s &&& 0x3f).toInt64)
theorem own_ushr1 (z : Int32) (h : 0 ≤ z.toInt) : ((z.toUInt32 >>> ((1 : Int32) &&& 31).toUInt32).toInt32).toInt = z.toInt / 2 := by
  rw [Jvm.Kit.i32_iushr (Jvm.Kit.i32_nonneg.mpr h) (k := 1) (by decide) (by decide)]
  omega

theorem own_ushr2 (z : Int32) (h : 0 ≤ z.toInt) : ((z.toUInt32 >>> ((2 : Int32) &&& 31).toUInt32).toInt32).toInt = z.toInt / 4 := by
  rw [Jvm.Kit.i32_iushr (Jvm.Kit.i32_nonneg.mpr h) (k := 2) (by decide) (by decide)]
  omega

theorem own_ushr4 (z : Int32) (h : 0 ≤ z.toInt) : ((z.toUInt32 >>> ((4 : Int32) &&& 31).toUInt32).toInt32).toInt = z.toInt / 16 := by
  rw [Jvm.Kit.i32_iushr (Jvm.Kit.i32_nonneg.mpr h) (k := 4) (by decide) (by decide)]
  omega

theorem own_ushr8 (z : Int32) (h : 0 ≤ z.toInt) : ((z.toUInt32 >>> ((8 : Int32) &&& 31).toUInt32).toInt32).toInt = z.toInt / 256 := by
  rw [Jvm.Kit.i32_iushr (Jvm.Kit.i32_nonneg.mpr h) (k := 8) (by decide) (by decide)]
  omega

theorem own_ushr16 (z : Int32) (h : 0 ≤ z.toInt) : ((z.toUInt32 >>> ((16 : Int32) &&& 31).toUInt32).toInt32).toInt = z.toInt / 65536 := by
  rw [Jvm.Kit.i32_iushr (Jvm.Kit.i32_nonneg.mpr h) (k := 16) (by decide) (by decide)]
  omega
theorem own_n4_k (z n : Int32) (h0 : 0 ≤ z.toInt) (h1 : z.toInt < 4) (hn : 1 ≤ n.toInt) : ∃ k : Nat, k ≤ 1 ∧ (own_n4 z n).toInt = n.toInt - k ∧ z.toInt < 2 ^ (k + 1) := by
  have e := own_ushr1 z h0
  have b := n.toInt_lt
  refine ⟨(z.toInt / 2).toNat, by omega, ?_, ?_⟩
  · show (n - ((z.toUInt32 >>> ((1 : Int32) &&& 31).toUInt32).toInt32)).toInt = _
    rw [Jvm.Kit.i32_sub (by omega) (by omega), e]
    omega
  · rcases (show (z.toInt / 2).toNat = 0 ∨ (z.toInt / 2).toNat = 1 by omega) with q | q <;> rw [q] <;> omega
theorem own_step_k {z zz n nn r : Int32} {c s : Nat} (hz : zz.toInt = z.toInt / 2 ^ s) (hn : nn.toInt = n.toInt - s) (h : ∃ k : Nat, k ≤ c ∧ r.toInt = nn.toInt - k ∧ zz.toInt < 2 ^ (k + 1)) : ∃ k : Nat, k ≤ c + s ∧ r.toInt = n.toInt - k ∧ z.toInt < 2 ^ (k + 1) := by
  obtain ⟨k, h1, h2, h3⟩ := h
  refine ⟨k + s, by omega, by omega, ?_⟩
  rw [hz] at h3
  have h4 : z.toInt < 2 ^ (k + 1) * 2 ^ s := (Int.ediv_lt_iff_lt_mul (by exact Int.pow_pos (by decide))).mp h3
  rw [← Int.pow_add] at h4
  rw [show k + s + 1 = k + 1 + s by omega]
  exact h4
theorem own_weak_k {z n r : Int32} {c c' : Nat} (hc : c ≤ c') (h : ∃ k : Nat, k ≤ c ∧ r.toInt = n.toInt - k ∧ z.toInt < 2 ^ (k + 1)) : ∃ k : Nat, k ≤ c' ∧ r.toInt = n.toInt - k ∧ z.toInt < 2 ^ (k + 1) := by
  obtain ⟨k, h1, h2⟩ := h
  exact ⟨k, Nat.le_trans h1 hc, h2⟩
theorem own_sub_k (n : Int32) (s : Int32) (v : Nat) (hs : s.toInt = -v) (h : v ≤ n.toInt) : (n + s).toInt = n.toInt - v := by
  have := n.toInt_lt
  rw [Jvm.Kit.i32_add (by omega) (by omega), hs]
  omega
theorem own_n3_k (z n : Int32) (h0 : 0 ≤ z.toInt) (h1 : z.toInt < 16) (hn : 3 ≤ n.toInt) : ∃ k : Nat, k ≤ 3 ∧ (own_n3 z n).toInt = n.toInt - k ∧ z.toInt < 2 ^ (k + 1) := by
  unfold own_n3
  by_cases h : z < 4
  · rw [if_pos h]
    rw [Int32.lt_iff_toInt_lt, show (4 : Int32).toInt = 4 by decide] at h
    exact own_weak_k (by decide) (own_n4_k z n h0 h (by omega))
  · rw [if_neg h]
    have e := own_ushr2 z h0
    have e2 := own_sub_k n (-2) 2 (by decide) (by omega)
    exact own_step_k (s := 2) (c := 1) e e2 (own_n4_k _ _ (by omega) (by omega) (by omega))
theorem own_n2_k (z n : Int32) (h0 : 0 ≤ z.toInt) (h1 : z.toInt < 256) (hn : 7 ≤ n.toInt) : ∃ k : Nat, k ≤ 7 ∧ (own_n2 z n).toInt = n.toInt - k ∧ z.toInt < 2 ^ (k + 1) := by
  unfold own_n2
  by_cases h : z < 16
  · rw [if_pos h]
    rw [Int32.lt_iff_toInt_lt, show (16 : Int32).toInt = 16 by decide] at h
    exact own_weak_k (by decide) (own_n3_k z n h0 h (by omega))
  · rw [if_neg h]
    have e := own_ushr4 z h0
    have e2 := own_sub_k n (-4) 4 (by decide) (by omega)
    exact own_step_k (s := 4) (c := 3) e e2 (own_n3_k _ _ (by omega) (by omega) (by omega))
theorem own_n1_k (z n : Int32) (h0 : 0 ≤ z.toInt) (h1 : z.toInt < 65536) (hn : 15 ≤ n.toInt) : ∃ k : Nat, k ≤ 15 ∧ (own_n1 z n).toInt = n.toInt - k ∧ z.toInt < 2 ^ (k + 1) := by
  unfold own_n1
  by_cases h : z < 256
  · rw [if_pos h]
    rw [Int32.lt_iff_toInt_lt, show (256 : Int32).toInt = 256 by decide] at h
    exact own_weak_k (by decide) (own_n2_k z n h0 h (by omega))
  · rw [if_neg h]
    have e := own_ushr8 z h0
    have e2 := own_sub_k n (-8) 8 (by decide) (by omega)
    exact own_step_k (s := 8) (c := 7) e e2 (own_n2_k _ _ (by omega) (by omega) (by omega))
theorem own_nlz_k (z : Int32) (h : 0 < z.toInt) : ∃ k : Nat, k ≤ 31 ∧ (own_nlz z).toInt = 31 - k ∧ z.toInt < 2 ^ (k + 1) := by
  have b := z.toInt_lt
  have h31 : (31 : Int32).toInt = 31 := by decide
  unfold own_nlz
  rw [if_pos (by rw [Int32.lt_iff_toInt_lt, show (0 : Int32).toInt = 0 by decide]; exact h)]
  by_cases h' : z < 65536
  · rw [if_pos h']
    rw [Int32.lt_iff_toInt_lt, show (65536 : Int32).toInt = 65536 by decide] at h'
    have := own_weak_k (c' := 31) (by decide) (own_n1_k z 31 (by omega) h' (by omega))
    rwa [h31] at this
  · rw [if_neg h']
    have e := own_ushr16 z (by omega)
    have e2 := own_sub_k 31 (-16) 16 (by decide) (by omega)
    have := own_step_k (s := 16) (c := 15) e e2 (own_n1_k _ _ (by omega) (by omega) (by omega))
    rwa [h31] at this
theorem own_nlz_u (z : Int32) : 0 ≤ (own_nlz z).toInt ∧ (own_nlz z).toInt ≤ 32 ∧ z.toInt % 4294967296 < 2 ^ (32 - (own_nlz z).toInt).toNat := by
  have b1 := z.toInt_lt
  have b2 := z.le_toInt
  by_cases h : 0 < z.toInt
  · obtain ⟨k, h1, h2, h3⟩ := own_nlz_k z h
    refine ⟨by omega, by omega, ?_⟩
    rw [show (32 - (own_nlz z).toInt).toNat = k + 1 by omega, Int.emod_eq_of_lt (by omega) (by omega)]
    exact h3
  · by_cases h' : z.toInt = 0
    · have e : z = 0 := Int32.toInt_inj.mp (by rw [h']; decide)
      subst e
      decide
    · have e : own_nlz z = 0 := by
        unfold own_nlz
        rw [if_neg (by rw [Int32.lt_iff_toInt_lt, show (0 : Int32).toInt = 0 by decide]; exact h), if_neg (by intro e; apply h'; rw [e]; decide)]
      rw [e]
      refine ⟨by decide, by decide, ?_⟩
      rw [show (32 - (0 : Int32).toInt).toNat = 32 by decide]
      have := Int.emod_lt_of_pos z.toInt (show (0 : Int) < 4294967296 by decide)
      omega
theorem own_span1 (lo hi : Int32) : (hi.toInt64 - lo.toInt64).toInt = hi.toInt - lo.toInt := by
  have b1 := hi.toInt_lt
  have b2 := hi.le_toInt
  have b3 := lo.toInt_lt
  have b4 := lo.le_toInt
  rw [Jvm.Kit.i64_sub (by rw [Int32.toInt_toInt64, Int32.toInt_toInt64]; omega) (by rw [Int32.toInt_toInt64, Int32.toInt_toInt64]; omega), Int32.toInt_toInt64, Int32.toInt_toInt64]
theorem own_span (lo hi : Int32) : ((hi.toInt64 - lo.toInt64) + (1 : Int64)).toInt = hi.toInt - lo.toInt + 1 := by
  have b1 := hi.toInt_lt
  have b2 := hi.le_toInt
  have b3 := lo.toInt_lt
  have b4 := lo.le_toInt
  have e1 : (1 : Int64).toInt = 1 := by decide
  have d1 := own_span1 lo hi
  rw [Jvm.Kit.i64_add (by rw [d1, e1]; omega) (by rw [d1, e1]; omega), d1, e1]
theorem own_bits_all (lo hi : Int32) (h : lo.toInt ≤ hi.toInt) : 0 ≤ (own_bits lo hi).toInt ∧ (own_bits lo hi).toInt ≤ 32 ∧ hi.toInt - lo.toInt < 2 ^ (own_bits lo hi).toInt.toNat := by
  have b1 := hi.toInt_lt
  have b2 := hi.le_toInt
  have b3 := lo.toInt_lt
  have b4 := lo.le_toInt
  have e1 : (1 : Int64).toInt = 1 := by decide
  have d2 := own_span lo hi
  have d3 : (((hi.toInt64 - lo.toInt64) + (1 : Int64)) - (1 : Int64)).toInt = hi.toInt - lo.toInt := by
    rw [Jvm.Kit.i64_sub (by rw [d2, e1]; omega) (by rw [d2, e1]; omega), d2, e1]
    omega
  unfold own_bits
  generalize (((hi.toInt64 - lo.toInt64) + (1 : Int64)) - (1 : Int64)) = D at d3 ⊢
  have h32 : own_h32 D = 0 := by
    apply Int32.toInt_inj.mp
    unfold own_h32
    have q : ((D.toUInt64 >>> ((32 : Int32) &&& 0x3f).toInt64.toUInt64).toInt64).toInt = 0 := by
      rw [Jvm.Kit.i64_lushr (Jvm.Kit.i64_nonneg.mpr (by omega)) (k := 32) (by decide) (by decide)]
      omega
    rw [Jvm.Kit.i32_of_i64 (by omega) (by omega), q]
    decide
  unfold own_nlz64
  rw [if_pos h32]
  have hz : D.toInt32.toInt % 4294967296 = hi.toInt - lo.toInt := by
    rw [Int64.toInt_toInt32, bm32, d3]
    omega
  have u := own_nlz_u D.toInt32
  rw [hz] at u
  generalize own_nlz D.toInt32 = r at u ⊢
  have e32 : (32 : Int32).toInt = 32 := by decide
  have e64 : (64 : Int32).toInt = 64 := by decide
  have f1 : ((32 : Int32) + r).toInt = 32 + r.toInt := by rw [Jvm.Kit.i32_add (by omega) (by omega), e32]
  have f2 : ((64 : Int32) - ((32 : Int32) + r)).toInt = 32 - r.toInt := by
    rw [Jvm.Kit.i32_sub (by omega) (by omega), f1, e64]
    omega
  rw [f2]
  exact ⟨by omega, by omega, u.2.2⟩
theorem own_bits_b (lo hi : Int32) (h : lo.toInt ≤ hi.toInt) : 0 ≤ (own_bits lo hi).toInt ∧ (own_bits lo hi).toInt ≤ 32 := ⟨(own_bits_all lo hi h).1, (own_bits_all lo hi h).2.1⟩
theorem own_lohi (q : Int64) : (own_lo q).toInt ≤ (own_hi q).toInt := by
  unfold own_lo own_hi own_min own_max
  generalize q.toInt32 = x
  generalize own_h32 q = z
  by_cases h : z.toInt < x.toInt
  · rw [if_pos (Int32.lt_iff_toInt_lt.mpr h), if_neg (fun h' => by have := Int32.lt_iff_toInt_lt.mp h'; omega)]
    omega
  · rw [if_neg (fun h' => h (Int32.lt_iff_toInt_lt.mp h'))]
    by_cases h' : x.toInt < z.toInt
    · rw [if_pos (Int32.lt_iff_toInt_lt.mpr h')]
      omega
    · rw [if_neg (fun h'' => h' (Int32.lt_iff_toInt_lt.mp h''))]
      omega
def Ok (s b : Int32) : Prop := 0 ≤ s.toInt ∧ 0 ≤ b.toInt ∧ b.toInt ≤ 32 ∧ s.toInt + b.toInt ≤ 64
def Fit (lo v b : Int32) : Prop := lo.toInt ≤ v.toInt ∧ v.toInt - lo.toInt < 2 ^ b.toInt.toNat
theorem own_amt (n : Nat) (h : n ≤ 64) : (((Int32.ofNat n) &&& 0x3f).toInt64.toBitVec.smod 64).toNat = n % 64 := by
  have q : ∀ k : Fin 65, (((Int32.ofNat k.val) &&& 0x3f).toInt64.toBitVec.smod 64).toNat = k.val % 64 := by decide +kernel
  exact q ⟨n, by omega⟩
theorem own_amu (n : Nat) (h : n ≤ 64) : ((((Int32.ofNat n) &&& 0x3f).toInt64.toUInt64) % 64).toBitVec.toNat = n % 64 := by
  have q : ∀ k : Fin 65, ((((Int32.ofNat k.val) &&& 0x3f).toInt64.toUInt64) % 64).toBitVec.toNat = k.val % 64 := by decide +kernel
  exact q ⟨n, by omega⟩
theorem own_mkn (n : Nat) (h : n ≤ 32) : (own_mk (Int32.ofNat n)).toBitVec = BitVec.ofNat 64 (2 ^ n - 1) := by
  have q : ∀ k : Fin 33, (own_mk (Int32.ofNat k.val)).toBitVec = BitVec.ofNat 64 (2 ^ k.val - 1) := by decide +kernel
  exact q ⟨n, by omega⟩
theorem own_mkb (b i : Nat) (hb : b ≤ 32) : (BitVec.ofNat 64 (2 ^ b - 1)).getLsbD i = decide (i < b) := by
  rw [BitVec.getLsbD_ofNat, Nat.testBit_two_pow_sub_one]
  by_cases h : i < b
  · simp [h, show i < 64 by omega]
  · simp [h]
theorem own_ofint (s : Int32) (h : 0 ≤ s.toInt) : s = Int32.ofNat s.toInt.toNat := by
  apply Int32.toInt_inj.mp
  have := s.toInt_lt
  rw [Int32.toInt_ofNat_small (by omega)]
  omega
def putB (q d : BitVec 64) (t b : Nat) : BitVec 64 := (q &&& ((BitVec.ofNat 64 (2 ^ b - 1) <<< t) ^^^ BitVec.allOnes 64)) ||| ((d &&& BitVec.ofNat 64 (2 ^ b - 1)) <<< t)
def getB (q : BitVec 64) (t b : Nat) : BitVec 64 := (q >>> t) &&& BitVec.ofNat 64 (2 ^ b - 1)
theorem putB_bit (q d : BitVec 64) (t b i : Nat) (hb : b ≤ 32) (hi : i < 64) : (putB q d t b).getLsbD i = if t ≤ i ∧ i < t + b then d.getLsbD (i - t) else q.getLsbD i := by
  simp only [putB, BitVec.getLsbD_or, BitVec.getLsbD_and, BitVec.getLsbD_xor, BitVec.getLsbD_shiftLeft, BitVec.getLsbD_allOnes, own_mkb _ _ hb, hi, decide_true, Bool.true_and]
  by_cases h1 : i < t
  · rw [if_neg (by omega)]
    simp [h1]
  · by_cases h2 : i - t < b
    · rw [if_pos (by omega)]
      simp [h1, h2]
    · rw [if_neg (by omega)]
      simp [h1, h2]
theorem getB_bit (q : BitVec 64) (t b i : Nat) (hb : b ≤ 32) : (getB q t b).getLsbD i = (decide (i < b) && q.getLsbD (t + i)) := by
  simp only [getB, BitVec.getLsbD_and, BitVec.getLsbD_ushiftRight, own_mkb _ _ hb]
  rw [Bool.and_comm]
theorem getB_putB (q d : BitVec 64) (t b : Nat) (hb : b ≤ 32) (ht : b = 0 ∨ t + b ≤ 64) : getB (putB q d t b) t b = d &&& BitVec.ofNat 64 (2 ^ b - 1) := by
  apply BitVec.eq_of_getLsbD_eq
  intro i hi
  rw [getB_bit _ _ _ _ hb, BitVec.getLsbD_and, own_mkb _ _ hb]
  by_cases h : i < b
  · rw [putB_bit _ _ _ _ _ hb (by omega), if_pos (by omega)]
    simp [h]
  · simp [h]
theorem getB_other (q d : BitVec 64) (t b t' b' : Nat) (hb : b ≤ 32) (hb' : b' ≤ 32) (ht : b' = 0 ∨ t' + b' ≤ 64) (hd : b = 0 ∨ b' = 0 ∨ t + b ≤ t' ∨ t' + b' ≤ t) : getB (putB q d t b) t' b' = getB q t' b' := by
  apply BitVec.eq_of_getLsbD_eq
  intro i hi
  rw [getB_bit _ _ _ _ hb', getB_bit _ _ _ _ hb']
  by_cases h : i < b'
  · rw [putB_bit _ _ _ _ _ hb (by omega), if_neg (by omega)]
  · simp [h]
theorem putB_putB (q d d' : BitVec 64) (t b : Nat) (hb : b ≤ 32) : putB (putB q d t b) d' t b = putB q d' t b := by
  apply BitVec.eq_of_getLsbD_eq
  intro i hi
  rw [putB_bit _ _ _ _ _ hb hi, putB_bit _ _ _ _ _ hb hi, putB_bit _ _ _ _ _ hb hi]
  split <;> rfl
theorem own_put_bv (q : Int64) (s b lo v : Int32) (hs : 0 ≤ s.toInt ∧ s.toInt ≤ 64) (hb : 0 ≤ b.toInt ∧ b.toInt ≤ 32) : (own_put q s (own_mk b) lo v).toBitVec = putB q.toBitVec (v.toInt64 - lo.toInt64).toBitVec (s.toInt.toNat % 64) b.toInt.toNat := by
  have e1 : ∀ x : Int64, (x <<< (s &&& 0x3f).toInt64).toBitVec = x.toBitVec <<< (s.toInt.toNat % 64) := fun x => by
    rw [← own_amt s.toInt.toNat (by omega), ← own_ofint s hs.1]
    rfl
  have e2 : (own_mk b).toBitVec = BitVec.ofNat 64 (2 ^ b.toInt.toNat - 1) := by
    rw [← own_mkn b.toInt.toNat (by omega), ← own_ofint b hb.1]
  unfold own_put putB
  rw [Int64.toBitVec_or, Int64.toBitVec_and, Int64.toBitVec_xor, e1, e1, Int64.toBitVec_and, e2]
  rfl
theorem own_get_bv (q : Int64) (s b lo : Int32) (hs : 0 ≤ s.toInt ∧ s.toInt ≤ 64) (hb : 0 ≤ b.toInt ∧ b.toInt ≤ 32) : own_get q s (own_mk b) lo = (Int64.ofBitVec (getB q.toBitVec (s.toInt.toNat % 64) b.toInt.toNat) + lo.toInt64).toInt32 := by
  have e1 : ((q.toUInt64 >>> (s &&& 0x3f).toInt64.toUInt64).toInt64).toBitVec = q.toBitVec >>> (s.toInt.toNat % 64) := by
    rw [← own_amu s.toInt.toNat (by omega), ← own_ofint s hs.1]
    rfl
  have e2 : (own_mk b).toBitVec = BitVec.ofNat 64 (2 ^ b.toInt.toNat - 1) := by
    rw [← own_mkn b.toInt.toNat (by omega), ← own_ofint b hb.1]
  unfold own_get
  have e3 : (((q.toUInt64 >>> (s &&& 0x3f).toInt64.toUInt64).toInt64) &&& own_mk b) = Int64.ofBitVec (getB q.toBitVec (s.toInt.toNat % 64) b.toInt.toNat) := by
    apply Int64.toBitVec_inj.mp
    rw [Int64.toBitVec_and, e1, e2]
    rfl
  rw [e3]
theorem own_same {q : Int64} {s b lo v : Int32} (hs : Ok s b) (hv : Fit lo v b) : own_get (own_put q s (own_mk b) lo v) s (own_mk b) lo = v := by
  obtain ⟨h1, h2, h3, h4⟩ := hs
  have b1 := v.toInt_lt; have b2 := v.le_toInt; have b3 := lo.toInt_lt; have b4 := lo.le_toInt
  rw [own_get_bv _ _ _ _ ⟨h1, by omega⟩ ⟨h2, h3⟩, own_put_bv _ _ _ _ _ ⟨h1, by omega⟩ ⟨h2, h3⟩, getB_putB _ _ _ _ (by omega) (by omega)]
  have d : (v.toInt64 - lo.toInt64).toInt = v.toInt - lo.toInt := by rw [Jvm.Kit.i64_sub (by rw [Int32.toInt_toInt64, Int32.toInt_toInt64]; omega) (by rw [Int32.toInt_toInt64, Int32.toInt_toInt64]; omega), Int32.toInt_toInt64, Int32.toInt_toInt64]
  have e : Int64.ofBitVec ((v.toInt64 - lo.toInt64).toBitVec &&& BitVec.ofNat 64 (2 ^ b.toInt.toNat - 1)) = v.toInt64 - lo.toInt64 := by
    apply Int64.toInt_inj.mp
    have hm := Jvm.Kit.i64_mask (v.toInt64 - lo.toInt64) (Int64.ofBitVec (BitVec.ofNat 64 (2 ^ b.toInt.toNat - 1))) (k := b.toInt.toNat) (by omega) (by
      show (BitVec.ofNat 64 (2 ^ b.toInt.toNat - 1)).toNat = _
      rw [BitVec.toNat_ofNat]
      have : 2 ^ b.toInt.toNat ≤ 2 ^ 32 := Nat.pow_le_pow_right (by decide) (by omega)
      omega)
    have h5 : Int64.ofBitVec ((v.toInt64 - lo.toInt64).toBitVec &&& BitVec.ofNat 64 (2 ^ b.toInt.toNat - 1)) = (v.toInt64 - lo.toInt64) &&& Int64.ofBitVec (BitVec.ofNat 64 (2 ^ b.toInt.toNat - 1)) := rfl
    rw [h5, hm, d]
    exact Int.emod_eq_of_lt (by have := hv.1; omega) hv.2
  rw [e]
  apply Int32.toInt_inj.mp
  have a : ((v.toInt64 - lo.toInt64) + lo.toInt64).toInt = v.toInt := by rw [Jvm.Kit.i64_add (by rw [d, Int32.toInt_toInt64]; omega) (by rw [d, Int32.toInt_toInt64]; omega), d, Int32.toInt_toInt64]; omega
  rw [Jvm.Kit.i32_of_i64 (by omega) (by omega), a]
theorem own_other {q : Int64} {s b lo v s' b' lo' : Int32} (hs : Ok s b) (hs' : Ok s' b') (hd : s.toInt + b.toInt ≤ s'.toInt ∨ s'.toInt + b'.toInt ≤ s.toInt) : own_get (own_put q s (own_mk b) lo v) s' (own_mk b') lo' = own_get q s' (own_mk b') lo' := by
  obtain ⟨h1, h2, h3, h4⟩ := hs
  obtain ⟨g1, g2, g3, g4⟩ := hs'
  rw [own_get_bv _ _ _ _ ⟨g1, by omega⟩ ⟨g2, g3⟩, own_get_bv _ _ _ _ ⟨g1, by omega⟩ ⟨g2, g3⟩, own_put_bv _ _ _ _ _ ⟨h1, by omega⟩ ⟨h2, h3⟩, getB_other _ _ _ _ _ _ (by omega) (by omega) (by omega) (by omega)]
theorem own_put2 {q : Int64} {s b lo v w : Int32} (hs : Ok s b) : own_put (own_put (own_put q s (own_mk b) lo v) s (own_mk b) lo w) s (own_mk b) lo v = own_put q s (own_mk b) lo v := by
  obtain ⟨h1, h2, h3, h4⟩ := hs
  apply Int64.toBitVec_inj.mp
  rw [own_put_bv _ _ _ _ _ ⟨h1, by omega⟩ ⟨h2, h3⟩, own_put_bv _ _ _ _ _ ⟨h1, by omega⟩ ⟨h2, h3⟩, own_put_bv _ _ _ _ _ ⟨h1, by omega⟩ ⟨h2, h3⟩, putB_putB _ _ _ _ _ (by omega), putB_putB _ _ _ _ _ (by omega)]
theorem own_fact0 (q0 q1 q2 : Int64) (hs : (own_bits (own_lo q0) (own_hi q0)).toInt + (own_bits (own_lo q1) (own_hi q1)).toInt + (own_bits (own_lo q2) (own_hi q2)).toInt ≤ 64) :
    Ok 0 (own_bits (own_lo q0) (own_hi q0)) ∧ Ok (own_bits (own_lo q0) (own_hi q0)) (own_bits (own_lo q1) (own_hi q1)) ∧ Ok (own_bits (own_lo q0) (own_hi q0) + own_bits (own_lo q1) (own_hi q1)) (own_bits (own_lo q2) (own_hi q2)) ∧ (own_bits (own_lo q0) (own_hi q0)).toInt + (own_bits (own_lo q1) (own_hi q1)).toInt ≤ (own_bits (own_lo q0) (own_hi q0) + own_bits (own_lo q1) (own_hi q1)).toInt := by
  have h0 := own_bits_b _ _ (own_lohi q0)
  have h1 := own_bits_b _ _ (own_lohi q1)
  have h2 := own_bits_b _ _ (own_lohi q2)
  generalize own_bits (own_lo q0) (own_hi q0) = b0 at *
  generalize own_bits (own_lo q1) (own_hi q1) = b1 at *
  generalize own_bits (own_lo q2) (own_hi q2) = b2 at *
  simp only [Ok, Int32.toInt_add, bm32, l32_0]
  omega
theorem own_fact1 (q0 q1 q2 : Int64) :
    Ok 0 (own_bits (own_lo q0) (own_hi q0)) ∧ Ok (own_bits (own_lo q0) (own_hi q0)) (own_bits (own_lo q1) (own_hi q1)) ∧ Ok 0 (own_bits (own_lo q2) (own_hi q2)) := by
  have h0 := own_bits_b _ _ (own_lohi q0)
  have h1 := own_bits_b _ _ (own_lohi q1)
  have h2 := own_bits_b _ _ (own_lohi q2)
  generalize own_bits (own_lo q0) (own_hi q0) = b0 at *
  generalize own_bits (own_lo q1) (own_hi q1) = b1 at *
  generalize own_bits (own_lo q2) (own_hi q2) = b2 at *
  simp only [Ok, Int32.toInt_add, bm32, l32_0]
  omega
theorem own_dj01 {b0 : Int32} (h : Ok 0 b0) : (0 : Int32).toInt + b0.toInt ≤ b0.toInt := by rw [l32_0]; omega
theorem own_dj02 {b0 b1 sh : Int32} (h : Ok 0 b0) (h1 : Ok b0 b1) (hd : b0.toInt + b1.toInt ≤ sh.toInt) : (0 : Int32).toInt + b0.toInt ≤ sh.toInt := by rw [l32_0]; have := h1.2.1; omega
theorem own_dj12 {b0 b1 sh : Int32} (h : Ok 0 b0) (h1 : Ok b0 b1) (hd : b0.toInt + b1.toInt ≤ sh.toInt) : b0.toInt + b1.toInt ≤ sh.toInt := hd
def own_v3 (q : Int64) (z : Int32) : Int32 := ((own_lo q).toInt64 + ((z.toInt64 &&& (4294967295 : Int64)) % (((own_hi q).toInt64 - (own_lo q).toInt64) + (1 : Int64)))).toInt32
theorem own_nz3 (q : Int64) : (((own_hi q).toInt64 - (own_lo q).toInt64) + (1 : Int64)) ≠ 0 := by
  intro e
  have h := own_lohi q
  have s := own_span (own_lo q) (own_hi q)
  rw [e, show (0 : Int64).toInt = 0 by decide] at s
  omega
theorem own_fitg (lo hi : Int32) (h : lo.toInt ≤ hi.toInt) (w : Int64) (hw : 0 ≤ w.toInt) : Fit lo ((lo.toInt64 + (w % ((hi.toInt64 - lo.toInt64) + (1 : Int64)))).toInt32) (own_bits lo hi) := by
  have b1 := hi.toInt_lt
  have b2 := hi.le_toInt
  have b3 := lo.toInt_lt
  have b4 := lo.le_toInt
  have s := own_span lo hi
  have m : (w % ((hi.toInt64 - lo.toInt64) + (1 : Int64))).toInt = w.toInt % (hi.toInt - lo.toInt + 1) := by rw [Int64.toInt_mod, s, Int.tmod_eq_emod_of_nonneg hw]
  have m1 := Int.emod_nonneg w.toInt (show hi.toInt - lo.toInt + 1 ≠ 0 by omega)
  have m2 := Int.emod_lt_of_pos w.toInt (show 0 < hi.toInt - lo.toInt + 1 by omega)
  generalize w.toInt % (hi.toInt - lo.toInt + 1) = r at m m1 m2
  have a : (lo.toInt64 + (w % ((hi.toInt64 - lo.toInt64) + (1 : Int64)))).toInt = lo.toInt + r := by
    rw [Jvm.Kit.i64_add (by rw [Int32.toInt_toInt64, m]; omega) (by rw [Int32.toInt_toInt64, m]; omega), Int32.toInt_toInt64, m]
  have v : ((lo.toInt64 + (w % ((hi.toInt64 - lo.toInt64) + (1 : Int64)))).toInt32).toInt = lo.toInt + r := by
    rw [Jvm.Kit.i32_of_i64 (by rw [a]; omega) (by rw [a]; omega), a]
  have B := (own_bits_all lo hi h).2.2
  unfold Fit
  rw [v]
  generalize (2 : Int) ^ (own_bits lo hi).toInt.toNat = P at B ⊢
  exact ⟨by omega, by omega⟩
theorem own_fit3 (q : Int64) (z : Int32) : Fit (own_lo q) (own_v3 q z) (own_bits (own_lo q) (own_hi q)) := by
  have m := Jvm.Kit.i64_mask z.toInt64 4294967295 (k := 32) (by decide) (by decide)
  exact own_fitg _ _ (own_lohi q) _ (by rw [m]; omega)
theorem d_jdk_29_method_69_0 : decode jdk_29_method_69_code 0 = .ok (.iload_n 0, 1) := by decide +kernel
theorem d_jdk_29_method_69_1 : decode jdk_29_method_69_code 1 = .ok (.iload_n 1, 1) := by decide +kernel
theorem d_jdk_29_method_69_2 : decode jdk_29_method_69_code 2 = .ok (.if_icmp .gt 7, 3) := by decide +kernel
theorem d_jdk_29_method_69_9 : decode jdk_29_method_69_code 9 = .ok (.iload_n 1, 1) := by decide +kernel
theorem d_jdk_29_method_69_10 : decode jdk_29_method_69_code 10 = .ok (.ireturn, 1) := by decide +kernel
theorem d_jdk_29_method_69_5 : decode jdk_29_method_69_code 5 = .ok (.iload_n 0, 1) := by decide +kernel
theorem d_jdk_29_method_69_6 : decode jdk_29_method_69_code 6 = .ok (.goto 4, 3) := by decide +kernel
theorem ef_m_min (m : MethodId) (x0 : Int32) (x1 : Int32) : entryFrame m #[(.int x0), (.int x1)] 2 = mkF m 0 #[.val (.int x0), .val (.int x1)] [] := by first | (simp [entryFrame, mkF, argsToLocals, Value.category]; done) | rfl
set_option maxRecDepth 65536 in
set_option maxHeartbeats 40000000 in
theorem m_min (l : Launch) (Z : State) (a0 : Array Value) (hw : ∀ d ∈ tables_1, d.before a0 Z = true) (x0 : Int32) (z0 : Int32) :
    Pays l Z a0 (⟨"java/lang/Math", "min", "(II)I"⟩ : MethodName) jdk_29_method_69_code 2 (some .int) ({ frames := 0, cells := 0, slots := 0, locals := 0 } : Room) #[(.int x0), (.int z0)] [] (([] : Hs).map (·.1)) (fun v os' => v = some (.int (own_min x0 z0)) ∧ os' = []) := by
  refine Pays.of (Ls := #[.val (.int x0), .val (.int z0)]) (Jvm.Free.JP.mathPlain rfl (by decide +kernel)) (fun m => ef_m_min m x0 z0) ?_
  intro p e s m below meth c T0 A0
  refine A0.iloadN (q := 1) d_jdk_29_method_69_0 rfl rfl ?_
  refine A0.iloadN (q := 2) d_jdk_29_method_69_1 rfl rfl ?_
  by_cases hc2_1 : z0 < x0
  · refine A0.icmpYes (q := 9) d_jdk_29_method_69_2 (tlt hc2_1).2.2.1 (by decide) (by decide) ?_
    refine A0.iloadN (q := 10) d_jdk_29_method_69_9 rfl rfl ?_
    refine A0.retI d_jdk_29_method_69_10 (by decide) (by decide) ⟨?_, rfl⟩
    clear hw A0
    (simp only [own_min, hc2_1, if_true, if_false])
  · refine A0.icmpNo (q := 5) d_jdk_29_method_69_2 (flt hc2_1).2.2.1 rfl ?_
    refine A0.iloadN (q := 6) d_jdk_29_method_69_5 rfl rfl ?_
    refine A0.goto (q := 10) d_jdk_29_method_69_6 (by decide) (by decide) ?_
    refine A0.retI d_jdk_29_method_69_10 (by decide) (by decide) ⟨?_, rfl⟩
    clear hw A0
    (simp only [own_min, hc2_1, if_true, if_false])
theorem d_jdk_29_method_65_0 : decode jdk_29_method_65_code 0 = .ok (.iload_n 0, 1) := by decide +kernel
theorem d_jdk_29_method_65_1 : decode jdk_29_method_65_code 1 = .ok (.iload_n 1, 1) := by decide +kernel
theorem d_jdk_29_method_65_2 : decode jdk_29_method_65_code 2 = .ok (.if_icmp .lt 7, 3) := by decide +kernel
theorem d_jdk_29_method_65_9 : decode jdk_29_method_65_code 9 = .ok (.iload_n 1, 1) := by decide +kernel
theorem d_jdk_29_method_65_10 : decode jdk_29_method_65_code 10 = .ok (.ireturn, 1) := by decide +kernel
theorem d_jdk_29_method_65_5 : decode jdk_29_method_65_code 5 = .ok (.iload_n 0, 1) := by decide +kernel
theorem d_jdk_29_method_65_6 : decode jdk_29_method_65_code 6 = .ok (.goto 4, 3) := by decide +kernel
theorem ef_m_max (m : MethodId) (x0 : Int32) (x1 : Int32) : entryFrame m #[(.int x0), (.int x1)] 2 = mkF m 0 #[.val (.int x0), .val (.int x1)] [] := by first | (simp [entryFrame, mkF, argsToLocals, Value.category]; done) | rfl
set_option maxRecDepth 65536 in
set_option maxHeartbeats 40000000 in
theorem m_max (l : Launch) (Z : State) (a0 : Array Value) (hw : ∀ d ∈ tables_1, d.before a0 Z = true) (x0 : Int32) (z0 : Int32) :
    Pays l Z a0 (⟨"java/lang/Math", "max", "(II)I"⟩ : MethodName) jdk_29_method_65_code 2 (some .int) ({ frames := 0, cells := 0, slots := 0, locals := 0 } : Room) #[(.int x0), (.int z0)] [] (([] : Hs).map (·.1)) (fun v os' => v = some (.int (own_max x0 z0)) ∧ os' = []) := by
  refine Pays.of (Ls := #[.val (.int x0), .val (.int z0)]) (Jvm.Free.JP.mathPlain rfl (by decide +kernel)) (fun m => ef_m_max m x0 z0) ?_
  intro p e s m below meth c T0 A0
  refine A0.iloadN (q := 1) d_jdk_29_method_65_0 rfl rfl ?_
  refine A0.iloadN (q := 2) d_jdk_29_method_65_1 rfl rfl ?_
  by_cases hc2_1 : x0 < z0
  · refine A0.icmpYes (q := 9) d_jdk_29_method_65_2 (tlt hc2_1).1 (by decide) (by decide) ?_
    refine A0.iloadN (q := 10) d_jdk_29_method_65_9 rfl rfl ?_
    refine A0.retI d_jdk_29_method_65_10 (by decide) (by decide) ⟨?_, rfl⟩
    clear hw A0
    (simp only [own_max, hc2_1, if_true, if_false])
  · refine A0.icmpNo (q := 5) d_jdk_29_method_65_2 (flt hc2_1).1 rfl ?_
    refine A0.iloadN (q := 6) d_jdk_29_method_65_5 rfl rfl ?_
    refine A0.goto (q := 10) d_jdk_29_method_65_6 (by decide) (by decide) ?_
    refine A0.retI d_jdk_29_method_65_10 (by decide) (by decide) ⟨?_, rfl⟩
    clear hw A0
    (simp only [own_max, hc2_1, if_true, if_false])
theorem d_jdk_33_method_47_0 : decode jdk_33_method_47_code 0 = .ok (.iload_n 0, 1) := by decide +kernel
theorem d_jdk_33_method_47_1 : decode jdk_33_method_47_code 1 = .ok (.ifCond .gt 14, 3) := by decide +kernel
theorem d_jdk_33_method_47_15 : decode jdk_33_method_47_code 15 = .ok (.bipush 31, 2) := by decide +kernel
theorem d_jdk_33_method_47_17 : decode jdk_33_method_47_code 17 = .ok (.istore_n 1, 1) := by decide +kernel
theorem d_jdk_33_method_47_18 : decode jdk_33_method_47_code 18 = .ok (.iload_n 0, 1) := by decide +kernel
theorem d_jdk_33_method_47_19 : decode jdk_33_method_47_code 19 = .ok (.ldc_w 264, 3) := by decide +kernel
theorem d_jdk_33_method_47_22 : decode jdk_33_method_47_code 22 = .ok (.if_icmp .lt 11, 3) := by decide +kernel
theorem d_jdk_33_method_47_33 : decode jdk_33_method_47_code 33 = .ok (.iload_n 0, 1) := by decide +kernel
theorem d_jdk_33_method_47_34 : decode jdk_33_method_47_code 34 = .ok (.sipush 256, 3) := by decide +kernel
theorem d_jdk_33_method_47_37 : decode jdk_33_method_47_code 37 = .ok (.if_icmp .lt 11, 3) := by decide +kernel
theorem d_jdk_33_method_47_48 : decode jdk_33_method_47_code 48 = .ok (.iload_n 0, 1) := by decide +kernel
theorem d_jdk_33_method_47_49 : decode jdk_33_method_47_code 49 = .ok (.bipush 16, 2) := by decide +kernel
theorem d_jdk_33_method_47_51 : decode jdk_33_method_47_code 51 = .ok (.if_icmp .lt 10, 3) := by decide +kernel
theorem d_jdk_33_method_47_61 : decode jdk_33_method_47_code 61 = .ok (.iload_n 0, 1) := by decide +kernel
theorem d_jdk_33_method_47_62 : decode jdk_33_method_47_code 62 = .ok (.iconst 4, 1) := by decide +kernel
theorem d_jdk_33_method_47_63 : decode jdk_33_method_47_code 63 = .ok (.if_icmp .lt 10, 3) := by decide +kernel
theorem d_jdk_33_method_47_73 : decode jdk_33_method_47_code 73 = .ok (.iload_n 1, 1) := by decide +kernel
theorem d_jdk_33_method_47_74 : decode jdk_33_method_47_code 74 = .ok (.iload_n 0, 1) := by decide +kernel
theorem d_jdk_33_method_47_75 : decode jdk_33_method_47_code 75 = .ok (.iconst 1, 1) := by decide +kernel
theorem d_jdk_33_method_47_76 : decode jdk_33_method_47_code 76 = .ok (.iushr, 1) := by decide +kernel
theorem d_jdk_33_method_47_77 : decode jdk_33_method_47_code 77 = .ok (.isub, 1) := by decide +kernel
theorem d_jdk_33_method_47_78 : decode jdk_33_method_47_code 78 = .ok (.ireturn, 1) := by decide +kernel
theorem d_jdk_33_method_47_66 : decode jdk_33_method_47_code 66 = .ok (.iinc 1 (-2), 3) := by decide +kernel
theorem d_jdk_33_method_47_69 : decode jdk_33_method_47_code 69 = .ok (.iload_n 0, 1) := by decide +kernel
theorem d_jdk_33_method_47_70 : decode jdk_33_method_47_code 70 = .ok (.iconst 2, 1) := by decide +kernel
theorem d_jdk_33_method_47_71 : decode jdk_33_method_47_code 71 = .ok (.iushr, 1) := by decide +kernel
theorem d_jdk_33_method_47_72 : decode jdk_33_method_47_code 72 = .ok (.istore_n 0, 1) := by decide +kernel
theorem d_jdk_33_method_47_54 : decode jdk_33_method_47_code 54 = .ok (.iinc 1 (-4), 3) := by decide +kernel
theorem d_jdk_33_method_47_57 : decode jdk_33_method_47_code 57 = .ok (.iload_n 0, 1) := by decide +kernel
theorem d_jdk_33_method_47_58 : decode jdk_33_method_47_code 58 = .ok (.iconst 4, 1) := by decide +kernel
theorem d_jdk_33_method_47_59 : decode jdk_33_method_47_code 59 = .ok (.iushr, 1) := by decide +kernel
theorem d_jdk_33_method_47_60 : decode jdk_33_method_47_code 60 = .ok (.istore_n 0, 1) := by decide +kernel
theorem d_jdk_33_method_47_40 : decode jdk_33_method_47_code 40 = .ok (.iinc 1 (-8), 3) := by decide +kernel
theorem d_jdk_33_method_47_43 : decode jdk_33_method_47_code 43 = .ok (.iload_n 0, 1) := by decide +kernel
theorem d_jdk_33_method_47_44 : decode jdk_33_method_47_code 44 = .ok (.bipush 8, 2) := by decide +kernel
theorem d_jdk_33_method_47_46 : decode jdk_33_method_47_code 46 = .ok (.iushr, 1) := by decide +kernel
theorem d_jdk_33_method_47_47 : decode jdk_33_method_47_code 47 = .ok (.istore_n 0, 1) := by decide +kernel
theorem d_jdk_33_method_47_25 : decode jdk_33_method_47_code 25 = .ok (.iinc 1 (-16), 3) := by decide +kernel
theorem d_jdk_33_method_47_28 : decode jdk_33_method_47_code 28 = .ok (.iload_n 0, 1) := by decide +kernel
theorem d_jdk_33_method_47_29 : decode jdk_33_method_47_code 29 = .ok (.bipush 16, 2) := by decide +kernel
theorem d_jdk_33_method_47_31 : decode jdk_33_method_47_code 31 = .ok (.iushr, 1) := by decide +kernel
theorem d_jdk_33_method_47_32 : decode jdk_33_method_47_code 32 = .ok (.istore_n 0, 1) := by decide +kernel
theorem d_jdk_33_method_47_4 : decode jdk_33_method_47_code 4 = .ok (.iload_n 0, 1) := by decide +kernel
theorem d_jdk_33_method_47_5 : decode jdk_33_method_47_code 5 = .ok (.ifCond .ne 8, 3) := by decide +kernel
theorem d_jdk_33_method_47_8 : decode jdk_33_method_47_code 8 = .ok (.bipush 32, 2) := by decide +kernel
theorem d_jdk_33_method_47_10 : decode jdk_33_method_47_code 10 = .ok (.goto 4, 3) := by decide +kernel
theorem d_jdk_33_method_47_14 : decode jdk_33_method_47_code 14 = .ok (.ireturn, 1) := by decide +kernel
theorem d_jdk_33_method_47_13 : decode jdk_33_method_47_code 13 = .ok (.iconst 0, 1) := by decide +kernel
theorem pn_0 : plainName "java/lang/Integer" = true := by first | (simp [plainName, overriddenIn]; done) | decide +kernel
theorem ef_m_nlz (m : MethodId) (x0 : Int32) : entryFrame m #[(.int x0)] 2 = mkF m 0 #[.val (.int x0), .unset] [] := by first | (simp [entryFrame, mkF, argsToLocals, Value.category]; done) | rfl
set_option maxRecDepth 65536 in
set_option maxHeartbeats 40000000 in
theorem m_nlz (l : Launch) (Z : State) (a0 : Array Value) (hw : ∀ d ∈ tables_1, d.before a0 Z = true) (z : Int32) :
    Pays l Z a0 (⟨"java/lang/Integer", "numberOfLeadingZeros", "(I)I"⟩ : MethodName) jdk_33_method_47_code 2 (some .int) ({ frames := 0, cells := 0, slots := 0, locals := 0 } : Room) #[(.int z)] [] (([] : Hs).map (·.1)) (fun v os' => v = some (.int (own_nlz z)) ∧ os' = []) := by
  refine Pays.of (Ls := #[.val (.int z), .unset]) (plainFor_of_name pn_0) (fun m => ef_m_nlz m z) ?_
  intro p e s m below meth c T0 A0
  refine A0.iloadN (q := 1) d_jdk_33_method_47_0 rfl rfl ?_
  by_cases hc1_1 : (0 : Int32) < z
  · refine A0.ifYes (q := 15) d_jdk_33_method_47_1 ((if0 _ _).trans (tlt hc1_1).2.2.1) (by decide) (by decide) ?_
    refine A0.bipush (q := 17) (v := 31) d_jdk_33_method_47_15 rfl rfl ?_
    refine A0.istoreN (q := 18) (l' := #[.val (.int z), .val (.int 31)]) d_jdk_33_method_47_17 rfl rfl ?_
    refine A0.iloadN (q := 19) d_jdk_33_method_47_18 rfl rfl ?_
    refine A0.ldcw (qn := 22) (v := 65536) (tw hw 48 rfl) d_jdk_33_method_47_19 rfl ?_
    by_cases hc22_2 : z < (65536 : Int32)
    · refine A0.icmpYes (q := 33) d_jdk_33_method_47_22 (tlt hc22_2).1 (by decide) (by decide) ?_
      refine A0.iloadN (q := 34) d_jdk_33_method_47_33 rfl rfl ?_
      refine A0.sipush (q := 37) (v := 256) d_jdk_33_method_47_34 rfl rfl ?_
      by_cases hc37_3 : z < (256 : Int32)
      · refine A0.icmpYes (q := 48) d_jdk_33_method_47_37 (tlt hc37_3).1 (by decide) (by decide) ?_
        refine A0.iloadN (q := 49) d_jdk_33_method_47_48 rfl rfl ?_
        refine A0.bipush (q := 51) (v := 16) d_jdk_33_method_47_49 rfl rfl ?_
        by_cases hc51_4 : z < (16 : Int32)
        · refine A0.icmpYes (q := 61) d_jdk_33_method_47_51 (tlt hc51_4).1 (by decide) (by decide) ?_
          refine A0.iloadN (q := 62) d_jdk_33_method_47_61 rfl rfl ?_
          refine A0.iconst (q := 63) (v := 4) d_jdk_33_method_47_62 rfl rfl ?_
          by_cases hc63_5 : z < (4 : Int32)
          · refine A0.icmpYes (q := 73) d_jdk_33_method_47_63 (tlt hc63_5).1 (by decide) (by decide) ?_
            refine A0.iloadN (q := 74) d_jdk_33_method_47_73 rfl rfl ?_
            refine A0.iloadN (q := 75) d_jdk_33_method_47_74 rfl rfl ?_
            refine A0.iconst (q := 76) (v := 1) d_jdk_33_method_47_75 rfl rfl ?_
            refine A0.iushr (q := 77) d_jdk_33_method_47_76 rfl ?_
            refine A0.isub (q := 78) d_jdk_33_method_47_77 rfl ?_
            refine A0.retI d_jdk_33_method_47_78 (by decide) (by decide) ⟨?_, rfl⟩
            clear hw A0
            (simp only [own_nlz, own_n1, own_n2, own_n3, own_n4, hc1_1, hc22_2, hc37_3, hc51_4, hc63_5, if_true, if_false]) <;> rfl
          · refine A0.icmpNo (q := 66) d_jdk_33_method_47_63 (flt hc63_5).1 rfl ?_
            refine A0.iinc (q := 69) (l' := #[.val (.int z), .val (.int 29)]) d_jdk_33_method_47_66 rfl rfl rfl ?_
            refine A0.iloadN (q := 70) d_jdk_33_method_47_69 rfl rfl ?_
            refine A0.iconst (q := 71) (v := 2) d_jdk_33_method_47_70 rfl rfl ?_
            refine A0.iushr (q := 72) d_jdk_33_method_47_71 rfl ?_
            refine A0.istoreN (q := 73) (l' := #[.val (.int ((z.toUInt32 >>> ((2 : Int32) &&& 31).toUInt32).toInt32)), .val (.int 29)]) d_jdk_33_method_47_72 rfl rfl ?_
            refine A0.iloadN (q := 74) d_jdk_33_method_47_73 rfl rfl ?_
            refine A0.iloadN (q := 75) d_jdk_33_method_47_74 rfl rfl ?_
            refine A0.iconst (q := 76) (v := 1) d_jdk_33_method_47_75 rfl rfl ?_
            refine A0.iushr (q := 77) d_jdk_33_method_47_76 rfl ?_
            refine A0.isub (q := 78) d_jdk_33_method_47_77 rfl ?_
            refine A0.retI d_jdk_33_method_47_78 (by decide) (by decide) ⟨?_, rfl⟩
            clear hw A0
            (simp only [own_nlz, own_n1, own_n2, own_n3, own_n4, hc1_1, hc22_2, hc37_3, hc51_4, hc63_5, if_true, if_false]) <;> rfl
        · refine A0.icmpNo (q := 54) d_jdk_33_method_47_51 (flt hc51_4).1 rfl ?_
          refine A0.iinc (q := 57) (l' := #[.val (.int z), .val (.int 27)]) d_jdk_33_method_47_54 rfl rfl rfl ?_
          refine A0.iloadN (q := 58) d_jdk_33_method_47_57 rfl rfl ?_
          refine A0.iconst (q := 59) (v := 4) d_jdk_33_method_47_58 rfl rfl ?_
          refine A0.iushr (q := 60) d_jdk_33_method_47_59 rfl ?_
          refine A0.istoreN (q := 61) (l' := #[.val (.int ((z.toUInt32 >>> ((4 : Int32) &&& 31).toUInt32).toInt32)), .val (.int 27)]) d_jdk_33_method_47_60 rfl rfl ?_
          refine A0.iloadN (q := 62) d_jdk_33_method_47_61 rfl rfl ?_
          refine A0.iconst (q := 63) (v := 4) d_jdk_33_method_47_62 rfl rfl ?_
          by_cases hc63_6 : ((z.toUInt32 >>> ((4 : Int32) &&& 31).toUInt32).toInt32) < (4 : Int32)
          · refine A0.icmpYes (q := 73) d_jdk_33_method_47_63 (tlt hc63_6).1 (by decide) (by decide) ?_
            refine A0.iloadN (q := 74) d_jdk_33_method_47_73 rfl rfl ?_
            refine A0.iloadN (q := 75) d_jdk_33_method_47_74 rfl rfl ?_
            refine A0.iconst (q := 76) (v := 1) d_jdk_33_method_47_75 rfl rfl ?_
            refine A0.iushr (q := 77) d_jdk_33_method_47_76 rfl ?_
            refine A0.isub (q := 78) d_jdk_33_method_47_77 rfl ?_
            refine A0.retI d_jdk_33_method_47_78 (by decide) (by decide) ⟨?_, rfl⟩
            clear hw A0
            (simp only [own_nlz, own_n1, own_n2, own_n3, own_n4, hc1_1, hc22_2, hc37_3, hc51_4, hc63_6, if_true, if_false]) <;> rfl
          · refine A0.icmpNo (q := 66) d_jdk_33_method_47_63 (flt hc63_6).1 rfl ?_
            refine A0.iinc (q := 69) (l' := #[.val (.int ((z.toUInt32 >>> ((4 : Int32) &&& 31).toUInt32).toInt32)), .val (.int 25)]) d_jdk_33_method_47_66 rfl rfl rfl ?_
            refine A0.iloadN (q := 70) d_jdk_33_method_47_69 rfl rfl ?_
            refine A0.iconst (q := 71) (v := 2) d_jdk_33_method_47_70 rfl rfl ?_
            refine A0.iushr (q := 72) d_jdk_33_method_47_71 rfl ?_
            refine A0.istoreN (q := 73) (l' := #[.val (.int ((((z.toUInt32 >>> ((4 : Int32) &&& 31).toUInt32).toInt32).toUInt32 >>> ((2 : Int32) &&& 31).toUInt32).toInt32)), .val (.int 25)]) d_jdk_33_method_47_72 rfl rfl ?_
            refine A0.iloadN (q := 74) d_jdk_33_method_47_73 rfl rfl ?_
            refine A0.iloadN (q := 75) d_jdk_33_method_47_74 rfl rfl ?_
            refine A0.iconst (q := 76) (v := 1) d_jdk_33_method_47_75 rfl rfl ?_
            refine A0.iushr (q := 77) d_jdk_33_method_47_76 rfl ?_
            refine A0.isub (q := 78) d_jdk_33_method_47_77 rfl ?_
            refine A0.retI d_jdk_33_method_47_78 (by decide) (by decide) ⟨?_, rfl⟩
            clear hw A0
            (simp only [own_nlz, own_n1, own_n2, own_n3, own_n4, hc1_1, hc22_2, hc37_3, hc51_4, hc63_6, if_true, if_false]) <;> rfl
      · refine A0.icmpNo (q := 40) d_jdk_33_method_47_37 (flt hc37_3).1 rfl ?_
        refine A0.iinc (q := 43) (l' := #[.val (.int z), .val (.int 23)]) d_jdk_33_method_47_40 rfl rfl rfl ?_
        refine A0.iloadN (q := 44) d_jdk_33_method_47_43 rfl rfl ?_
        refine A0.bipush (q := 46) (v := 8) d_jdk_33_method_47_44 rfl rfl ?_
        refine A0.iushr (q := 47) d_jdk_33_method_47_46 rfl ?_
        refine A0.istoreN (q := 48) (l' := #[.val (.int ((z.toUInt32 >>> ((8 : Int32) &&& 31).toUInt32).toInt32)), .val (.int 23)]) d_jdk_33_method_47_47 rfl rfl ?_
        refine A0.iloadN (q := 49) d_jdk_33_method_47_48 rfl rfl ?_
        refine A0.bipush (q := 51) (v := 16) d_jdk_33_method_47_49 rfl rfl ?_
        by_cases hc51_7 : ((z.toUInt32 >>> ((8 : Int32) &&& 31).toUInt32).toInt32) < (16 : Int32)
        · refine A0.icmpYes (q := 61) d_jdk_33_method_47_51 (tlt hc51_7).1 (by decide) (by decide) ?_
          refine A0.iloadN (q := 62) d_jdk_33_method_47_61 rfl rfl ?_
          refine A0.iconst (q := 63) (v := 4) d_jdk_33_method_47_62 rfl rfl ?_
          by_cases hc63_8 : ((z.toUInt32 >>> ((8 : Int32) &&& 31).toUInt32).toInt32) < (4 : Int32)
          · refine A0.icmpYes (q := 73) d_jdk_33_method_47_63 (tlt hc63_8).1 (by decide) (by decide) ?_
            refine A0.iloadN (q := 74) d_jdk_33_method_47_73 rfl rfl ?_
            refine A0.iloadN (q := 75) d_jdk_33_method_47_74 rfl rfl ?_
            refine A0.iconst (q := 76) (v := 1) d_jdk_33_method_47_75 rfl rfl ?_
            refine A0.iushr (q := 77) d_jdk_33_method_47_76 rfl ?_
            refine A0.isub (q := 78) d_jdk_33_method_47_77 rfl ?_
            refine A0.retI d_jdk_33_method_47_78 (by decide) (by decide) ⟨?_, rfl⟩
            clear hw A0
            (simp only [own_nlz, own_n1, own_n2, own_n3, own_n4, hc1_1, hc22_2, hc37_3, hc51_7, hc63_8, if_true, if_false]) <;> rfl
          · refine A0.icmpNo (q := 66) d_jdk_33_method_47_63 (flt hc63_8).1 rfl ?_
            refine A0.iinc (q := 69) (l' := #[.val (.int ((z.toUInt32 >>> ((8 : Int32) &&& 31).toUInt32).toInt32)), .val (.int 21)]) d_jdk_33_method_47_66 rfl rfl rfl ?_
            refine A0.iloadN (q := 70) d_jdk_33_method_47_69 rfl rfl ?_
            refine A0.iconst (q := 71) (v := 2) d_jdk_33_method_47_70 rfl rfl ?_
            refine A0.iushr (q := 72) d_jdk_33_method_47_71 rfl ?_
            refine A0.istoreN (q := 73) (l' := #[.val (.int ((((z.toUInt32 >>> ((8 : Int32) &&& 31).toUInt32).toInt32).toUInt32 >>> ((2 : Int32) &&& 31).toUInt32).toInt32)), .val (.int 21)]) d_jdk_33_method_47_72 rfl rfl ?_
            refine A0.iloadN (q := 74) d_jdk_33_method_47_73 rfl rfl ?_
            refine A0.iloadN (q := 75) d_jdk_33_method_47_74 rfl rfl ?_
            refine A0.iconst (q := 76) (v := 1) d_jdk_33_method_47_75 rfl rfl ?_
            refine A0.iushr (q := 77) d_jdk_33_method_47_76 rfl ?_
            refine A0.isub (q := 78) d_jdk_33_method_47_77 rfl ?_
            refine A0.retI d_jdk_33_method_47_78 (by decide) (by decide) ⟨?_, rfl⟩
            clear hw A0
            (simp only [own_nlz, own_n1, own_n2, own_n3, own_n4, hc1_1, hc22_2, hc37_3, hc51_7, hc63_8, if_true, if_false]) <;> rfl
        · refine A0.icmpNo (q := 54) d_jdk_33_method_47_51 (flt hc51_7).1 rfl ?_
          refine A0.iinc (q := 57) (l' := #[.val (.int ((z.toUInt32 >>> ((8 : Int32) &&& 31).toUInt32).toInt32)), .val (.int 19)]) d_jdk_33_method_47_54 rfl rfl rfl ?_
          refine A0.iloadN (q := 58) d_jdk_33_method_47_57 rfl rfl ?_
          refine A0.iconst (q := 59) (v := 4) d_jdk_33_method_47_58 rfl rfl ?_
          refine A0.iushr (q := 60) d_jdk_33_method_47_59 rfl ?_
          refine A0.istoreN (q := 61) (l' := #[.val (.int ((((z.toUInt32 >>> ((8 : Int32) &&& 31).toUInt32).toInt32).toUInt32 >>> ((4 : Int32) &&& 31).toUInt32).toInt32)), .val (.int 19)]) d_jdk_33_method_47_60 rfl rfl ?_
          refine A0.iloadN (q := 62) d_jdk_33_method_47_61 rfl rfl ?_
          refine A0.iconst (q := 63) (v := 4) d_jdk_33_method_47_62 rfl rfl ?_
          by_cases hc63_9 : ((((z.toUInt32 >>> ((8 : Int32) &&& 31).toUInt32).toInt32).toUInt32 >>> ((4 : Int32) &&& 31).toUInt32).toInt32) < (4 : Int32)
          · refine A0.icmpYes (q := 73) d_jdk_33_method_47_63 (tlt hc63_9).1 (by decide) (by decide) ?_
            refine A0.iloadN (q := 74) d_jdk_33_method_47_73 rfl rfl ?_
            refine A0.iloadN (q := 75) d_jdk_33_method_47_74 rfl rfl ?_
            refine A0.iconst (q := 76) (v := 1) d_jdk_33_method_47_75 rfl rfl ?_
            refine A0.iushr (q := 77) d_jdk_33_method_47_76 rfl ?_
            refine A0.isub (q := 78) d_jdk_33_method_47_77 rfl ?_
            refine A0.retI d_jdk_33_method_47_78 (by decide) (by decide) ⟨?_, rfl⟩
            clear hw A0
            (simp only [own_nlz, own_n1, own_n2, own_n3, own_n4, hc1_1, hc22_2, hc37_3, hc51_7, hc63_9, if_true, if_false]) <;> rfl
          · refine A0.icmpNo (q := 66) d_jdk_33_method_47_63 (flt hc63_9).1 rfl ?_
            refine A0.iinc (q := 69) (l' := #[.val (.int ((((z.toUInt32 >>> ((8 : Int32) &&& 31).toUInt32).toInt32).toUInt32 >>> ((4 : Int32) &&& 31).toUInt32).toInt32)), .val (.int 17)]) d_jdk_33_method_47_66 rfl rfl rfl ?_
            refine A0.iloadN (q := 70) d_jdk_33_method_47_69 rfl rfl ?_
            refine A0.iconst (q := 71) (v := 2) d_jdk_33_method_47_70 rfl rfl ?_
            refine A0.iushr (q := 72) d_jdk_33_method_47_71 rfl ?_
            refine A0.istoreN (q := 73) (l' := #[.val (.int ((((((z.toUInt32 >>> ((8 : Int32) &&& 31).toUInt32).toInt32).toUInt32 >>> ((4 : Int32) &&& 31).toUInt32).toInt32).toUInt32 >>> ((2 : Int32) &&& 31).toUInt32).toInt32)), .val (.int 17)]) d_jdk_33_method_47_72 rfl rfl ?_
            refine A0.iloadN (q := 74) d_jdk_33_method_47_73 rfl rfl ?_
            refine A0.iloadN (q := 75) d_jdk_33_method_47_74 rfl rfl ?_
            refine A0.iconst (q := 76) (v := 1) d_jdk_33_method_47_75 rfl rfl ?_
            refine A0.iushr (q := 77) d_jdk_33_method_47_76 rfl ?_
            refine A0.isub (q := 78) d_jdk_33_method_47_77 rfl ?_
            refine A0.retI d_jdk_33_method_47_78 (by decide) (by decide) ⟨?_, rfl⟩
            clear hw A0
            (simp only [own_nlz, own_n1, own_n2, own_n3, own_n4, hc1_1, hc22_2, hc37_3, hc51_7, hc63_9, if_true, if_false]) <;> rfl
    · refine A0.icmpNo (q := 25) d_jdk_33_method_47_22 (flt hc22_2).1 rfl ?_
      refine A0.iinc (q := 28) (l' := #[.val (.int z), .val (.int 15)]) d_jdk_33_method_47_25 rfl rfl rfl ?_
      refine A0.iloadN (q := 29) d_jdk_33_method_47_28 rfl rfl ?_
      refine A0.bipush (q := 31) (v := 16) d_jdk_33_method_47_29 rfl rfl ?_
      refine A0.iushr (q := 32) d_jdk_33_method_47_31 rfl ?_
      refine A0.istoreN (q := 33) (l' := #[.val (.int ((z.toUInt32 >>> ((16 : Int32) &&& 31).toUInt32).toInt32)), .val (.int 15)]) d_jdk_33_method_47_32 rfl rfl ?_
      refine A0.iloadN (q := 34) d_jdk_33_method_47_33 rfl rfl ?_
      refine A0.sipush (q := 37) (v := 256) d_jdk_33_method_47_34 rfl rfl ?_
      by_cases hc37_10 : ((z.toUInt32 >>> ((16 : Int32) &&& 31).toUInt32).toInt32) < (256 : Int32)
      · refine A0.icmpYes (q := 48) d_jdk_33_method_47_37 (tlt hc37_10).1 (by decide) (by decide) ?_
        refine A0.iloadN (q := 49) d_jdk_33_method_47_48 rfl rfl ?_
        refine A0.bipush (q := 51) (v := 16) d_jdk_33_method_47_49 rfl rfl ?_
        by_cases hc51_11 : ((z.toUInt32 >>> ((16 : Int32) &&& 31).toUInt32).toInt32) < (16 : Int32)
        · refine A0.icmpYes (q := 61) d_jdk_33_method_47_51 (tlt hc51_11).1 (by decide) (by decide) ?_
          refine A0.iloadN (q := 62) d_jdk_33_method_47_61 rfl rfl ?_
          refine A0.iconst (q := 63) (v := 4) d_jdk_33_method_47_62 rfl rfl ?_
          by_cases hc63_12 : ((z.toUInt32 >>> ((16 : Int32) &&& 31).toUInt32).toInt32) < (4 : Int32)
          · refine A0.icmpYes (q := 73) d_jdk_33_method_47_63 (tlt hc63_12).1 (by decide) (by decide) ?_
            refine A0.iloadN (q := 74) d_jdk_33_method_47_73 rfl rfl ?_
            refine A0.iloadN (q := 75) d_jdk_33_method_47_74 rfl rfl ?_
            refine A0.iconst (q := 76) (v := 1) d_jdk_33_method_47_75 rfl rfl ?_
            refine A0.iushr (q := 77) d_jdk_33_method_47_76 rfl ?_
            refine A0.isub (q := 78) d_jdk_33_method_47_77 rfl ?_
            refine A0.retI d_jdk_33_method_47_78 (by decide) (by decide) ⟨?_, rfl⟩
            clear hw A0
            (simp only [own_nlz, own_n1, own_n2, own_n3, own_n4, hc1_1, hc22_2, hc37_10, hc51_11, hc63_12, if_true, if_false]) <;> rfl
          · refine A0.icmpNo (q := 66) d_jdk_33_method_47_63 (flt hc63_12).1 rfl ?_
            refine A0.iinc (q := 69) (l' := #[.val (.int ((z.toUInt32 >>> ((16 : Int32) &&& 31).toUInt32).toInt32)), .val (.int 13)]) d_jdk_33_method_47_66 rfl rfl rfl ?_
            refine A0.iloadN (q := 70) d_jdk_33_method_47_69 rfl rfl ?_
            refine A0.iconst (q := 71) (v := 2) d_jdk_33_method_47_70 rfl rfl ?_
            refine A0.iushr (q := 72) d_jdk_33_method_47_71 rfl ?_
            refine A0.istoreN (q := 73) (l' := #[.val (.int ((((z.toUInt32 >>> ((16 : Int32) &&& 31).toUInt32).toInt32).toUInt32 >>> ((2 : Int32) &&& 31).toUInt32).toInt32)), .val (.int 13)]) d_jdk_33_method_47_72 rfl rfl ?_
            refine A0.iloadN (q := 74) d_jdk_33_method_47_73 rfl rfl ?_
            refine A0.iloadN (q := 75) d_jdk_33_method_47_74 rfl rfl ?_
            refine A0.iconst (q := 76) (v := 1) d_jdk_33_method_47_75 rfl rfl ?_
            refine A0.iushr (q := 77) d_jdk_33_method_47_76 rfl ?_
            refine A0.isub (q := 78) d_jdk_33_method_47_77 rfl ?_
            refine A0.retI d_jdk_33_method_47_78 (by decide) (by decide) ⟨?_, rfl⟩
            clear hw A0
            (simp only [own_nlz, own_n1, own_n2, own_n3, own_n4, hc1_1, hc22_2, hc37_10, hc51_11, hc63_12, if_true, if_false]) <;> rfl
        · refine A0.icmpNo (q := 54) d_jdk_33_method_47_51 (flt hc51_11).1 rfl ?_
          refine A0.iinc (q := 57) (l' := #[.val (.int ((z.toUInt32 >>> ((16 : Int32) &&& 31).toUInt32).toInt32)), .val (.int 11)]) d_jdk_33_method_47_54 rfl rfl rfl ?_
          refine A0.iloadN (q := 58) d_jdk_33_method_47_57 rfl rfl ?_
          refine A0.iconst (q := 59) (v := 4) d_jdk_33_method_47_58 rfl rfl ?_
          refine A0.iushr (q := 60) d_jdk_33_method_47_59 rfl ?_
          refine A0.istoreN (q := 61) (l' := #[.val (.int ((((z.toUInt32 >>> ((16 : Int32) &&& 31).toUInt32).toInt32).toUInt32 >>> ((4 : Int32) &&& 31).toUInt32).toInt32)), .val (.int 11)]) d_jdk_33_method_47_60 rfl rfl ?_
          refine A0.iloadN (q := 62) d_jdk_33_method_47_61 rfl rfl ?_
          refine A0.iconst (q := 63) (v := 4) d_jdk_33_method_47_62 rfl rfl ?_
          by_cases hc63_13 : ((((z.toUInt32 >>> ((16 : Int32) &&& 31).toUInt32).toInt32).toUInt32 >>> ((4 : Int32) &&& 31).toUInt32).toInt32) < (4 : Int32)
          · refine A0.icmpYes (q := 73) d_jdk_33_method_47_63 (tlt hc63_13).1 (by decide) (by decide) ?_
            refine A0.iloadN (q := 74) d_jdk_33_method_47_73 rfl rfl ?_
            refine A0.iloadN (q := 75) d_jdk_33_method_47_74 rfl rfl ?_
            refine A0.iconst (q := 76) (v := 1) d_jdk_33_method_47_75 rfl rfl ?_
            refine A0.iushr (q := 77) d_jdk_33_method_47_76 rfl ?_
            refine A0.isub (q := 78) d_jdk_33_method_47_77 rfl ?_
            refine A0.retI d_jdk_33_method_47_78 (by decide) (by decide) ⟨?_, rfl⟩
            clear hw A0
            (simp only [own_nlz, own_n1, own_n2, own_n3, own_n4, hc1_1, hc22_2, hc37_10, hc51_11, hc63_13, if_true, if_false]) <;> rfl
          · refine A0.icmpNo (q := 66) d_jdk_33_method_47_63 (flt hc63_13).1 rfl ?_
            refine A0.iinc (q := 69) (l' := #[.val (.int ((((z.toUInt32 >>> ((16 : Int32) &&& 31).toUInt32).toInt32).toUInt32 >>> ((4 : Int32) &&& 31).toUInt32).toInt32)), .val (.int 9)]) d_jdk_33_method_47_66 rfl rfl rfl ?_
            refine A0.iloadN (q := 70) d_jdk_33_method_47_69 rfl rfl ?_
            refine A0.iconst (q := 71) (v := 2) d_jdk_33_method_47_70 rfl rfl ?_
            refine A0.iushr (q := 72) d_jdk_33_method_47_71 rfl ?_
            refine A0.istoreN (q := 73) (l' := #[.val (.int ((((((z.toUInt32 >>> ((16 : Int32) &&& 31).toUInt32).toInt32).toUInt32 >>> ((4 : Int32) &&& 31).toUInt32).toInt32).toUInt32 >>> ((2 : Int32) &&& 31).toUInt32).toInt32)), .val (.int 9)]) d_jdk_33_method_47_72 rfl rfl ?_
            refine A0.iloadN (q := 74) d_jdk_33_method_47_73 rfl rfl ?_
            refine A0.iloadN (q := 75) d_jdk_33_method_47_74 rfl rfl ?_
            refine A0.iconst (q := 76) (v := 1) d_jdk_33_method_47_75 rfl rfl ?_
            refine A0.iushr (q := 77) d_jdk_33_method_47_76 rfl ?_
            refine A0.isub (q := 78) d_jdk_33_method_47_77 rfl ?_
            refine A0.retI d_jdk_33_method_47_78 (by decide) (by decide) ⟨?_, rfl⟩
            clear hw A0
            (simp only [own_nlz, own_n1, own_n2, own_n3, own_n4, hc1_1, hc22_2, hc37_10, hc51_11, hc63_13, if_true, if_false]) <;> rfl
      · refine A0.icmpNo (q := 40) d_jdk_33_method_47_37 (flt hc37_10).1 rfl ?_
        refine A0.iinc (q := 43) (l' := #[.val (.int ((z.toUInt32 >>> ((16 : Int32) &&& 31).toUInt32).toInt32)), .val (.int 7)]) d_jdk_33_method_47_40 rfl rfl rfl ?_
        refine A0.iloadN (q := 44) d_jdk_33_method_47_43 rfl rfl ?_
        refine A0.bipush (q := 46) (v := 8) d_jdk_33_method_47_44 rfl rfl ?_
        refine A0.iushr (q := 47) d_jdk_33_method_47_46 rfl ?_
        refine A0.istoreN (q := 48) (l' := #[.val (.int ((((z.toUInt32 >>> ((16 : Int32) &&& 31).toUInt32).toInt32).toUInt32 >>> ((8 : Int32) &&& 31).toUInt32).toInt32)), .val (.int 7)]) d_jdk_33_method_47_47 rfl rfl ?_
        refine A0.iloadN (q := 49) d_jdk_33_method_47_48 rfl rfl ?_
        refine A0.bipush (q := 51) (v := 16) d_jdk_33_method_47_49 rfl rfl ?_
        by_cases hc51_14 : ((((z.toUInt32 >>> ((16 : Int32) &&& 31).toUInt32).toInt32).toUInt32 >>> ((8 : Int32) &&& 31).toUInt32).toInt32) < (16 : Int32)
        · refine A0.icmpYes (q := 61) d_jdk_33_method_47_51 (tlt hc51_14).1 (by decide) (by decide) ?_
          refine A0.iloadN (q := 62) d_jdk_33_method_47_61 rfl rfl ?_
          refine A0.iconst (q := 63) (v := 4) d_jdk_33_method_47_62 rfl rfl ?_
          by_cases hc63_15 : ((((z.toUInt32 >>> ((16 : Int32) &&& 31).toUInt32).toInt32).toUInt32 >>> ((8 : Int32) &&& 31).toUInt32).toInt32) < (4 : Int32)
          · refine A0.icmpYes (q := 73) d_jdk_33_method_47_63 (tlt hc63_15).1 (by decide) (by decide) ?_
            refine A0.iloadN (q := 74) d_jdk_33_method_47_73 rfl rfl ?_
            refine A0.iloadN (q := 75) d_jdk_33_method_47_74 rfl rfl ?_
            refine A0.iconst (q := 76) (v := 1) d_jdk_33_method_47_75 rfl rfl ?_
            refine A0.iushr (q := 77) d_jdk_33_method_47_76 rfl ?_
            refine A0.isub (q := 78) d_jdk_33_method_47_77 rfl ?_
            refine A0.retI d_jdk_33_method_47_78 (by decide) (by decide) ⟨?_, rfl⟩
            clear hw A0
            (simp only [own_nlz, own_n1, own_n2, own_n3, own_n4, hc1_1, hc22_2, hc37_10, hc51_14, hc63_15, if_true, if_false]) <;> rfl
          · refine A0.icmpNo (q := 66) d_jdk_33_method_47_63 (flt hc63_15).1 rfl ?_
            refine A0.iinc (q := 69) (l' := #[.val (.int ((((z.toUInt32 >>> ((16 : Int32) &&& 31).toUInt32).toInt32).toUInt32 >>> ((8 : Int32) &&& 31).toUInt32).toInt32)), .val (.int 5)]) d_jdk_33_method_47_66 rfl rfl rfl ?_
            refine A0.iloadN (q := 70) d_jdk_33_method_47_69 rfl rfl ?_
            refine A0.iconst (q := 71) (v := 2) d_jdk_33_method_47_70 rfl rfl ?_
            refine A0.iushr (q := 72) d_jdk_33_method_47_71 rfl ?_
            refine A0.istoreN (q := 73) (l' := #[.val (.int ((((((z.toUInt32 >>> ((16 : Int32) &&& 31).toUInt32).toInt32).toUInt32 >>> ((8 : Int32) &&& 31).toUInt32).toInt32).toUInt32 >>> ((2 : Int32) &&& 31).toUInt32).toInt32)), .val (.int 5)]) d_jdk_33_method_47_72 rfl rfl ?_
            refine A0.iloadN (q := 74) d_jdk_33_method_47_73 rfl rfl ?_
            refine A0.iloadN (q := 75) d_jdk_33_method_47_74 rfl rfl ?_
            refine A0.iconst (q := 76) (v := 1) d_jdk_33_method_47_75 rfl rfl ?_
            refine A0.iushr (q := 77) d_jdk_33_method_47_76 rfl ?_
            refine A0.isub (q := 78) d_jdk_33_method_47_77 rfl ?_
            refine A0.retI d_jdk_33_method_47_78 (by decide) (by decide) ⟨?_, rfl⟩
            clear hw A0
            (simp only [own_nlz, own_n1, own_n2, own_n3, own_n4, hc1_1, hc22_2, hc37_10, hc51_14, hc63_15, if_true, if_false]) <;> rfl
        · refine A0.icmpNo (q := 54) d_jdk_33_method_47_51 (flt hc51_14).1 rfl ?_
          refine A0.iinc (q := 57) (l' := #[.val (.int ((((z.toUInt32 >>> ((16 : Int32) &&& 31).toUInt32).toInt32).toUInt32 >>> ((8 : Int32) &&& 31).toUInt32).toInt32)), .val (.int 3)]) d_jdk_33_method_47_54 rfl rfl rfl ?_
          refine A0.iloadN (q := 58) d_jdk_33_method_47_57 rfl rfl ?_
          refine A0.iconst (q := 59) (v := 4) d_jdk_33_method_47_58 rfl rfl ?_
          refine A0.iushr (q := 60) d_jdk_33_method_47_59 rfl ?_
          refine A0.istoreN (q := 61) (l' := #[.val (.int ((((((z.toUInt32 >>> ((16 : Int32) &&& 31).toUInt32).toInt32).toUInt32 >>> ((8 : Int32) &&& 31).toUInt32).toInt32).toUInt32 >>> ((4 : Int32) &&& 31).toUInt32).toInt32)), .val (.int 3)]) d_jdk_33_method_47_60 rfl rfl ?_
          refine A0.iloadN (q := 62) d_jdk_33_method_47_61 rfl rfl ?_
          refine A0.iconst (q := 63) (v := 4) d_jdk_33_method_47_62 rfl rfl ?_
          by_cases hc63_16 : ((((((z.toUInt32 >>> ((16 : Int32) &&& 31).toUInt32).toInt32).toUInt32 >>> ((8 : Int32) &&& 31).toUInt32).toInt32).toUInt32 >>> ((4 : Int32) &&& 31).toUInt32).toInt32) < (4 : Int32)
          · refine A0.icmpYes (q := 73) d_jdk_33_method_47_63 (tlt hc63_16).1 (by decide) (by decide) ?_
            refine A0.iloadN (q := 74) d_jdk_33_method_47_73 rfl rfl ?_
            refine A0.iloadN (q := 75) d_jdk_33_method_47_74 rfl rfl ?_
            refine A0.iconst (q := 76) (v := 1) d_jdk_33_method_47_75 rfl rfl ?_
            refine A0.iushr (q := 77) d_jdk_33_method_47_76 rfl ?_
            refine A0.isub (q := 78) d_jdk_33_method_47_77 rfl ?_
            refine A0.retI d_jdk_33_method_47_78 (by decide) (by decide) ⟨?_, rfl⟩
            clear hw A0
            (simp only [own_nlz, own_n1, own_n2, own_n3, own_n4, hc1_1, hc22_2, hc37_10, hc51_14, hc63_16, if_true, if_false]) <;> rfl
          · refine A0.icmpNo (q := 66) d_jdk_33_method_47_63 (flt hc63_16).1 rfl ?_
            refine A0.iinc (q := 69) (l' := #[.val (.int ((((((z.toUInt32 >>> ((16 : Int32) &&& 31).toUInt32).toInt32).toUInt32 >>> ((8 : Int32) &&& 31).toUInt32).toInt32).toUInt32 >>> ((4 : Int32) &&& 31).toUInt32).toInt32)), .val (.int 1)]) d_jdk_33_method_47_66 rfl rfl rfl ?_
            refine A0.iloadN (q := 70) d_jdk_33_method_47_69 rfl rfl ?_
            refine A0.iconst (q := 71) (v := 2) d_jdk_33_method_47_70 rfl rfl ?_
            refine A0.iushr (q := 72) d_jdk_33_method_47_71 rfl ?_
            refine A0.istoreN (q := 73) (l' := #[.val (.int ((((((((z.toUInt32 >>> ((16 : Int32) &&& 31).toUInt32).toInt32).toUInt32 >>> ((8 : Int32) &&& 31).toUInt32).toInt32).toUInt32 >>> ((4 : Int32) &&& 31).toUInt32).toInt32).toUInt32 >>> ((2 : Int32) &&& 31).toUInt32).toInt32)), .val (.int 1)]) d_jdk_33_method_47_72 rfl rfl ?_
            refine A0.iloadN (q := 74) d_jdk_33_method_47_73 rfl rfl ?_
            refine A0.iloadN (q := 75) d_jdk_33_method_47_74 rfl rfl ?_
            refine A0.iconst (q := 76) (v := 1) d_jdk_33_method_47_75 rfl rfl ?_
            refine A0.iushr (q := 77) d_jdk_33_method_47_76 rfl ?_
            refine A0.isub (q := 78) d_jdk_33_method_47_77 rfl ?_
            refine A0.retI d_jdk_33_method_47_78 (by decide) (by decide) ⟨?_, rfl⟩
            clear hw A0
            (simp only [own_nlz, own_n1, own_n2, own_n3, own_n4, hc1_1, hc22_2, hc37_10, hc51_14, hc63_16, if_true, if_false]) <;> rfl
  · refine A0.ifNo (q := 4) d_jdk_33_method_47_1 ((if0 _ _).trans (flt hc1_1).2.2.1) rfl ?_
    refine A0.iloadN (q := 5) d_jdk_33_method_47_4 rfl rfl ?_
    by_cases hc5_17 : z = (0 : Int32)
    · refine A0.ifNo (q := 8) d_jdk_33_method_47_5 ((if0 _ _).trans (teq hc5_17).2) rfl ?_
      refine A0.bipush (q := 10) (v := 32) d_jdk_33_method_47_8 rfl rfl ?_
      refine A0.goto (q := 14) d_jdk_33_method_47_10 (by decide) (by decide) ?_
      refine A0.retI d_jdk_33_method_47_14 (by decide) (by decide) ⟨?_, rfl⟩
      clear hw A0
      (simp only [own_nlz, own_n1, own_n2, own_n3, own_n4, hc1_1, hc5_17, if_true, if_false]) <;> rfl
    · refine A0.ifYes (q := 13) d_jdk_33_method_47_5 ((if0 _ _).trans (feq hc5_17).2) (by decide) (by decide) ?_
      refine A0.iconst (q := 14) (v := 0) d_jdk_33_method_47_13 rfl rfl ?_
      refine A0.retI d_jdk_33_method_47_14 (by decide) (by decide) ⟨?_, rfl⟩
      clear hw A0
      (simp only [own_nlz, own_n1, own_n2, own_n3, own_n4, hc1_1, hc5_17, if_true, if_false]) <;> rfl
theorem d_jdk_35_method_48_0 : decode jdk_35_method_48_code 0 = .ok (.lload_n 0, 1) := by decide +kernel
theorem d_jdk_35_method_48_1 : decode jdk_35_method_48_code 1 = .ok (.bipush 32, 2) := by decide +kernel
theorem d_jdk_35_method_48_3 : decode jdk_35_method_48_code 3 = .ok (.lushr, 1) := by decide +kernel
theorem d_jdk_35_method_48_4 : decode jdk_35_method_48_code 4 = .ok (.l2i, 1) := by decide +kernel
theorem d_jdk_35_method_48_5 : decode jdk_35_method_48_code 5 = .ok (.istore_n 2, 1) := by decide +kernel
theorem d_jdk_35_method_48_6 : decode jdk_35_method_48_code 6 = .ok (.iload_n 2, 1) := by decide +kernel
theorem d_jdk_35_method_48_7 : decode jdk_35_method_48_code 7 = .ok (.ifCond .ne 14, 3) := by decide +kernel
theorem d_jdk_35_method_48_10 : decode jdk_35_method_48_code 10 = .ok (.bipush 32, 2) := by decide +kernel
theorem d_jdk_35_method_48_12 : decode jdk_35_method_48_code 12 = .ok (.lload_n 0, 1) := by decide +kernel
theorem d_jdk_35_method_48_13 : decode jdk_35_method_48_code 13 = .ok (.l2i, 1) := by decide +kernel
theorem d_jdk_35_method_48_14 : decode jdk_35_method_48_code 14 = .ok (.invokestatic 308, 3) := by decide +kernel
theorem pd_1 : parseMethodDescriptor "(I)I" = some ⟨[.int], some .int⟩ := by decide +kernel
theorem d_jdk_35_method_48_17 : decode jdk_35_method_48_code 17 = .ok (.iadd, 1) := by decide +kernel
theorem d_jdk_35_method_48_18 : decode jdk_35_method_48_code 18 = .ok (.goto 7, 3) := by decide +kernel
theorem d_jdk_35_method_48_25 : decode jdk_35_method_48_code 25 = .ok (.ireturn, 1) := by decide +kernel
theorem d_jdk_35_method_48_21 : decode jdk_35_method_48_code 21 = .ok (.iload_n 2, 1) := by decide +kernel
theorem d_jdk_35_method_48_22 : decode jdk_35_method_48_code 22 = .ok (.invokestatic 308, 3) := by decide +kernel
theorem pn_2 : plainName "java/lang/Long" = true := by first | (simp [plainName, overriddenIn]; done) | decide +kernel
theorem ef_m_nlz64 (m : MethodId) (x0 : Int64) : entryFrame m #[(.long x0)] 3 = mkF m 0 #[.val (.long x0), .second, .unset] [] := by first | (simp [entryFrame, mkF, argsToLocals, Value.category]; done) | rfl
set_option maxRecDepth 65536 in
set_option maxHeartbeats 40000000 in
theorem m_nlz64 (l : Launch) (Z : State) (a0 : Array Value) (hw : ∀ d ∈ tables_1, d.before a0 Z = true) (q : Int64) :
    Pays l Z a0 (⟨"java/lang/Long", "numberOfLeadingZeros", "(J)I"⟩ : MethodName) jdk_35_method_48_code 3 (some .int) ({ frames := 1, cells := 0, slots := 0, locals := 14 } : Room) #[(.long q)] [] (([] : Hs).map (·.1)) (fun v os' => v = some (.int (own_nlz64 q)) ∧ os' = []) := by
  refine Pays.of (Ls := #[.val (.long q), .second, .unset]) (plainFor_of_name pn_2) (fun m => ef_m_nlz64 m q) ?_
  intro p e s m below meth c T0 A0
  refine A0.lloadN (q := 1) d_jdk_35_method_48_0 rfl rfl ?_
  refine A0.bipush (q := 3) (v := 32) d_jdk_35_method_48_1 rfl rfl ?_
  refine A0.lushr (q := 4) d_jdk_35_method_48_3 rfl ?_
  refine A0.l2i (q := 5) d_jdk_35_method_48_4 rfl ?_
  show Wp _ _ _ _ _ _ _ _ _ _ T0 (mkF m 5 #[.val (.long q), .second, .unset] [(.int (own_h32 q))])
  refine A0.istoreN (q := 6) (l' := #[.val (.long q), .second, .val (.int (own_h32 q))]) d_jdk_35_method_48_5 rfl rfl ?_
  refine A0.iloadN (q := 7) d_jdk_35_method_48_6 rfl rfl ?_
  by_cases hc7_1 : (own_h32 q) = (0 : Int32)
  · refine A0.ifNo (q := 10) d_jdk_35_method_48_7 ((if0 _ _).trans (teq hc7_1).2) rfl ?_
    refine A0.bipush (q := 12) (v := 32) d_jdk_35_method_48_10 rfl rfl ?_
    refine A0.lloadN (q := 13) d_jdk_35_method_48_12 rfl rfl ?_
    refine A0.l2i (q := 14) d_jdk_35_method_48_13 rfl ?_
    refine Here.callS (qn := 17) (os1 := []) (os2 := []) (rest := [(.int 32)]) (W := 1) (argsL := [(.int q.toInt32)]) A0 (m_nlz l Z a0 hw (q.toInt32)) (Or.inl rfl) (tw hw 44 rfl) (tw hw 45 rfl) (tw hw 46 rfl) (tw hw 47 rfl) (by decide) d_jdk_35_method_48_14 rfl (lenOf pd_1 rfl) rfl (Nat.le_of_eq rfl) (by decide) (by decide) (by decide) (by decide) rfl (fun T2 v3 os4 A5 P6 => ?_)
    obtain ⟨rfl, rfl⟩ := P6
    have A7 := A5.cast (k2 := 0) (n2 := 0) (os2 := []) rfl rfl rfl
    refine A7.iadd (q := 18) d_jdk_35_method_48_17 rfl ?_
    refine A7.goto (q := 25) d_jdk_35_method_48_18 (by decide) (by decide) ?_
    refine A7.retI d_jdk_35_method_48_25 (by decide) (by decide) ⟨?_, rfl⟩
    clear hw A0 A5 A7
    (simp only [own_nlz64, hc7_1, if_true, if_false])
  · refine A0.ifYes (q := 21) d_jdk_35_method_48_7 ((if0 _ _).trans (feq hc7_1).2) (by decide) (by decide) ?_
    refine A0.iloadN (q := 22) d_jdk_35_method_48_21 rfl rfl ?_
    refine Here.callS (qn := 25) (os1 := []) (os2 := []) (rest := []) (W := 0) (argsL := [(.int (own_h32 q))]) A0 (m_nlz l Z a0 hw ((own_h32 q))) (Or.inl rfl) (tw hw 44 rfl) (tw hw 45 rfl) (tw hw 46 rfl) (tw hw 47 rfl) (by decide) d_jdk_35_method_48_22 rfl (lenOf pd_1 rfl) rfl (Nat.le_of_eq rfl) (by decide) (by decide) (by decide) (by decide) rfl (fun T8 v9 os10 A11 P12 => ?_)
    obtain ⟨rfl, rfl⟩ := P12
    have A13 := A11.cast (k2 := 0) (n2 := 0) (os2 := []) rfl rfl rfl
    refine A13.retI d_jdk_35_method_48_25 (by decide) (by decide) ⟨?_, rfl⟩
    clear hw A0 A11 A13
    (simp only [own_nlz64, hc7_1, if_true, if_false])
theorem d_prog_60_method_1_0 : decode prog_60_method_1_code 0 = .ok (.aload_n 0, 1) := by decide +kernel
theorem d_prog_60_method_1_1 : decode prog_60_method_1_code 1 = .ok (.invokespecial 1, 3) := by decide +kernel
theorem d_prog_60_method_1_4 : decode prog_60_method_1_code 4 = .ok (.aload_n 0, 1) := by decide +kernel
theorem d_prog_60_method_1_5 : decode prog_60_method_1_code 5 = .ok (.aload_n 1, 1) := by decide +kernel
theorem d_prog_60_method_1_6 : decode prog_60_method_1_code 6 = .ok (.arraylength, 1) := by decide +kernel
theorem d_prog_60_method_1_7 : decode prog_60_method_1_code 7 = .ok (.newarray .int, 2) := by decide +kernel
theorem d_prog_60_method_1_9 : decode prog_60_method_1_code 9 = .ok (.putfield 7, 3) := by decide +kernel
theorem d_prog_60_method_1_12 : decode prog_60_method_1_code 12 = .ok (.aload_n 0, 1) := by decide +kernel
theorem d_prog_60_method_1_13 : decode prog_60_method_1_code 13 = .ok (.aload_n 1, 1) := by decide +kernel
theorem d_prog_60_method_1_14 : decode prog_60_method_1_code 14 = .ok (.arraylength, 1) := by decide +kernel
theorem d_prog_60_method_1_15 : decode prog_60_method_1_code 15 = .ok (.newarray .int, 2) := by decide +kernel
theorem d_prog_60_method_1_17 : decode prog_60_method_1_code 17 = .ok (.putfield 13, 3) := by decide +kernel
theorem d_prog_60_method_1_20 : decode prog_60_method_1_code 20 = .ok (.aload_n 0, 1) := by decide +kernel
theorem d_prog_60_method_1_21 : decode prog_60_method_1_code 21 = .ok (.aload_n 1, 1) := by decide +kernel
theorem d_prog_60_method_1_22 : decode prog_60_method_1_code 22 = .ok (.arraylength, 1) := by decide +kernel
theorem d_prog_60_method_1_23 : decode prog_60_method_1_code 23 = .ok (.newarray .long, 2) := by decide +kernel
theorem d_prog_60_method_1_25 : decode prog_60_method_1_code 25 = .ok (.putfield 16, 3) := by decide +kernel
theorem d_prog_60_method_1_28 : decode prog_60_method_1_code 28 = .ok (.aload_n 0, 1) := by decide +kernel
theorem d_prog_60_method_1_29 : decode prog_60_method_1_code 29 = .ok (.aload_n 1, 1) := by decide +kernel
theorem d_prog_60_method_1_30 : decode prog_60_method_1_code 30 = .ok (.invokevirtual 20, 3) := by decide +kernel
theorem d_prog_60_method_1_33 : decode prog_60_method_1_code 33 = .ok (.checkcast 21, 3) := by decide +kernel
theorem d_prog_60_method_1_36 : decode prog_60_method_1_code 36 = .ok (.putfield 25, 3) := by decide +kernel
theorem d_prog_60_method_1_39 : decode prog_60_method_1_code 39 = .ok (.iconst 0, 1) := by decide +kernel
theorem d_prog_60_method_1_40 : decode prog_60_method_1_code 40 = .ok (.istore_n 3, 1) := by decide +kernel
theorem d_prog_60_method_1_41 : decode prog_60_method_1_code 41 = .ok (.iconst 0, 1) := by decide +kernel
theorem d_prog_60_method_1_42 : decode prog_60_method_1_code 42 = .ok (.istore 4, 2) := by decide +kernel
theorem d_prog_60_method_1_44 : decode prog_60_method_1_code 44 = .ok (.iconst 0, 1) := by decide +kernel
theorem d_prog_60_method_1_45 : decode prog_60_method_1_code 45 = .ok (.istore 5, 2) := by decide +kernel
theorem d_prog_60_method_1_47 : decode prog_60_method_1_code 47 = .ok (.iload 5, 2) := by decide +kernel
theorem d_prog_60_method_1_49 : decode prog_60_method_1_code 49 = .ok (.aload_n 1, 1) := by decide +kernel
theorem d_prog_60_method_1_50 : decode prog_60_method_1_code 50 = .ok (.arraylength, 1) := by decide +kernel
theorem d_prog_60_method_1_51 : decode prog_60_method_1_code 51 = .ok (.if_icmp .ge 89, 3) := by decide +kernel
theorem d_prog_60_method_1_54 : decode prog_60_method_1_code 54 = .ok (.aload_n 2, 1) := by decide +kernel
theorem d_prog_60_method_1_55 : decode prog_60_method_1_code 55 = .ok (.iload 5, 2) := by decide +kernel
theorem d_prog_60_method_1_57 : decode prog_60_method_1_code 57 = .ok (.iaload, 1) := by decide +kernel
theorem d_prog_60_method_1_58 : decode prog_60_method_1_code 58 = .ok (.i2l, 1) := by decide +kernel
theorem d_prog_60_method_1_59 : decode prog_60_method_1_code 59 = .ok (.aload_n 1, 1) := by decide +kernel
theorem d_prog_60_method_1_60 : decode prog_60_method_1_code 60 = .ok (.iload 5, 2) := by decide +kernel
theorem d_prog_60_method_1_62 : decode prog_60_method_1_code 62 = .ok (.iaload, 1) := by decide +kernel
theorem d_prog_60_method_1_63 : decode prog_60_method_1_code 63 = .ok (.i2l, 1) := by decide +kernel
theorem d_prog_60_method_1_64 : decode prog_60_method_1_code 64 = .ok (.lsub, 1) := by decide +kernel
theorem d_prog_60_method_1_65 : decode prog_60_method_1_code 65 = .ok (.lconst 1, 1) := by decide +kernel
theorem d_prog_60_method_1_66 : decode prog_60_method_1_code 66 = .ok (.ladd, 1) := by decide +kernel
theorem d_prog_60_method_1_67 : decode prog_60_method_1_code 67 = .ok (.lstore 6, 2) := by decide +kernel
theorem d_prog_60_method_1_69 : decode prog_60_method_1_code 69 = .ok (.bipush 64, 2) := by decide +kernel
theorem d_prog_60_method_1_71 : decode prog_60_method_1_code 71 = .ok (.lload 6, 2) := by decide +kernel
theorem d_prog_60_method_1_73 : decode prog_60_method_1_code 73 = .ok (.lconst 1, 1) := by decide +kernel
theorem d_prog_60_method_1_74 : decode prog_60_method_1_code 74 = .ok (.lsub, 1) := by decide +kernel
theorem d_prog_60_method_1_75 : decode prog_60_method_1_code 75 = .ok (.invokestatic 30, 3) := by decide +kernel
theorem pd_3 : parseMethodDescriptor "(J)I" = some ⟨[.long], some .int⟩ := by decide +kernel
theorem d_prog_60_method_1_78 : decode prog_60_method_1_code 78 = .ok (.isub, 1) := by decide +kernel
theorem d_prog_60_method_1_79 : decode prog_60_method_1_code 79 = .ok (.istore 8, 2) := by decide +kernel
theorem d_prog_60_method_1_81 : decode prog_60_method_1_code 81 = .ok (.iload 4, 2) := by decide +kernel
theorem d_prog_60_method_1_83 : decode prog_60_method_1_code 83 = .ok (.iload 8, 2) := by decide +kernel
theorem d_prog_60_method_1_85 : decode prog_60_method_1_code 85 = .ok (.iadd, 1) := by decide +kernel
theorem d_prog_60_method_1_86 : decode prog_60_method_1_code 86 = .ok (.bipush 64, 2) := by decide +kernel
theorem d_prog_60_method_1_88 : decode prog_60_method_1_code 88 = .ok (.if_icmp .le 9, 3) := by decide +kernel
theorem d_prog_60_method_1_97 : decode prog_60_method_1_code 97 = .ok (.aload_n 0, 1) := by decide +kernel
theorem d_prog_60_method_1_98 : decode prog_60_method_1_code 98 = .ok (.getfield 7, 3) := by decide +kernel
theorem d_prog_60_method_1_101 : decode prog_60_method_1_code 101 = .ok (.iload 5, 2) := by decide +kernel
theorem d_prog_60_method_1_103 : decode prog_60_method_1_code 103 = .ok (.iload_n 3, 1) := by decide +kernel
theorem d_prog_60_method_1_104 : decode prog_60_method_1_code 104 = .ok (.iastore, 1) := by decide +kernel
theorem d_prog_60_method_1_105 : decode prog_60_method_1_code 105 = .ok (.aload_n 0, 1) := by decide +kernel
theorem d_prog_60_method_1_106 : decode prog_60_method_1_code 106 = .ok (.getfield 13, 3) := by decide +kernel
theorem d_prog_60_method_1_109 : decode prog_60_method_1_code 109 = .ok (.iload 5, 2) := by decide +kernel
theorem d_prog_60_method_1_111 : decode prog_60_method_1_code 111 = .ok (.iload 4, 2) := by decide +kernel
theorem d_prog_60_method_1_113 : decode prog_60_method_1_code 113 = .ok (.iastore, 1) := by decide +kernel
theorem d_prog_60_method_1_114 : decode prog_60_method_1_code 114 = .ok (.aload_n 0, 1) := by decide +kernel
theorem d_prog_60_method_1_115 : decode prog_60_method_1_code 115 = .ok (.getfield 16, 3) := by decide +kernel
theorem d_prog_60_method_1_118 : decode prog_60_method_1_code 118 = .ok (.iload 5, 2) := by decide +kernel
theorem d_prog_60_method_1_120 : decode prog_60_method_1_code 120 = .ok (.lconst 1, 1) := by decide +kernel
theorem d_prog_60_method_1_121 : decode prog_60_method_1_code 121 = .ok (.iload 8, 2) := by decide +kernel
theorem d_prog_60_method_1_123 : decode prog_60_method_1_code 123 = .ok (.lshl, 1) := by decide +kernel
theorem d_prog_60_method_1_124 : decode prog_60_method_1_code 124 = .ok (.lconst 1, 1) := by decide +kernel
theorem d_prog_60_method_1_125 : decode prog_60_method_1_code 125 = .ok (.lsub, 1) := by decide +kernel
theorem d_prog_60_method_1_126 : decode prog_60_method_1_code 126 = .ok (.lastore, 1) := by decide +kernel
theorem d_prog_60_method_1_127 : decode prog_60_method_1_code 127 = .ok (.iload 4, 2) := by decide +kernel
theorem d_prog_60_method_1_129 : decode prog_60_method_1_code 129 = .ok (.iload 8, 2) := by decide +kernel
theorem d_prog_60_method_1_131 : decode prog_60_method_1_code 131 = .ok (.iadd, 1) := by decide +kernel
theorem d_prog_60_method_1_132 : decode prog_60_method_1_code 132 = .ok (.istore 4, 2) := by decide +kernel
theorem d_prog_60_method_1_134 : decode prog_60_method_1_code 134 = .ok (.iinc 5 1, 3) := by decide +kernel
theorem d_prog_60_method_1_137 : decode prog_60_method_1_code 137 = .ok (.goto (-90), 3) := by decide +kernel
theorem d_prog_60_method_1_91 : decode prog_60_method_1_code 91 = .ok (.iinc 3 1, 3) := by decide +kernel
theorem d_prog_60_method_1_94 : decode prog_60_method_1_code 94 = .ok (.iconst 0, 1) := by decide +kernel
theorem d_prog_60_method_1_95 : decode prog_60_method_1_code 95 = .ok (.istore 4, 2) := by decide +kernel
theorem d_prog_60_method_1_140 : decode prog_60_method_1_code 140 = .ok (.aload_n 0, 1) := by decide +kernel
theorem d_prog_60_method_1_141 : decode prog_60_method_1_code 141 = .ok (.iload_n 3, 1) := by decide +kernel
theorem d_prog_60_method_1_142 : decode prog_60_method_1_code 142 = .ok (.iconst 1, 1) := by decide +kernel
theorem d_prog_60_method_1_143 : decode prog_60_method_1_code 143 = .ok (.iadd, 1) := by decide +kernel
theorem d_prog_60_method_1_144 : decode prog_60_method_1_code 144 = .ok (.putfield 34, 3) := by decide +kernel
theorem d_prog_60_method_1_147 : decode prog_60_method_1_code 147 = .ok (.return_, 1) := by decide +kernel
theorem pn_4 : plainName "com/example/nomoc/nomoc/checker/StateLayout" = true := by first | (simp [plainName, overriddenIn]; done) | decide +kernel
theorem ef_m_ctor (m : MethodId) (x0 : Addr) (x1 : Addr) (x2 : Addr) : entryFrame m #[(.ref x0), (.ref x1), (.ref x2)] 9 = mkF m 0 #[.val (.ref x0), .val (.ref x1), .val (.ref x2), .unset, .unset, .unset, .unset, .unset, .unset] [] := by first | (simp [entryFrame, mkF, argsToLocals, Value.category]; done) | rfl
set_option maxRecDepth 65536 in
set_option maxHeartbeats 40000000 in
theorem m_ctor (l : Launch) (Z : State) (a0 : Array Value) (hw : ∀ d ∈ tables_1, d.before a0 Z = true) (a : Addr) (b : Addr) (d : Addr) (l0 : Int32) (l1 : Int32) (l2 : Int32) (h0 : Int32) (h1 : Int32) (h2 : Int32) (hp0 : l0.toInt ≤ h0.toInt) (hp1 : l1.toInt ≤ h1.toInt) (hp2 : l2.toInt ≤ h2.toInt) :
    Pays l Z a0 (⟨"com/example/nomoc/nomoc/checker/StateLayout", "<init>", "([I[I)V"⟩ : MethodName) prog_60_method_1_code 9 none ({ frames := 2, cells := 4, slots := 12, locals := 29 } : Room) #[(.ref a), (.ref b), (.ref d)] [(a, ob0 .null .null .null .null (.int 0)), (b, .inr (.int, [(.int l0), (.int l1), (.int l2)])), (d, .inr (.int, [(.int h0), (.int h1), (.int h2)]))] (([(a, ob0 .null .null .null .null (.int 0)), (b, .inr (.int, [(.int l0), (.int l1), (.int l2)])), (d, .inr (.int, [(.int h0), (.int h1), (.int h2)]))] : Hs).map (·.1)) (fun v os' => ∃ (bw : Addr), ∃ (bs : Addr), ∃ (bm : Addr), ∃ (bl : Addr), ∃ (wd : Int32), ∃ (sh : Int32), ∃ (wi : Int32), v = none ∧ os' = [(a, ob0 (.ref bw) (.ref bs) (.ref bm) (.ref bl) (.int wi)), (b, .inr (.int, [(.int l0), (.int l1), (.int l2)])), (d, .inr (.int, [(.int h0), (.int h1), (.int h2)])), (bw, .inr (.int, [(.int 0), (.int 0), (.int wd)])), (bs, .inr (.int, [(.int 0), (.int (own_bits l0 h0)), (.int sh)])), (bm, .inr (.long, [(.long (own_mk (own_bits l0 h0))), (.long (own_mk (own_bits l1 h1))), (.long (own_mk (own_bits l2 h2)))])), (bl, .inr (.int, [(.int l0), (.int l1), (.int l2)]))] ∧ ((wd = 0 ∧ wi = 1 ∧ sh = (own_bits l0 h0) + (own_bits l1 h1) ∧ (own_bits l0 h0).toInt + (own_bits l1 h1).toInt + (own_bits l2 h2).toInt ≤ 64) ∨ (wd = 1 ∧ wi = 2 ∧ sh = 0))) := by
  refine Pays.of (Ls := #[.val (.ref a), .val (.ref b), .val (.ref d), .unset, .unset, .unset, .unset, .unset, .unset]) (plainFor_of_name pn_4) (fun m => ef_m_ctor m a b d) ?_
  intro p e s m below meth c T0 A0
  refine A0.aloadN (q := 1) d_prog_60_method_1_0 rfl rfl rfl ?_
  refine A0.initO (qn := 4) (W := 0) (tw hw 19 rfl) (tw hw 20 rfl) (tw hw 21 rfl) d_prog_60_method_1_1 rfl (Nat.le_of_eq rfl) (by decide) (by decide) rfl (fun T1 A2 => ?_)
  refine A2.aloadN (q := 5) d_prog_60_method_1_4 rfl rfl rfl ?_
  refine A2.aloadN (q := 6) d_prog_60_method_1_5 rfl rfl rfl ?_
  refine A2.len (qn := 7) (i := 1) (z := (3 : Int32)) d_prog_60_method_1_6 rfl (rfl) rfl ?_
  refine A2.newP (qn := 9) (cap := 3) (tw hw 0 rfl) d_prog_60_method_1_7 (by decide) (by decide) (by decide) (by decide) (by decide) rfl (fun T3 b5 A4 => ?_)
  have A6 := A4.cast (k2 := 1) (n2 := 3) (os2 := [(a, ob0 .null .null .null .null (.int 0)), (b, .inr (.int, [(.int l0), (.int l1), (.int l2)])), (d, .inr (.int, [(.int h0), (.int h1), (.int h2)])), (b5, .inr (.int, [(.int 0), (.int 0), (.int 0)]))]) rfl rfl rfl
  refine A6.putF (qn := 12) (i := 0) (j := 0) (ty := (.array .int)) (tw hw 22 rfl) Via.refl (Or.inr ⟨(tw hw 23 rfl), rfl, rfl⟩) (tw hw 14 rfl) (by decide) rfl rfl d_prog_60_method_1_9 rfl rfl rfl rfl (fun T7 A8 => ?_)
  have A9 := A8.cast (k2 := 1) (n2 := 3) (os2 := [(a, ob0 (.ref b5) .null .null .null (.int 0)), (b, .inr (.int, [(.int l0), (.int l1), (.int l2)])), (d, .inr (.int, [(.int h0), (.int h1), (.int h2)])), (b5, .inr (.int, [(.int 0), (.int 0), (.int 0)]))]) rfl rfl rfl
  refine A9.aloadN (q := 13) d_prog_60_method_1_12 rfl rfl rfl ?_
  refine A9.aloadN (q := 14) d_prog_60_method_1_13 rfl rfl rfl ?_
  refine A9.len (qn := 15) (i := 1) (z := (3 : Int32)) d_prog_60_method_1_14 rfl (rfl) rfl ?_
  refine A9.newP (qn := 17) (cap := 3) (tw hw 0 rfl) d_prog_60_method_1_15 (by decide) (by decide) (by decide) (by decide) (by decide) rfl (fun T10 b12 A11 => ?_)
  have A13 := A11.cast (k2 := 2) (n2 := 6) (os2 := [(a, ob0 (.ref b5) .null .null .null (.int 0)), (b, .inr (.int, [(.int l0), (.int l1), (.int l2)])), (d, .inr (.int, [(.int h0), (.int h1), (.int h2)])), (b5, .inr (.int, [(.int 0), (.int 0), (.int 0)])), (b12, .inr (.int, [(.int 0), (.int 0), (.int 0)]))]) rfl rfl rfl
  refine A13.putF (qn := 20) (i := 0) (j := 1) (ty := (.array .int)) (tw hw 24 rfl) Via.refl (Or.inr ⟨(tw hw 25 rfl), rfl, rfl⟩) (tw hw 14 rfl) (by decide) rfl rfl d_prog_60_method_1_17 rfl rfl rfl rfl (fun T14 A15 => ?_)
  have A16 := A15.cast (k2 := 2) (n2 := 6) (os2 := [(a, ob0 (.ref b5) (.ref b12) .null .null (.int 0)), (b, .inr (.int, [(.int l0), (.int l1), (.int l2)])), (d, .inr (.int, [(.int h0), (.int h1), (.int h2)])), (b5, .inr (.int, [(.int 0), (.int 0), (.int 0)])), (b12, .inr (.int, [(.int 0), (.int 0), (.int 0)]))]) rfl rfl rfl
  refine A16.aloadN (q := 21) d_prog_60_method_1_20 rfl rfl rfl ?_
  refine A16.aloadN (q := 22) d_prog_60_method_1_21 rfl rfl rfl ?_
  refine A16.len (qn := 23) (i := 1) (z := (3 : Int32)) d_prog_60_method_1_22 rfl (rfl) rfl ?_
  refine A16.newP (qn := 25) (cap := 3) (tw hw 26 rfl) d_prog_60_method_1_23 (by decide) (by decide) (by decide) (by decide) (by decide) rfl (fun T17 b19 A18 => ?_)
  have A20 := A18.cast (k2 := 3) (n2 := 9) (os2 := [(a, ob0 (.ref b5) (.ref b12) .null .null (.int 0)), (b, .inr (.int, [(.int l0), (.int l1), (.int l2)])), (d, .inr (.int, [(.int h0), (.int h1), (.int h2)])), (b5, .inr (.int, [(.int 0), (.int 0), (.int 0)])), (b12, .inr (.int, [(.int 0), (.int 0), (.int 0)])), (b19, .inr (.long, [(.long 0), (.long 0), (.long 0)]))]) rfl rfl rfl
  refine A20.putF (qn := 28) (i := 0) (j := 2) (ty := (.array .long)) (tw hw 27 rfl) Via.refl (Or.inr ⟨(tw hw 28 rfl), rfl, rfl⟩) (tw hw 14 rfl) (by decide) rfl rfl d_prog_60_method_1_25 rfl rfl rfl rfl (fun T21 A22 => ?_)
  have A23 := A22.cast (k2 := 3) (n2 := 9) (os2 := [(a, ob0 (.ref b5) (.ref b12) (.ref b19) .null (.int 0)), (b, .inr (.int, [(.int l0), (.int l1), (.int l2)])), (d, .inr (.int, [(.int h0), (.int h1), (.int h2)])), (b5, .inr (.int, [(.int 0), (.int 0), (.int 0)])), (b12, .inr (.int, [(.int 0), (.int 0), (.int 0)])), (b19, .inr (.long, [(.long 0), (.long 0), (.long 0)]))]) rfl rfl rfl
  refine A23.aloadN (q := 29) d_prog_60_method_1_28 rfl rfl rfl ?_
  refine A23.aloadN (q := 30) d_prog_60_method_1_29 rfl rfl rfl ?_
  refine A23.clone (qn := 33) (i := 1) (W := 1) (cap := 3) (ty := .int) (ad := "[I") (tw hw 29 rfl) (tw hw 30 rfl) (tw hw 34 rfl) (tw hw 32 rfl) (tw hw 33 rfl) (tw hw 35 rfl) (by decide) d_prog_60_method_1_30 rfl rfl (Nat.le_of_eq rfl) (by decide) (by decide) (Nat.le_of_eq rfl) (by decide) (by decide) rfl (fun T24 b26 A25 => ?_)
  have A27 := A25.cast (k2 := 4) (n2 := 12) (os2 := [(a, ob0 (.ref b5) (.ref b12) (.ref b19) .null (.int 0)), (b, .inr (.int, [(.int l0), (.int l1), (.int l2)])), (d, .inr (.int, [(.int h0), (.int h1), (.int h2)])), (b5, .inr (.int, [(.int 0), (.int 0), (.int 0)])), (b12, .inr (.int, [(.int 0), (.int 0), (.int 0)])), (b19, .inr (.long, [(.long 0), (.long 0), (.long 0)])), (b26, .inr (.int, [(.int l0), (.int l1), (.int l2)]))]) rfl rfl rfl
  refine A27.ccast (qn := 36) (i := 6) (tw hw 36 rfl) (by decide) d_prog_60_method_1_33 rfl rfl (fun T28 A29 => ?_)
  refine A29.putF (qn := 39) (i := 0) (j := 3) (ty := (.array .int)) (tw hw 38 rfl) Via.refl (Or.inr ⟨(tw hw 39 rfl), rfl, rfl⟩) (tw hw 14 rfl) (by decide) rfl rfl d_prog_60_method_1_36 rfl rfl rfl rfl (fun T30 A31 => ?_)
  have A32 := A31.cast (k2 := 4) (n2 := 12) (os2 := [(a, ob0 (.ref b5) (.ref b12) (.ref b19) (.ref b26) (.int 0)), (b, .inr (.int, [(.int l0), (.int l1), (.int l2)])), (d, .inr (.int, [(.int h0), (.int h1), (.int h2)])), (b5, .inr (.int, [(.int 0), (.int 0), (.int 0)])), (b12, .inr (.int, [(.int 0), (.int 0), (.int 0)])), (b19, .inr (.long, [(.long 0), (.long 0), (.long 0)])), (b26, .inr (.int, [(.int l0), (.int l1), (.int l2)]))]) rfl rfl rfl
  have hb0 := own_bits_b l0 h0 hp0
  have hb1 := own_bits_b l1 h1 hp1
  have hb2 := own_bits_b l2 h2 hp2
  refine A32.iconst (q := 40) (v := 0) d_prog_60_method_1_39 rfl rfl ?_
  refine A32.istoreN (q := 41) (l' := #[.val (.ref a), .val (.ref b), .val (.ref d), .val (.int 0), .unset, .unset, .unset, .unset, .unset]) d_prog_60_method_1_40 rfl rfl ?_
  refine A32.iconst (q := 42) (v := 0) d_prog_60_method_1_41 rfl rfl ?_
  refine A32.istore (q := 44) (l' := #[.val (.ref a), .val (.ref b), .val (.ref d), .val (.int 0), .val (.int 0), .unset, .unset, .unset, .unset]) d_prog_60_method_1_42 rfl rfl ?_
  refine A32.iconst (q := 45) (v := 0) d_prog_60_method_1_44 rfl rfl ?_
  refine A32.istore (q := 47) (l' := #[.val (.ref a), .val (.ref b), .val (.ref d), .val (.int 0), .val (.int 0), .val (.int 0), .unset, .unset, .unset]) d_prog_60_method_1_45 rfl rfl ?_
  refine A32.iload (q := 49) d_prog_60_method_1_47 rfl rfl ?_
  refine A32.aloadN (q := 50) d_prog_60_method_1_49 rfl rfl rfl ?_
  refine A32.len (qn := 51) (i := 1) (z := (3 : Int32)) d_prog_60_method_1_50 rfl (rfl) rfl ?_
  refine A32.icmpNo (q := 54) d_prog_60_method_1_51 (by decide) rfl ?_
  refine A32.aloadN (q := 55) d_prog_60_method_1_54 rfl rfl rfl ?_
  refine A32.iload (q := 57) d_prog_60_method_1_55 rfl rfl ?_
  refine A32.ldI (qn := 58) (i := 2) d_prog_60_method_1_57 rfl (by decide) rfl rfl ?_
  refine A32.i2l (q := 59) d_prog_60_method_1_58 rfl ?_
  refine A32.aloadN (q := 60) d_prog_60_method_1_59 rfl rfl rfl ?_
  refine A32.iload (q := 62) d_prog_60_method_1_60 rfl rfl ?_
  refine A32.ldI (qn := 63) (i := 1) d_prog_60_method_1_62 rfl (by decide) rfl rfl ?_
  refine A32.i2l (q := 64) d_prog_60_method_1_63 rfl ?_
  refine A32.lsub (q := 65) d_prog_60_method_1_64 rfl ?_
  refine A32.lconst (q := 66) (v := 1) d_prog_60_method_1_65 rfl rfl ?_
  refine A32.ladd (q := 67) d_prog_60_method_1_66 rfl ?_
  refine A32.lstore (q := 69) (l' := #[.val (.ref a), .val (.ref b), .val (.ref d), .val (.int 0), .val (.int 0), .val (.int 0), .val (.long ((h0.toInt64 - l0.toInt64) + (1 : Int64))), .second, .unset]) d_prog_60_method_1_67 rfl rfl ?_
  refine A32.bipush (q := 71) (v := 64) d_prog_60_method_1_69 rfl rfl ?_
  refine A32.lload (q := 73) d_prog_60_method_1_71 rfl rfl ?_
  refine A32.lconst (q := 74) (v := 1) d_prog_60_method_1_73 rfl rfl ?_
  refine A32.lsub (q := 75) d_prog_60_method_1_74 rfl ?_
  refine Here.callS (qn := 78) (os1 := [(a, ob0 (.ref b5) (.ref b12) (.ref b19) (.ref b26) (.int 0)), (b, .inr (.int, [(.int l0), (.int l1), (.int l2)])), (d, .inr (.int, [(.int h0), (.int h1), (.int h2)])), (b5, .inr (.int, [(.int 0), (.int 0), (.int 0)])), (b12, .inr (.int, [(.int 0), (.int 0), (.int 0)])), (b19, .inr (.long, [(.long 0), (.long 0), (.long 0)])), (b26, .inr (.int, [(.int l0), (.int l1), (.int l2)]))]) (os2 := []) (rest := [(.int 64)]) (W := 1) (argsL := [(.long (((h0.toInt64 - l0.toInt64) + (1 : Int64)) - (1 : Int64)))]) A32 (m_nlz64 l Z a0 hw ((((h0.toInt64 - l0.toInt64) + (1 : Int64)) - (1 : Int64)))) (Or.inl rfl) (tw hw 40 rfl) (tw hw 41 rfl) (tw hw 42 rfl) (tw hw 43 rfl) (by decide) d_prog_60_method_1_75 rfl (lenOf pd_3 rfl) rfl (Nat.le_of_eq rfl) (by decide) (by decide) (by decide) (by decide) rfl (fun T33 v34 os35 A36 P37 => ?_)
  obtain ⟨rfl, rfl⟩ := P37
  have A38 := A36.cast (k2 := 4) (n2 := 12) (os2 := [(a, ob0 (.ref b5) (.ref b12) (.ref b19) (.ref b26) (.int 0)), (b, .inr (.int, [(.int l0), (.int l1), (.int l2)])), (d, .inr (.int, [(.int h0), (.int h1), (.int h2)])), (b5, .inr (.int, [(.int 0), (.int 0), (.int 0)])), (b12, .inr (.int, [(.int 0), (.int 0), (.int 0)])), (b19, .inr (.long, [(.long 0), (.long 0), (.long 0)])), (b26, .inr (.int, [(.int l0), (.int l1), (.int l2)]))]) rfl rfl rfl
  refine A38.isub (q := 79) d_prog_60_method_1_78 rfl ?_
  show Wp _ _ _ _ _ _ _ _ _ _ T33 (mkF m 79 #[.val (.ref a), .val (.ref b), .val (.ref d), .val (.int 0), .val (.int 0), .val (.int 0), .val (.long ((h0.toInt64 - l0.toInt64) + (1 : Int64))), .second, .unset] [(.int (own_bits l0 h0))])
  refine A38.istore (q := 81) (l' := #[.val (.ref a), .val (.ref b), .val (.ref d), .val (.int 0), .val (.int 0), .val (.int 0), .val (.long ((h0.toInt64 - l0.toInt64) + (1 : Int64))), .second, .val (.int (own_bits l0 h0))]) d_prog_60_method_1_79 rfl rfl ?_
  refine A38.iload (q := 83) d_prog_60_method_1_81 rfl rfl ?_
  refine A38.iload (q := 85) d_prog_60_method_1_83 rfl rfl ?_
  refine A38.iadd (q := 86) d_prog_60_method_1_85 rfl ?_
  have hv39 : ((0 : Int32) + (own_bits l0 h0)) = (own_bits l0 h0) := by
    clear hw A0 A2 A4 A6 A8 A9 A11 A13 A15 A16 A18 A20 A22 A23 A25 A27 A29 A31 A32 A36 A38
    exact Int32.zero_add _
  rw [hv39]
  refine A38.bipush (q := 88) (v := 64) d_prog_60_method_1_86 rfl rfl ?_
  have hc88_40 : ¬ ((64 : Int32) < (own_bits l0 h0)) := by
    clear hw A0 A2 A4 A6 A8 A9 A11 A13 A15 A16 A18 A20 A22 A23 A25 A27 A29 A31 A32 A36 A38
    (try simp only [true_and, and_true, false_and, and_false, true_or, or_true, false_or, or_false, not_true_eq_false, not_false_eq_true, Int32.lt_iff_toInt_lt, Int64.lt_iff_toInt_lt, Int32.le_iff_toInt_le, Int64.le_iff_toInt_le, ← Int32.toInt_inj, ← Int64.toInt_inj, Int32.toInt_add, Int32.toInt_sub, Int32.toInt_neg, Int64.toInt_add, Int64.toInt_sub, Int64.toInt_neg, Int64.toInt_mul, Int32.toInt_toInt64, bm32, bm64, l32_0, l32_1, l32_2, l32_3, l32_32, l32_64, l64_0, l64_1] at hb0 hb1 hb2 ⊢) <;> omega
  refine A38.icmpYes (q := 97) d_prog_60_method_1_88 (flt hc88_40).2.2.2 (by decide) (by decide) ?_
  refine A38.aloadN (q := 98) d_prog_60_method_1_97 rfl rfl rfl ?_
  refine A38.getF (qn := 101) (i := 0) (j := 0) (tw hw 22 rfl) Via.refl d_prog_60_method_1_98 rfl rfl rfl (fun T41 A42 => ?_)
  refine A42.iload (q := 103) d_prog_60_method_1_101 rfl rfl ?_
  refine A42.iloadN (q := 104) d_prog_60_method_1_103 rfl rfl ?_
  refine A42.stI (qn := 105) (i := 3) d_prog_60_method_1_104 rfl (by decide) (show (0 : Int32).toNatClampNeg < 3 from by decide) rfl rfl (fun T43 A44 => ?_)
  have A45 := A44.cast (k2 := 4) (n2 := 12) (os2 := [(a, ob0 (.ref b5) (.ref b12) (.ref b19) (.ref b26) (.int 0)), (b, .inr (.int, [(.int l0), (.int l1), (.int l2)])), (d, .inr (.int, [(.int h0), (.int h1), (.int h2)])), (b5, .inr (.int, [(.int 0), (.int 0), (.int 0)])), (b12, .inr (.int, [(.int 0), (.int 0), (.int 0)])), (b19, .inr (.long, [(.long 0), (.long 0), (.long 0)])), (b26, .inr (.int, [(.int l0), (.int l1), (.int l2)]))]) rfl rfl rfl
  refine A45.aloadN (q := 106) d_prog_60_method_1_105 rfl rfl rfl ?_
  refine A45.getF (qn := 109) (i := 0) (j := 1) (tw hw 24 rfl) Via.refl d_prog_60_method_1_106 rfl rfl rfl (fun T46 A47 => ?_)
  refine A47.iload (q := 111) d_prog_60_method_1_109 rfl rfl ?_
  refine A47.iload (q := 113) d_prog_60_method_1_111 rfl rfl ?_
  refine A47.stI (qn := 114) (i := 4) d_prog_60_method_1_113 rfl (by decide) (show (0 : Int32).toNatClampNeg < 3 from by decide) rfl rfl (fun T48 A49 => ?_)
  have A50 := A49.cast (k2 := 4) (n2 := 12) (os2 := [(a, ob0 (.ref b5) (.ref b12) (.ref b19) (.ref b26) (.int 0)), (b, .inr (.int, [(.int l0), (.int l1), (.int l2)])), (d, .inr (.int, [(.int h0), (.int h1), (.int h2)])), (b5, .inr (.int, [(.int 0), (.int 0), (.int 0)])), (b12, .inr (.int, [(.int 0), (.int 0), (.int 0)])), (b19, .inr (.long, [(.long 0), (.long 0), (.long 0)])), (b26, .inr (.int, [(.int l0), (.int l1), (.int l2)]))]) rfl rfl rfl
  refine A50.aloadN (q := 115) d_prog_60_method_1_114 rfl rfl rfl ?_
  refine A50.getF (qn := 118) (i := 0) (j := 2) (tw hw 27 rfl) Via.refl d_prog_60_method_1_115 rfl rfl rfl (fun T51 A52 => ?_)
  refine A52.iload (q := 120) d_prog_60_method_1_118 rfl rfl ?_
  refine A52.lconst (q := 121) (v := 1) d_prog_60_method_1_120 rfl rfl ?_
  refine A52.iload (q := 123) d_prog_60_method_1_121 rfl rfl ?_
  refine A52.lshl (q := 124) d_prog_60_method_1_123 rfl ?_
  refine A52.lconst (q := 125) (v := 1) d_prog_60_method_1_124 rfl rfl ?_
  refine A52.lsub (q := 126) d_prog_60_method_1_125 rfl ?_
  show Wp _ _ _ _ _ _ _ _ _ _ T51 (mkF m 126 #[.val (.ref a), .val (.ref b), .val (.ref d), .val (.int 0), .val (.int 0), .val (.int 0), .val (.long ((h0.toInt64 - l0.toInt64) + (1 : Int64))), .second, .val (.int (own_bits l0 h0))] [(.long (own_mk (own_bits l0 h0))), (.int 0), (.ref b19)])
  refine A52.stJ (qn := 127) (i := 5) d_prog_60_method_1_126 rfl (by decide) (show (0 : Int32).toNatClampNeg < 3 from by decide) rfl rfl (fun T53 A54 => ?_)
  have A55 := A54.cast (k2 := 4) (n2 := 12) (os2 := [(a, ob0 (.ref b5) (.ref b12) (.ref b19) (.ref b26) (.int 0)), (b, .inr (.int, [(.int l0), (.int l1), (.int l2)])), (d, .inr (.int, [(.int h0), (.int h1), (.int h2)])), (b5, .inr (.int, [(.int 0), (.int 0), (.int 0)])), (b12, .inr (.int, [(.int 0), (.int 0), (.int 0)])), (b19, .inr (.long, [(.long (own_mk (own_bits l0 h0))), (.long 0), (.long 0)])), (b26, .inr (.int, [(.int l0), (.int l1), (.int l2)]))]) rfl rfl rfl
  refine A55.iload (q := 129) d_prog_60_method_1_127 rfl rfl ?_
  refine A55.iload (q := 131) d_prog_60_method_1_129 rfl rfl ?_
  refine A55.iadd (q := 132) d_prog_60_method_1_131 rfl ?_
  have hv56 : ((0 : Int32) + (own_bits l0 h0)) = (own_bits l0 h0) := by
    clear hw A0 A2 A4 A6 A8 A9 A11 A13 A15 A16 A18 A20 A22 A23 A25 A27 A29 A31 A32 A36 A38 A42 A44 A45 A47 A49 A50 A52 A54 A55
    exact Int32.zero_add _
  rw [hv56]
  refine A55.istore (q := 134) (l' := #[.val (.ref a), .val (.ref b), .val (.ref d), .val (.int 0), .val (.int (own_bits l0 h0)), .val (.int 0), .val (.long ((h0.toInt64 - l0.toInt64) + (1 : Int64))), .second, .val (.int (own_bits l0 h0))]) d_prog_60_method_1_132 rfl rfl ?_
  refine A55.iinc (q := 137) (l' := #[.val (.ref a), .val (.ref b), .val (.ref d), .val (.int 0), .val (.int (own_bits l0 h0)), .val (.int 1), .val (.long ((h0.toInt64 - l0.toInt64) + (1 : Int64))), .second, .val (.int (own_bits l0 h0))]) d_prog_60_method_1_134 rfl rfl rfl ?_
  refine A55.goto (q := 47) d_prog_60_method_1_137 (by decide) (by decide) ?_
  refine A55.iload (q := 49) d_prog_60_method_1_47 rfl rfl ?_
  refine A55.aloadN (q := 50) d_prog_60_method_1_49 rfl rfl rfl ?_
  refine A55.len (qn := 51) (i := 1) (z := (3 : Int32)) d_prog_60_method_1_50 rfl (rfl) rfl ?_
  refine A55.icmpNo (q := 54) d_prog_60_method_1_51 (by decide) rfl ?_
  refine A55.aloadN (q := 55) d_prog_60_method_1_54 rfl rfl rfl ?_
  refine A55.iload (q := 57) d_prog_60_method_1_55 rfl rfl ?_
  refine A55.ldI (qn := 58) (i := 2) d_prog_60_method_1_57 rfl (by decide) rfl rfl ?_
  refine A55.i2l (q := 59) d_prog_60_method_1_58 rfl ?_
  refine A55.aloadN (q := 60) d_prog_60_method_1_59 rfl rfl rfl ?_
  refine A55.iload (q := 62) d_prog_60_method_1_60 rfl rfl ?_
  refine A55.ldI (qn := 63) (i := 1) d_prog_60_method_1_62 rfl (by decide) rfl rfl ?_
  refine A55.i2l (q := 64) d_prog_60_method_1_63 rfl ?_
  refine A55.lsub (q := 65) d_prog_60_method_1_64 rfl ?_
  refine A55.lconst (q := 66) (v := 1) d_prog_60_method_1_65 rfl rfl ?_
  refine A55.ladd (q := 67) d_prog_60_method_1_66 rfl ?_
  refine A55.lstore (q := 69) (l' := #[.val (.ref a), .val (.ref b), .val (.ref d), .val (.int 0), .val (.int (own_bits l0 h0)), .val (.int 1), .val (.long ((h1.toInt64 - l1.toInt64) + (1 : Int64))), .second, .val (.int (own_bits l0 h0))]) d_prog_60_method_1_67 rfl rfl ?_
  refine A55.bipush (q := 71) (v := 64) d_prog_60_method_1_69 rfl rfl ?_
  refine A55.lload (q := 73) d_prog_60_method_1_71 rfl rfl ?_
  refine A55.lconst (q := 74) (v := 1) d_prog_60_method_1_73 rfl rfl ?_
  refine A55.lsub (q := 75) d_prog_60_method_1_74 rfl ?_
  refine Here.callS (qn := 78) (os1 := [(a, ob0 (.ref b5) (.ref b12) (.ref b19) (.ref b26) (.int 0)), (b, .inr (.int, [(.int l0), (.int l1), (.int l2)])), (d, .inr (.int, [(.int h0), (.int h1), (.int h2)])), (b5, .inr (.int, [(.int 0), (.int 0), (.int 0)])), (b12, .inr (.int, [(.int 0), (.int 0), (.int 0)])), (b19, .inr (.long, [(.long (own_mk (own_bits l0 h0))), (.long 0), (.long 0)])), (b26, .inr (.int, [(.int l0), (.int l1), (.int l2)]))]) (os2 := []) (rest := [(.int 64)]) (W := 1) (argsL := [(.long (((h1.toInt64 - l1.toInt64) + (1 : Int64)) - (1 : Int64)))]) A55 (m_nlz64 l Z a0 hw ((((h1.toInt64 - l1.toInt64) + (1 : Int64)) - (1 : Int64)))) (Or.inl rfl) (tw hw 40 rfl) (tw hw 41 rfl) (tw hw 42 rfl) (tw hw 43 rfl) (by decide) d_prog_60_method_1_75 rfl (lenOf pd_3 rfl) rfl (Nat.le_of_eq rfl) (by decide) (by decide) (by decide) (by decide) rfl (fun T57 v58 os59 A60 P61 => ?_)
  obtain ⟨rfl, rfl⟩ := P61
  have A62 := A60.cast (k2 := 4) (n2 := 12) (os2 := [(a, ob0 (.ref b5) (.ref b12) (.ref b19) (.ref b26) (.int 0)), (b, .inr (.int, [(.int l0), (.int l1), (.int l2)])), (d, .inr (.int, [(.int h0), (.int h1), (.int h2)])), (b5, .inr (.int, [(.int 0), (.int 0), (.int 0)])), (b12, .inr (.int, [(.int 0), (.int 0), (.int 0)])), (b19, .inr (.long, [(.long (own_mk (own_bits l0 h0))), (.long 0), (.long 0)])), (b26, .inr (.int, [(.int l0), (.int l1), (.int l2)]))]) rfl rfl rfl
  refine A62.isub (q := 79) d_prog_60_method_1_78 rfl ?_
  show Wp _ _ _ _ _ _ _ _ _ _ T57 (mkF m 79 #[.val (.ref a), .val (.ref b), .val (.ref d), .val (.int 0), .val (.int (own_bits l0 h0)), .val (.int 1), .val (.long ((h1.toInt64 - l1.toInt64) + (1 : Int64))), .second, .val (.int (own_bits l0 h0))] [(.int (own_bits l1 h1))])
  refine A62.istore (q := 81) (l' := #[.val (.ref a), .val (.ref b), .val (.ref d), .val (.int 0), .val (.int (own_bits l0 h0)), .val (.int 1), .val (.long ((h1.toInt64 - l1.toInt64) + (1 : Int64))), .second, .val (.int (own_bits l1 h1))]) d_prog_60_method_1_79 rfl rfl ?_
  refine A62.iload (q := 83) d_prog_60_method_1_81 rfl rfl ?_
  refine A62.iload (q := 85) d_prog_60_method_1_83 rfl rfl ?_
  refine A62.iadd (q := 86) d_prog_60_method_1_85 rfl ?_
  refine A62.bipush (q := 88) (v := 64) d_prog_60_method_1_86 rfl rfl ?_
  have hc88_63 : ¬ ((64 : Int32) < ((own_bits l0 h0) + (own_bits l1 h1))) := by
    clear hw A0 A2 A4 A6 A8 A9 A11 A13 A15 A16 A18 A20 A22 A23 A25 A27 A29 A31 A32 A36 A38 A42 A44 A45 A47 A49 A50 A52 A54 A55 A60 A62
    (try simp only [true_and, and_true, false_and, and_false, true_or, or_true, false_or, or_false, not_true_eq_false, not_false_eq_true, Int32.lt_iff_toInt_lt, Int64.lt_iff_toInt_lt, Int32.le_iff_toInt_le, Int64.le_iff_toInt_le, ← Int32.toInt_inj, ← Int64.toInt_inj, Int32.toInt_add, Int32.toInt_sub, Int32.toInt_neg, Int64.toInt_add, Int64.toInt_sub, Int64.toInt_neg, Int64.toInt_mul, Int32.toInt_toInt64, bm32, bm64, l32_0, l32_1, l32_2, l32_3, l32_32, l32_64, l64_0, l64_1] at hb0 hb1 hb2 hc88_40 ⊢) <;> omega
  refine A62.icmpYes (q := 97) d_prog_60_method_1_88 (flt hc88_63).2.2.2 (by decide) (by decide) ?_
  refine A62.aloadN (q := 98) d_prog_60_method_1_97 rfl rfl rfl ?_
  refine A62.getF (qn := 101) (i := 0) (j := 0) (tw hw 22 rfl) Via.refl d_prog_60_method_1_98 rfl rfl rfl (fun T64 A65 => ?_)
  refine A65.iload (q := 103) d_prog_60_method_1_101 rfl rfl ?_
  refine A65.iloadN (q := 104) d_prog_60_method_1_103 rfl rfl ?_
  refine A65.stI (qn := 105) (i := 3) d_prog_60_method_1_104 rfl (by decide) (show (1 : Int32).toNatClampNeg < 3 from by decide) rfl rfl (fun T66 A67 => ?_)
  have A68 := A67.cast (k2 := 4) (n2 := 12) (os2 := [(a, ob0 (.ref b5) (.ref b12) (.ref b19) (.ref b26) (.int 0)), (b, .inr (.int, [(.int l0), (.int l1), (.int l2)])), (d, .inr (.int, [(.int h0), (.int h1), (.int h2)])), (b5, .inr (.int, [(.int 0), (.int 0), (.int 0)])), (b12, .inr (.int, [(.int 0), (.int 0), (.int 0)])), (b19, .inr (.long, [(.long (own_mk (own_bits l0 h0))), (.long 0), (.long 0)])), (b26, .inr (.int, [(.int l0), (.int l1), (.int l2)]))]) rfl rfl rfl
  refine A68.aloadN (q := 106) d_prog_60_method_1_105 rfl rfl rfl ?_
  refine A68.getF (qn := 109) (i := 0) (j := 1) (tw hw 24 rfl) Via.refl d_prog_60_method_1_106 rfl rfl rfl (fun T69 A70 => ?_)
  refine A70.iload (q := 111) d_prog_60_method_1_109 rfl rfl ?_
  refine A70.iload (q := 113) d_prog_60_method_1_111 rfl rfl ?_
  refine A70.stI (qn := 114) (i := 4) d_prog_60_method_1_113 rfl (by decide) (show (1 : Int32).toNatClampNeg < 3 from by decide) rfl rfl (fun T71 A72 => ?_)
  have A73 := A72.cast (k2 := 4) (n2 := 12) (os2 := [(a, ob0 (.ref b5) (.ref b12) (.ref b19) (.ref b26) (.int 0)), (b, .inr (.int, [(.int l0), (.int l1), (.int l2)])), (d, .inr (.int, [(.int h0), (.int h1), (.int h2)])), (b5, .inr (.int, [(.int 0), (.int 0), (.int 0)])), (b12, .inr (.int, [(.int 0), (.int (own_bits l0 h0)), (.int 0)])), (b19, .inr (.long, [(.long (own_mk (own_bits l0 h0))), (.long 0), (.long 0)])), (b26, .inr (.int, [(.int l0), (.int l1), (.int l2)]))]) rfl rfl rfl
  refine A73.aloadN (q := 115) d_prog_60_method_1_114 rfl rfl rfl ?_
  refine A73.getF (qn := 118) (i := 0) (j := 2) (tw hw 27 rfl) Via.refl d_prog_60_method_1_115 rfl rfl rfl (fun T74 A75 => ?_)
  refine A75.iload (q := 120) d_prog_60_method_1_118 rfl rfl ?_
  refine A75.lconst (q := 121) (v := 1) d_prog_60_method_1_120 rfl rfl ?_
  refine A75.iload (q := 123) d_prog_60_method_1_121 rfl rfl ?_
  refine A75.lshl (q := 124) d_prog_60_method_1_123 rfl ?_
  refine A75.lconst (q := 125) (v := 1) d_prog_60_method_1_124 rfl rfl ?_
  refine A75.lsub (q := 126) d_prog_60_method_1_125 rfl ?_
  show Wp _ _ _ _ _ _ _ _ _ _ T74 (mkF m 126 #[.val (.ref a), .val (.ref b), .val (.ref d), .val (.int 0), .val (.int (own_bits l0 h0)), .val (.int 1), .val (.long ((h1.toInt64 - l1.toInt64) + (1 : Int64))), .second, .val (.int (own_bits l1 h1))] [(.long (own_mk (own_bits l1 h1))), (.int 1), (.ref b19)])
  refine A75.stJ (qn := 127) (i := 5) d_prog_60_method_1_126 rfl (by decide) (show (1 : Int32).toNatClampNeg < 3 from by decide) rfl rfl (fun T76 A77 => ?_)
  have A78 := A77.cast (k2 := 4) (n2 := 12) (os2 := [(a, ob0 (.ref b5) (.ref b12) (.ref b19) (.ref b26) (.int 0)), (b, .inr (.int, [(.int l0), (.int l1), (.int l2)])), (d, .inr (.int, [(.int h0), (.int h1), (.int h2)])), (b5, .inr (.int, [(.int 0), (.int 0), (.int 0)])), (b12, .inr (.int, [(.int 0), (.int (own_bits l0 h0)), (.int 0)])), (b19, .inr (.long, [(.long (own_mk (own_bits l0 h0))), (.long (own_mk (own_bits l1 h1))), (.long 0)])), (b26, .inr (.int, [(.int l0), (.int l1), (.int l2)]))]) rfl rfl rfl
  refine A78.iload (q := 129) d_prog_60_method_1_127 rfl rfl ?_
  refine A78.iload (q := 131) d_prog_60_method_1_129 rfl rfl ?_
  refine A78.iadd (q := 132) d_prog_60_method_1_131 rfl ?_
  refine A78.istore (q := 134) (l' := #[.val (.ref a), .val (.ref b), .val (.ref d), .val (.int 0), .val (.int ((own_bits l0 h0) + (own_bits l1 h1))), .val (.int 1), .val (.long ((h1.toInt64 - l1.toInt64) + (1 : Int64))), .second, .val (.int (own_bits l1 h1))]) d_prog_60_method_1_132 rfl rfl ?_
  refine A78.iinc (q := 137) (l' := #[.val (.ref a), .val (.ref b), .val (.ref d), .val (.int 0), .val (.int ((own_bits l0 h0) + (own_bits l1 h1))), .val (.int 2), .val (.long ((h1.toInt64 - l1.toInt64) + (1 : Int64))), .second, .val (.int (own_bits l1 h1))]) d_prog_60_method_1_134 rfl rfl rfl ?_
  refine A78.goto (q := 47) d_prog_60_method_1_137 (by decide) (by decide) ?_
  refine A78.iload (q := 49) d_prog_60_method_1_47 rfl rfl ?_
  refine A78.aloadN (q := 50) d_prog_60_method_1_49 rfl rfl rfl ?_
  refine A78.len (qn := 51) (i := 1) (z := (3 : Int32)) d_prog_60_method_1_50 rfl (rfl) rfl ?_
  refine A78.icmpNo (q := 54) d_prog_60_method_1_51 (by decide) rfl ?_
  refine A78.aloadN (q := 55) d_prog_60_method_1_54 rfl rfl rfl ?_
  refine A78.iload (q := 57) d_prog_60_method_1_55 rfl rfl ?_
  refine A78.ldI (qn := 58) (i := 2) d_prog_60_method_1_57 rfl (by decide) rfl rfl ?_
  refine A78.i2l (q := 59) d_prog_60_method_1_58 rfl ?_
  refine A78.aloadN (q := 60) d_prog_60_method_1_59 rfl rfl rfl ?_
  refine A78.iload (q := 62) d_prog_60_method_1_60 rfl rfl ?_
  refine A78.ldI (qn := 63) (i := 1) d_prog_60_method_1_62 rfl (by decide) rfl rfl ?_
  refine A78.i2l (q := 64) d_prog_60_method_1_63 rfl ?_
  refine A78.lsub (q := 65) d_prog_60_method_1_64 rfl ?_
  refine A78.lconst (q := 66) (v := 1) d_prog_60_method_1_65 rfl rfl ?_
  refine A78.ladd (q := 67) d_prog_60_method_1_66 rfl ?_
  refine A78.lstore (q := 69) (l' := #[.val (.ref a), .val (.ref b), .val (.ref d), .val (.int 0), .val (.int ((own_bits l0 h0) + (own_bits l1 h1))), .val (.int 2), .val (.long ((h2.toInt64 - l2.toInt64) + (1 : Int64))), .second, .val (.int (own_bits l1 h1))]) d_prog_60_method_1_67 rfl rfl ?_
  refine A78.bipush (q := 71) (v := 64) d_prog_60_method_1_69 rfl rfl ?_
  refine A78.lload (q := 73) d_prog_60_method_1_71 rfl rfl ?_
  refine A78.lconst (q := 74) (v := 1) d_prog_60_method_1_73 rfl rfl ?_
  refine A78.lsub (q := 75) d_prog_60_method_1_74 rfl ?_
  refine Here.callS (qn := 78) (os1 := [(a, ob0 (.ref b5) (.ref b12) (.ref b19) (.ref b26) (.int 0)), (b, .inr (.int, [(.int l0), (.int l1), (.int l2)])), (d, .inr (.int, [(.int h0), (.int h1), (.int h2)])), (b5, .inr (.int, [(.int 0), (.int 0), (.int 0)])), (b12, .inr (.int, [(.int 0), (.int (own_bits l0 h0)), (.int 0)])), (b19, .inr (.long, [(.long (own_mk (own_bits l0 h0))), (.long (own_mk (own_bits l1 h1))), (.long 0)])), (b26, .inr (.int, [(.int l0), (.int l1), (.int l2)]))]) (os2 := []) (rest := [(.int 64)]) (W := 1) (argsL := [(.long (((h2.toInt64 - l2.toInt64) + (1 : Int64)) - (1 : Int64)))]) A78 (m_nlz64 l Z a0 hw ((((h2.toInt64 - l2.toInt64) + (1 : Int64)) - (1 : Int64)))) (Or.inl rfl) (tw hw 40 rfl) (tw hw 41 rfl) (tw hw 42 rfl) (tw hw 43 rfl) (by decide) d_prog_60_method_1_75 rfl (lenOf pd_3 rfl) rfl (Nat.le_of_eq rfl) (by decide) (by decide) (by decide) (by decide) rfl (fun T79 v80 os81 A82 P83 => ?_)
  obtain ⟨rfl, rfl⟩ := P83
  have A84 := A82.cast (k2 := 4) (n2 := 12) (os2 := [(a, ob0 (.ref b5) (.ref b12) (.ref b19) (.ref b26) (.int 0)), (b, .inr (.int, [(.int l0), (.int l1), (.int l2)])), (d, .inr (.int, [(.int h0), (.int h1), (.int h2)])), (b5, .inr (.int, [(.int 0), (.int 0), (.int 0)])), (b12, .inr (.int, [(.int 0), (.int (own_bits l0 h0)), (.int 0)])), (b19, .inr (.long, [(.long (own_mk (own_bits l0 h0))), (.long (own_mk (own_bits l1 h1))), (.long 0)])), (b26, .inr (.int, [(.int l0), (.int l1), (.int l2)]))]) rfl rfl rfl
  refine A84.isub (q := 79) d_prog_60_method_1_78 rfl ?_
  show Wp _ _ _ _ _ _ _ _ _ _ T79 (mkF m 79 #[.val (.ref a), .val (.ref b), .val (.ref d), .val (.int 0), .val (.int ((own_bits l0 h0) + (own_bits l1 h1))), .val (.int 2), .val (.long ((h2.toInt64 - l2.toInt64) + (1 : Int64))), .second, .val (.int (own_bits l1 h1))] [(.int (own_bits l2 h2))])
  refine A84.istore (q := 81) (l' := #[.val (.ref a), .val (.ref b), .val (.ref d), .val (.int 0), .val (.int ((own_bits l0 h0) + (own_bits l1 h1))), .val (.int 2), .val (.long ((h2.toInt64 - l2.toInt64) + (1 : Int64))), .second, .val (.int (own_bits l2 h2))]) d_prog_60_method_1_79 rfl rfl ?_
  refine A84.iload (q := 83) d_prog_60_method_1_81 rfl rfl ?_
  refine A84.iload (q := 85) d_prog_60_method_1_83 rfl rfl ?_
  refine A84.iadd (q := 86) d_prog_60_method_1_85 rfl ?_
  refine A84.bipush (q := 88) (v := 64) d_prog_60_method_1_86 rfl rfl ?_
  by_cases hc88_85 : (64 : Int32) < (((own_bits l0 h0) + (own_bits l1 h1)) + (own_bits l2 h2))
  · refine A84.icmpNo (q := 91) d_prog_60_method_1_88 (tlt hc88_85).2.2.2 rfl ?_
    refine A84.iinc (q := 94) (l' := #[.val (.ref a), .val (.ref b), .val (.ref d), .val (.int 1), .val (.int ((own_bits l0 h0) + (own_bits l1 h1))), .val (.int 2), .val (.long ((h2.toInt64 - l2.toInt64) + (1 : Int64))), .second, .val (.int (own_bits l2 h2))]) d_prog_60_method_1_91 rfl rfl rfl ?_
    refine A84.iconst (q := 95) (v := 0) d_prog_60_method_1_94 rfl rfl ?_
    refine A84.istore (q := 97) (l' := #[.val (.ref a), .val (.ref b), .val (.ref d), .val (.int 1), .val (.int 0), .val (.int 2), .val (.long ((h2.toInt64 - l2.toInt64) + (1 : Int64))), .second, .val (.int (own_bits l2 h2))]) d_prog_60_method_1_95 rfl rfl ?_
    refine A84.aloadN (q := 98) d_prog_60_method_1_97 rfl rfl rfl ?_
    refine A84.getF (qn := 101) (i := 0) (j := 0) (tw hw 22 rfl) Via.refl d_prog_60_method_1_98 rfl rfl rfl (fun T86 A87 => ?_)
    refine A87.iload (q := 103) d_prog_60_method_1_101 rfl rfl ?_
    refine A87.iloadN (q := 104) d_prog_60_method_1_103 rfl rfl ?_
    refine A87.stI (qn := 105) (i := 3) d_prog_60_method_1_104 rfl (by decide) (show (2 : Int32).toNatClampNeg < 3 from by decide) rfl rfl (fun T88 A89 => ?_)
    have A90 := A89.cast (k2 := 4) (n2 := 12) (os2 := [(a, ob0 (.ref b5) (.ref b12) (.ref b19) (.ref b26) (.int 0)), (b, .inr (.int, [(.int l0), (.int l1), (.int l2)])), (d, .inr (.int, [(.int h0), (.int h1), (.int h2)])), (b5, .inr (.int, [(.int 0), (.int 0), (.int 1)])), (b12, .inr (.int, [(.int 0), (.int (own_bits l0 h0)), (.int 0)])), (b19, .inr (.long, [(.long (own_mk (own_bits l0 h0))), (.long (own_mk (own_bits l1 h1))), (.long 0)])), (b26, .inr (.int, [(.int l0), (.int l1), (.int l2)]))]) rfl rfl rfl
    refine A90.aloadN (q := 106) d_prog_60_method_1_105 rfl rfl rfl ?_
    refine A90.getF (qn := 109) (i := 0) (j := 1) (tw hw 24 rfl) Via.refl d_prog_60_method_1_106 rfl rfl rfl (fun T91 A92 => ?_)
    refine A92.iload (q := 111) d_prog_60_method_1_109 rfl rfl ?_
    refine A92.iload (q := 113) d_prog_60_method_1_111 rfl rfl ?_
    refine A92.stI (qn := 114) (i := 4) d_prog_60_method_1_113 rfl (by decide) (show (2 : Int32).toNatClampNeg < 3 from by decide) rfl rfl (fun T93 A94 => ?_)
    have A95 := A94.cast (k2 := 4) (n2 := 12) (os2 := [(a, ob0 (.ref b5) (.ref b12) (.ref b19) (.ref b26) (.int 0)), (b, .inr (.int, [(.int l0), (.int l1), (.int l2)])), (d, .inr (.int, [(.int h0), (.int h1), (.int h2)])), (b5, .inr (.int, [(.int 0), (.int 0), (.int 1)])), (b12, .inr (.int, [(.int 0), (.int (own_bits l0 h0)), (.int 0)])), (b19, .inr (.long, [(.long (own_mk (own_bits l0 h0))), (.long (own_mk (own_bits l1 h1))), (.long 0)])), (b26, .inr (.int, [(.int l0), (.int l1), (.int l2)]))]) rfl rfl rfl
    refine A95.aloadN (q := 115) d_prog_60_method_1_114 rfl rfl rfl ?_
    refine A95.getF (qn := 118) (i := 0) (j := 2) (tw hw 27 rfl) Via.refl d_prog_60_method_1_115 rfl rfl rfl (fun T96 A97 => ?_)
    refine A97.iload (q := 120) d_prog_60_method_1_118 rfl rfl ?_
    refine A97.lconst (q := 121) (v := 1) d_prog_60_method_1_120 rfl rfl ?_
    refine A97.iload (q := 123) d_prog_60_method_1_121 rfl rfl ?_
    refine A97.lshl (q := 124) d_prog_60_method_1_123 rfl ?_
    refine A97.lconst (q := 125) (v := 1) d_prog_60_method_1_124 rfl rfl ?_
    refine A97.lsub (q := 126) d_prog_60_method_1_125 rfl ?_
    show Wp _ _ _ _ _ _ _ _ _ _ T96 (mkF m 126 #[.val (.ref a), .val (.ref b), .val (.ref d), .val (.int 1), .val (.int 0), .val (.int 2), .val (.long ((h2.toInt64 - l2.toInt64) + (1 : Int64))), .second, .val (.int (own_bits l2 h2))] [(.long (own_mk (own_bits l2 h2))), (.int 2), (.ref b19)])
    refine A97.stJ (qn := 127) (i := 5) d_prog_60_method_1_126 rfl (by decide) (show (2 : Int32).toNatClampNeg < 3 from by decide) rfl rfl (fun T98 A99 => ?_)
    have A100 := A99.cast (k2 := 4) (n2 := 12) (os2 := [(a, ob0 (.ref b5) (.ref b12) (.ref b19) (.ref b26) (.int 0)), (b, .inr (.int, [(.int l0), (.int l1), (.int l2)])), (d, .inr (.int, [(.int h0), (.int h1), (.int h2)])), (b5, .inr (.int, [(.int 0), (.int 0), (.int 1)])), (b12, .inr (.int, [(.int 0), (.int (own_bits l0 h0)), (.int 0)])), (b19, .inr (.long, [(.long (own_mk (own_bits l0 h0))), (.long (own_mk (own_bits l1 h1))), (.long (own_mk (own_bits l2 h2)))])), (b26, .inr (.int, [(.int l0), (.int l1), (.int l2)]))]) rfl rfl rfl
    refine A100.iload (q := 129) d_prog_60_method_1_127 rfl rfl ?_
    refine A100.iload (q := 131) d_prog_60_method_1_129 rfl rfl ?_
    refine A100.iadd (q := 132) d_prog_60_method_1_131 rfl ?_
    have hv101 : ((0 : Int32) + (own_bits l2 h2)) = (own_bits l2 h2) := by
      clear hw A0 A2 A4 A6 A8 A9 A11 A13 A15 A16 A18 A20 A22 A23 A25 A27 A29 A31 A32 A36 A38 A42 A44 A45 A47 A49 A50 A52 A54 A55 A60 A62 A65 A67 A68 A70 A72 A73 A75 A77 A78 A82 A84 A87 A89 A90 A92 A94 A95 A97 A99 A100
      exact Int32.zero_add _
    rw [hv101]
    refine A100.istore (q := 134) (l' := #[.val (.ref a), .val (.ref b), .val (.ref d), .val (.int 1), .val (.int (own_bits l2 h2)), .val (.int 2), .val (.long ((h2.toInt64 - l2.toInt64) + (1 : Int64))), .second, .val (.int (own_bits l2 h2))]) d_prog_60_method_1_132 rfl rfl ?_
    refine A100.iinc (q := 137) (l' := #[.val (.ref a), .val (.ref b), .val (.ref d), .val (.int 1), .val (.int (own_bits l2 h2)), .val (.int 3), .val (.long ((h2.toInt64 - l2.toInt64) + (1 : Int64))), .second, .val (.int (own_bits l2 h2))]) d_prog_60_method_1_134 rfl rfl rfl ?_
    refine A100.goto (q := 47) d_prog_60_method_1_137 (by decide) (by decide) ?_
    refine A100.iload (q := 49) d_prog_60_method_1_47 rfl rfl ?_
    refine A100.aloadN (q := 50) d_prog_60_method_1_49 rfl rfl rfl ?_
    refine A100.len (qn := 51) (i := 1) (z := (3 : Int32)) d_prog_60_method_1_50 rfl (rfl) rfl ?_
    refine A100.icmpYes (q := 140) d_prog_60_method_1_51 (by decide) (by decide) (by decide) ?_
    refine A100.aloadN (q := 141) d_prog_60_method_1_140 rfl rfl rfl ?_
    refine A100.iloadN (q := 142) d_prog_60_method_1_141 rfl rfl ?_
    refine A100.iconst (q := 143) (v := 1) d_prog_60_method_1_142 rfl rfl ?_
    refine A100.iadd (q := 144) d_prog_60_method_1_143 rfl ?_
    refine Wp.top (v' := (.int 2)) rfl ?_
    refine A100.putF (qn := 147) (i := 0) (j := 4) (ty := .int) (tw hw 49 rfl) Via.refl (Or.inr ⟨(tw hw 50 rfl), rfl, rfl⟩) (tw hw 14 rfl) (by decide) rfl rfl d_prog_60_method_1_144 rfl rfl rfl rfl (fun T102 A103 => ?_)
    have A104 := A103.cast (k2 := 4) (n2 := 12) (os2 := [(a, ob0 (.ref b5) (.ref b12) (.ref b19) (.ref b26) (.int 2)), (b, .inr (.int, [(.int l0), (.int l1), (.int l2)])), (d, .inr (.int, [(.int h0), (.int h1), (.int h2)])), (b5, .inr (.int, [(.int 0), (.int 0), (.int 1)])), (b12, .inr (.int, [(.int 0), (.int (own_bits l0 h0)), (.int 0)])), (b19, .inr (.long, [(.long (own_mk (own_bits l0 h0))), (.long (own_mk (own_bits l1 h1))), (.long (own_mk (own_bits l2 h2)))])), (b26, .inr (.int, [(.int l0), (.int l1), (.int l2)]))]) rfl rfl rfl
    refine A104.retV d_prog_60_method_1_147 (by decide) (by decide) ⟨b5, b12, b19, b26, (1 : Int32), (0 : Int32), (2 : Int32), rfl, rfl, ?_⟩
    clear hw A0 A2 A4 A6 A8 A9 A11 A13 A15 A16 A18 A20 A22 A23 A25 A27 A29 A31 A32 A36 A38 A42 A44 A45 A47 A49 A50 A52 A54 A55 A60 A62 A65 A67 A68 A70 A72 A73 A75 A77 A78 A82 A84 A87 A89 A90 A92 A94 A95 A97 A99 A100 A103 A104
    (try simp only [true_and, and_true, false_and, and_false, true_or, or_true, false_or, or_false, not_true_eq_false, not_false_eq_true, Int32.lt_iff_toInt_lt, Int64.lt_iff_toInt_lt, Int32.le_iff_toInt_le, Int64.le_iff_toInt_le, ← Int32.toInt_inj, ← Int64.toInt_inj, Int32.toInt_add, Int32.toInt_sub, Int32.toInt_neg, Int64.toInt_add, Int64.toInt_sub, Int64.toInt_neg, Int64.toInt_mul, Int32.toInt_toInt64, bm32, bm64, l32_0, l32_1, l32_2, l32_3, l32_32, l32_64, l64_0, l64_1] at hb0 hb1 hb2 hc88_40 hc88_63 hc88_85 ⊢) <;> omega
  · refine A84.icmpYes (q := 97) d_prog_60_method_1_88 (flt hc88_85).2.2.2 (by decide) (by decide) ?_
    refine A84.aloadN (q := 98) d_prog_60_method_1_97 rfl rfl rfl ?_
    refine A84.getF (qn := 101) (i := 0) (j := 0) (tw hw 22 rfl) Via.refl d_prog_60_method_1_98 rfl rfl rfl (fun T105 A106 => ?_)
    refine A106.iload (q := 103) d_prog_60_method_1_101 rfl rfl ?_
    refine A106.iloadN (q := 104) d_prog_60_method_1_103 rfl rfl ?_
    refine A106.stI (qn := 105) (i := 3) d_prog_60_method_1_104 rfl (by decide) (show (2 : Int32).toNatClampNeg < 3 from by decide) rfl rfl (fun T107 A108 => ?_)
    have A109 := A108.cast (k2 := 4) (n2 := 12) (os2 := [(a, ob0 (.ref b5) (.ref b12) (.ref b19) (.ref b26) (.int 0)), (b, .inr (.int, [(.int l0), (.int l1), (.int l2)])), (d, .inr (.int, [(.int h0), (.int h1), (.int h2)])), (b5, .inr (.int, [(.int 0), (.int 0), (.int 0)])), (b12, .inr (.int, [(.int 0), (.int (own_bits l0 h0)), (.int 0)])), (b19, .inr (.long, [(.long (own_mk (own_bits l0 h0))), (.long (own_mk (own_bits l1 h1))), (.long 0)])), (b26, .inr (.int, [(.int l0), (.int l1), (.int l2)]))]) rfl rfl rfl
    refine A109.aloadN (q := 106) d_prog_60_method_1_105 rfl rfl rfl ?_
    refine A109.getF (qn := 109) (i := 0) (j := 1) (tw hw 24 rfl) Via.refl d_prog_60_method_1_106 rfl rfl rfl (fun T110 A111 => ?_)
    refine A111.iload (q := 111) d_prog_60_method_1_109 rfl rfl ?_
    refine A111.iload (q := 113) d_prog_60_method_1_111 rfl rfl ?_
    refine A111.stI (qn := 114) (i := 4) d_prog_60_method_1_113 rfl (by decide) (show (2 : Int32).toNatClampNeg < 3 from by decide) rfl rfl (fun T112 A113 => ?_)
    have A114 := A113.cast (k2 := 4) (n2 := 12) (os2 := [(a, ob0 (.ref b5) (.ref b12) (.ref b19) (.ref b26) (.int 0)), (b, .inr (.int, [(.int l0), (.int l1), (.int l2)])), (d, .inr (.int, [(.int h0), (.int h1), (.int h2)])), (b5, .inr (.int, [(.int 0), (.int 0), (.int 0)])), (b12, .inr (.int, [(.int 0), (.int (own_bits l0 h0)), (.int ((own_bits l0 h0) + (own_bits l1 h1)))])), (b19, .inr (.long, [(.long (own_mk (own_bits l0 h0))), (.long (own_mk (own_bits l1 h1))), (.long 0)])), (b26, .inr (.int, [(.int l0), (.int l1), (.int l2)]))]) rfl rfl rfl
    refine A114.aloadN (q := 115) d_prog_60_method_1_114 rfl rfl rfl ?_
    refine A114.getF (qn := 118) (i := 0) (j := 2) (tw hw 27 rfl) Via.refl d_prog_60_method_1_115 rfl rfl rfl (fun T115 A116 => ?_)
    refine A116.iload (q := 120) d_prog_60_method_1_118 rfl rfl ?_
    refine A116.lconst (q := 121) (v := 1) d_prog_60_method_1_120 rfl rfl ?_
    refine A116.iload (q := 123) d_prog_60_method_1_121 rfl rfl ?_
    refine A116.lshl (q := 124) d_prog_60_method_1_123 rfl ?_
    refine A116.lconst (q := 125) (v := 1) d_prog_60_method_1_124 rfl rfl ?_
    refine A116.lsub (q := 126) d_prog_60_method_1_125 rfl ?_
    show Wp _ _ _ _ _ _ _ _ _ _ T115 (mkF m 126 #[.val (.ref a), .val (.ref b), .val (.ref d), .val (.int 0), .val (.int ((own_bits l0 h0) + (own_bits l1 h1))), .val (.int 2), .val (.long ((h2.toInt64 - l2.toInt64) + (1 : Int64))), .second, .val (.int (own_bits l2 h2))] [(.long (own_mk (own_bits l2 h2))), (.int 2), (.ref b19)])
    refine A116.stJ (qn := 127) (i := 5) d_prog_60_method_1_126 rfl (by decide) (show (2 : Int32).toNatClampNeg < 3 from by decide) rfl rfl (fun T117 A118 => ?_)
    have A119 := A118.cast (k2 := 4) (n2 := 12) (os2 := [(a, ob0 (.ref b5) (.ref b12) (.ref b19) (.ref b26) (.int 0)), (b, .inr (.int, [(.int l0), (.int l1), (.int l2)])), (d, .inr (.int, [(.int h0), (.int h1), (.int h2)])), (b5, .inr (.int, [(.int 0), (.int 0), (.int 0)])), (b12, .inr (.int, [(.int 0), (.int (own_bits l0 h0)), (.int ((own_bits l0 h0) + (own_bits l1 h1)))])), (b19, .inr (.long, [(.long (own_mk (own_bits l0 h0))), (.long (own_mk (own_bits l1 h1))), (.long (own_mk (own_bits l2 h2)))])), (b26, .inr (.int, [(.int l0), (.int l1), (.int l2)]))]) rfl rfl rfl
    refine A119.iload (q := 129) d_prog_60_method_1_127 rfl rfl ?_
    refine A119.iload (q := 131) d_prog_60_method_1_129 rfl rfl ?_
    refine A119.iadd (q := 132) d_prog_60_method_1_131 rfl ?_
    refine A119.istore (q := 134) (l' := #[.val (.ref a), .val (.ref b), .val (.ref d), .val (.int 0), .val (.int (((own_bits l0 h0) + (own_bits l1 h1)) + (own_bits l2 h2))), .val (.int 2), .val (.long ((h2.toInt64 - l2.toInt64) + (1 : Int64))), .second, .val (.int (own_bits l2 h2))]) d_prog_60_method_1_132 rfl rfl ?_
    refine A119.iinc (q := 137) (l' := #[.val (.ref a), .val (.ref b), .val (.ref d), .val (.int 0), .val (.int (((own_bits l0 h0) + (own_bits l1 h1)) + (own_bits l2 h2))), .val (.int 3), .val (.long ((h2.toInt64 - l2.toInt64) + (1 : Int64))), .second, .val (.int (own_bits l2 h2))]) d_prog_60_method_1_134 rfl rfl rfl ?_
    refine A119.goto (q := 47) d_prog_60_method_1_137 (by decide) (by decide) ?_
    refine A119.iload (q := 49) d_prog_60_method_1_47 rfl rfl ?_
    refine A119.aloadN (q := 50) d_prog_60_method_1_49 rfl rfl rfl ?_
    refine A119.len (qn := 51) (i := 1) (z := (3 : Int32)) d_prog_60_method_1_50 rfl (rfl) rfl ?_
    refine A119.icmpYes (q := 140) d_prog_60_method_1_51 (by decide) (by decide) (by decide) ?_
    refine A119.aloadN (q := 141) d_prog_60_method_1_140 rfl rfl rfl ?_
    refine A119.iloadN (q := 142) d_prog_60_method_1_141 rfl rfl ?_
    refine A119.iconst (q := 143) (v := 1) d_prog_60_method_1_142 rfl rfl ?_
    refine A119.iadd (q := 144) d_prog_60_method_1_143 rfl ?_
    refine Wp.top (v' := (.int 1)) rfl ?_
    refine A119.putF (qn := 147) (i := 0) (j := 4) (ty := .int) (tw hw 49 rfl) Via.refl (Or.inr ⟨(tw hw 50 rfl), rfl, rfl⟩) (tw hw 14 rfl) (by decide) rfl rfl d_prog_60_method_1_144 rfl rfl rfl rfl (fun T120 A121 => ?_)
    have A122 := A121.cast (k2 := 4) (n2 := 12) (os2 := [(a, ob0 (.ref b5) (.ref b12) (.ref b19) (.ref b26) (.int 1)), (b, .inr (.int, [(.int l0), (.int l1), (.int l2)])), (d, .inr (.int, [(.int h0), (.int h1), (.int h2)])), (b5, .inr (.int, [(.int 0), (.int 0), (.int 0)])), (b12, .inr (.int, [(.int 0), (.int (own_bits l0 h0)), (.int ((own_bits l0 h0) + (own_bits l1 h1)))])), (b19, .inr (.long, [(.long (own_mk (own_bits l0 h0))), (.long (own_mk (own_bits l1 h1))), (.long (own_mk (own_bits l2 h2)))])), (b26, .inr (.int, [(.int l0), (.int l1), (.int l2)]))]) rfl rfl rfl
    refine A122.retV d_prog_60_method_1_147 (by decide) (by decide) ⟨b5, b12, b19, b26, (0 : Int32), ((own_bits l0 h0) + (own_bits l1 h1)), (1 : Int32), rfl, rfl, ?_⟩
    clear hw A0 A2 A4 A6 A8 A9 A11 A13 A15 A16 A18 A20 A22 A23 A25 A27 A29 A31 A32 A36 A38 A42 A44 A45 A47 A49 A50 A52 A54 A55 A60 A62 A65 A67 A68 A70 A72 A73 A75 A77 A78 A82 A84 A106 A108 A109 A111 A113 A114 A116 A118 A119 A121 A122
    (try simp only [true_and, and_true, false_and, and_false, true_or, or_true, false_or, or_false, not_true_eq_false, not_false_eq_true, Int32.lt_iff_toInt_lt, Int64.lt_iff_toInt_lt, Int32.le_iff_toInt_le, Int64.le_iff_toInt_le, ← Int32.toInt_inj, ← Int64.toInt_inj, Int32.toInt_add, Int32.toInt_sub, Int32.toInt_neg, Int64.toInt_add, Int64.toInt_sub, Int64.toInt_neg, Int64.toInt_mul, Int32.toInt_toInt64, bm32, bm64, l32_0, l32_1, l32_2, l32_3, l32_32, l32_64, l64_0, l64_1] at hb0 hb1 hb2 hc88_40 hc88_63 hc88_85 ⊢) <;> omega
theorem d_method_3_0 : decode method_3_code 0 = .ok (.lload 4, 2) := by decide +kernel
theorem d_method_3_2 : decode method_3_code 2 = .ok (.l2i, 1) := by decide +kernel
theorem d_method_3_3 : decode method_3_code 3 = .ok (.istore 7, 2) := by decide +kernel
theorem d_method_3_5 : decode method_3_code 5 = .ok (.lload 4, 2) := by decide +kernel
theorem d_method_3_7 : decode method_3_code 7 = .ok (.bipush 32, 2) := by decide +kernel
theorem d_method_3_9 : decode method_3_code 9 = .ok (.lushr, 1) := by decide +kernel
theorem d_method_3_10 : decode method_3_code 10 = .ok (.l2i, 1) := by decide +kernel
theorem d_method_3_11 : decode method_3_code 11 = .ok (.istore 8, 2) := by decide +kernel
theorem d_method_3_13 : decode method_3_code 13 = .ok (.iload 7, 2) := by decide +kernel
theorem d_method_3_15 : decode method_3_code 15 = .ok (.iload 8, 2) := by decide +kernel
theorem d_method_3_17 : decode method_3_code 17 = .ok (.invokestatic 30, 3) := by decide +kernel
theorem pd_5 : parseMethodDescriptor "(II)I" = some ⟨[.int, .int], some .int⟩ := by decide +kernel
theorem d_method_3_20 : decode method_3_code 20 = .ok (.istore 9, 2) := by decide +kernel
theorem d_method_3_22 : decode method_3_code 22 = .ok (.iload 7, 2) := by decide +kernel
theorem d_method_3_24 : decode method_3_code 24 = .ok (.iload 8, 2) := by decide +kernel
theorem d_method_3_26 : decode method_3_code 26 = .ok (.invokestatic 36, 3) := by decide +kernel
theorem d_method_3_29 : decode method_3_code 29 = .ok (.istore 10, 2) := by decide +kernel
theorem d_method_3_31 : decode method_3_code 31 = .ok (.iload 10, 2) := by decide +kernel
theorem d_method_3_33 : decode method_3_code 33 = .ok (.i2l, 1) := by decide +kernel
theorem d_method_3_34 : decode method_3_code 34 = .ok (.iload 9, 2) := by decide +kernel
theorem d_method_3_36 : decode method_3_code 36 = .ok (.i2l, 1) := by decide +kernel
theorem d_method_3_37 : decode method_3_code 37 = .ok (.lsub, 1) := by decide +kernel
theorem d_method_3_38 : decode method_3_code 38 = .ok (.lconst 1, 1) := by decide +kernel
theorem d_method_3_39 : decode method_3_code 39 = .ok (.ladd, 1) := by decide +kernel
theorem d_method_3_40 : decode method_3_code 40 = .ok (.lstore 11, 2) := by decide +kernel
theorem d_method_3_42 : decode method_3_code 42 = .ok (.iload 6, 2) := by decide +kernel
theorem d_method_3_44 : decode method_3_code 44 = .ok (.i2l, 1) := by decide +kernel
theorem d_method_3_45 : decode method_3_code 45 = .ok (.ldc2_w 39, 3) := by decide +kernel
theorem d_method_3_48 : decode method_3_code 48 = .ok (.land, 1) := by decide +kernel
theorem d_method_3_49 : decode method_3_code 49 = .ok (.lload 11, 2) := by decide +kernel
theorem d_method_3_51 : decode method_3_code 51 = .ok (.lrem, 1) := by decide +kernel
theorem d_method_3_52 : decode method_3_code 52 = .ok (.lstore 13, 2) := by decide +kernel
theorem d_method_3_54 : decode method_3_code 54 = .ok (.aload_n 0, 1) := by decide +kernel
theorem d_method_3_55 : decode method_3_code 55 = .ok (.iload_n 3, 1) := by decide +kernel
theorem d_method_3_56 : decode method_3_code 56 = .ok (.iload 9, 2) := by decide +kernel
theorem d_method_3_58 : decode method_3_code 58 = .ok (.iastore, 1) := by decide +kernel
theorem d_method_3_59 : decode method_3_code 59 = .ok (.aload_n 1, 1) := by decide +kernel
theorem d_method_3_60 : decode method_3_code 60 = .ok (.iload_n 3, 1) := by decide +kernel
theorem d_method_3_61 : decode method_3_code 61 = .ok (.iload 10, 2) := by decide +kernel
theorem d_method_3_63 : decode method_3_code 63 = .ok (.iastore, 1) := by decide +kernel
theorem d_method_3_64 : decode method_3_code 64 = .ok (.aload_n 2, 1) := by decide +kernel
theorem d_method_3_65 : decode method_3_code 65 = .ok (.iload_n 3, 1) := by decide +kernel
theorem d_method_3_66 : decode method_3_code 66 = .ok (.iload 9, 2) := by decide +kernel
theorem d_method_3_68 : decode method_3_code 68 = .ok (.i2l, 1) := by decide +kernel
theorem d_method_3_69 : decode method_3_code 69 = .ok (.lload 13, 2) := by decide +kernel
theorem d_method_3_71 : decode method_3_code 71 = .ok (.ladd, 1) := by decide +kernel
theorem d_method_3_72 : decode method_3_code 72 = .ok (.l2i, 1) := by decide +kernel
theorem d_method_3_73 : decode method_3_code 73 = .ok (.iastore, 1) := by decide +kernel
theorem d_method_3_74 : decode method_3_code 74 = .ok (.return_, 1) := by decide +kernel
theorem pn_6 : plainName "com/example/nomoc/nomoc/checker/StateLayoutPackPinLaw" = true := by first | (simp [plainName, overriddenIn]; done) | decide +kernel
theorem ef_m_fill0 (m : MethodId) (x0 : Addr) (x1 : Addr) (x2 : Addr) (x4 : Int64) (x5 : Int32) : entryFrame m #[(.ref x0), (.ref x1), (.ref x2), (.int 0), (.long x4), (.int x5)] 15 = mkF m 0 #[.val (.ref x0), .val (.ref x1), .val (.ref x2), .val (.int 0), .val (.long x4), .second, .val (.int x5), .unset, .unset, .unset, .unset, .unset, .unset, .unset, .unset] [] := by first | (simp [entryFrame, mkF, argsToLocals, Value.category]; done) | rfl
set_option maxRecDepth 65536 in
set_option maxHeartbeats 40000000 in
theorem m_fill0 (l : Launch) (Z : State) (a0 : Array Value) (hw : ∀ d ∈ tables_1, d.before a0 Z = true) (b : Addr) (d : Addr) (g : Addr) (q : Int64) (z : Int32) (l0 : Int32) (l1 : Int32) (l2 : Int32) (h0 : Int32) (h1 : Int32) (h2 : Int32) (v0 : Int32) (v1 : Int32) (v2 : Int32) :
    Pays l Z a0 (⟨"com/example/nomoc/nomoc/checker/StateLayoutPackPinLaw", "fill", "([I[I[IIJI)V"⟩ : MethodName) method_3_code 15 none ({ frames := 1, cells := 0, slots := 0, locals := 13 } : Room) #[(.ref b), (.ref d), (.ref g), (.int 0), (.long q), (.int z)] [(b, .inr (.int, [(.int l0), (.int l1), (.int l2)])), (d, .inr (.int, [(.int h0), (.int h1), (.int h2)])), (g, .inr (.int, [(.int v0), (.int v1), (.int v2)]))] (([(b, .inr (.int, [(.int l0), (.int l1), (.int l2)])), (d, .inr (.int, [(.int h0), (.int h1), (.int h2)])), (g, .inr (.int, [(.int v0), (.int v1), (.int v2)]))] : Hs).map (·.1)) (fun v os' => v = none ∧ os' = [(b, .inr (.int, [(.int (own_lo q)), (.int l1), (.int l2)])), (d, .inr (.int, [(.int (own_hi q)), (.int h1), (.int h2)])), (g, .inr (.int, [(.int (own_v3 q z)), (.int v1), (.int v2)]))]) := by
  refine Pays.of (Ls := #[.val (.ref b), .val (.ref d), .val (.ref g), .val (.int 0), .val (.long q), .second, .val (.int z), .unset, .unset, .unset, .unset, .unset, .unset, .unset, .unset]) (plainFor_of_name pn_6) (fun m => ef_m_fill0 m b d g q z) ?_
  intro p e s m below meth c T0 A0
  refine A0.lload (q := 2) d_method_3_0 rfl rfl ?_
  refine A0.l2i (q := 3) d_method_3_2 rfl ?_
  refine A0.istore (q := 5) (l' := #[.val (.ref b), .val (.ref d), .val (.ref g), .val (.int 0), .val (.long q), .second, .val (.int z), .val (.int q.toInt32), .unset, .unset, .unset, .unset, .unset, .unset, .unset]) d_method_3_3 rfl rfl ?_
  refine A0.lload (q := 7) d_method_3_5 rfl rfl ?_
  refine A0.bipush (q := 9) (v := 32) d_method_3_7 rfl rfl ?_
  refine A0.lushr (q := 10) d_method_3_9 rfl ?_
  refine A0.l2i (q := 11) d_method_3_10 rfl ?_
  show Wp _ _ _ _ _ _ _ _ _ _ T0 (mkF m 11 #[.val (.ref b), .val (.ref d), .val (.ref g), .val (.int 0), .val (.long q), .second, .val (.int z), .val (.int q.toInt32), .unset, .unset, .unset, .unset, .unset, .unset, .unset] [(.int (own_h32 q))])
  refine A0.istore (q := 13) (l' := #[.val (.ref b), .val (.ref d), .val (.ref g), .val (.int 0), .val (.long q), .second, .val (.int z), .val (.int q.toInt32), .val (.int (own_h32 q)), .unset, .unset, .unset, .unset, .unset, .unset]) d_method_3_11 rfl rfl ?_
  refine A0.iload (q := 15) d_method_3_13 rfl rfl ?_
  refine A0.iload (q := 17) d_method_3_15 rfl rfl ?_
  refine Here.callS (qn := 20) (os1 := [(b, .inr (.int, [(.int l0), (.int l1), (.int l2)])), (d, .inr (.int, [(.int h0), (.int h1), (.int h2)])), (g, .inr (.int, [(.int v0), (.int v1), (.int v2)]))]) (os2 := []) (rest := []) (W := 0) (argsL := [(.int q.toInt32), (.int (own_h32 q))]) A0 (m_min l Z a0 hw (q.toInt32) ((own_h32 q))) (Or.inl rfl) (tw hw 5 rfl) (tw hw 6 rfl) (tw hw 7 rfl) (tw hw 8 rfl) (by decide) d_method_3_17 rfl (lenOf pd_5 rfl) rfl (Nat.le_of_eq rfl) (by decide) (by decide) (by decide) (by decide) rfl (fun T1 v2 os3 A4 P5 => ?_)
  obtain ⟨rfl, rfl⟩ := P5
  have A6 := A4.cast (k2 := 0) (n2 := 0) (os2 := [(b, .inr (.int, [(.int l0), (.int l1), (.int l2)])), (d, .inr (.int, [(.int h0), (.int h1), (.int h2)])), (g, .inr (.int, [(.int v0), (.int v1), (.int v2)]))]) rfl rfl rfl
  show Wp _ _ _ _ _ _ _ _ _ _ T1 (mkF m 20 #[.val (.ref b), .val (.ref d), .val (.ref g), .val (.int 0), .val (.long q), .second, .val (.int z), .val (.int q.toInt32), .val (.int (own_h32 q)), .unset, .unset, .unset, .unset, .unset, .unset] [(.int (own_lo q))])
  refine A6.istore (q := 22) (l' := #[.val (.ref b), .val (.ref d), .val (.ref g), .val (.int 0), .val (.long q), .second, .val (.int z), .val (.int q.toInt32), .val (.int (own_h32 q)), .val (.int (own_lo q)), .unset, .unset, .unset, .unset, .unset]) d_method_3_20 rfl rfl ?_
  refine A6.iload (q := 24) d_method_3_22 rfl rfl ?_
  refine A6.iload (q := 26) d_method_3_24 rfl rfl ?_
  refine Here.callS (qn := 29) (os1 := [(b, .inr (.int, [(.int l0), (.int l1), (.int l2)])), (d, .inr (.int, [(.int h0), (.int h1), (.int h2)])), (g, .inr (.int, [(.int v0), (.int v1), (.int v2)]))]) (os2 := []) (rest := []) (W := 0) (argsL := [(.int q.toInt32), (.int (own_h32 q))]) A6 (m_max l Z a0 hw (q.toInt32) ((own_h32 q))) (Or.inl rfl) (tw hw 9 rfl) (tw hw 10 rfl) (tw hw 7 rfl) (tw hw 11 rfl) (by decide) d_method_3_26 rfl (lenOf pd_5 rfl) rfl (Nat.le_of_eq rfl) (by decide) (by decide) (by decide) (by decide) rfl (fun T7 v8 os9 A10 P11 => ?_)
  obtain ⟨rfl, rfl⟩ := P11
  have A12 := A10.cast (k2 := 0) (n2 := 0) (os2 := [(b, .inr (.int, [(.int l0), (.int l1), (.int l2)])), (d, .inr (.int, [(.int h0), (.int h1), (.int h2)])), (g, .inr (.int, [(.int v0), (.int v1), (.int v2)]))]) rfl rfl rfl
  show Wp _ _ _ _ _ _ _ _ _ _ T7 (mkF m 29 #[.val (.ref b), .val (.ref d), .val (.ref g), .val (.int 0), .val (.long q), .second, .val (.int z), .val (.int q.toInt32), .val (.int (own_h32 q)), .val (.int (own_lo q)), .unset, .unset, .unset, .unset, .unset] [(.int (own_hi q))])
  refine A12.istore (q := 31) (l' := #[.val (.ref b), .val (.ref d), .val (.ref g), .val (.int 0), .val (.long q), .second, .val (.int z), .val (.int q.toInt32), .val (.int (own_h32 q)), .val (.int (own_lo q)), .val (.int (own_hi q)), .unset, .unset, .unset, .unset]) d_method_3_29 rfl rfl ?_
  refine A12.iload (q := 33) d_method_3_31 rfl rfl ?_
  refine A12.i2l (q := 34) d_method_3_33 rfl ?_
  refine A12.iload (q := 36) d_method_3_34 rfl rfl ?_
  refine A12.i2l (q := 37) d_method_3_36 rfl ?_
  refine A12.lsub (q := 38) d_method_3_37 rfl ?_
  refine A12.lconst (q := 39) (v := 1) d_method_3_38 rfl rfl ?_
  refine A12.ladd (q := 40) d_method_3_39 rfl ?_
  refine A12.lstore (q := 42) (l' := #[.val (.ref b), .val (.ref d), .val (.ref g), .val (.int 0), .val (.long q), .second, .val (.int z), .val (.int q.toInt32), .val (.int (own_h32 q)), .val (.int (own_lo q)), .val (.int (own_hi q)), .val (.long (((own_hi q).toInt64 - (own_lo q).toInt64) + (1 : Int64))), .second, .unset, .unset]) d_method_3_40 rfl rfl ?_
  refine A12.iload (q := 44) d_method_3_42 rfl rfl ?_
  refine A12.i2l (q := 45) d_method_3_44 rfl ?_
  refine A12.ldc2 (qn := 48) (v := 4294967295) (tw hw 12 rfl) d_method_3_45 rfl ?_
  refine A12.land (q := 49) d_method_3_48 rfl ?_
  refine A12.lload (q := 51) d_method_3_49 rfl rfl ?_
  refine A12.lrem (qn := 52) d_method_3_51 (own_nz3 q) rfl ?_
  refine A12.lstore (q := 54) (l' := #[.val (.ref b), .val (.ref d), .val (.ref g), .val (.int 0), .val (.long q), .second, .val (.int z), .val (.int q.toInt32), .val (.int (own_h32 q)), .val (.int (own_lo q)), .val (.int (own_hi q)), .val (.long (((own_hi q).toInt64 - (own_lo q).toInt64) + (1 : Int64))), .second, .val (.long ((z.toInt64 &&& (4294967295 : Int64)) % (((own_hi q).toInt64 - (own_lo q).toInt64) + (1 : Int64)))), .second]) d_method_3_52 rfl rfl ?_
  refine A12.aloadN (q := 55) d_method_3_54 rfl rfl rfl ?_
  refine A12.iloadN (q := 56) d_method_3_55 rfl rfl ?_
  refine A12.iload (q := 58) d_method_3_56 rfl rfl ?_
  refine A12.stI (qn := 59) (i := 0) d_method_3_58 rfl (by decide) (show (0 : Int32).toNatClampNeg < 3 from by decide) rfl rfl (fun T13 A14 => ?_)
  have A15 := A14.cast (k2 := 0) (n2 := 0) (os2 := [(b, .inr (.int, [(.int (own_lo q)), (.int l1), (.int l2)])), (d, .inr (.int, [(.int h0), (.int h1), (.int h2)])), (g, .inr (.int, [(.int v0), (.int v1), (.int v2)]))]) rfl rfl rfl
  refine A15.aloadN (q := 60) d_method_3_59 rfl rfl rfl ?_
  refine A15.iloadN (q := 61) d_method_3_60 rfl rfl ?_
  refine A15.iload (q := 63) d_method_3_61 rfl rfl ?_
  refine A15.stI (qn := 64) (i := 1) d_method_3_63 rfl (by decide) (show (0 : Int32).toNatClampNeg < 3 from by decide) rfl rfl (fun T16 A17 => ?_)
  have A18 := A17.cast (k2 := 0) (n2 := 0) (os2 := [(b, .inr (.int, [(.int (own_lo q)), (.int l1), (.int l2)])), (d, .inr (.int, [(.int (own_hi q)), (.int h1), (.int h2)])), (g, .inr (.int, [(.int v0), (.int v1), (.int v2)]))]) rfl rfl rfl
  refine A18.aloadN (q := 65) d_method_3_64 rfl rfl rfl ?_
  refine A18.iloadN (q := 66) d_method_3_65 rfl rfl ?_
  refine A18.iload (q := 68) d_method_3_66 rfl rfl ?_
  refine A18.i2l (q := 69) d_method_3_68 rfl ?_
  refine A18.lload (q := 71) d_method_3_69 rfl rfl ?_
  refine A18.ladd (q := 72) d_method_3_71 rfl ?_
  refine A18.l2i (q := 73) d_method_3_72 rfl ?_
  show Wp _ _ _ _ _ _ _ _ _ _ T16 (mkF m 73 #[.val (.ref b), .val (.ref d), .val (.ref g), .val (.int 0), .val (.long q), .second, .val (.int z), .val (.int q.toInt32), .val (.int (own_h32 q)), .val (.int (own_lo q)), .val (.int (own_hi q)), .val (.long (((own_hi q).toInt64 - (own_lo q).toInt64) + (1 : Int64))), .second, .val (.long ((z.toInt64 &&& (4294967295 : Int64)) % (((own_hi q).toInt64 - (own_lo q).toInt64) + (1 : Int64)))), .second] [(.int (own_v3 q z)), (.int 0), (.ref g)])
  refine A18.stI (qn := 74) (i := 2) d_method_3_73 rfl (by decide) (show (0 : Int32).toNatClampNeg < 3 from by decide) rfl rfl (fun T19 A20 => ?_)
  have A21 := A20.cast (k2 := 0) (n2 := 0) (os2 := [(b, .inr (.int, [(.int (own_lo q)), (.int l1), (.int l2)])), (d, .inr (.int, [(.int (own_hi q)), (.int h1), (.int h2)])), (g, .inr (.int, [(.int (own_v3 q z)), (.int v1), (.int v2)]))]) rfl rfl rfl
  exact A21.retV d_method_3_74 (by decide) (by decide) ⟨rfl, rfl⟩
theorem ef_m_fill1 (m : MethodId) (x0 : Addr) (x1 : Addr) (x2 : Addr) (x4 : Int64) (x5 : Int32) : entryFrame m #[(.ref x0), (.ref x1), (.ref x2), (.int 1), (.long x4), (.int x5)] 15 = mkF m 0 #[.val (.ref x0), .val (.ref x1), .val (.ref x2), .val (.int 1), .val (.long x4), .second, .val (.int x5), .unset, .unset, .unset, .unset, .unset, .unset, .unset, .unset] [] := by first | (simp [entryFrame, mkF, argsToLocals, Value.category]; done) | rfl
set_option maxRecDepth 65536 in
set_option maxHeartbeats 40000000 in
theorem m_fill1 (l : Launch) (Z : State) (a0 : Array Value) (hw : ∀ d ∈ tables_1, d.before a0 Z = true) (b : Addr) (d : Addr) (g : Addr) (q : Int64) (z : Int32) (l0 : Int32) (l1 : Int32) (l2 : Int32) (h0 : Int32) (h1 : Int32) (h2 : Int32) (v0 : Int32) (v1 : Int32) (v2 : Int32) :
    Pays l Z a0 (⟨"com/example/nomoc/nomoc/checker/StateLayoutPackPinLaw", "fill", "([I[I[IIJI)V"⟩ : MethodName) method_3_code 15 none ({ frames := 1, cells := 0, slots := 0, locals := 13 } : Room) #[(.ref b), (.ref d), (.ref g), (.int 1), (.long q), (.int z)] [(b, .inr (.int, [(.int l0), (.int l1), (.int l2)])), (d, .inr (.int, [(.int h0), (.int h1), (.int h2)])), (g, .inr (.int, [(.int v0), (.int v1), (.int v2)]))] (([(b, .inr (.int, [(.int l0), (.int l1), (.int l2)])), (d, .inr (.int, [(.int h0), (.int h1), (.int h2)])), (g, .inr (.int, [(.int v0), (.int v1), (.int v2)]))] : Hs).map (·.1)) (fun v os' => v = none ∧ os' = [(b, .inr (.int, [(.int l0), (.int (own_lo q)), (.int l2)])), (d, .inr (.int, [(.int h0), (.int (own_hi q)), (.int h2)])), (g, .inr (.int, [(.int v0), (.int (own_v3 q z)), (.int v2)]))]) := by
  refine Pays.of (Ls := #[.val (.ref b), .val (.ref d), .val (.ref g), .val (.int 1), .val (.long q), .second, .val (.int z), .unset, .unset, .unset, .unset, .unset, .unset, .unset, .unset]) (plainFor_of_name pn_6) (fun m => ef_m_fill1 m b d g q z) ?_
  intro p e s m below meth c T0 A0
  refine A0.lload (q := 2) d_method_3_0 rfl rfl ?_
  refine A0.l2i (q := 3) d_method_3_2 rfl ?_
  refine A0.istore (q := 5) (l' := #[.val (.ref b), .val (.ref d), .val (.ref g), .val (.int 1), .val (.long q), .second, .val (.int z), .val (.int q.toInt32), .unset, .unset, .unset, .unset, .unset, .unset, .unset]) d_method_3_3 rfl rfl ?_
  refine A0.lload (q := 7) d_method_3_5 rfl rfl ?_
  refine A0.bipush (q := 9) (v := 32) d_method_3_7 rfl rfl ?_
  refine A0.lushr (q := 10) d_method_3_9 rfl ?_
  refine A0.l2i (q := 11) d_method_3_10 rfl ?_
  show Wp _ _ _ _ _ _ _ _ _ _ T0 (mkF m 11 #[.val (.ref b), .val (.ref d), .val (.ref g), .val (.int 1), .val (.long q), .second, .val (.int z), .val (.int q.toInt32), .unset, .unset, .unset, .unset, .unset, .unset, .unset] [(.int (own_h32 q))])
  refine A0.istore (q := 13) (l' := #[.val (.ref b), .val (.ref d), .val (.ref g), .val (.int 1), .val (.long q), .second, .val (.int z), .val (.int q.toInt32), .val (.int (own_h32 q)), .unset, .unset, .unset, .unset, .unset, .unset]) d_method_3_11 rfl rfl ?_
  refine A0.iload (q := 15) d_method_3_13 rfl rfl ?_
  refine A0.iload (q := 17) d_method_3_15 rfl rfl ?_
  refine Here.callS (qn := 20) (os1 := [(b, .inr (.int, [(.int l0), (.int l1), (.int l2)])), (d, .inr (.int, [(.int h0), (.int h1), (.int h2)])), (g, .inr (.int, [(.int v0), (.int v1), (.int v2)]))]) (os2 := []) (rest := []) (W := 0) (argsL := [(.int q.toInt32), (.int (own_h32 q))]) A0 (m_min l Z a0 hw (q.toInt32) ((own_h32 q))) (Or.inl rfl) (tw hw 5 rfl) (tw hw 6 rfl) (tw hw 7 rfl) (tw hw 8 rfl) (by decide) d_method_3_17 rfl (lenOf pd_5 rfl) rfl (Nat.le_of_eq rfl) (by decide) (by decide) (by decide) (by decide) rfl (fun T1 v2 os3 A4 P5 => ?_)
  obtain ⟨rfl, rfl⟩ := P5
  have A6 := A4.cast (k2 := 0) (n2 := 0) (os2 := [(b, .inr (.int, [(.int l0), (.int l1), (.int l2)])), (d, .inr (.int, [(.int h0), (.int h1), (.int h2)])), (g, .inr (.int, [(.int v0), (.int v1), (.int v2)]))]) rfl rfl rfl
  show Wp _ _ _ _ _ _ _ _ _ _ T1 (mkF m 20 #[.val (.ref b), .val (.ref d), .val (.ref g), .val (.int 1), .val (.long q), .second, .val (.int z), .val (.int q.toInt32), .val (.int (own_h32 q)), .unset, .unset, .unset, .unset, .unset, .unset] [(.int (own_lo q))])
  refine A6.istore (q := 22) (l' := #[.val (.ref b), .val (.ref d), .val (.ref g), .val (.int 1), .val (.long q), .second, .val (.int z), .val (.int q.toInt32), .val (.int (own_h32 q)), .val (.int (own_lo q)), .unset, .unset, .unset, .unset, .unset]) d_method_3_20 rfl rfl ?_
  refine A6.iload (q := 24) d_method_3_22 rfl rfl ?_
  refine A6.iload (q := 26) d_method_3_24 rfl rfl ?_
  refine Here.callS (qn := 29) (os1 := [(b, .inr (.int, [(.int l0), (.int l1), (.int l2)])), (d, .inr (.int, [(.int h0), (.int h1), (.int h2)])), (g, .inr (.int, [(.int v0), (.int v1), (.int v2)]))]) (os2 := []) (rest := []) (W := 0) (argsL := [(.int q.toInt32), (.int (own_h32 q))]) A6 (m_max l Z a0 hw (q.toInt32) ((own_h32 q))) (Or.inl rfl) (tw hw 9 rfl) (tw hw 10 rfl) (tw hw 7 rfl) (tw hw 11 rfl) (by decide) d_method_3_26 rfl (lenOf pd_5 rfl) rfl (Nat.le_of_eq rfl) (by decide) (by decide) (by decide) (by decide) rfl (fun T7 v8 os9 A10 P11 => ?_)
  obtain ⟨rfl, rfl⟩ := P11
  have A12 := A10.cast (k2 := 0) (n2 := 0) (os2 := [(b, .inr (.int, [(.int l0), (.int l1), (.int l2)])), (d, .inr (.int, [(.int h0), (.int h1), (.int h2)])), (g, .inr (.int, [(.int v0), (.int v1), (.int v2)]))]) rfl rfl rfl
  show Wp _ _ _ _ _ _ _ _ _ _ T7 (mkF m 29 #[.val (.ref b), .val (.ref d), .val (.ref g), .val (.int 1), .val (.long q), .second, .val (.int z), .val (.int q.toInt32), .val (.int (own_h32 q)), .val (.int (own_lo q)), .unset, .unset, .unset, .unset, .unset] [(.int (own_hi q))])
  refine A12.istore (q := 31) (l' := #[.val (.ref b), .val (.ref d), .val (.ref g), .val (.int 1), .val (.long q), .second, .val (.int z), .val (.int q.toInt32), .val (.int (own_h32 q)), .val (.int (own_lo q)), .val (.int (own_hi q)), .unset, .unset, .unset, .unset]) d_method_3_29 rfl rfl ?_
  refine A12.iload (q := 33) d_method_3_31 rfl rfl ?_
  refine A12.i2l (q := 34) d_method_3_33 rfl ?_
  refine A12.iload (q := 36) d_method_3_34 rfl rfl ?_
  refine A12.i2l (q := 37) d_method_3_36 rfl ?_
  refine A12.lsub (q := 38) d_method_3_37 rfl ?_
  refine A12.lconst (q := 39) (v := 1) d_method_3_38 rfl rfl ?_
  refine A12.ladd (q := 40) d_method_3_39 rfl ?_
  refine A12.lstore (q := 42) (l' := #[.val (.ref b), .val (.ref d), .val (.ref g), .val (.int 1), .val (.long q), .second, .val (.int z), .val (.int q.toInt32), .val (.int (own_h32 q)), .val (.int (own_lo q)), .val (.int (own_hi q)), .val (.long (((own_hi q).toInt64 - (own_lo q).toInt64) + (1 : Int64))), .second, .unset, .unset]) d_method_3_40 rfl rfl ?_
  refine A12.iload (q := 44) d_method_3_42 rfl rfl ?_
  refine A12.i2l (q := 45) d_method_3_44 rfl ?_
  refine A12.ldc2 (qn := 48) (v := 4294967295) (tw hw 12 rfl) d_method_3_45 rfl ?_
  refine A12.land (q := 49) d_method_3_48 rfl ?_
  refine A12.lload (q := 51) d_method_3_49 rfl rfl ?_
  refine A12.lrem (qn := 52) d_method_3_51 (own_nz3 q) rfl ?_
  refine A12.lstore (q := 54) (l' := #[.val (.ref b), .val (.ref d), .val (.ref g), .val (.int 1), .val (.long q), .second, .val (.int z), .val (.int q.toInt32), .val (.int (own_h32 q)), .val (.int (own_lo q)), .val (.int (own_hi q)), .val (.long (((own_hi q).toInt64 - (own_lo q).toInt64) + (1 : Int64))), .second, .val (.long ((z.toInt64 &&& (4294967295 : Int64)) % (((own_hi q).toInt64 - (own_lo q).toInt64) + (1 : Int64)))), .second]) d_method_3_52 rfl rfl ?_
  refine A12.aloadN (q := 55) d_method_3_54 rfl rfl rfl ?_
  refine A12.iloadN (q := 56) d_method_3_55 rfl rfl ?_
  refine A12.iload (q := 58) d_method_3_56 rfl rfl ?_
  refine A12.stI (qn := 59) (i := 0) d_method_3_58 rfl (by decide) (show (1 : Int32).toNatClampNeg < 3 from by decide) rfl rfl (fun T13 A14 => ?_)
  have A15 := A14.cast (k2 := 0) (n2 := 0) (os2 := [(b, .inr (.int, [(.int l0), (.int (own_lo q)), (.int l2)])), (d, .inr (.int, [(.int h0), (.int h1), (.int h2)])), (g, .inr (.int, [(.int v0), (.int v1), (.int v2)]))]) rfl rfl rfl
  refine A15.aloadN (q := 60) d_method_3_59 rfl rfl rfl ?_
  refine A15.iloadN (q := 61) d_method_3_60 rfl rfl ?_
  refine A15.iload (q := 63) d_method_3_61 rfl rfl ?_
  refine A15.stI (qn := 64) (i := 1) d_method_3_63 rfl (by decide) (show (1 : Int32).toNatClampNeg < 3 from by decide) rfl rfl (fun T16 A17 => ?_)
  have A18 := A17.cast (k2 := 0) (n2 := 0) (os2 := [(b, .inr (.int, [(.int l0), (.int (own_lo q)), (.int l2)])), (d, .inr (.int, [(.int h0), (.int (own_hi q)), (.int h2)])), (g, .inr (.int, [(.int v0), (.int v1), (.int v2)]))]) rfl rfl rfl
  refine A18.aloadN (q := 65) d_method_3_64 rfl rfl rfl ?_
  refine A18.iloadN (q := 66) d_method_3_65 rfl rfl ?_
  refine A18.iload (q := 68) d_method_3_66 rfl rfl ?_
  refine A18.i2l (q := 69) d_method_3_68 rfl ?_
  refine A18.lload (q := 71) d_method_3_69 rfl rfl ?_
  refine A18.ladd (q := 72) d_method_3_71 rfl ?_
  refine A18.l2i (q := 73) d_method_3_72 rfl ?_
  show Wp _ _ _ _ _ _ _ _ _ _ T16 (mkF m 73 #[.val (.ref b), .val (.ref d), .val (.ref g), .val (.int 1), .val (.long q), .second, .val (.int z), .val (.int q.toInt32), .val (.int (own_h32 q)), .val (.int (own_lo q)), .val (.int (own_hi q)), .val (.long (((own_hi q).toInt64 - (own_lo q).toInt64) + (1 : Int64))), .second, .val (.long ((z.toInt64 &&& (4294967295 : Int64)) % (((own_hi q).toInt64 - (own_lo q).toInt64) + (1 : Int64)))), .second] [(.int (own_v3 q z)), (.int 1), (.ref g)])
  refine A18.stI (qn := 74) (i := 2) d_method_3_73 rfl (by decide) (show (1 : Int32).toNatClampNeg < 3 from by decide) rfl rfl (fun T19 A20 => ?_)
  have A21 := A20.cast (k2 := 0) (n2 := 0) (os2 := [(b, .inr (.int, [(.int l0), (.int (own_lo q)), (.int l2)])), (d, .inr (.int, [(.int h0), (.int (own_hi q)), (.int h2)])), (g, .inr (.int, [(.int v0), (.int (own_v3 q z)), (.int v2)]))]) rfl rfl rfl
  exact A21.retV d_method_3_74 (by decide) (by decide) ⟨rfl, rfl⟩
theorem ef_m_fill2 (m : MethodId) (x0 : Addr) (x1 : Addr) (x2 : Addr) (x4 : Int64) (x5 : Int32) : entryFrame m #[(.ref x0), (.ref x1), (.ref x2), (.int 2), (.long x4), (.int x5)] 15 = mkF m 0 #[.val (.ref x0), .val (.ref x1), .val (.ref x2), .val (.int 2), .val (.long x4), .second, .val (.int x5), .unset, .unset, .unset, .unset, .unset, .unset, .unset, .unset] [] := by first | (simp [entryFrame, mkF, argsToLocals, Value.category]; done) | rfl
set_option maxRecDepth 65536 in
set_option maxHeartbeats 40000000 in
theorem m_fill2 (l : Launch) (Z : State) (a0 : Array Value) (hw : ∀ d ∈ tables_1, d.before a0 Z = true) (b : Addr) (d : Addr) (g : Addr) (q : Int64) (z : Int32) (l0 : Int32) (l1 : Int32) (l2 : Int32) (h0 : Int32) (h1 : Int32) (h2 : Int32) (v0 : Int32) (v1 : Int32) (v2 : Int32) :
    Pays l Z a0 (⟨"com/example/nomoc/nomoc/checker/StateLayoutPackPinLaw", "fill", "([I[I[IIJI)V"⟩ : MethodName) method_3_code 15 none ({ frames := 1, cells := 0, slots := 0, locals := 13 } : Room) #[(.ref b), (.ref d), (.ref g), (.int 2), (.long q), (.int z)] [(b, .inr (.int, [(.int l0), (.int l1), (.int l2)])), (d, .inr (.int, [(.int h0), (.int h1), (.int h2)])), (g, .inr (.int, [(.int v0), (.int v1), (.int v2)]))] (([(b, .inr (.int, [(.int l0), (.int l1), (.int l2)])), (d, .inr (.int, [(.int h0), (.int h1), (.int h2)])), (g, .inr (.int, [(.int v0), (.int v1), (.int v2)]))] : Hs).map (·.1)) (fun v os' => v = none ∧ os' = [(b, .inr (.int, [(.int l0), (.int l1), (.int (own_lo q))])), (d, .inr (.int, [(.int h0), (.int h1), (.int (own_hi q))])), (g, .inr (.int, [(.int v0), (.int v1), (.int (own_v3 q z))]))]) := by
  refine Pays.of (Ls := #[.val (.ref b), .val (.ref d), .val (.ref g), .val (.int 2), .val (.long q), .second, .val (.int z), .unset, .unset, .unset, .unset, .unset, .unset, .unset, .unset]) (plainFor_of_name pn_6) (fun m => ef_m_fill2 m b d g q z) ?_
  intro p e s m below meth c T0 A0
  refine A0.lload (q := 2) d_method_3_0 rfl rfl ?_
  refine A0.l2i (q := 3) d_method_3_2 rfl ?_
  refine A0.istore (q := 5) (l' := #[.val (.ref b), .val (.ref d), .val (.ref g), .val (.int 2), .val (.long q), .second, .val (.int z), .val (.int q.toInt32), .unset, .unset, .unset, .unset, .unset, .unset, .unset]) d_method_3_3 rfl rfl ?_
  refine A0.lload (q := 7) d_method_3_5 rfl rfl ?_
  refine A0.bipush (q := 9) (v := 32) d_method_3_7 rfl rfl ?_
  refine A0.lushr (q := 10) d_method_3_9 rfl ?_
  refine A0.l2i (q := 11) d_method_3_10 rfl ?_
  show Wp _ _ _ _ _ _ _ _ _ _ T0 (mkF m 11 #[.val (.ref b), .val (.ref d), .val (.ref g), .val (.int 2), .val (.long q), .second, .val (.int z), .val (.int q.toInt32), .unset, .unset, .unset, .unset, .unset, .unset, .unset] [(.int (own_h32 q))])
  refine A0.istore (q := 13) (l' := #[.val (.ref b), .val (.ref d), .val (.ref g), .val (.int 2), .val (.long q), .second, .val (.int z), .val (.int q.toInt32), .val (.int (own_h32 q)), .unset, .unset, .unset, .unset, .unset, .unset]) d_method_3_11 rfl rfl ?_
  refine A0.iload (q := 15) d_method_3_13 rfl rfl ?_
  refine A0.iload (q := 17) d_method_3_15 rfl rfl ?_
  refine Here.callS (qn := 20) (os1 := [(b, .inr (.int, [(.int l0), (.int l1), (.int l2)])), (d, .inr (.int, [(.int h0), (.int h1), (.int h2)])), (g, .inr (.int, [(.int v0), (.int v1), (.int v2)]))]) (os2 := []) (rest := []) (W := 0) (argsL := [(.int q.toInt32), (.int (own_h32 q))]) A0 (m_min l Z a0 hw (q.toInt32) ((own_h32 q))) (Or.inl rfl) (tw hw 5 rfl) (tw hw 6 rfl) (tw hw 7 rfl) (tw hw 8 rfl) (by decide) d_method_3_17 rfl (lenOf pd_5 rfl) rfl (Nat.le_of_eq rfl) (by decide) (by decide) (by decide) (by decide) rfl (fun T1 v2 os3 A4 P5 => ?_)
  obtain ⟨rfl, rfl⟩ := P5
  have A6 := A4.cast (k2 := 0) (n2 := 0) (os2 := [(b, .inr (.int, [(.int l0), (.int l1), (.int l2)])), (d, .inr (.int, [(.int h0), (.int h1), (.int h2)])), (g, .inr (.int, [(.int v0), (.int v1), (.int v2)]))]) rfl rfl rfl
  show Wp _ _ _ _ _ _ _ _ _ _ T1 (mkF m 20 #[.val (.ref b), .val (.ref d), .val (.ref g), .val (.int 2), .val (.long q), .second, .val (.int z), .val (.int q.toInt32), .val (.int (own_h32 q)), .unset, .unset, .unset, .unset, .unset, .unset] [(.int (own_lo q))])
  refine A6.istore (q := 22) (l' := #[.val (.ref b), .val (.ref d), .val (.ref g), .val (.int 2), .val (.long q), .second, .val (.int z), .val (.int q.toInt32), .val (.int (own_h32 q)), .val (.int (own_lo q)), .unset, .unset, .unset, .unset, .unset]) d_method_3_20 rfl rfl ?_
  refine A6.iload (q := 24) d_method_3_22 rfl rfl ?_
  refine A6.iload (q := 26) d_method_3_24 rfl rfl ?_
  refine Here.callS (qn := 29) (os1 := [(b, .inr (.int, [(.int l0), (.int l1), (.int l2)])), (d, .inr (.int, [(.int h0), (.int h1), (.int h2)])), (g, .inr (.int, [(.int v0), (.int v1), (.int v2)]))]) (os2 := []) (rest := []) (W := 0) (argsL := [(.int q.toInt32), (.int (own_h32 q))]) A6 (m_max l Z a0 hw (q.toInt32) ((own_h32 q))) (Or.inl rfl) (tw hw 9 rfl) (tw hw 10 rfl) (tw hw 7 rfl) (tw hw 11 rfl) (by decide) d_method_3_26 rfl (lenOf pd_5 rfl) rfl (Nat.le_of_eq rfl) (by decide) (by decide) (by decide) (by decide) rfl (fun T7 v8 os9 A10 P11 => ?_)
  obtain ⟨rfl, rfl⟩ := P11
  have A12 := A10.cast (k2 := 0) (n2 := 0) (os2 := [(b, .inr (.int, [(.int l0), (.int l1), (.int l2)])), (d, .inr (.int, [(.int h0), (.int h1), (.int h2)])), (g, .inr (.int, [(.int v0), (.int v1), (.int v2)]))]) rfl rfl rfl
  show Wp _ _ _ _ _ _ _ _ _ _ T7 (mkF m 29 #[.val (.ref b), .val (.ref d), .val (.ref g), .val (.int 2), .val (.long q), .second, .val (.int z), .val (.int q.toInt32), .val (.int (own_h32 q)), .val (.int (own_lo q)), .unset, .unset, .unset, .unset, .unset] [(.int (own_hi q))])
  refine A12.istore (q := 31) (l' := #[.val (.ref b), .val (.ref d), .val (.ref g), .val (.int 2), .val (.long q), .second, .val (.int z), .val (.int q.toInt32), .val (.int (own_h32 q)), .val (.int (own_lo q)), .val (.int (own_hi q)), .unset, .unset, .unset, .unset]) d_method_3_29 rfl rfl ?_
  refine A12.iload (q := 33) d_method_3_31 rfl rfl ?_
  refine A12.i2l (q := 34) d_method_3_33 rfl ?_
  refine A12.iload (q := 36) d_method_3_34 rfl rfl ?_
  refine A12.i2l (q := 37) d_method_3_36 rfl ?_
  refine A12.lsub (q := 38) d_method_3_37 rfl ?_
  refine A12.lconst (q := 39) (v := 1) d_method_3_38 rfl rfl ?_
  refine A12.ladd (q := 40) d_method_3_39 rfl ?_
  refine A12.lstore (q := 42) (l' := #[.val (.ref b), .val (.ref d), .val (.ref g), .val (.int 2), .val (.long q), .second, .val (.int z), .val (.int q.toInt32), .val (.int (own_h32 q)), .val (.int (own_lo q)), .val (.int (own_hi q)), .val (.long (((own_hi q).toInt64 - (own_lo q).toInt64) + (1 : Int64))), .second, .unset, .unset]) d_method_3_40 rfl rfl ?_
  refine A12.iload (q := 44) d_method_3_42 rfl rfl ?_
  refine A12.i2l (q := 45) d_method_3_44 rfl ?_
  refine A12.ldc2 (qn := 48) (v := 4294967295) (tw hw 12 rfl) d_method_3_45 rfl ?_
  refine A12.land (q := 49) d_method_3_48 rfl ?_
  refine A12.lload (q := 51) d_method_3_49 rfl rfl ?_
  refine A12.lrem (qn := 52) d_method_3_51 (own_nz3 q) rfl ?_
  refine A12.lstore (q := 54) (l' := #[.val (.ref b), .val (.ref d), .val (.ref g), .val (.int 2), .val (.long q), .second, .val (.int z), .val (.int q.toInt32), .val (.int (own_h32 q)), .val (.int (own_lo q)), .val (.int (own_hi q)), .val (.long (((own_hi q).toInt64 - (own_lo q).toInt64) + (1 : Int64))), .second, .val (.long ((z.toInt64 &&& (4294967295 : Int64)) % (((own_hi q).toInt64 - (own_lo q).toInt64) + (1 : Int64)))), .second]) d_method_3_52 rfl rfl ?_
  refine A12.aloadN (q := 55) d_method_3_54 rfl rfl rfl ?_
  refine A12.iloadN (q := 56) d_method_3_55 rfl rfl ?_
  refine A12.iload (q := 58) d_method_3_56 rfl rfl ?_
  refine A12.stI (qn := 59) (i := 0) d_method_3_58 rfl (by decide) (show (2 : Int32).toNatClampNeg < 3 from by decide) rfl rfl (fun T13 A14 => ?_)
  have A15 := A14.cast (k2 := 0) (n2 := 0) (os2 := [(b, .inr (.int, [(.int l0), (.int l1), (.int (own_lo q))])), (d, .inr (.int, [(.int h0), (.int h1), (.int h2)])), (g, .inr (.int, [(.int v0), (.int v1), (.int v2)]))]) rfl rfl rfl
  refine A15.aloadN (q := 60) d_method_3_59 rfl rfl rfl ?_
  refine A15.iloadN (q := 61) d_method_3_60 rfl rfl ?_
  refine A15.iload (q := 63) d_method_3_61 rfl rfl ?_
  refine A15.stI (qn := 64) (i := 1) d_method_3_63 rfl (by decide) (show (2 : Int32).toNatClampNeg < 3 from by decide) rfl rfl (fun T16 A17 => ?_)
  have A18 := A17.cast (k2 := 0) (n2 := 0) (os2 := [(b, .inr (.int, [(.int l0), (.int l1), (.int (own_lo q))])), (d, .inr (.int, [(.int h0), (.int h1), (.int (own_hi q))])), (g, .inr (.int, [(.int v0), (.int v1), (.int v2)]))]) rfl rfl rfl
  refine A18.aloadN (q := 65) d_method_3_64 rfl rfl rfl ?_
  refine A18.iloadN (q := 66) d_method_3_65 rfl rfl ?_
  refine A18.iload (q := 68) d_method_3_66 rfl rfl ?_
  refine A18.i2l (q := 69) d_method_3_68 rfl ?_
  refine A18.lload (q := 71) d_method_3_69 rfl rfl ?_
  refine A18.ladd (q := 72) d_method_3_71 rfl ?_
  refine A18.l2i (q := 73) d_method_3_72 rfl ?_
  show Wp _ _ _ _ _ _ _ _ _ _ T16 (mkF m 73 #[.val (.ref b), .val (.ref d), .val (.ref g), .val (.int 2), .val (.long q), .second, .val (.int z), .val (.int q.toInt32), .val (.int (own_h32 q)), .val (.int (own_lo q)), .val (.int (own_hi q)), .val (.long (((own_hi q).toInt64 - (own_lo q).toInt64) + (1 : Int64))), .second, .val (.long ((z.toInt64 &&& (4294967295 : Int64)) % (((own_hi q).toInt64 - (own_lo q).toInt64) + (1 : Int64)))), .second] [(.int (own_v3 q z)), (.int 2), (.ref g)])
  refine A18.stI (qn := 74) (i := 2) d_method_3_73 rfl (by decide) (show (2 : Int32).toNatClampNeg < 3 from by decide) rfl rfl (fun T19 A20 => ?_)
  have A21 := A20.cast (k2 := 0) (n2 := 0) (os2 := [(b, .inr (.int, [(.int l0), (.int l1), (.int (own_lo q))])), (d, .inr (.int, [(.int h0), (.int h1), (.int (own_hi q))])), (g, .inr (.int, [(.int v0), (.int v1), (.int (own_v3 q z))]))]) rfl rfl rfl
  exact A21.retV d_method_3_74 (by decide) (by decide) ⟨rfl, rfl⟩
theorem d_prog_60_method_2_0 : decode prog_60_method_2_code 0 = .ok (.aload_n 0, 1) := by decide +kernel
theorem d_prog_60_method_2_1 : decode prog_60_method_2_code 1 = .ok (.getfield 34, 3) := by decide +kernel
theorem d_prog_60_method_2_4 : decode prog_60_method_2_code 4 = .ok (.ireturn, 1) := by decide +kernel
theorem ef_m_wid (m : MethodId) (x0 : Addr) : entryFrame m #[(.ref x0)] 1 = mkF m 0 #[.val (.ref x0)] [] := by first | (simp [entryFrame, mkF, argsToLocals, Value.category]; done) | rfl
set_option maxRecDepth 65536 in
set_option maxHeartbeats 40000000 in
theorem m_wid (l : Launch) (Z : State) (a0 : Array Value) (hw : ∀ d ∈ tables_1, d.before a0 Z = true) (a : Addr) (bw : Addr) (bs : Addr) (bm : Addr) (bl : Addr) (wi : Int32) :
    Pays l Z a0 (⟨"com/example/nomoc/nomoc/checker/StateLayout", "width", "()I"⟩ : MethodName) prog_60_method_2_code 1 (some .int) ({ frames := 0, cells := 0, slots := 0, locals := 0 } : Room) #[(.ref a)] [(a, ob0 (.ref bw) (.ref bs) (.ref bm) (.ref bl) (.int wi))] (([(a, ob0 (.ref bw) (.ref bs) (.ref bm) (.ref bl) (.int wi))] : Hs).map (·.1)) (fun v os' => v = some (.int wi) ∧ os' = [(a, ob0 (.ref bw) (.ref bs) (.ref bm) (.ref bl) (.int wi))]) := by
  refine Pays.of (Ls := #[.val (.ref a)]) (plainFor_of_name pn_4) (fun m => ef_m_wid m a) ?_
  intro p e s m below meth c T0 A0
  refine A0.aloadN (q := 1) d_prog_60_method_2_0 rfl rfl rfl ?_
  refine A0.getF (qn := 4) (i := 0) (j := 4) (tw hw 49 rfl) Via.refl d_prog_60_method_2_1 rfl rfl rfl (fun T1 A2 => ?_)
  exact A2.retI d_prog_60_method_2_4 (by decide) (by decide) ⟨rfl, rfl⟩
theorem d_prog_60_method_5_0 : decode prog_60_method_5_code 0 = .ok (.iload_n 3, 1) := by decide +kernel
theorem d_prog_60_method_5_1 : decode prog_60_method_5_code 1 = .ok (.i2l, 1) := by decide +kernel
theorem d_prog_60_method_5_2 : decode prog_60_method_5_code 2 = .ok (.aload_n 0, 1) := by decide +kernel
theorem d_prog_60_method_5_3 : decode prog_60_method_5_code 3 = .ok (.getfield 25, 3) := by decide +kernel
theorem d_prog_60_method_5_6 : decode prog_60_method_5_code 6 = .ok (.iload_n 2, 1) := by decide +kernel
theorem d_prog_60_method_5_7 : decode prog_60_method_5_code 7 = .ok (.iaload, 1) := by decide +kernel
theorem d_prog_60_method_5_8 : decode prog_60_method_5_code 8 = .ok (.i2l, 1) := by decide +kernel
theorem d_prog_60_method_5_9 : decode prog_60_method_5_code 9 = .ok (.lsub, 1) := by decide +kernel
theorem d_prog_60_method_5_10 : decode prog_60_method_5_code 10 = .ok (.aload_n 0, 1) := by decide +kernel
theorem d_prog_60_method_5_11 : decode prog_60_method_5_code 11 = .ok (.getfield 16, 3) := by decide +kernel
theorem d_prog_60_method_5_14 : decode prog_60_method_5_code 14 = .ok (.iload_n 2, 1) := by decide +kernel
theorem d_prog_60_method_5_15 : decode prog_60_method_5_code 15 = .ok (.laload, 1) := by decide +kernel
theorem d_prog_60_method_5_16 : decode prog_60_method_5_code 16 = .ok (.land, 1) := by decide +kernel
theorem d_prog_60_method_5_17 : decode prog_60_method_5_code 17 = .ok (.lstore 4, 2) := by decide +kernel
theorem d_prog_60_method_5_19 : decode prog_60_method_5_code 19 = .ok (.aload_n 0, 1) := by decide +kernel
theorem d_prog_60_method_5_20 : decode prog_60_method_5_code 20 = .ok (.getfield 7, 3) := by decide +kernel
theorem d_prog_60_method_5_23 : decode prog_60_method_5_code 23 = .ok (.iload_n 2, 1) := by decide +kernel
theorem d_prog_60_method_5_24 : decode prog_60_method_5_code 24 = .ok (.iaload, 1) := by decide +kernel
theorem d_prog_60_method_5_25 : decode prog_60_method_5_code 25 = .ok (.istore 6, 2) := by decide +kernel
theorem d_prog_60_method_5_27 : decode prog_60_method_5_code 27 = .ok (.aload_n 1, 1) := by decide +kernel
theorem d_prog_60_method_5_28 : decode prog_60_method_5_code 28 = .ok (.iload 6, 2) := by decide +kernel
theorem d_prog_60_method_5_30 : decode prog_60_method_5_code 30 = .ok (.aload_n 1, 1) := by decide +kernel
theorem d_prog_60_method_5_31 : decode prog_60_method_5_code 31 = .ok (.iload 6, 2) := by decide +kernel
theorem d_prog_60_method_5_33 : decode prog_60_method_5_code 33 = .ok (.laload, 1) := by decide +kernel
theorem d_prog_60_method_5_34 : decode prog_60_method_5_code 34 = .ok (.aload_n 0, 1) := by decide +kernel
theorem d_prog_60_method_5_35 : decode prog_60_method_5_code 35 = .ok (.getfield 16, 3) := by decide +kernel
theorem d_prog_60_method_5_38 : decode prog_60_method_5_code 38 = .ok (.iload_n 2, 1) := by decide +kernel
theorem d_prog_60_method_5_39 : decode prog_60_method_5_code 39 = .ok (.laload, 1) := by decide +kernel
theorem d_prog_60_method_5_40 : decode prog_60_method_5_code 40 = .ok (.aload_n 0, 1) := by decide +kernel
theorem d_prog_60_method_5_41 : decode prog_60_method_5_code 41 = .ok (.getfield 13, 3) := by decide +kernel
theorem d_prog_60_method_5_44 : decode prog_60_method_5_code 44 = .ok (.iload_n 2, 1) := by decide +kernel
theorem d_prog_60_method_5_45 : decode prog_60_method_5_code 45 = .ok (.iaload, 1) := by decide +kernel
theorem d_prog_60_method_5_46 : decode prog_60_method_5_code 46 = .ok (.lshl, 1) := by decide +kernel
theorem d_prog_60_method_5_47 : decode prog_60_method_5_code 47 = .ok (.ldc2_w 42, 3) := by decide +kernel
theorem d_prog_60_method_5_50 : decode prog_60_method_5_code 50 = .ok (.lxor, 1) := by decide +kernel
theorem d_prog_60_method_5_51 : decode prog_60_method_5_code 51 = .ok (.land, 1) := by decide +kernel
theorem d_prog_60_method_5_52 : decode prog_60_method_5_code 52 = .ok (.lload 4, 2) := by decide +kernel
theorem d_prog_60_method_5_54 : decode prog_60_method_5_code 54 = .ok (.aload_n 0, 1) := by decide +kernel
theorem d_prog_60_method_5_55 : decode prog_60_method_5_code 55 = .ok (.getfield 13, 3) := by decide +kernel
theorem d_prog_60_method_5_58 : decode prog_60_method_5_code 58 = .ok (.iload_n 2, 1) := by decide +kernel
theorem d_prog_60_method_5_59 : decode prog_60_method_5_code 59 = .ok (.iaload, 1) := by decide +kernel
theorem d_prog_60_method_5_60 : decode prog_60_method_5_code 60 = .ok (.lshl, 1) := by decide +kernel
theorem d_prog_60_method_5_61 : decode prog_60_method_5_code 61 = .ok (.lor, 1) := by decide +kernel
theorem d_prog_60_method_5_62 : decode prog_60_method_5_code 62 = .ok (.lastore, 1) := by decide +kernel
theorem d_prog_60_method_5_63 : decode prog_60_method_5_code 63 = .ok (.return_, 1) := by decide +kernel
theorem ef_m_set010 (m : MethodId) (x0 : Addr) (x1 : Addr) (x3 : Int32) : entryFrame m #[(.ref x0), (.ref x1), (.int 0), (.int x3)] 7 = mkF m 0 #[.val (.ref x0), .val (.ref x1), .val (.int 0), .val (.int x3), .unset, .unset, .unset] [] := by first | (simp [entryFrame, mkF, argsToLocals, Value.category]; done) | rfl
set_option maxRecDepth 65536 in
set_option maxHeartbeats 40000000 in
theorem m_set010 (l : Launch) (Z : State) (a0 : Array Value) (hw : ∀ d ∈ tables_1, d.before a0 Z = true) (a : Addr) (b : Addr) (bw : Addr) (bs : Addr) (bm : Addr) (bl : Addr) (vv : Int32) (wi : Int32) (q0 : Int64) (s0 : Int32) (s1 : Int32) (s2 : Int32) (m0 : Int64) (m1 : Int64) (m2 : Int64) (l0 : Int32) (l1 : Int32) (l2 : Int32) :
    Pays l Z a0 (⟨"com/example/nomoc/nomoc/checker/StateLayout", "set", "([JII)V"⟩ : MethodName) prog_60_method_5_code 7 none ({ frames := 0, cells := 0, slots := 0, locals := 0 } : Room) #[(.ref a), (.ref b), (.int 0), (.int vv)] [(a, ob0 (.ref bw) (.ref bs) (.ref bm) (.ref bl) (.int wi)), (b, .inr (.long, [(.long q0)])), (bw, .inr (.int, [(.int 0), (.int 0), (.int 0)])), (bs, .inr (.int, [(.int s0), (.int s1), (.int s2)])), (bm, .inr (.long, [(.long m0), (.long m1), (.long m2)])), (bl, .inr (.int, [(.int l0), (.int l1), (.int l2)]))] (([(a, ob0 (.ref bw) (.ref bs) (.ref bm) (.ref bl) (.int wi)), (b, .inr (.long, [(.long q0)])), (bw, .inr (.int, [(.int 0), (.int 0), (.int 0)])), (bs, .inr (.int, [(.int s0), (.int s1), (.int s2)])), (bm, .inr (.long, [(.long m0), (.long m1), (.long m2)])), (bl, .inr (.int, [(.int l0), (.int l1), (.int l2)]))] : Hs).map (·.1)) (fun v os' => v = none ∧ os' = [(a, ob0 (.ref bw) (.ref bs) (.ref bm) (.ref bl) (.int wi)), (b, .inr (.long, [(.long (own_put q0 s0 m0 l0 vv))])), (bw, .inr (.int, [(.int 0), (.int 0), (.int 0)])), (bs, .inr (.int, [(.int s0), (.int s1), (.int s2)])), (bm, .inr (.long, [(.long m0), (.long m1), (.long m2)])), (bl, .inr (.int, [(.int l0), (.int l1), (.int l2)]))]) := by
  refine Pays.of (Ls := #[.val (.ref a), .val (.ref b), .val (.int 0), .val (.int vv), .unset, .unset, .unset]) (plainFor_of_name pn_4) (fun m => ef_m_set010 m a b vv) ?_
  intro p e s m below meth c T0 A0
  refine A0.iloadN (q := 1) d_prog_60_method_5_0 rfl rfl ?_
  refine A0.i2l (q := 2) d_prog_60_method_5_1 rfl ?_
  refine A0.aloadN (q := 3) d_prog_60_method_5_2 rfl rfl rfl ?_
  refine A0.getF (qn := 6) (i := 0) (j := 3) (tw hw 38 rfl) Via.refl d_prog_60_method_5_3 rfl rfl rfl (fun T1 A2 => ?_)
  refine A2.iloadN (q := 7) d_prog_60_method_5_6 rfl rfl ?_
  refine A2.ldI (qn := 8) (i := 5) d_prog_60_method_5_7 rfl (by decide) rfl rfl ?_
  refine A2.i2l (q := 9) d_prog_60_method_5_8 rfl ?_
  refine A2.lsub (q := 10) d_prog_60_method_5_9 rfl ?_
  refine A2.aloadN (q := 11) d_prog_60_method_5_10 rfl rfl rfl ?_
  refine A2.getF (qn := 14) (i := 0) (j := 2) (tw hw 27 rfl) Via.refl d_prog_60_method_5_11 rfl rfl rfl (fun T3 A4 => ?_)
  refine A4.iloadN (q := 15) d_prog_60_method_5_14 rfl rfl ?_
  refine A4.ldJ (qn := 16) (i := 4) d_prog_60_method_5_15 rfl (by decide) rfl rfl ?_
  refine A4.land (q := 17) d_prog_60_method_5_16 rfl ?_
  refine A4.lstore (q := 19) (l' := #[.val (.ref a), .val (.ref b), .val (.int 0), .val (.int vv), .val (.long ((vv.toInt64 - l0.toInt64) &&& m0)), .second, .unset]) d_prog_60_method_5_17 rfl rfl ?_
  refine A4.aloadN (q := 20) d_prog_60_method_5_19 rfl rfl rfl ?_
  refine A4.getF (qn := 23) (i := 0) (j := 0) (tw hw 22 rfl) Via.refl d_prog_60_method_5_20 rfl rfl rfl (fun T5 A6 => ?_)
  refine A6.iloadN (q := 24) d_prog_60_method_5_23 rfl rfl ?_
  refine A6.ldI (qn := 25) (i := 2) d_prog_60_method_5_24 rfl (by decide) rfl rfl ?_
  refine A6.istore (q := 27) (l' := #[.val (.ref a), .val (.ref b), .val (.int 0), .val (.int vv), .val (.long ((vv.toInt64 - l0.toInt64) &&& m0)), .second, .val (.int 0)]) d_prog_60_method_5_25 rfl rfl ?_
  refine A6.aloadN (q := 28) d_prog_60_method_5_27 rfl rfl rfl ?_
  refine A6.iload (q := 30) d_prog_60_method_5_28 rfl rfl ?_
  refine A6.aloadN (q := 31) d_prog_60_method_5_30 rfl rfl rfl ?_
  refine A6.iload (q := 33) d_prog_60_method_5_31 rfl rfl ?_
  refine A6.ldJ (qn := 34) (i := 1) d_prog_60_method_5_33 rfl (by decide) rfl rfl ?_
  refine A6.aloadN (q := 35) d_prog_60_method_5_34 rfl rfl rfl ?_
  refine A6.getF (qn := 38) (i := 0) (j := 2) (tw hw 27 rfl) Via.refl d_prog_60_method_5_35 rfl rfl rfl (fun T7 A8 => ?_)
  refine A8.iloadN (q := 39) d_prog_60_method_5_38 rfl rfl ?_
  refine A8.ldJ (qn := 40) (i := 4) d_prog_60_method_5_39 rfl (by decide) rfl rfl ?_
  refine A8.aloadN (q := 41) d_prog_60_method_5_40 rfl rfl rfl ?_
  refine A8.getF (qn := 44) (i := 0) (j := 1) (tw hw 24 rfl) Via.refl d_prog_60_method_5_41 rfl rfl rfl (fun T9 A10 => ?_)
  refine A10.iloadN (q := 45) d_prog_60_method_5_44 rfl rfl ?_
  refine A10.ldI (qn := 46) (i := 3) d_prog_60_method_5_45 rfl (by decide) rfl rfl ?_
  refine A10.lshl (q := 47) d_prog_60_method_5_46 rfl ?_
  refine A10.ldc2 (qn := 50) (v := -1) (tw hw 66 rfl) d_prog_60_method_5_47 rfl ?_
  refine A10.lxor (q := 51) d_prog_60_method_5_50 rfl ?_
  refine A10.land (q := 52) d_prog_60_method_5_51 rfl ?_
  refine A10.lload (q := 54) d_prog_60_method_5_52 rfl rfl ?_
  refine A10.aloadN (q := 55) d_prog_60_method_5_54 rfl rfl rfl ?_
  refine A10.getF (qn := 58) (i := 0) (j := 1) (tw hw 24 rfl) Via.refl d_prog_60_method_5_55 rfl rfl rfl (fun T11 A12 => ?_)
  refine A12.iloadN (q := 59) d_prog_60_method_5_58 rfl rfl ?_
  refine A12.ldI (qn := 60) (i := 3) d_prog_60_method_5_59 rfl (by decide) rfl rfl ?_
  refine A12.lshl (q := 61) d_prog_60_method_5_60 rfl ?_
  refine A12.lor (q := 62) d_prog_60_method_5_61 rfl ?_
  refine A12.stJ (qn := 63) (i := 1) d_prog_60_method_5_62 rfl (by decide) (show (0 : Int32).toNatClampNeg < 1 from by decide) rfl rfl (fun T13 A14 => ?_)
  have A15 := A14.cast (k2 := 0) (n2 := 0) (os2 := [(a, ob0 (.ref bw) (.ref bs) (.ref bm) (.ref bl) (.int wi)), (b, .inr (.long, [(.long ((q0 &&& ((m0 <<< (s0 &&& 0x3f).toInt64) ^^^ (-1 : Int64))) ||| (((vv.toInt64 - l0.toInt64) &&& m0) <<< (s0 &&& 0x3f).toInt64)))])), (bw, .inr (.int, [(.int 0), (.int 0), (.int 0)])), (bs, .inr (.int, [(.int s0), (.int s1), (.int s2)])), (bm, .inr (.long, [(.long m0), (.long m1), (.long m2)])), (bl, .inr (.int, [(.int l0), (.int l1), (.int l2)]))]) rfl rfl rfl
  exact A15.retV d_prog_60_method_5_63 (by decide) (by decide) ⟨rfl, rfl⟩
theorem ef_m_set011 (m : MethodId) (x0 : Addr) (x1 : Addr) (x3 : Int32) : entryFrame m #[(.ref x0), (.ref x1), (.int 1), (.int x3)] 7 = mkF m 0 #[.val (.ref x0), .val (.ref x1), .val (.int 1), .val (.int x3), .unset, .unset, .unset] [] := by first | (simp [entryFrame, mkF, argsToLocals, Value.category]; done) | rfl
set_option maxRecDepth 65536 in
set_option maxHeartbeats 40000000 in
theorem m_set011 (l : Launch) (Z : State) (a0 : Array Value) (hw : ∀ d ∈ tables_1, d.before a0 Z = true) (a : Addr) (b : Addr) (bw : Addr) (bs : Addr) (bm : Addr) (bl : Addr) (vv : Int32) (wi : Int32) (q0 : Int64) (s0 : Int32) (s1 : Int32) (s2 : Int32) (m0 : Int64) (m1 : Int64) (m2 : Int64) (l0 : Int32) (l1 : Int32) (l2 : Int32) :
    Pays l Z a0 (⟨"com/example/nomoc/nomoc/checker/StateLayout", "set", "([JII)V"⟩ : MethodName) prog_60_method_5_code 7 none ({ frames := 0, cells := 0, slots := 0, locals := 0 } : Room) #[(.ref a), (.ref b), (.int 1), (.int vv)] [(a, ob0 (.ref bw) (.ref bs) (.ref bm) (.ref bl) (.int wi)), (b, .inr (.long, [(.long q0)])), (bw, .inr (.int, [(.int 0), (.int 0), (.int 0)])), (bs, .inr (.int, [(.int s0), (.int s1), (.int s2)])), (bm, .inr (.long, [(.long m0), (.long m1), (.long m2)])), (bl, .inr (.int, [(.int l0), (.int l1), (.int l2)]))] (([(a, ob0 (.ref bw) (.ref bs) (.ref bm) (.ref bl) (.int wi)), (b, .inr (.long, [(.long q0)])), (bw, .inr (.int, [(.int 0), (.int 0), (.int 0)])), (bs, .inr (.int, [(.int s0), (.int s1), (.int s2)])), (bm, .inr (.long, [(.long m0), (.long m1), (.long m2)])), (bl, .inr (.int, [(.int l0), (.int l1), (.int l2)]))] : Hs).map (·.1)) (fun v os' => v = none ∧ os' = [(a, ob0 (.ref bw) (.ref bs) (.ref bm) (.ref bl) (.int wi)), (b, .inr (.long, [(.long (own_put q0 s1 m1 l1 vv))])), (bw, .inr (.int, [(.int 0), (.int 0), (.int 0)])), (bs, .inr (.int, [(.int s0), (.int s1), (.int s2)])), (bm, .inr (.long, [(.long m0), (.long m1), (.long m2)])), (bl, .inr (.int, [(.int l0), (.int l1), (.int l2)]))]) := by
  refine Pays.of (Ls := #[.val (.ref a), .val (.ref b), .val (.int 1), .val (.int vv), .unset, .unset, .unset]) (plainFor_of_name pn_4) (fun m => ef_m_set011 m a b vv) ?_
  intro p e s m below meth c T0 A0
  refine A0.iloadN (q := 1) d_prog_60_method_5_0 rfl rfl ?_
  refine A0.i2l (q := 2) d_prog_60_method_5_1 rfl ?_
  refine A0.aloadN (q := 3) d_prog_60_method_5_2 rfl rfl rfl ?_
  refine A0.getF (qn := 6) (i := 0) (j := 3) (tw hw 38 rfl) Via.refl d_prog_60_method_5_3 rfl rfl rfl (fun T1 A2 => ?_)
  refine A2.iloadN (q := 7) d_prog_60_method_5_6 rfl rfl ?_
  refine A2.ldI (qn := 8) (i := 5) d_prog_60_method_5_7 rfl (by decide) rfl rfl ?_
  refine A2.i2l (q := 9) d_prog_60_method_5_8 rfl ?_
  refine A2.lsub (q := 10) d_prog_60_method_5_9 rfl ?_
  refine A2.aloadN (q := 11) d_prog_60_method_5_10 rfl rfl rfl ?_
  refine A2.getF (qn := 14) (i := 0) (j := 2) (tw hw 27 rfl) Via.refl d_prog_60_method_5_11 rfl rfl rfl (fun T3 A4 => ?_)
  refine A4.iloadN (q := 15) d_prog_60_method_5_14 rfl rfl ?_
  refine A4.ldJ (qn := 16) (i := 4) d_prog_60_method_5_15 rfl (by decide) rfl rfl ?_
  refine A4.land (q := 17) d_prog_60_method_5_16 rfl ?_
  refine A4.lstore (q := 19) (l' := #[.val (.ref a), .val (.ref b), .val (.int 1), .val (.int vv), .val (.long ((vv.toInt64 - l1.toInt64) &&& m1)), .second, .unset]) d_prog_60_method_5_17 rfl rfl ?_
  refine A4.aloadN (q := 20) d_prog_60_method_5_19 rfl rfl rfl ?_
  refine A4.getF (qn := 23) (i := 0) (j := 0) (tw hw 22 rfl) Via.refl d_prog_60_method_5_20 rfl rfl rfl (fun T5 A6 => ?_)
  refine A6.iloadN (q := 24) d_prog_60_method_5_23 rfl rfl ?_
  refine A6.ldI (qn := 25) (i := 2) d_prog_60_method_5_24 rfl (by decide) rfl rfl ?_
  refine A6.istore (q := 27) (l' := #[.val (.ref a), .val (.ref b), .val (.int 1), .val (.int vv), .val (.long ((vv.toInt64 - l1.toInt64) &&& m1)), .second, .val (.int 0)]) d_prog_60_method_5_25 rfl rfl ?_
  refine A6.aloadN (q := 28) d_prog_60_method_5_27 rfl rfl rfl ?_
  refine A6.iload (q := 30) d_prog_60_method_5_28 rfl rfl ?_
  refine A6.aloadN (q := 31) d_prog_60_method_5_30 rfl rfl rfl ?_
  refine A6.iload (q := 33) d_prog_60_method_5_31 rfl rfl ?_
  refine A6.ldJ (qn := 34) (i := 1) d_prog_60_method_5_33 rfl (by decide) rfl rfl ?_
  refine A6.aloadN (q := 35) d_prog_60_method_5_34 rfl rfl rfl ?_
  refine A6.getF (qn := 38) (i := 0) (j := 2) (tw hw 27 rfl) Via.refl d_prog_60_method_5_35 rfl rfl rfl (fun T7 A8 => ?_)
  refine A8.iloadN (q := 39) d_prog_60_method_5_38 rfl rfl ?_
  refine A8.ldJ (qn := 40) (i := 4) d_prog_60_method_5_39 rfl (by decide) rfl rfl ?_
  refine A8.aloadN (q := 41) d_prog_60_method_5_40 rfl rfl rfl ?_
  refine A8.getF (qn := 44) (i := 0) (j := 1) (tw hw 24 rfl) Via.refl d_prog_60_method_5_41 rfl rfl rfl (fun T9 A10 => ?_)
  refine A10.iloadN (q := 45) d_prog_60_method_5_44 rfl rfl ?_
  refine A10.ldI (qn := 46) (i := 3) d_prog_60_method_5_45 rfl (by decide) rfl rfl ?_
  refine A10.lshl (q := 47) d_prog_60_method_5_46 rfl ?_
  refine A10.ldc2 (qn := 50) (v := -1) (tw hw 66 rfl) d_prog_60_method_5_47 rfl ?_
  refine A10.lxor (q := 51) d_prog_60_method_5_50 rfl ?_
  refine A10.land (q := 52) d_prog_60_method_5_51 rfl ?_
  refine A10.lload (q := 54) d_prog_60_method_5_52 rfl rfl ?_
  refine A10.aloadN (q := 55) d_prog_60_method_5_54 rfl rfl rfl ?_
  refine A10.getF (qn := 58) (i := 0) (j := 1) (tw hw 24 rfl) Via.refl d_prog_60_method_5_55 rfl rfl rfl (fun T11 A12 => ?_)
  refine A12.iloadN (q := 59) d_prog_60_method_5_58 rfl rfl ?_
  refine A12.ldI (qn := 60) (i := 3) d_prog_60_method_5_59 rfl (by decide) rfl rfl ?_
  refine A12.lshl (q := 61) d_prog_60_method_5_60 rfl ?_
  refine A12.lor (q := 62) d_prog_60_method_5_61 rfl ?_
  refine A12.stJ (qn := 63) (i := 1) d_prog_60_method_5_62 rfl (by decide) (show (0 : Int32).toNatClampNeg < 1 from by decide) rfl rfl (fun T13 A14 => ?_)
  have A15 := A14.cast (k2 := 0) (n2 := 0) (os2 := [(a, ob0 (.ref bw) (.ref bs) (.ref bm) (.ref bl) (.int wi)), (b, .inr (.long, [(.long ((q0 &&& ((m1 <<< (s1 &&& 0x3f).toInt64) ^^^ (-1 : Int64))) ||| (((vv.toInt64 - l1.toInt64) &&& m1) <<< (s1 &&& 0x3f).toInt64)))])), (bw, .inr (.int, [(.int 0), (.int 0), (.int 0)])), (bs, .inr (.int, [(.int s0), (.int s1), (.int s2)])), (bm, .inr (.long, [(.long m0), (.long m1), (.long m2)])), (bl, .inr (.int, [(.int l0), (.int l1), (.int l2)]))]) rfl rfl rfl
  exact A15.retV d_prog_60_method_5_63 (by decide) (by decide) ⟨rfl, rfl⟩
theorem ef_m_set012 (m : MethodId) (x0 : Addr) (x1 : Addr) (x3 : Int32) : entryFrame m #[(.ref x0), (.ref x1), (.int 2), (.int x3)] 7 = mkF m 0 #[.val (.ref x0), .val (.ref x1), .val (.int 2), .val (.int x3), .unset, .unset, .unset] [] := by first | (simp [entryFrame, mkF, argsToLocals, Value.category]; done) | rfl
set_option maxRecDepth 65536 in
set_option maxHeartbeats 40000000 in
theorem m_set012 (l : Launch) (Z : State) (a0 : Array Value) (hw : ∀ d ∈ tables_1, d.before a0 Z = true) (a : Addr) (b : Addr) (bw : Addr) (bs : Addr) (bm : Addr) (bl : Addr) (vv : Int32) (wi : Int32) (q0 : Int64) (s0 : Int32) (s1 : Int32) (s2 : Int32) (m0 : Int64) (m1 : Int64) (m2 : Int64) (l0 : Int32) (l1 : Int32) (l2 : Int32) :
    Pays l Z a0 (⟨"com/example/nomoc/nomoc/checker/StateLayout", "set", "([JII)V"⟩ : MethodName) prog_60_method_5_code 7 none ({ frames := 0, cells := 0, slots := 0, locals := 0 } : Room) #[(.ref a), (.ref b), (.int 2), (.int vv)] [(a, ob0 (.ref bw) (.ref bs) (.ref bm) (.ref bl) (.int wi)), (b, .inr (.long, [(.long q0)])), (bw, .inr (.int, [(.int 0), (.int 0), (.int 0)])), (bs, .inr (.int, [(.int s0), (.int s1), (.int s2)])), (bm, .inr (.long, [(.long m0), (.long m1), (.long m2)])), (bl, .inr (.int, [(.int l0), (.int l1), (.int l2)]))] (([(a, ob0 (.ref bw) (.ref bs) (.ref bm) (.ref bl) (.int wi)), (b, .inr (.long, [(.long q0)])), (bw, .inr (.int, [(.int 0), (.int 0), (.int 0)])), (bs, .inr (.int, [(.int s0), (.int s1), (.int s2)])), (bm, .inr (.long, [(.long m0), (.long m1), (.long m2)])), (bl, .inr (.int, [(.int l0), (.int l1), (.int l2)]))] : Hs).map (·.1)) (fun v os' => v = none ∧ os' = [(a, ob0 (.ref bw) (.ref bs) (.ref bm) (.ref bl) (.int wi)), (b, .inr (.long, [(.long (own_put q0 s2 m2 l2 vv))])), (bw, .inr (.int, [(.int 0), (.int 0), (.int 0)])), (bs, .inr (.int, [(.int s0), (.int s1), (.int s2)])), (bm, .inr (.long, [(.long m0), (.long m1), (.long m2)])), (bl, .inr (.int, [(.int l0), (.int l1), (.int l2)]))]) := by
  refine Pays.of (Ls := #[.val (.ref a), .val (.ref b), .val (.int 2), .val (.int vv), .unset, .unset, .unset]) (plainFor_of_name pn_4) (fun m => ef_m_set012 m a b vv) ?_
  intro p e s m below meth c T0 A0
  refine A0.iloadN (q := 1) d_prog_60_method_5_0 rfl rfl ?_
  refine A0.i2l (q := 2) d_prog_60_method_5_1 rfl ?_
  refine A0.aloadN (q := 3) d_prog_60_method_5_2 rfl rfl rfl ?_
  refine A0.getF (qn := 6) (i := 0) (j := 3) (tw hw 38 rfl) Via.refl d_prog_60_method_5_3 rfl rfl rfl (fun T1 A2 => ?_)
  refine A2.iloadN (q := 7) d_prog_60_method_5_6 rfl rfl ?_
  refine A2.ldI (qn := 8) (i := 5) d_prog_60_method_5_7 rfl (by decide) rfl rfl ?_
  refine A2.i2l (q := 9) d_prog_60_method_5_8 rfl ?_
  refine A2.lsub (q := 10) d_prog_60_method_5_9 rfl ?_
  refine A2.aloadN (q := 11) d_prog_60_method_5_10 rfl rfl rfl ?_
  refine A2.getF (qn := 14) (i := 0) (j := 2) (tw hw 27 rfl) Via.refl d_prog_60_method_5_11 rfl rfl rfl (fun T3 A4 => ?_)
  refine A4.iloadN (q := 15) d_prog_60_method_5_14 rfl rfl ?_
  refine A4.ldJ (qn := 16) (i := 4) d_prog_60_method_5_15 rfl (by decide) rfl rfl ?_
  refine A4.land (q := 17) d_prog_60_method_5_16 rfl ?_
  refine A4.lstore (q := 19) (l' := #[.val (.ref a), .val (.ref b), .val (.int 2), .val (.int vv), .val (.long ((vv.toInt64 - l2.toInt64) &&& m2)), .second, .unset]) d_prog_60_method_5_17 rfl rfl ?_
  refine A4.aloadN (q := 20) d_prog_60_method_5_19 rfl rfl rfl ?_
  refine A4.getF (qn := 23) (i := 0) (j := 0) (tw hw 22 rfl) Via.refl d_prog_60_method_5_20 rfl rfl rfl (fun T5 A6 => ?_)
  refine A6.iloadN (q := 24) d_prog_60_method_5_23 rfl rfl ?_
  refine A6.ldI (qn := 25) (i := 2) d_prog_60_method_5_24 rfl (by decide) rfl rfl ?_
  refine A6.istore (q := 27) (l' := #[.val (.ref a), .val (.ref b), .val (.int 2), .val (.int vv), .val (.long ((vv.toInt64 - l2.toInt64) &&& m2)), .second, .val (.int 0)]) d_prog_60_method_5_25 rfl rfl ?_
  refine A6.aloadN (q := 28) d_prog_60_method_5_27 rfl rfl rfl ?_
  refine A6.iload (q := 30) d_prog_60_method_5_28 rfl rfl ?_
  refine A6.aloadN (q := 31) d_prog_60_method_5_30 rfl rfl rfl ?_
  refine A6.iload (q := 33) d_prog_60_method_5_31 rfl rfl ?_
  refine A6.ldJ (qn := 34) (i := 1) d_prog_60_method_5_33 rfl (by decide) rfl rfl ?_
  refine A6.aloadN (q := 35) d_prog_60_method_5_34 rfl rfl rfl ?_
  refine A6.getF (qn := 38) (i := 0) (j := 2) (tw hw 27 rfl) Via.refl d_prog_60_method_5_35 rfl rfl rfl (fun T7 A8 => ?_)
  refine A8.iloadN (q := 39) d_prog_60_method_5_38 rfl rfl ?_
  refine A8.ldJ (qn := 40) (i := 4) d_prog_60_method_5_39 rfl (by decide) rfl rfl ?_
  refine A8.aloadN (q := 41) d_prog_60_method_5_40 rfl rfl rfl ?_
  refine A8.getF (qn := 44) (i := 0) (j := 1) (tw hw 24 rfl) Via.refl d_prog_60_method_5_41 rfl rfl rfl (fun T9 A10 => ?_)
  refine A10.iloadN (q := 45) d_prog_60_method_5_44 rfl rfl ?_
  refine A10.ldI (qn := 46) (i := 3) d_prog_60_method_5_45 rfl (by decide) rfl rfl ?_
  refine A10.lshl (q := 47) d_prog_60_method_5_46 rfl ?_
  refine A10.ldc2 (qn := 50) (v := -1) (tw hw 66 rfl) d_prog_60_method_5_47 rfl ?_
  refine A10.lxor (q := 51) d_prog_60_method_5_50 rfl ?_
  refine A10.land (q := 52) d_prog_60_method_5_51 rfl ?_
  refine A10.lload (q := 54) d_prog_60_method_5_52 rfl rfl ?_
  refine A10.aloadN (q := 55) d_prog_60_method_5_54 rfl rfl rfl ?_
  refine A10.getF (qn := 58) (i := 0) (j := 1) (tw hw 24 rfl) Via.refl d_prog_60_method_5_55 rfl rfl rfl (fun T11 A12 => ?_)
  refine A12.iloadN (q := 59) d_prog_60_method_5_58 rfl rfl ?_
  refine A12.ldI (qn := 60) (i := 3) d_prog_60_method_5_59 rfl (by decide) rfl rfl ?_
  refine A12.lshl (q := 61) d_prog_60_method_5_60 rfl ?_
  refine A12.lor (q := 62) d_prog_60_method_5_61 rfl ?_
  refine A12.stJ (qn := 63) (i := 1) d_prog_60_method_5_62 rfl (by decide) (show (0 : Int32).toNatClampNeg < 1 from by decide) rfl rfl (fun T13 A14 => ?_)
  have A15 := A14.cast (k2 := 0) (n2 := 0) (os2 := [(a, ob0 (.ref bw) (.ref bs) (.ref bm) (.ref bl) (.int wi)), (b, .inr (.long, [(.long ((q0 &&& ((m2 <<< (s2 &&& 0x3f).toInt64) ^^^ (-1 : Int64))) ||| (((vv.toInt64 - l2.toInt64) &&& m2) <<< (s2 &&& 0x3f).toInt64)))])), (bw, .inr (.int, [(.int 0), (.int 0), (.int 0)])), (bs, .inr (.int, [(.int s0), (.int s1), (.int s2)])), (bm, .inr (.long, [(.long m0), (.long m1), (.long m2)])), (bl, .inr (.int, [(.int l0), (.int l1), (.int l2)]))]) rfl rfl rfl
  exact A15.retV d_prog_60_method_5_63 (by decide) (by decide) ⟨rfl, rfl⟩
theorem d_prog_60_method_3_0 : decode prog_60_method_3_code 0 = .ok (.iconst 0, 1) := by decide +kernel
theorem d_prog_60_method_3_1 : decode prog_60_method_3_code 1 = .ok (.istore_n 3, 1) := by decide +kernel
theorem d_prog_60_method_3_2 : decode prog_60_method_3_code 2 = .ok (.iload_n 3, 1) := by decide +kernel
theorem d_prog_60_method_3_3 : decode prog_60_method_3_code 3 = .ok (.aload_n 1, 1) := by decide +kernel
theorem d_prog_60_method_3_4 : decode prog_60_method_3_code 4 = .ok (.arraylength, 1) := by decide +kernel
theorem d_prog_60_method_3_5 : decode prog_60_method_3_code 5 = .ok (.if_icmp .ge 18, 3) := by decide +kernel
theorem d_prog_60_method_3_8 : decode prog_60_method_3_code 8 = .ok (.aload_n 0, 1) := by decide +kernel
theorem d_prog_60_method_3_9 : decode prog_60_method_3_code 9 = .ok (.aload_n 2, 1) := by decide +kernel
theorem d_prog_60_method_3_10 : decode prog_60_method_3_code 10 = .ok (.iload_n 3, 1) := by decide +kernel
theorem d_prog_60_method_3_11 : decode prog_60_method_3_code 11 = .ok (.aload_n 1, 1) := by decide +kernel
theorem d_prog_60_method_3_12 : decode prog_60_method_3_code 12 = .ok (.iload_n 3, 1) := by decide +kernel
theorem d_prog_60_method_3_13 : decode prog_60_method_3_code 13 = .ok (.iaload, 1) := by decide +kernel
theorem d_prog_60_method_3_14 : decode prog_60_method_3_code 14 = .ok (.invokevirtual 38, 3) := by decide +kernel
theorem pd_7 : parseMethodDescriptor "([JII)V" = some ⟨[(.array .long), .int, .int], none⟩ := by decide +kernel
theorem d_prog_60_method_3_17 : decode prog_60_method_3_code 17 = .ok (.iinc 3 1, 3) := by decide +kernel
theorem d_prog_60_method_3_20 : decode prog_60_method_3_code 20 = .ok (.goto (-18), 3) := by decide +kernel
theorem d_prog_60_method_3_23 : decode prog_60_method_3_code 23 = .ok (.return_, 1) := by decide +kernel
theorem ef_m_pack01 (m : MethodId) (x0 : Addr) (x1 : Addr) (x2 : Addr) : entryFrame m #[(.ref x0), (.ref x1), (.ref x2)] 4 = mkF m 0 #[.val (.ref x0), .val (.ref x1), .val (.ref x2), .unset] [] := by first | (simp [entryFrame, mkF, argsToLocals, Value.category]; done) | rfl
set_option maxRecDepth 65536 in
set_option maxHeartbeats 40000000 in
theorem m_pack01 (l : Launch) (Z : State) (a0 : Array Value) (hw : ∀ d ∈ tables_1, d.before a0 Z = true) (a : Addr) (b : Addr) (bw : Addr) (bs : Addr) (bm : Addr) (bl : Addr) (d : Addr) (wi : Int32) (q0 : Int64) (s0 : Int32) (s1 : Int32) (s2 : Int32) (m0 : Int64) (m1 : Int64) (m2 : Int64) (l0 : Int32) (l1 : Int32) (l2 : Int32) (v0 : Int32) (v1 : Int32) (v2 : Int32) :
    Pays l Z a0 (⟨"com/example/nomoc/nomoc/checker/StateLayout", "pack", "([I[J)V"⟩ : MethodName) prog_60_method_3_code 4 none ({ frames := 1, cells := 0, slots := 0, locals := 18 } : Room) #[(.ref a), (.ref d), (.ref b)] [(a, ob0 (.ref bw) (.ref bs) (.ref bm) (.ref bl) (.int wi)), (b, .inr (.long, [(.long q0)])), (bw, .inr (.int, [(.int 0), (.int 0), (.int 0)])), (bs, .inr (.int, [(.int s0), (.int s1), (.int s2)])), (bm, .inr (.long, [(.long m0), (.long m1), (.long m2)])), (bl, .inr (.int, [(.int l0), (.int l1), (.int l2)])), (d, .inr (.int, [(.int v0), (.int v1), (.int v2)]))] (([(a, ob0 (.ref bw) (.ref bs) (.ref bm) (.ref bl) (.int wi)), (b, .inr (.long, [(.long q0)])), (bw, .inr (.int, [(.int 0), (.int 0), (.int 0)])), (bs, .inr (.int, [(.int s0), (.int s1), (.int s2)])), (bm, .inr (.long, [(.long m0), (.long m1), (.long m2)])), (bl, .inr (.int, [(.int l0), (.int l1), (.int l2)])), (d, .inr (.int, [(.int v0), (.int v1), (.int v2)]))] : Hs).map (·.1)) (fun v os' => v = none ∧ os' = [(a, ob0 (.ref bw) (.ref bs) (.ref bm) (.ref bl) (.int wi)), (b, .inr (.long, [(.long (own_put (own_put (own_put q0 s0 m0 l0 v0) s1 m1 l1 v1) s2 m2 l2 v2))])), (bw, .inr (.int, [(.int 0), (.int 0), (.int 0)])), (bs, .inr (.int, [(.int s0), (.int s1), (.int s2)])), (bm, .inr (.long, [(.long m0), (.long m1), (.long m2)])), (bl, .inr (.int, [(.int l0), (.int l1), (.int l2)])), (d, .inr (.int, [(.int v0), (.int v1), (.int v2)]))]) := by
  refine Pays.of (Ls := #[.val (.ref a), .val (.ref d), .val (.ref b), .unset]) (plainFor_of_name pn_4) (fun m => ef_m_pack01 m a d b) ?_
  intro p e s m below meth c T0 A0
  refine A0.iconst (q := 1) (v := 0) d_prog_60_method_3_0 rfl rfl ?_
  refine A0.istoreN (q := 2) (l' := #[.val (.ref a), .val (.ref d), .val (.ref b), .val (.int 0)]) d_prog_60_method_3_1 rfl rfl ?_
  refine A0.iloadN (q := 3) d_prog_60_method_3_2 rfl rfl ?_
  refine A0.aloadN (q := 4) d_prog_60_method_3_3 rfl rfl rfl ?_
  refine A0.len (qn := 5) (i := 6) (z := (3 : Int32)) d_prog_60_method_3_4 rfl (rfl) rfl ?_
  refine A0.icmpNo (q := 8) d_prog_60_method_3_5 (by decide) rfl ?_
  refine A0.aloadN (q := 9) d_prog_60_method_3_8 rfl rfl rfl ?_
  refine A0.aloadN (q := 10) d_prog_60_method_3_9 rfl rfl rfl ?_
  refine A0.iloadN (q := 11) d_prog_60_method_3_10 rfl rfl ?_
  refine A0.aloadN (q := 12) d_prog_60_method_3_11 rfl rfl rfl ?_
  refine A0.iloadN (q := 13) d_prog_60_method_3_12 rfl rfl ?_
  refine A0.ldI (qn := 14) (i := 6) d_prog_60_method_3_13 rfl (by decide) rfl rfl ?_
  have A1 := A0.pick (is := [6, 0, 1, 2, 3, 4, 5]) (os2 := [(d, .inr (.int, [(.int v0), (.int v1), (.int v2)])), (a, ob0 (.ref bw) (.ref bs) (.ref bm) (.ref bl) (.int wi)), (b, .inr (.long, [(.long q0)])), (bw, .inr (.int, [(.int 0), (.int 0), (.int 0)])), (bs, .inr (.int, [(.int s0), (.int s1), (.int s2)])), (bm, .inr (.long, [(.long m0), (.long m1), (.long m2)])), (bl, .inr (.int, [(.int l0), (.int l1), (.int l2)]))]) (by decide) rfl
  refine Here.callV (qn := 17) (os1 := [(d, .inr (.int, [(.int v0), (.int v1), (.int v2)]))]) (os2 := [(a, ob0 (.ref bw) (.ref bs) (.ref bm) (.ref bl) (.int wi)), (b, .inr (.long, [(.long q0)])), (bw, .inr (.int, [(.int 0), (.int 0), (.int 0)])), (bs, .inr (.int, [(.int s0), (.int s1), (.int s2)])), (bm, .inr (.long, [(.long m0), (.long m1), (.long m2)])), (bl, .inr (.int, [(.int l0), (.int l1), (.int l2)]))]) (rest := []) (W := 0) (argsL := [(.ref b), (.int 0), (.int v0)]) (a := a) (i := 1) A1 (m_set010 l Z a0 hw a b bw bs bm bl v0 wi q0 s0 s1 s2 m0 m1 m2 l0 l1 l2) (Or.inr ⟨rfl, rfl⟩) rfl (tw hw 61 rfl) (tw hw 62 rfl) (tw hw 64 rfl) (tw hw 63 rfl) (tw hw 15 rfl) (tw hw 65 rfl) (by decide) d_prog_60_method_3_14 rfl (lenOf pd_7 rfl) rfl (Nat.le_of_eq rfl) (by decide) (by decide) (by decide) (by decide) rfl (fun T2 v3 os4 A5 P6 => ?_)
  obtain ⟨rfl, rfl⟩ := P6
  have A7 := A5.cast (k2 := 0) (n2 := 0) (os2 := [(d, .inr (.int, [(.int v0), (.int v1), (.int v2)])), (a, ob0 (.ref bw) (.ref bs) (.ref bm) (.ref bl) (.int wi)), (b, .inr (.long, [(.long (own_put q0 s0 m0 l0 v0))])), (bw, .inr (.int, [(.int 0), (.int 0), (.int 0)])), (bs, .inr (.int, [(.int s0), (.int s1), (.int s2)])), (bm, .inr (.long, [(.long m0), (.long m1), (.long m2)])), (bl, .inr (.int, [(.int l0), (.int l1), (.int l2)]))]) rfl rfl rfl
  refine A7.iinc (q := 20) (l' := #[.val (.ref a), .val (.ref d), .val (.ref b), .val (.int 1)]) d_prog_60_method_3_17 rfl rfl rfl ?_
  refine A7.goto (q := 2) d_prog_60_method_3_20 (by decide) (by decide) ?_
  refine A7.iloadN (q := 3) d_prog_60_method_3_2 rfl rfl ?_
  refine A7.aloadN (q := 4) d_prog_60_method_3_3 rfl rfl rfl ?_
  refine A7.len (qn := 5) (i := 0) (z := (3 : Int32)) d_prog_60_method_3_4 rfl (rfl) rfl ?_
  refine A7.icmpNo (q := 8) d_prog_60_method_3_5 (by decide) rfl ?_
  refine A7.aloadN (q := 9) d_prog_60_method_3_8 rfl rfl rfl ?_
  refine A7.aloadN (q := 10) d_prog_60_method_3_9 rfl rfl rfl ?_
  refine A7.iloadN (q := 11) d_prog_60_method_3_10 rfl rfl ?_
  refine A7.aloadN (q := 12) d_prog_60_method_3_11 rfl rfl rfl ?_
  refine A7.iloadN (q := 13) d_prog_60_method_3_12 rfl rfl ?_
  refine A7.ldI (qn := 14) (i := 0) d_prog_60_method_3_13 rfl (by decide) rfl rfl ?_
  refine Here.callV (qn := 17) (os1 := [(d, .inr (.int, [(.int v0), (.int v1), (.int v2)]))]) (os2 := [(a, ob0 (.ref bw) (.ref bs) (.ref bm) (.ref bl) (.int wi)), (b, .inr (.long, [(.long (own_put q0 s0 m0 l0 v0))])), (bw, .inr (.int, [(.int 0), (.int 0), (.int 0)])), (bs, .inr (.int, [(.int s0), (.int s1), (.int s2)])), (bm, .inr (.long, [(.long m0), (.long m1), (.long m2)])), (bl, .inr (.int, [(.int l0), (.int l1), (.int l2)]))]) (rest := []) (W := 0) (argsL := [(.ref b), (.int 1), (.int v1)]) (a := a) (i := 1) A7 (m_set011 l Z a0 hw a b bw bs bm bl v1 wi ((own_put q0 s0 m0 l0 v0)) s0 s1 s2 m0 m1 m2 l0 l1 l2) (Or.inr ⟨rfl, rfl⟩) rfl (tw hw 61 rfl) (tw hw 62 rfl) (tw hw 64 rfl) (tw hw 63 rfl) (tw hw 15 rfl) (tw hw 65 rfl) (by decide) d_prog_60_method_3_14 rfl (lenOf pd_7 rfl) rfl (Nat.le_of_eq rfl) (by decide) (by decide) (by decide) (by decide) rfl (fun T8 v9 os10 A11 P12 => ?_)
  obtain ⟨rfl, rfl⟩ := P12
  have A13 := A11.cast (k2 := 0) (n2 := 0) (os2 := [(d, .inr (.int, [(.int v0), (.int v1), (.int v2)])), (a, ob0 (.ref bw) (.ref bs) (.ref bm) (.ref bl) (.int wi)), (b, .inr (.long, [(.long (own_put (own_put q0 s0 m0 l0 v0) s1 m1 l1 v1))])), (bw, .inr (.int, [(.int 0), (.int 0), (.int 0)])), (bs, .inr (.int, [(.int s0), (.int s1), (.int s2)])), (bm, .inr (.long, [(.long m0), (.long m1), (.long m2)])), (bl, .inr (.int, [(.int l0), (.int l1), (.int l2)]))]) rfl rfl rfl
  refine A13.iinc (q := 20) (l' := #[.val (.ref a), .val (.ref d), .val (.ref b), .val (.int 2)]) d_prog_60_method_3_17 rfl rfl rfl ?_
  refine A13.goto (q := 2) d_prog_60_method_3_20 (by decide) (by decide) ?_
  refine A13.iloadN (q := 3) d_prog_60_method_3_2 rfl rfl ?_
  refine A13.aloadN (q := 4) d_prog_60_method_3_3 rfl rfl rfl ?_
  refine A13.len (qn := 5) (i := 0) (z := (3 : Int32)) d_prog_60_method_3_4 rfl (rfl) rfl ?_
  refine A13.icmpNo (q := 8) d_prog_60_method_3_5 (by decide) rfl ?_
  refine A13.aloadN (q := 9) d_prog_60_method_3_8 rfl rfl rfl ?_
  refine A13.aloadN (q := 10) d_prog_60_method_3_9 rfl rfl rfl ?_
  refine A13.iloadN (q := 11) d_prog_60_method_3_10 rfl rfl ?_
  refine A13.aloadN (q := 12) d_prog_60_method_3_11 rfl rfl rfl ?_
  refine A13.iloadN (q := 13) d_prog_60_method_3_12 rfl rfl ?_
  refine A13.ldI (qn := 14) (i := 0) d_prog_60_method_3_13 rfl (by decide) rfl rfl ?_
  refine Here.callV (qn := 17) (os1 := [(d, .inr (.int, [(.int v0), (.int v1), (.int v2)]))]) (os2 := [(a, ob0 (.ref bw) (.ref bs) (.ref bm) (.ref bl) (.int wi)), (b, .inr (.long, [(.long (own_put (own_put q0 s0 m0 l0 v0) s1 m1 l1 v1))])), (bw, .inr (.int, [(.int 0), (.int 0), (.int 0)])), (bs, .inr (.int, [(.int s0), (.int s1), (.int s2)])), (bm, .inr (.long, [(.long m0), (.long m1), (.long m2)])), (bl, .inr (.int, [(.int l0), (.int l1), (.int l2)]))]) (rest := []) (W := 0) (argsL := [(.ref b), (.int 2), (.int v2)]) (a := a) (i := 1) A13 (m_set012 l Z a0 hw a b bw bs bm bl v2 wi ((own_put (own_put q0 s0 m0 l0 v0) s1 m1 l1 v1)) s0 s1 s2 m0 m1 m2 l0 l1 l2) (Or.inr ⟨rfl, rfl⟩) rfl (tw hw 61 rfl) (tw hw 62 rfl) (tw hw 64 rfl) (tw hw 63 rfl) (tw hw 15 rfl) (tw hw 65 rfl) (by decide) d_prog_60_method_3_14 rfl (lenOf pd_7 rfl) rfl (Nat.le_of_eq rfl) (by decide) (by decide) (by decide) (by decide) rfl (fun T14 v15 os16 A17 P18 => ?_)
  obtain ⟨rfl, rfl⟩ := P18
  have A19 := A17.cast (k2 := 0) (n2 := 0) (os2 := [(d, .inr (.int, [(.int v0), (.int v1), (.int v2)])), (a, ob0 (.ref bw) (.ref bs) (.ref bm) (.ref bl) (.int wi)), (b, .inr (.long, [(.long (own_put (own_put (own_put q0 s0 m0 l0 v0) s1 m1 l1 v1) s2 m2 l2 v2))])), (bw, .inr (.int, [(.int 0), (.int 0), (.int 0)])), (bs, .inr (.int, [(.int s0), (.int s1), (.int s2)])), (bm, .inr (.long, [(.long m0), (.long m1), (.long m2)])), (bl, .inr (.int, [(.int l0), (.int l1), (.int l2)]))]) rfl rfl rfl
  refine A19.iinc (q := 20) (l' := #[.val (.ref a), .val (.ref d), .val (.ref b), .val (.int 3)]) d_prog_60_method_3_17 rfl rfl rfl ?_
  refine A19.goto (q := 2) d_prog_60_method_3_20 (by decide) (by decide) ?_
  refine A19.iloadN (q := 3) d_prog_60_method_3_2 rfl rfl ?_
  refine A19.aloadN (q := 4) d_prog_60_method_3_3 rfl rfl rfl ?_
  refine A19.len (qn := 5) (i := 0) (z := (3 : Int32)) d_prog_60_method_3_4 rfl (rfl) rfl ?_
  refine A19.icmpYes (q := 23) d_prog_60_method_3_5 (by decide) (by decide) (by decide) ?_
  have A20 := A19.pick (is := [1, 2, 3, 4, 5, 6, 0]) (os2 := [(a, ob0 (.ref bw) (.ref bs) (.ref bm) (.ref bl) (.int wi)), (b, .inr (.long, [(.long (own_put (own_put (own_put q0 s0 m0 l0 v0) s1 m1 l1 v1) s2 m2 l2 v2))])), (bw, .inr (.int, [(.int 0), (.int 0), (.int 0)])), (bs, .inr (.int, [(.int s0), (.int s1), (.int s2)])), (bm, .inr (.long, [(.long m0), (.long m1), (.long m2)])), (bl, .inr (.int, [(.int l0), (.int l1), (.int l2)])), (d, .inr (.int, [(.int v0), (.int v1), (.int v2)]))]) (by decide) rfl
  exact A20.retV d_prog_60_method_3_23 (by decide) (by decide) ⟨rfl, rfl⟩
theorem d_prog_60_method_4_0 : decode prog_60_method_4_code 0 = .ok (.iconst 0, 1) := by decide +kernel
theorem d_prog_60_method_4_1 : decode prog_60_method_4_code 1 = .ok (.istore_n 3, 1) := by decide +kernel
theorem d_prog_60_method_4_2 : decode prog_60_method_4_code 2 = .ok (.iload_n 3, 1) := by decide +kernel
theorem d_prog_60_method_4_3 : decode prog_60_method_4_code 3 = .ok (.aload_n 2, 1) := by decide +kernel
theorem d_prog_60_method_4_4 : decode prog_60_method_4_code 4 = .ok (.arraylength, 1) := by decide +kernel
theorem d_prog_60_method_4_5 : decode prog_60_method_4_code 5 = .ok (.if_icmp .ge 43, 3) := by decide +kernel
theorem d_prog_60_method_4_8 : decode prog_60_method_4_code 8 = .ok (.aload_n 2, 1) := by decide +kernel
theorem d_prog_60_method_4_9 : decode prog_60_method_4_code 9 = .ok (.iload_n 3, 1) := by decide +kernel
theorem d_prog_60_method_4_10 : decode prog_60_method_4_code 10 = .ok (.aload_n 1, 1) := by decide +kernel
theorem d_prog_60_method_4_11 : decode prog_60_method_4_code 11 = .ok (.aload_n 0, 1) := by decide +kernel
theorem d_prog_60_method_4_12 : decode prog_60_method_4_code 12 = .ok (.getfield 7, 3) := by decide +kernel
theorem d_prog_60_method_4_15 : decode prog_60_method_4_code 15 = .ok (.iload_n 3, 1) := by decide +kernel
theorem d_prog_60_method_4_16 : decode prog_60_method_4_code 16 = .ok (.iaload, 1) := by decide +kernel
theorem d_prog_60_method_4_17 : decode prog_60_method_4_code 17 = .ok (.laload, 1) := by decide +kernel
theorem d_prog_60_method_4_18 : decode prog_60_method_4_code 18 = .ok (.aload_n 0, 1) := by decide +kernel
theorem d_prog_60_method_4_19 : decode prog_60_method_4_code 19 = .ok (.getfield 13, 3) := by decide +kernel
theorem d_prog_60_method_4_22 : decode prog_60_method_4_code 22 = .ok (.iload_n 3, 1) := by decide +kernel
theorem d_prog_60_method_4_23 : decode prog_60_method_4_code 23 = .ok (.iaload, 1) := by decide +kernel
theorem d_prog_60_method_4_24 : decode prog_60_method_4_code 24 = .ok (.lushr, 1) := by decide +kernel
theorem d_prog_60_method_4_25 : decode prog_60_method_4_code 25 = .ok (.aload_n 0, 1) := by decide +kernel
theorem d_prog_60_method_4_26 : decode prog_60_method_4_code 26 = .ok (.getfield 16, 3) := by decide +kernel
theorem d_prog_60_method_4_29 : decode prog_60_method_4_code 29 = .ok (.iload_n 3, 1) := by decide +kernel
theorem d_prog_60_method_4_30 : decode prog_60_method_4_code 30 = .ok (.laload, 1) := by decide +kernel
theorem d_prog_60_method_4_31 : decode prog_60_method_4_code 31 = .ok (.land, 1) := by decide +kernel
theorem d_prog_60_method_4_32 : decode prog_60_method_4_code 32 = .ok (.aload_n 0, 1) := by decide +kernel
theorem d_prog_60_method_4_33 : decode prog_60_method_4_code 33 = .ok (.getfield 25, 3) := by decide +kernel
theorem d_prog_60_method_4_36 : decode prog_60_method_4_code 36 = .ok (.iload_n 3, 1) := by decide +kernel
theorem d_prog_60_method_4_37 : decode prog_60_method_4_code 37 = .ok (.iaload, 1) := by decide +kernel
theorem d_prog_60_method_4_38 : decode prog_60_method_4_code 38 = .ok (.i2l, 1) := by decide +kernel
theorem d_prog_60_method_4_39 : decode prog_60_method_4_code 39 = .ok (.ladd, 1) := by decide +kernel
theorem d_prog_60_method_4_40 : decode prog_60_method_4_code 40 = .ok (.l2i, 1) := by decide +kernel
theorem d_prog_60_method_4_41 : decode prog_60_method_4_code 41 = .ok (.iastore, 1) := by decide +kernel
theorem d_prog_60_method_4_42 : decode prog_60_method_4_code 42 = .ok (.iinc 3 1, 3) := by decide +kernel
theorem d_prog_60_method_4_45 : decode prog_60_method_4_code 45 = .ok (.goto (-43), 3) := by decide +kernel
theorem d_prog_60_method_4_48 : decode prog_60_method_4_code 48 = .ok (.return_, 1) := by decide +kernel
theorem ef_m_unp01 (m : MethodId) (x0 : Addr) (x1 : Addr) (x2 : Addr) : entryFrame m #[(.ref x0), (.ref x1), (.ref x2)] 4 = mkF m 0 #[.val (.ref x0), .val (.ref x1), .val (.ref x2), .unset] [] := by first | (simp [entryFrame, mkF, argsToLocals, Value.category]; done) | rfl
set_option maxRecDepth 65536 in
set_option maxHeartbeats 40000000 in
theorem m_unp01 (l : Launch) (Z : State) (a0 : Array Value) (hw : ∀ d ∈ tables_1, d.before a0 Z = true) (a : Addr) (b : Addr) (bw : Addr) (bs : Addr) (bm : Addr) (bl : Addr) (d : Addr) (wi : Int32) (q0 : Int64) (s0 : Int32) (s1 : Int32) (s2 : Int32) (m0 : Int64) (m1 : Int64) (m2 : Int64) (l0 : Int32) (l1 : Int32) (l2 : Int32) (o0 : Int32) (o1 : Int32) (o2 : Int32) :
    Pays l Z a0 (⟨"com/example/nomoc/nomoc/checker/StateLayout", "unpack", "([J[I)V"⟩ : MethodName) prog_60_method_4_code 4 none ({ frames := 0, cells := 0, slots := 0, locals := 0 } : Room) #[(.ref a), (.ref b), (.ref d)] [(a, ob0 (.ref bw) (.ref bs) (.ref bm) (.ref bl) (.int wi)), (b, .inr (.long, [(.long q0)])), (bw, .inr (.int, [(.int 0), (.int 0), (.int 0)])), (bs, .inr (.int, [(.int s0), (.int s1), (.int s2)])), (bm, .inr (.long, [(.long m0), (.long m1), (.long m2)])), (bl, .inr (.int, [(.int l0), (.int l1), (.int l2)])), (d, .inr (.int, [(.int o0), (.int o1), (.int o2)]))] (([(a, ob0 (.ref bw) (.ref bs) (.ref bm) (.ref bl) (.int wi)), (b, .inr (.long, [(.long q0)])), (bw, .inr (.int, [(.int 0), (.int 0), (.int 0)])), (bs, .inr (.int, [(.int s0), (.int s1), (.int s2)])), (bm, .inr (.long, [(.long m0), (.long m1), (.long m2)])), (bl, .inr (.int, [(.int l0), (.int l1), (.int l2)])), (d, .inr (.int, [(.int o0), (.int o1), (.int o2)]))] : Hs).map (·.1)) (fun v os' => v = none ∧ os' = [(a, ob0 (.ref bw) (.ref bs) (.ref bm) (.ref bl) (.int wi)), (b, .inr (.long, [(.long q0)])), (bw, .inr (.int, [(.int 0), (.int 0), (.int 0)])), (bs, .inr (.int, [(.int s0), (.int s1), (.int s2)])), (bm, .inr (.long, [(.long m0), (.long m1), (.long m2)])), (bl, .inr (.int, [(.int l0), (.int l1), (.int l2)])), (d, .inr (.int, [(.int (own_get q0 s0 m0 l0)), (.int (own_get q0 s1 m1 l1)), (.int (own_get q0 s2 m2 l2))]))]) := by
  refine Pays.of (Ls := #[.val (.ref a), .val (.ref b), .val (.ref d), .unset]) (plainFor_of_name pn_4) (fun m => ef_m_unp01 m a b d) ?_
  intro p e s m below meth c T0 A0
  refine A0.iconst (q := 1) (v := 0) d_prog_60_method_4_0 rfl rfl ?_
  refine A0.istoreN (q := 2) (l' := #[.val (.ref a), .val (.ref b), .val (.ref d), .val (.int 0)]) d_prog_60_method_4_1 rfl rfl ?_
  refine A0.iloadN (q := 3) d_prog_60_method_4_2 rfl rfl ?_
  refine A0.aloadN (q := 4) d_prog_60_method_4_3 rfl rfl rfl ?_
  refine A0.len (qn := 5) (i := 6) (z := (3 : Int32)) d_prog_60_method_4_4 rfl (rfl) rfl ?_
  refine A0.icmpNo (q := 8) d_prog_60_method_4_5 (by decide) rfl ?_
  refine A0.aloadN (q := 9) d_prog_60_method_4_8 rfl rfl rfl ?_
  refine A0.iloadN (q := 10) d_prog_60_method_4_9 rfl rfl ?_
  refine A0.aloadN (q := 11) d_prog_60_method_4_10 rfl rfl rfl ?_
  refine A0.aloadN (q := 12) d_prog_60_method_4_11 rfl rfl rfl ?_
  refine A0.getF (qn := 15) (i := 0) (j := 0) (tw hw 22 rfl) Via.refl d_prog_60_method_4_12 rfl rfl rfl (fun T1 A2 => ?_)
  refine A2.iloadN (q := 16) d_prog_60_method_4_15 rfl rfl ?_
  refine A2.ldI (qn := 17) (i := 2) d_prog_60_method_4_16 rfl (by decide) rfl rfl ?_
  refine A2.ldJ (qn := 18) (i := 1) d_prog_60_method_4_17 rfl (by decide) rfl rfl ?_
  refine A2.aloadN (q := 19) d_prog_60_method_4_18 rfl rfl rfl ?_
  refine A2.getF (qn := 22) (i := 0) (j := 1) (tw hw 24 rfl) Via.refl d_prog_60_method_4_19 rfl rfl rfl (fun T3 A4 => ?_)
  refine A4.iloadN (q := 23) d_prog_60_method_4_22 rfl rfl ?_
  refine A4.ldI (qn := 24) (i := 3) d_prog_60_method_4_23 rfl (by decide) rfl rfl ?_
  refine A4.lushr (q := 25) d_prog_60_method_4_24 rfl ?_
  refine A4.aloadN (q := 26) d_prog_60_method_4_25 rfl rfl rfl ?_
  refine A4.getF (qn := 29) (i := 0) (j := 2) (tw hw 27 rfl) Via.refl d_prog_60_method_4_26 rfl rfl rfl (fun T5 A6 => ?_)
  refine A6.iloadN (q := 30) d_prog_60_method_4_29 rfl rfl ?_
  refine A6.ldJ (qn := 31) (i := 4) d_prog_60_method_4_30 rfl (by decide) rfl rfl ?_
  refine A6.land (q := 32) d_prog_60_method_4_31 rfl ?_
  refine A6.aloadN (q := 33) d_prog_60_method_4_32 rfl rfl rfl ?_
  refine A6.getF (qn := 36) (i := 0) (j := 3) (tw hw 38 rfl) Via.refl d_prog_60_method_4_33 rfl rfl rfl (fun T7 A8 => ?_)
  refine A8.iloadN (q := 37) d_prog_60_method_4_36 rfl rfl ?_
  refine A8.ldI (qn := 38) (i := 5) d_prog_60_method_4_37 rfl (by decide) rfl rfl ?_
  refine A8.i2l (q := 39) d_prog_60_method_4_38 rfl ?_
  refine A8.ladd (q := 40) d_prog_60_method_4_39 rfl ?_
  refine A8.l2i (q := 41) d_prog_60_method_4_40 rfl ?_
  refine A8.stI (qn := 42) (i := 6) d_prog_60_method_4_41 rfl (by decide) (show (0 : Int32).toNatClampNeg < 3 from by decide) rfl rfl (fun T9 A10 => ?_)
  have A11 := A10.cast (k2 := 0) (n2 := 0) (os2 := [(a, ob0 (.ref bw) (.ref bs) (.ref bm) (.ref bl) (.int wi)), (b, .inr (.long, [(.long q0)])), (bw, .inr (.int, [(.int 0), (.int 0), (.int 0)])), (bs, .inr (.int, [(.int s0), (.int s1), (.int s2)])), (bm, .inr (.long, [(.long m0), (.long m1), (.long m2)])), (bl, .inr (.int, [(.int l0), (.int l1), (.int l2)])), (d, .inr (.int, [(.int ((((q0.toUInt64 >>> (s0 &&& 0x3f).toInt64.toUInt64).toInt64) &&& m0) + l0.toInt64).toInt32), (.int o1), (.int o2)]))]) rfl rfl rfl
  refine A11.iinc (q := 45) (l' := #[.val (.ref a), .val (.ref b), .val (.ref d), .val (.int 1)]) d_prog_60_method_4_42 rfl rfl rfl ?_
  refine A11.goto (q := 2) d_prog_60_method_4_45 (by decide) (by decide) ?_
  refine A11.iloadN (q := 3) d_prog_60_method_4_2 rfl rfl ?_
  refine A11.aloadN (q := 4) d_prog_60_method_4_3 rfl rfl rfl ?_
  refine A11.len (qn := 5) (i := 6) (z := (3 : Int32)) d_prog_60_method_4_4 rfl (rfl) rfl ?_
  refine A11.icmpNo (q := 8) d_prog_60_method_4_5 (by decide) rfl ?_
  refine A11.aloadN (q := 9) d_prog_60_method_4_8 rfl rfl rfl ?_
  refine A11.iloadN (q := 10) d_prog_60_method_4_9 rfl rfl ?_
  refine A11.aloadN (q := 11) d_prog_60_method_4_10 rfl rfl rfl ?_
  refine A11.aloadN (q := 12) d_prog_60_method_4_11 rfl rfl rfl ?_
  refine A11.getF (qn := 15) (i := 0) (j := 0) (tw hw 22 rfl) Via.refl d_prog_60_method_4_12 rfl rfl rfl (fun T12 A13 => ?_)
  refine A13.iloadN (q := 16) d_prog_60_method_4_15 rfl rfl ?_
  refine A13.ldI (qn := 17) (i := 2) d_prog_60_method_4_16 rfl (by decide) rfl rfl ?_
  refine A13.ldJ (qn := 18) (i := 1) d_prog_60_method_4_17 rfl (by decide) rfl rfl ?_
  refine A13.aloadN (q := 19) d_prog_60_method_4_18 rfl rfl rfl ?_
  refine A13.getF (qn := 22) (i := 0) (j := 1) (tw hw 24 rfl) Via.refl d_prog_60_method_4_19 rfl rfl rfl (fun T14 A15 => ?_)
  refine A15.iloadN (q := 23) d_prog_60_method_4_22 rfl rfl ?_
  refine A15.ldI (qn := 24) (i := 3) d_prog_60_method_4_23 rfl (by decide) rfl rfl ?_
  refine A15.lushr (q := 25) d_prog_60_method_4_24 rfl ?_
  refine A15.aloadN (q := 26) d_prog_60_method_4_25 rfl rfl rfl ?_
  refine A15.getF (qn := 29) (i := 0) (j := 2) (tw hw 27 rfl) Via.refl d_prog_60_method_4_26 rfl rfl rfl (fun T16 A17 => ?_)
  refine A17.iloadN (q := 30) d_prog_60_method_4_29 rfl rfl ?_
  refine A17.ldJ (qn := 31) (i := 4) d_prog_60_method_4_30 rfl (by decide) rfl rfl ?_
  refine A17.land (q := 32) d_prog_60_method_4_31 rfl ?_
  refine A17.aloadN (q := 33) d_prog_60_method_4_32 rfl rfl rfl ?_
  refine A17.getF (qn := 36) (i := 0) (j := 3) (tw hw 38 rfl) Via.refl d_prog_60_method_4_33 rfl rfl rfl (fun T18 A19 => ?_)
  refine A19.iloadN (q := 37) d_prog_60_method_4_36 rfl rfl ?_
  refine A19.ldI (qn := 38) (i := 5) d_prog_60_method_4_37 rfl (by decide) rfl rfl ?_
  refine A19.i2l (q := 39) d_prog_60_method_4_38 rfl ?_
  refine A19.ladd (q := 40) d_prog_60_method_4_39 rfl ?_
  refine A19.l2i (q := 41) d_prog_60_method_4_40 rfl ?_
  refine A19.stI (qn := 42) (i := 6) d_prog_60_method_4_41 rfl (by decide) (show (1 : Int32).toNatClampNeg < 3 from by decide) rfl rfl (fun T20 A21 => ?_)
  have A22 := A21.cast (k2 := 0) (n2 := 0) (os2 := [(a, ob0 (.ref bw) (.ref bs) (.ref bm) (.ref bl) (.int wi)), (b, .inr (.long, [(.long q0)])), (bw, .inr (.int, [(.int 0), (.int 0), (.int 0)])), (bs, .inr (.int, [(.int s0), (.int s1), (.int s2)])), (bm, .inr (.long, [(.long m0), (.long m1), (.long m2)])), (bl, .inr (.int, [(.int l0), (.int l1), (.int l2)])), (d, .inr (.int, [(.int ((((q0.toUInt64 >>> (s0 &&& 0x3f).toInt64.toUInt64).toInt64) &&& m0) + l0.toInt64).toInt32), (.int ((((q0.toUInt64 >>> (s1 &&& 0x3f).toInt64.toUInt64).toInt64) &&& m1) + l1.toInt64).toInt32), (.int o2)]))]) rfl rfl rfl
  refine A22.iinc (q := 45) (l' := #[.val (.ref a), .val (.ref b), .val (.ref d), .val (.int 2)]) d_prog_60_method_4_42 rfl rfl rfl ?_
  refine A22.goto (q := 2) d_prog_60_method_4_45 (by decide) (by decide) ?_
  refine A22.iloadN (q := 3) d_prog_60_method_4_2 rfl rfl ?_
  refine A22.aloadN (q := 4) d_prog_60_method_4_3 rfl rfl rfl ?_
  refine A22.len (qn := 5) (i := 6) (z := (3 : Int32)) d_prog_60_method_4_4 rfl (rfl) rfl ?_
  refine A22.icmpNo (q := 8) d_prog_60_method_4_5 (by decide) rfl ?_
  refine A22.aloadN (q := 9) d_prog_60_method_4_8 rfl rfl rfl ?_
  refine A22.iloadN (q := 10) d_prog_60_method_4_9 rfl rfl ?_
  refine A22.aloadN (q := 11) d_prog_60_method_4_10 rfl rfl rfl ?_
  refine A22.aloadN (q := 12) d_prog_60_method_4_11 rfl rfl rfl ?_
  refine A22.getF (qn := 15) (i := 0) (j := 0) (tw hw 22 rfl) Via.refl d_prog_60_method_4_12 rfl rfl rfl (fun T23 A24 => ?_)
  refine A24.iloadN (q := 16) d_prog_60_method_4_15 rfl rfl ?_
  refine A24.ldI (qn := 17) (i := 2) d_prog_60_method_4_16 rfl (by decide) rfl rfl ?_
  refine A24.ldJ (qn := 18) (i := 1) d_prog_60_method_4_17 rfl (by decide) rfl rfl ?_
  refine A24.aloadN (q := 19) d_prog_60_method_4_18 rfl rfl rfl ?_
  refine A24.getF (qn := 22) (i := 0) (j := 1) (tw hw 24 rfl) Via.refl d_prog_60_method_4_19 rfl rfl rfl (fun T25 A26 => ?_)
  refine A26.iloadN (q := 23) d_prog_60_method_4_22 rfl rfl ?_
  refine A26.ldI (qn := 24) (i := 3) d_prog_60_method_4_23 rfl (by decide) rfl rfl ?_
  refine A26.lushr (q := 25) d_prog_60_method_4_24 rfl ?_
  refine A26.aloadN (q := 26) d_prog_60_method_4_25 rfl rfl rfl ?_
  refine A26.getF (qn := 29) (i := 0) (j := 2) (tw hw 27 rfl) Via.refl d_prog_60_method_4_26 rfl rfl rfl (fun T27 A28 => ?_)
  refine A28.iloadN (q := 30) d_prog_60_method_4_29 rfl rfl ?_
  refine A28.ldJ (qn := 31) (i := 4) d_prog_60_method_4_30 rfl (by decide) rfl rfl ?_
  refine A28.land (q := 32) d_prog_60_method_4_31 rfl ?_
  refine A28.aloadN (q := 33) d_prog_60_method_4_32 rfl rfl rfl ?_
  refine A28.getF (qn := 36) (i := 0) (j := 3) (tw hw 38 rfl) Via.refl d_prog_60_method_4_33 rfl rfl rfl (fun T29 A30 => ?_)
  refine A30.iloadN (q := 37) d_prog_60_method_4_36 rfl rfl ?_
  refine A30.ldI (qn := 38) (i := 5) d_prog_60_method_4_37 rfl (by decide) rfl rfl ?_
  refine A30.i2l (q := 39) d_prog_60_method_4_38 rfl ?_
  refine A30.ladd (q := 40) d_prog_60_method_4_39 rfl ?_
  refine A30.l2i (q := 41) d_prog_60_method_4_40 rfl ?_
  refine A30.stI (qn := 42) (i := 6) d_prog_60_method_4_41 rfl (by decide) (show (2 : Int32).toNatClampNeg < 3 from by decide) rfl rfl (fun T31 A32 => ?_)
  have A33 := A32.cast (k2 := 0) (n2 := 0) (os2 := [(a, ob0 (.ref bw) (.ref bs) (.ref bm) (.ref bl) (.int wi)), (b, .inr (.long, [(.long q0)])), (bw, .inr (.int, [(.int 0), (.int 0), (.int 0)])), (bs, .inr (.int, [(.int s0), (.int s1), (.int s2)])), (bm, .inr (.long, [(.long m0), (.long m1), (.long m2)])), (bl, .inr (.int, [(.int l0), (.int l1), (.int l2)])), (d, .inr (.int, [(.int ((((q0.toUInt64 >>> (s0 &&& 0x3f).toInt64.toUInt64).toInt64) &&& m0) + l0.toInt64).toInt32), (.int ((((q0.toUInt64 >>> (s1 &&& 0x3f).toInt64.toUInt64).toInt64) &&& m1) + l1.toInt64).toInt32), (.int ((((q0.toUInt64 >>> (s2 &&& 0x3f).toInt64.toUInt64).toInt64) &&& m2) + l2.toInt64).toInt32)]))]) rfl rfl rfl
  refine A33.iinc (q := 45) (l' := #[.val (.ref a), .val (.ref b), .val (.ref d), .val (.int 3)]) d_prog_60_method_4_42 rfl rfl rfl ?_
  refine A33.goto (q := 2) d_prog_60_method_4_45 (by decide) (by decide) ?_
  refine A33.iloadN (q := 3) d_prog_60_method_4_2 rfl rfl ?_
  refine A33.aloadN (q := 4) d_prog_60_method_4_3 rfl rfl rfl ?_
  refine A33.len (qn := 5) (i := 6) (z := (3 : Int32)) d_prog_60_method_4_4 rfl (rfl) rfl ?_
  refine A33.icmpYes (q := 48) d_prog_60_method_4_5 (by decide) (by decide) (by decide) ?_
  exact A33.retV d_prog_60_method_4_48 (by decide) (by decide) ⟨rfl, rfl⟩
theorem ef_m_set120 (m : MethodId) (x0 : Addr) (x1 : Addr) (x3 : Int32) : entryFrame m #[(.ref x0), (.ref x1), (.int 0), (.int x3)] 7 = mkF m 0 #[.val (.ref x0), .val (.ref x1), .val (.int 0), .val (.int x3), .unset, .unset, .unset] [] := by first | (simp [entryFrame, mkF, argsToLocals, Value.category]; done) | rfl
set_option maxRecDepth 65536 in
set_option maxHeartbeats 40000000 in
theorem m_set120 (l : Launch) (Z : State) (a0 : Array Value) (hw : ∀ d ∈ tables_1, d.before a0 Z = true) (a : Addr) (b : Addr) (bw : Addr) (bs : Addr) (bm : Addr) (bl : Addr) (vv : Int32) (wi : Int32) (q0 : Int64) (q1 : Int64) (s0 : Int32) (s1 : Int32) (s2 : Int32) (m0 : Int64) (m1 : Int64) (m2 : Int64) (l0 : Int32) (l1 : Int32) (l2 : Int32) :
    Pays l Z a0 (⟨"com/example/nomoc/nomoc/checker/StateLayout", "set", "([JII)V"⟩ : MethodName) prog_60_method_5_code 7 none ({ frames := 0, cells := 0, slots := 0, locals := 0 } : Room) #[(.ref a), (.ref b), (.int 0), (.int vv)] [(a, ob0 (.ref bw) (.ref bs) (.ref bm) (.ref bl) (.int wi)), (b, .inr (.long, [(.long q0), (.long q1)])), (bw, .inr (.int, [(.int 0), (.int 0), (.int 1)])), (bs, .inr (.int, [(.int s0), (.int s1), (.int s2)])), (bm, .inr (.long, [(.long m0), (.long m1), (.long m2)])), (bl, .inr (.int, [(.int l0), (.int l1), (.int l2)]))] (([(a, ob0 (.ref bw) (.ref bs) (.ref bm) (.ref bl) (.int wi)), (b, .inr (.long, [(.long q0), (.long q1)])), (bw, .inr (.int, [(.int 0), (.int 0), (.int 1)])), (bs, .inr (.int, [(.int s0), (.int s1), (.int s2)])), (bm, .inr (.long, [(.long m0), (.long m1), (.long m2)])), (bl, .inr (.int, [(.int l0), (.int l1), (.int l2)]))] : Hs).map (·.1)) (fun v os' => v = none ∧ os' = [(a, ob0 (.ref bw) (.ref bs) (.ref bm) (.ref bl) (.int wi)), (b, .inr (.long, [(.long (own_put q0 s0 m0 l0 vv)), (.long q1)])), (bw, .inr (.int, [(.int 0), (.int 0), (.int 1)])), (bs, .inr (.int, [(.int s0), (.int s1), (.int s2)])), (bm, .inr (.long, [(.long m0), (.long m1), (.long m2)])), (bl, .inr (.int, [(.int l0), (.int l1), (.int l2)]))]) := by
  refine Pays.of (Ls := #[.val (.ref a), .val (.ref b), .val (.int 0), .val (.int vv), .unset, .unset, .unset]) (plainFor_of_name pn_4) (fun m => ef_m_set120 m a b vv) ?_
  intro p e s m below meth c T0 A0
  refine A0.iloadN (q := 1) d_prog_60_method_5_0 rfl rfl ?_
  refine A0.i2l (q := 2) d_prog_60_method_5_1 rfl ?_
  refine A0.aloadN (q := 3) d_prog_60_method_5_2 rfl rfl rfl ?_
  refine A0.getF (qn := 6) (i := 0) (j := 3) (tw hw 38 rfl) Via.refl d_prog_60_method_5_3 rfl rfl rfl (fun T1 A2 => ?_)
  refine A2.iloadN (q := 7) d_prog_60_method_5_6 rfl rfl ?_
  refine A2.ldI (qn := 8) (i := 5) d_prog_60_method_5_7 rfl (by decide) rfl rfl ?_
  refine A2.i2l (q := 9) d_prog_60_method_5_8 rfl ?_
  refine A2.lsub (q := 10) d_prog_60_method_5_9 rfl ?_
  refine A2.aloadN (q := 11) d_prog_60_method_5_10 rfl rfl rfl ?_
  refine A2.getF (qn := 14) (i := 0) (j := 2) (tw hw 27 rfl) Via.refl d_prog_60_method_5_11 rfl rfl rfl (fun T3 A4 => ?_)
  refine A4.iloadN (q := 15) d_prog_60_method_5_14 rfl rfl ?_
  refine A4.ldJ (qn := 16) (i := 4) d_prog_60_method_5_15 rfl (by decide) rfl rfl ?_
  refine A4.land (q := 17) d_prog_60_method_5_16 rfl ?_
  refine A4.lstore (q := 19) (l' := #[.val (.ref a), .val (.ref b), .val (.int 0), .val (.int vv), .val (.long ((vv.toInt64 - l0.toInt64) &&& m0)), .second, .unset]) d_prog_60_method_5_17 rfl rfl ?_
  refine A4.aloadN (q := 20) d_prog_60_method_5_19 rfl rfl rfl ?_
  refine A4.getF (qn := 23) (i := 0) (j := 0) (tw hw 22 rfl) Via.refl d_prog_60_method_5_20 rfl rfl rfl (fun T5 A6 => ?_)
  refine A6.iloadN (q := 24) d_prog_60_method_5_23 rfl rfl ?_
  refine A6.ldI (qn := 25) (i := 2) d_prog_60_method_5_24 rfl (by decide) rfl rfl ?_
  refine A6.istore (q := 27) (l' := #[.val (.ref a), .val (.ref b), .val (.int 0), .val (.int vv), .val (.long ((vv.toInt64 - l0.toInt64) &&& m0)), .second, .val (.int 0)]) d_prog_60_method_5_25 rfl rfl ?_
  refine A6.aloadN (q := 28) d_prog_60_method_5_27 rfl rfl rfl ?_
  refine A6.iload (q := 30) d_prog_60_method_5_28 rfl rfl ?_
  refine A6.aloadN (q := 31) d_prog_60_method_5_30 rfl rfl rfl ?_
  refine A6.iload (q := 33) d_prog_60_method_5_31 rfl rfl ?_
  refine A6.ldJ (qn := 34) (i := 1) d_prog_60_method_5_33 rfl (by decide) rfl rfl ?_
  refine A6.aloadN (q := 35) d_prog_60_method_5_34 rfl rfl rfl ?_
  refine A6.getF (qn := 38) (i := 0) (j := 2) (tw hw 27 rfl) Via.refl d_prog_60_method_5_35 rfl rfl rfl (fun T7 A8 => ?_)
  refine A8.iloadN (q := 39) d_prog_60_method_5_38 rfl rfl ?_
  refine A8.ldJ (qn := 40) (i := 4) d_prog_60_method_5_39 rfl (by decide) rfl rfl ?_
  refine A8.aloadN (q := 41) d_prog_60_method_5_40 rfl rfl rfl ?_
  refine A8.getF (qn := 44) (i := 0) (j := 1) (tw hw 24 rfl) Via.refl d_prog_60_method_5_41 rfl rfl rfl (fun T9 A10 => ?_)
  refine A10.iloadN (q := 45) d_prog_60_method_5_44 rfl rfl ?_
  refine A10.ldI (qn := 46) (i := 3) d_prog_60_method_5_45 rfl (by decide) rfl rfl ?_
  refine A10.lshl (q := 47) d_prog_60_method_5_46 rfl ?_
  refine A10.ldc2 (qn := 50) (v := -1) (tw hw 66 rfl) d_prog_60_method_5_47 rfl ?_
  refine A10.lxor (q := 51) d_prog_60_method_5_50 rfl ?_
  refine A10.land (q := 52) d_prog_60_method_5_51 rfl ?_
  refine A10.lload (q := 54) d_prog_60_method_5_52 rfl rfl ?_
  refine A10.aloadN (q := 55) d_prog_60_method_5_54 rfl rfl rfl ?_
  refine A10.getF (qn := 58) (i := 0) (j := 1) (tw hw 24 rfl) Via.refl d_prog_60_method_5_55 rfl rfl rfl (fun T11 A12 => ?_)
  refine A12.iloadN (q := 59) d_prog_60_method_5_58 rfl rfl ?_
  refine A12.ldI (qn := 60) (i := 3) d_prog_60_method_5_59 rfl (by decide) rfl rfl ?_
  refine A12.lshl (q := 61) d_prog_60_method_5_60 rfl ?_
  refine A12.lor (q := 62) d_prog_60_method_5_61 rfl ?_
  refine A12.stJ (qn := 63) (i := 1) d_prog_60_method_5_62 rfl (by decide) (show (0 : Int32).toNatClampNeg < 2 from by decide) rfl rfl (fun T13 A14 => ?_)
  have A15 := A14.cast (k2 := 0) (n2 := 0) (os2 := [(a, ob0 (.ref bw) (.ref bs) (.ref bm) (.ref bl) (.int wi)), (b, .inr (.long, [(.long ((q0 &&& ((m0 <<< (s0 &&& 0x3f).toInt64) ^^^ (-1 : Int64))) ||| (((vv.toInt64 - l0.toInt64) &&& m0) <<< (s0 &&& 0x3f).toInt64))), (.long q1)])), (bw, .inr (.int, [(.int 0), (.int 0), (.int 1)])), (bs, .inr (.int, [(.int s0), (.int s1), (.int s2)])), (bm, .inr (.long, [(.long m0), (.long m1), (.long m2)])), (bl, .inr (.int, [(.int l0), (.int l1), (.int l2)]))]) rfl rfl rfl
  exact A15.retV d_prog_60_method_5_63 (by decide) (by decide) ⟨rfl, rfl⟩
theorem ef_m_set121 (m : MethodId) (x0 : Addr) (x1 : Addr) (x3 : Int32) : entryFrame m #[(.ref x0), (.ref x1), (.int 1), (.int x3)] 7 = mkF m 0 #[.val (.ref x0), .val (.ref x1), .val (.int 1), .val (.int x3), .unset, .unset, .unset] [] := by first | (simp [entryFrame, mkF, argsToLocals, Value.category]; done) | rfl
set_option maxRecDepth 65536 in
set_option maxHeartbeats 40000000 in
theorem m_set121 (l : Launch) (Z : State) (a0 : Array Value) (hw : ∀ d ∈ tables_1, d.before a0 Z = true) (a : Addr) (b : Addr) (bw : Addr) (bs : Addr) (bm : Addr) (bl : Addr) (vv : Int32) (wi : Int32) (q0 : Int64) (q1 : Int64) (s0 : Int32) (s1 : Int32) (s2 : Int32) (m0 : Int64) (m1 : Int64) (m2 : Int64) (l0 : Int32) (l1 : Int32) (l2 : Int32) :
    Pays l Z a0 (⟨"com/example/nomoc/nomoc/checker/StateLayout", "set", "([JII)V"⟩ : MethodName) prog_60_method_5_code 7 none ({ frames := 0, cells := 0, slots := 0, locals := 0 } : Room) #[(.ref a), (.ref b), (.int 1), (.int vv)] [(a, ob0 (.ref bw) (.ref bs) (.ref bm) (.ref bl) (.int wi)), (b, .inr (.long, [(.long q0), (.long q1)])), (bw, .inr (.int, [(.int 0), (.int 0), (.int 1)])), (bs, .inr (.int, [(.int s0), (.int s1), (.int s2)])), (bm, .inr (.long, [(.long m0), (.long m1), (.long m2)])), (bl, .inr (.int, [(.int l0), (.int l1), (.int l2)]))] (([(a, ob0 (.ref bw) (.ref bs) (.ref bm) (.ref bl) (.int wi)), (b, .inr (.long, [(.long q0), (.long q1)])), (bw, .inr (.int, [(.int 0), (.int 0), (.int 1)])), (bs, .inr (.int, [(.int s0), (.int s1), (.int s2)])), (bm, .inr (.long, [(.long m0), (.long m1), (.long m2)])), (bl, .inr (.int, [(.int l0), (.int l1), (.int l2)]))] : Hs).map (·.1)) (fun v os' => v = none ∧ os' = [(a, ob0 (.ref bw) (.ref bs) (.ref bm) (.ref bl) (.int wi)), (b, .inr (.long, [(.long (own_put q0 s1 m1 l1 vv)), (.long q1)])), (bw, .inr (.int, [(.int 0), (.int 0), (.int 1)])), (bs, .inr (.int, [(.int s0), (.int s1), (.int s2)])), (bm, .inr (.long, [(.long m0), (.long m1), (.long m2)])), (bl, .inr (.int, [(.int l0), (.int l1), (.int l2)]))]) := by
  refine Pays.of (Ls := #[.val (.ref a), .val (.ref b), .val (.int 1), .val (.int vv), .unset, .unset, .unset]) (plainFor_of_name pn_4) (fun m => ef_m_set121 m a b vv) ?_
  intro p e s m below meth c T0 A0
  refine A0.iloadN (q := 1) d_prog_60_method_5_0 rfl rfl ?_
  refine A0.i2l (q := 2) d_prog_60_method_5_1 rfl ?_
  refine A0.aloadN (q := 3) d_prog_60_method_5_2 rfl rfl rfl ?_
  refine A0.getF (qn := 6) (i := 0) (j := 3) (tw hw 38 rfl) Via.refl d_prog_60_method_5_3 rfl rfl rfl (fun T1 A2 => ?_)
  refine A2.iloadN (q := 7) d_prog_60_method_5_6 rfl rfl ?_
  refine A2.ldI (qn := 8) (i := 5) d_prog_60_method_5_7 rfl (by decide) rfl rfl ?_
  refine A2.i2l (q := 9) d_prog_60_method_5_8 rfl ?_
  refine A2.lsub (q := 10) d_prog_60_method_5_9 rfl ?_
  refine A2.aloadN (q := 11) d_prog_60_method_5_10 rfl rfl rfl ?_
  refine A2.getF (qn := 14) (i := 0) (j := 2) (tw hw 27 rfl) Via.refl d_prog_60_method_5_11 rfl rfl rfl (fun T3 A4 => ?_)
  refine A4.iloadN (q := 15) d_prog_60_method_5_14 rfl rfl ?_
  refine A4.ldJ (qn := 16) (i := 4) d_prog_60_method_5_15 rfl (by decide) rfl rfl ?_
  refine A4.land (q := 17) d_prog_60_method_5_16 rfl ?_
  refine A4.lstore (q := 19) (l' := #[.val (.ref a), .val (.ref b), .val (.int 1), .val (.int vv), .val (.long ((vv.toInt64 - l1.toInt64) &&& m1)), .second, .unset]) d_prog_60_method_5_17 rfl rfl ?_
  refine A4.aloadN (q := 20) d_prog_60_method_5_19 rfl rfl rfl ?_
  refine A4.getF (qn := 23) (i := 0) (j := 0) (tw hw 22 rfl) Via.refl d_prog_60_method_5_20 rfl rfl rfl (fun T5 A6 => ?_)
  refine A6.iloadN (q := 24) d_prog_60_method_5_23 rfl rfl ?_
  refine A6.ldI (qn := 25) (i := 2) d_prog_60_method_5_24 rfl (by decide) rfl rfl ?_
  refine A6.istore (q := 27) (l' := #[.val (.ref a), .val (.ref b), .val (.int 1), .val (.int vv), .val (.long ((vv.toInt64 - l1.toInt64) &&& m1)), .second, .val (.int 0)]) d_prog_60_method_5_25 rfl rfl ?_
  refine A6.aloadN (q := 28) d_prog_60_method_5_27 rfl rfl rfl ?_
  refine A6.iload (q := 30) d_prog_60_method_5_28 rfl rfl ?_
  refine A6.aloadN (q := 31) d_prog_60_method_5_30 rfl rfl rfl ?_
  refine A6.iload (q := 33) d_prog_60_method_5_31 rfl rfl ?_
  refine A6.ldJ (qn := 34) (i := 1) d_prog_60_method_5_33 rfl (by decide) rfl rfl ?_
  refine A6.aloadN (q := 35) d_prog_60_method_5_34 rfl rfl rfl ?_
  refine A6.getF (qn := 38) (i := 0) (j := 2) (tw hw 27 rfl) Via.refl d_prog_60_method_5_35 rfl rfl rfl (fun T7 A8 => ?_)
  refine A8.iloadN (q := 39) d_prog_60_method_5_38 rfl rfl ?_
  refine A8.ldJ (qn := 40) (i := 4) d_prog_60_method_5_39 rfl (by decide) rfl rfl ?_
  refine A8.aloadN (q := 41) d_prog_60_method_5_40 rfl rfl rfl ?_
  refine A8.getF (qn := 44) (i := 0) (j := 1) (tw hw 24 rfl) Via.refl d_prog_60_method_5_41 rfl rfl rfl (fun T9 A10 => ?_)
  refine A10.iloadN (q := 45) d_prog_60_method_5_44 rfl rfl ?_
  refine A10.ldI (qn := 46) (i := 3) d_prog_60_method_5_45 rfl (by decide) rfl rfl ?_
  refine A10.lshl (q := 47) d_prog_60_method_5_46 rfl ?_
  refine A10.ldc2 (qn := 50) (v := -1) (tw hw 66 rfl) d_prog_60_method_5_47 rfl ?_
  refine A10.lxor (q := 51) d_prog_60_method_5_50 rfl ?_
  refine A10.land (q := 52) d_prog_60_method_5_51 rfl ?_
  refine A10.lload (q := 54) d_prog_60_method_5_52 rfl rfl ?_
  refine A10.aloadN (q := 55) d_prog_60_method_5_54 rfl rfl rfl ?_
  refine A10.getF (qn := 58) (i := 0) (j := 1) (tw hw 24 rfl) Via.refl d_prog_60_method_5_55 rfl rfl rfl (fun T11 A12 => ?_)
  refine A12.iloadN (q := 59) d_prog_60_method_5_58 rfl rfl ?_
  refine A12.ldI (qn := 60) (i := 3) d_prog_60_method_5_59 rfl (by decide) rfl rfl ?_
  refine A12.lshl (q := 61) d_prog_60_method_5_60 rfl ?_
  refine A12.lor (q := 62) d_prog_60_method_5_61 rfl ?_
  refine A12.stJ (qn := 63) (i := 1) d_prog_60_method_5_62 rfl (by decide) (show (0 : Int32).toNatClampNeg < 2 from by decide) rfl rfl (fun T13 A14 => ?_)
  have A15 := A14.cast (k2 := 0) (n2 := 0) (os2 := [(a, ob0 (.ref bw) (.ref bs) (.ref bm) (.ref bl) (.int wi)), (b, .inr (.long, [(.long ((q0 &&& ((m1 <<< (s1 &&& 0x3f).toInt64) ^^^ (-1 : Int64))) ||| (((vv.toInt64 - l1.toInt64) &&& m1) <<< (s1 &&& 0x3f).toInt64))), (.long q1)])), (bw, .inr (.int, [(.int 0), (.int 0), (.int 1)])), (bs, .inr (.int, [(.int s0), (.int s1), (.int s2)])), (bm, .inr (.long, [(.long m0), (.long m1), (.long m2)])), (bl, .inr (.int, [(.int l0), (.int l1), (.int l2)]))]) rfl rfl rfl
  exact A15.retV d_prog_60_method_5_63 (by decide) (by decide) ⟨rfl, rfl⟩
theorem ef_m_set122 (m : MethodId) (x0 : Addr) (x1 : Addr) (x3 : Int32) : entryFrame m #[(.ref x0), (.ref x1), (.int 2), (.int x3)] 7 = mkF m 0 #[.val (.ref x0), .val (.ref x1), .val (.int 2), .val (.int x3), .unset, .unset, .unset] [] := by first | (simp [entryFrame, mkF, argsToLocals, Value.category]; done) | rfl
set_option maxRecDepth 65536 in
set_option maxHeartbeats 40000000 in
theorem m_set122 (l : Launch) (Z : State) (a0 : Array Value) (hw : ∀ d ∈ tables_1, d.before a0 Z = true) (a : Addr) (b : Addr) (bw : Addr) (bs : Addr) (bm : Addr) (bl : Addr) (vv : Int32) (wi : Int32) (q0 : Int64) (q1 : Int64) (s0 : Int32) (s1 : Int32) (s2 : Int32) (m0 : Int64) (m1 : Int64) (m2 : Int64) (l0 : Int32) (l1 : Int32) (l2 : Int32) :
    Pays l Z a0 (⟨"com/example/nomoc/nomoc/checker/StateLayout", "set", "([JII)V"⟩ : MethodName) prog_60_method_5_code 7 none ({ frames := 0, cells := 0, slots := 0, locals := 0 } : Room) #[(.ref a), (.ref b), (.int 2), (.int vv)] [(a, ob0 (.ref bw) (.ref bs) (.ref bm) (.ref bl) (.int wi)), (b, .inr (.long, [(.long q0), (.long q1)])), (bw, .inr (.int, [(.int 0), (.int 0), (.int 1)])), (bs, .inr (.int, [(.int s0), (.int s1), (.int s2)])), (bm, .inr (.long, [(.long m0), (.long m1), (.long m2)])), (bl, .inr (.int, [(.int l0), (.int l1), (.int l2)]))] (([(a, ob0 (.ref bw) (.ref bs) (.ref bm) (.ref bl) (.int wi)), (b, .inr (.long, [(.long q0), (.long q1)])), (bw, .inr (.int, [(.int 0), (.int 0), (.int 1)])), (bs, .inr (.int, [(.int s0), (.int s1), (.int s2)])), (bm, .inr (.long, [(.long m0), (.long m1), (.long m2)])), (bl, .inr (.int, [(.int l0), (.int l1), (.int l2)]))] : Hs).map (·.1)) (fun v os' => v = none ∧ os' = [(a, ob0 (.ref bw) (.ref bs) (.ref bm) (.ref bl) (.int wi)), (b, .inr (.long, [(.long q0), (.long (own_put q1 s2 m2 l2 vv))])), (bw, .inr (.int, [(.int 0), (.int 0), (.int 1)])), (bs, .inr (.int, [(.int s0), (.int s1), (.int s2)])), (bm, .inr (.long, [(.long m0), (.long m1), (.long m2)])), (bl, .inr (.int, [(.int l0), (.int l1), (.int l2)]))]) := by
  refine Pays.of (Ls := #[.val (.ref a), .val (.ref b), .val (.int 2), .val (.int vv), .unset, .unset, .unset]) (plainFor_of_name pn_4) (fun m => ef_m_set122 m a b vv) ?_
  intro p e s m below meth c T0 A0
  refine A0.iloadN (q := 1) d_prog_60_method_5_0 rfl rfl ?_
  refine A0.i2l (q := 2) d_prog_60_method_5_1 rfl ?_
  refine A0.aloadN (q := 3) d_prog_60_method_5_2 rfl rfl rfl ?_
  refine A0.getF (qn := 6) (i := 0) (j := 3) (tw hw 38 rfl) Via.refl d_prog_60_method_5_3 rfl rfl rfl (fun T1 A2 => ?_)
  refine A2.iloadN (q := 7) d_prog_60_method_5_6 rfl rfl ?_
  refine A2.ldI (qn := 8) (i := 5) d_prog_60_method_5_7 rfl (by decide) rfl rfl ?_
  refine A2.i2l (q := 9) d_prog_60_method_5_8 rfl ?_
  refine A2.lsub (q := 10) d_prog_60_method_5_9 rfl ?_
  refine A2.aloadN (q := 11) d_prog_60_method_5_10 rfl rfl rfl ?_
  refine A2.getF (qn := 14) (i := 0) (j := 2) (tw hw 27 rfl) Via.refl d_prog_60_method_5_11 rfl rfl rfl (fun T3 A4 => ?_)
  refine A4.iloadN (q := 15) d_prog_60_method_5_14 rfl rfl ?_
  refine A4.ldJ (qn := 16) (i := 4) d_prog_60_method_5_15 rfl (by decide) rfl rfl ?_
  refine A4.land (q := 17) d_prog_60_method_5_16 rfl ?_
  refine A4.lstore (q := 19) (l' := #[.val (.ref a), .val (.ref b), .val (.int 2), .val (.int vv), .val (.long ((vv.toInt64 - l2.toInt64) &&& m2)), .second, .unset]) d_prog_60_method_5_17 rfl rfl ?_
  refine A4.aloadN (q := 20) d_prog_60_method_5_19 rfl rfl rfl ?_
  refine A4.getF (qn := 23) (i := 0) (j := 0) (tw hw 22 rfl) Via.refl d_prog_60_method_5_20 rfl rfl rfl (fun T5 A6 => ?_)
  refine A6.iloadN (q := 24) d_prog_60_method_5_23 rfl rfl ?_
  refine A6.ldI (qn := 25) (i := 2) d_prog_60_method_5_24 rfl (by decide) rfl rfl ?_
  refine A6.istore (q := 27) (l' := #[.val (.ref a), .val (.ref b), .val (.int 2), .val (.int vv), .val (.long ((vv.toInt64 - l2.toInt64) &&& m2)), .second, .val (.int 1)]) d_prog_60_method_5_25 rfl rfl ?_
  refine A6.aloadN (q := 28) d_prog_60_method_5_27 rfl rfl rfl ?_
  refine A6.iload (q := 30) d_prog_60_method_5_28 rfl rfl ?_
  refine A6.aloadN (q := 31) d_prog_60_method_5_30 rfl rfl rfl ?_
  refine A6.iload (q := 33) d_prog_60_method_5_31 rfl rfl ?_
  refine A6.ldJ (qn := 34) (i := 1) d_prog_60_method_5_33 rfl (by decide) rfl rfl ?_
  refine A6.aloadN (q := 35) d_prog_60_method_5_34 rfl rfl rfl ?_
  refine A6.getF (qn := 38) (i := 0) (j := 2) (tw hw 27 rfl) Via.refl d_prog_60_method_5_35 rfl rfl rfl (fun T7 A8 => ?_)
  refine A8.iloadN (q := 39) d_prog_60_method_5_38 rfl rfl ?_
  refine A8.ldJ (qn := 40) (i := 4) d_prog_60_method_5_39 rfl (by decide) rfl rfl ?_
  refine A8.aloadN (q := 41) d_prog_60_method_5_40 rfl rfl rfl ?_
  refine A8.getF (qn := 44) (i := 0) (j := 1) (tw hw 24 rfl) Via.refl d_prog_60_method_5_41 rfl rfl rfl (fun T9 A10 => ?_)
  refine A10.iloadN (q := 45) d_prog_60_method_5_44 rfl rfl ?_
  refine A10.ldI (qn := 46) (i := 3) d_prog_60_method_5_45 rfl (by decide) rfl rfl ?_
  refine A10.lshl (q := 47) d_prog_60_method_5_46 rfl ?_
  refine A10.ldc2 (qn := 50) (v := -1) (tw hw 66 rfl) d_prog_60_method_5_47 rfl ?_
  refine A10.lxor (q := 51) d_prog_60_method_5_50 rfl ?_
  refine A10.land (q := 52) d_prog_60_method_5_51 rfl ?_
  refine A10.lload (q := 54) d_prog_60_method_5_52 rfl rfl ?_
  refine A10.aloadN (q := 55) d_prog_60_method_5_54 rfl rfl rfl ?_
  refine A10.getF (qn := 58) (i := 0) (j := 1) (tw hw 24 rfl) Via.refl d_prog_60_method_5_55 rfl rfl rfl (fun T11 A12 => ?_)
  refine A12.iloadN (q := 59) d_prog_60_method_5_58 rfl rfl ?_
  refine A12.ldI (qn := 60) (i := 3) d_prog_60_method_5_59 rfl (by decide) rfl rfl ?_
  refine A12.lshl (q := 61) d_prog_60_method_5_60 rfl ?_
  refine A12.lor (q := 62) d_prog_60_method_5_61 rfl ?_
  refine A12.stJ (qn := 63) (i := 1) d_prog_60_method_5_62 rfl (by decide) (show (1 : Int32).toNatClampNeg < 2 from by decide) rfl rfl (fun T13 A14 => ?_)
  have A15 := A14.cast (k2 := 0) (n2 := 0) (os2 := [(a, ob0 (.ref bw) (.ref bs) (.ref bm) (.ref bl) (.int wi)), (b, .inr (.long, [(.long q0), (.long ((q1 &&& ((m2 <<< (s2 &&& 0x3f).toInt64) ^^^ (-1 : Int64))) ||| (((vv.toInt64 - l2.toInt64) &&& m2) <<< (s2 &&& 0x3f).toInt64)))])), (bw, .inr (.int, [(.int 0), (.int 0), (.int 1)])), (bs, .inr (.int, [(.int s0), (.int s1), (.int s2)])), (bm, .inr (.long, [(.long m0), (.long m1), (.long m2)])), (bl, .inr (.int, [(.int l0), (.int l1), (.int l2)]))]) rfl rfl rfl
  exact A15.retV d_prog_60_method_5_63 (by decide) (by decide) ⟨rfl, rfl⟩
theorem ef_m_pack12 (m : MethodId) (x0 : Addr) (x1 : Addr) (x2 : Addr) : entryFrame m #[(.ref x0), (.ref x1), (.ref x2)] 4 = mkF m 0 #[.val (.ref x0), .val (.ref x1), .val (.ref x2), .unset] [] := by first | (simp [entryFrame, mkF, argsToLocals, Value.category]; done) | rfl
set_option maxRecDepth 65536 in
set_option maxHeartbeats 40000000 in
theorem m_pack12 (l : Launch) (Z : State) (a0 : Array Value) (hw : ∀ d ∈ tables_1, d.before a0 Z = true) (a : Addr) (b : Addr) (bw : Addr) (bs : Addr) (bm : Addr) (bl : Addr) (d : Addr) (wi : Int32) (q0 : Int64) (q1 : Int64) (s0 : Int32) (s1 : Int32) (s2 : Int32) (m0 : Int64) (m1 : Int64) (m2 : Int64) (l0 : Int32) (l1 : Int32) (l2 : Int32) (v0 : Int32) (v1 : Int32) (v2 : Int32) :
    Pays l Z a0 (⟨"com/example/nomoc/nomoc/checker/StateLayout", "pack", "([I[J)V"⟩ : MethodName) prog_60_method_3_code 4 none ({ frames := 1, cells := 0, slots := 0, locals := 18 } : Room) #[(.ref a), (.ref d), (.ref b)] [(a, ob0 (.ref bw) (.ref bs) (.ref bm) (.ref bl) (.int wi)), (b, .inr (.long, [(.long q0), (.long q1)])), (bw, .inr (.int, [(.int 0), (.int 0), (.int 1)])), (bs, .inr (.int, [(.int s0), (.int s1), (.int s2)])), (bm, .inr (.long, [(.long m0), (.long m1), (.long m2)])), (bl, .inr (.int, [(.int l0), (.int l1), (.int l2)])), (d, .inr (.int, [(.int v0), (.int v1), (.int v2)]))] (([(a, ob0 (.ref bw) (.ref bs) (.ref bm) (.ref bl) (.int wi)), (b, .inr (.long, [(.long q0), (.long q1)])), (bw, .inr (.int, [(.int 0), (.int 0), (.int 1)])), (bs, .inr (.int, [(.int s0), (.int s1), (.int s2)])), (bm, .inr (.long, [(.long m0), (.long m1), (.long m2)])), (bl, .inr (.int, [(.int l0), (.int l1), (.int l2)])), (d, .inr (.int, [(.int v0), (.int v1), (.int v2)]))] : Hs).map (·.1)) (fun v os' => v = none ∧ os' = [(a, ob0 (.ref bw) (.ref bs) (.ref bm) (.ref bl) (.int wi)), (b, .inr (.long, [(.long (own_put (own_put q0 s0 m0 l0 v0) s1 m1 l1 v1)), (.long (own_put q1 s2 m2 l2 v2))])), (bw, .inr (.int, [(.int 0), (.int 0), (.int 1)])), (bs, .inr (.int, [(.int s0), (.int s1), (.int s2)])), (bm, .inr (.long, [(.long m0), (.long m1), (.long m2)])), (bl, .inr (.int, [(.int l0), (.int l1), (.int l2)])), (d, .inr (.int, [(.int v0), (.int v1), (.int v2)]))]) := by
  refine Pays.of (Ls := #[.val (.ref a), .val (.ref d), .val (.ref b), .unset]) (plainFor_of_name pn_4) (fun m => ef_m_pack12 m a d b) ?_
  intro p e s m below meth c T0 A0
  refine A0.iconst (q := 1) (v := 0) d_prog_60_method_3_0 rfl rfl ?_
  refine A0.istoreN (q := 2) (l' := #[.val (.ref a), .val (.ref d), .val (.ref b), .val (.int 0)]) d_prog_60_method_3_1 rfl rfl ?_
  refine A0.iloadN (q := 3) d_prog_60_method_3_2 rfl rfl ?_
  refine A0.aloadN (q := 4) d_prog_60_method_3_3 rfl rfl rfl ?_
  refine A0.len (qn := 5) (i := 6) (z := (3 : Int32)) d_prog_60_method_3_4 rfl (rfl) rfl ?_
  refine A0.icmpNo (q := 8) d_prog_60_method_3_5 (by decide) rfl ?_
  refine A0.aloadN (q := 9) d_prog_60_method_3_8 rfl rfl rfl ?_
  refine A0.aloadN (q := 10) d_prog_60_method_3_9 rfl rfl rfl ?_
  refine A0.iloadN (q := 11) d_prog_60_method_3_10 rfl rfl ?_
  refine A0.aloadN (q := 12) d_prog_60_method_3_11 rfl rfl rfl ?_
  refine A0.iloadN (q := 13) d_prog_60_method_3_12 rfl rfl ?_
  refine A0.ldI (qn := 14) (i := 6) d_prog_60_method_3_13 rfl (by decide) rfl rfl ?_
  have A1 := A0.pick (is := [6, 0, 1, 2, 3, 4, 5]) (os2 := [(d, .inr (.int, [(.int v0), (.int v1), (.int v2)])), (a, ob0 (.ref bw) (.ref bs) (.ref bm) (.ref bl) (.int wi)), (b, .inr (.long, [(.long q0), (.long q1)])), (bw, .inr (.int, [(.int 0), (.int 0), (.int 1)])), (bs, .inr (.int, [(.int s0), (.int s1), (.int s2)])), (bm, .inr (.long, [(.long m0), (.long m1), (.long m2)])), (bl, .inr (.int, [(.int l0), (.int l1), (.int l2)]))]) (by decide) rfl
  refine Here.callV (qn := 17) (os1 := [(d, .inr (.int, [(.int v0), (.int v1), (.int v2)]))]) (os2 := [(a, ob0 (.ref bw) (.ref bs) (.ref bm) (.ref bl) (.int wi)), (b, .inr (.long, [(.long q0), (.long q1)])), (bw, .inr (.int, [(.int 0), (.int 0), (.int 1)])), (bs, .inr (.int, [(.int s0), (.int s1), (.int s2)])), (bm, .inr (.long, [(.long m0), (.long m1), (.long m2)])), (bl, .inr (.int, [(.int l0), (.int l1), (.int l2)]))]) (rest := []) (W := 0) (argsL := [(.ref b), (.int 0), (.int v0)]) (a := a) (i := 1) A1 (m_set120 l Z a0 hw a b bw bs bm bl v0 wi q0 q1 s0 s1 s2 m0 m1 m2 l0 l1 l2) (Or.inr ⟨rfl, rfl⟩) rfl (tw hw 61 rfl) (tw hw 62 rfl) (tw hw 64 rfl) (tw hw 63 rfl) (tw hw 15 rfl) (tw hw 65 rfl) (by decide) d_prog_60_method_3_14 rfl (lenOf pd_7 rfl) rfl (Nat.le_of_eq rfl) (by decide) (by decide) (by decide) (by decide) rfl (fun T2 v3 os4 A5 P6 => ?_)
  obtain ⟨rfl, rfl⟩ := P6
  have A7 := A5.cast (k2 := 0) (n2 := 0) (os2 := [(d, .inr (.int, [(.int v0), (.int v1), (.int v2)])), (a, ob0 (.ref bw) (.ref bs) (.ref bm) (.ref bl) (.int wi)), (b, .inr (.long, [(.long (own_put q0 s0 m0 l0 v0)), (.long q1)])), (bw, .inr (.int, [(.int 0), (.int 0), (.int 1)])), (bs, .inr (.int, [(.int s0), (.int s1), (.int s2)])), (bm, .inr (.long, [(.long m0), (.long m1), (.long m2)])), (bl, .inr (.int, [(.int l0), (.int l1), (.int l2)]))]) rfl rfl rfl
  refine A7.iinc (q := 20) (l' := #[.val (.ref a), .val (.ref d), .val (.ref b), .val (.int 1)]) d_prog_60_method_3_17 rfl rfl rfl ?_
  refine A7.goto (q := 2) d_prog_60_method_3_20 (by decide) (by decide) ?_
  refine A7.iloadN (q := 3) d_prog_60_method_3_2 rfl rfl ?_
  refine A7.aloadN (q := 4) d_prog_60_method_3_3 rfl rfl rfl ?_
  refine A7.len (qn := 5) (i := 0) (z := (3 : Int32)) d_prog_60_method_3_4 rfl (rfl) rfl ?_
  refine A7.icmpNo (q := 8) d_prog_60_method_3_5 (by decide) rfl ?_
  refine A7.aloadN (q := 9) d_prog_60_method_3_8 rfl rfl rfl ?_
  refine A7.aloadN (q := 10) d_prog_60_method_3_9 rfl rfl rfl ?_
  refine A7.iloadN (q := 11) d_prog_60_method_3_10 rfl rfl ?_
  refine A7.aloadN (q := 12) d_prog_60_method_3_11 rfl rfl rfl ?_
  refine A7.iloadN (q := 13) d_prog_60_method_3_12 rfl rfl ?_
  refine A7.ldI (qn := 14) (i := 0) d_prog_60_method_3_13 rfl (by decide) rfl rfl ?_
  refine Here.callV (qn := 17) (os1 := [(d, .inr (.int, [(.int v0), (.int v1), (.int v2)]))]) (os2 := [(a, ob0 (.ref bw) (.ref bs) (.ref bm) (.ref bl) (.int wi)), (b, .inr (.long, [(.long (own_put q0 s0 m0 l0 v0)), (.long q1)])), (bw, .inr (.int, [(.int 0), (.int 0), (.int 1)])), (bs, .inr (.int, [(.int s0), (.int s1), (.int s2)])), (bm, .inr (.long, [(.long m0), (.long m1), (.long m2)])), (bl, .inr (.int, [(.int l0), (.int l1), (.int l2)]))]) (rest := []) (W := 0) (argsL := [(.ref b), (.int 1), (.int v1)]) (a := a) (i := 1) A7 (m_set121 l Z a0 hw a b bw bs bm bl v1 wi ((own_put q0 s0 m0 l0 v0)) q1 s0 s1 s2 m0 m1 m2 l0 l1 l2) (Or.inr ⟨rfl, rfl⟩) rfl (tw hw 61 rfl) (tw hw 62 rfl) (tw hw 64 rfl) (tw hw 63 rfl) (tw hw 15 rfl) (tw hw 65 rfl) (by decide) d_prog_60_method_3_14 rfl (lenOf pd_7 rfl) rfl (Nat.le_of_eq rfl) (by decide) (by decide) (by decide) (by decide) rfl (fun T8 v9 os10 A11 P12 => ?_)
  obtain ⟨rfl, rfl⟩ := P12
  have A13 := A11.cast (k2 := 0) (n2 := 0) (os2 := [(d, .inr (.int, [(.int v0), (.int v1), (.int v2)])), (a, ob0 (.ref bw) (.ref bs) (.ref bm) (.ref bl) (.int wi)), (b, .inr (.long, [(.long (own_put (own_put q0 s0 m0 l0 v0) s1 m1 l1 v1)), (.long q1)])), (bw, .inr (.int, [(.int 0), (.int 0), (.int 1)])), (bs, .inr (.int, [(.int s0), (.int s1), (.int s2)])), (bm, .inr (.long, [(.long m0), (.long m1), (.long m2)])), (bl, .inr (.int, [(.int l0), (.int l1), (.int l2)]))]) rfl rfl rfl
  refine A13.iinc (q := 20) (l' := #[.val (.ref a), .val (.ref d), .val (.ref b), .val (.int 2)]) d_prog_60_method_3_17 rfl rfl rfl ?_
  refine A13.goto (q := 2) d_prog_60_method_3_20 (by decide) (by decide) ?_
  refine A13.iloadN (q := 3) d_prog_60_method_3_2 rfl rfl ?_
  refine A13.aloadN (q := 4) d_prog_60_method_3_3 rfl rfl rfl ?_
  refine A13.len (qn := 5) (i := 0) (z := (3 : Int32)) d_prog_60_method_3_4 rfl (rfl) rfl ?_
  refine A13.icmpNo (q := 8) d_prog_60_method_3_5 (by decide) rfl ?_
  refine A13.aloadN (q := 9) d_prog_60_method_3_8 rfl rfl rfl ?_
  refine A13.aloadN (q := 10) d_prog_60_method_3_9 rfl rfl rfl ?_
  refine A13.iloadN (q := 11) d_prog_60_method_3_10 rfl rfl ?_
  refine A13.aloadN (q := 12) d_prog_60_method_3_11 rfl rfl rfl ?_
  refine A13.iloadN (q := 13) d_prog_60_method_3_12 rfl rfl ?_
  refine A13.ldI (qn := 14) (i := 0) d_prog_60_method_3_13 rfl (by decide) rfl rfl ?_
  refine Here.callV (qn := 17) (os1 := [(d, .inr (.int, [(.int v0), (.int v1), (.int v2)]))]) (os2 := [(a, ob0 (.ref bw) (.ref bs) (.ref bm) (.ref bl) (.int wi)), (b, .inr (.long, [(.long (own_put (own_put q0 s0 m0 l0 v0) s1 m1 l1 v1)), (.long q1)])), (bw, .inr (.int, [(.int 0), (.int 0), (.int 1)])), (bs, .inr (.int, [(.int s0), (.int s1), (.int s2)])), (bm, .inr (.long, [(.long m0), (.long m1), (.long m2)])), (bl, .inr (.int, [(.int l0), (.int l1), (.int l2)]))]) (rest := []) (W := 0) (argsL := [(.ref b), (.int 2), (.int v2)]) (a := a) (i := 1) A13 (m_set122 l Z a0 hw a b bw bs bm bl v2 wi ((own_put (own_put q0 s0 m0 l0 v0) s1 m1 l1 v1)) q1 s0 s1 s2 m0 m1 m2 l0 l1 l2) (Or.inr ⟨rfl, rfl⟩) rfl (tw hw 61 rfl) (tw hw 62 rfl) (tw hw 64 rfl) (tw hw 63 rfl) (tw hw 15 rfl) (tw hw 65 rfl) (by decide) d_prog_60_method_3_14 rfl (lenOf pd_7 rfl) rfl (Nat.le_of_eq rfl) (by decide) (by decide) (by decide) (by decide) rfl (fun T14 v15 os16 A17 P18 => ?_)
  obtain ⟨rfl, rfl⟩ := P18
  have A19 := A17.cast (k2 := 0) (n2 := 0) (os2 := [(d, .inr (.int, [(.int v0), (.int v1), (.int v2)])), (a, ob0 (.ref bw) (.ref bs) (.ref bm) (.ref bl) (.int wi)), (b, .inr (.long, [(.long (own_put (own_put q0 s0 m0 l0 v0) s1 m1 l1 v1)), (.long (own_put q1 s2 m2 l2 v2))])), (bw, .inr (.int, [(.int 0), (.int 0), (.int 1)])), (bs, .inr (.int, [(.int s0), (.int s1), (.int s2)])), (bm, .inr (.long, [(.long m0), (.long m1), (.long m2)])), (bl, .inr (.int, [(.int l0), (.int l1), (.int l2)]))]) rfl rfl rfl
  refine A19.iinc (q := 20) (l' := #[.val (.ref a), .val (.ref d), .val (.ref b), .val (.int 3)]) d_prog_60_method_3_17 rfl rfl rfl ?_
  refine A19.goto (q := 2) d_prog_60_method_3_20 (by decide) (by decide) ?_
  refine A19.iloadN (q := 3) d_prog_60_method_3_2 rfl rfl ?_
  refine A19.aloadN (q := 4) d_prog_60_method_3_3 rfl rfl rfl ?_
  refine A19.len (qn := 5) (i := 0) (z := (3 : Int32)) d_prog_60_method_3_4 rfl (rfl) rfl ?_
  refine A19.icmpYes (q := 23) d_prog_60_method_3_5 (by decide) (by decide) (by decide) ?_
  have A20 := A19.pick (is := [1, 2, 3, 4, 5, 6, 0]) (os2 := [(a, ob0 (.ref bw) (.ref bs) (.ref bm) (.ref bl) (.int wi)), (b, .inr (.long, [(.long (own_put (own_put q0 s0 m0 l0 v0) s1 m1 l1 v1)), (.long (own_put q1 s2 m2 l2 v2))])), (bw, .inr (.int, [(.int 0), (.int 0), (.int 1)])), (bs, .inr (.int, [(.int s0), (.int s1), (.int s2)])), (bm, .inr (.long, [(.long m0), (.long m1), (.long m2)])), (bl, .inr (.int, [(.int l0), (.int l1), (.int l2)])), (d, .inr (.int, [(.int v0), (.int v1), (.int v2)]))]) (by decide) rfl
  exact A20.retV d_prog_60_method_3_23 (by decide) (by decide) ⟨rfl, rfl⟩
theorem ef_m_unp12 (m : MethodId) (x0 : Addr) (x1 : Addr) (x2 : Addr) : entryFrame m #[(.ref x0), (.ref x1), (.ref x2)] 4 = mkF m 0 #[.val (.ref x0), .val (.ref x1), .val (.ref x2), .unset] [] := by first | (simp [entryFrame, mkF, argsToLocals, Value.category]; done) | rfl
set_option maxRecDepth 65536 in
set_option maxHeartbeats 40000000 in
theorem m_unp12 (l : Launch) (Z : State) (a0 : Array Value) (hw : ∀ d ∈ tables_1, d.before a0 Z = true) (a : Addr) (b : Addr) (bw : Addr) (bs : Addr) (bm : Addr) (bl : Addr) (d : Addr) (wi : Int32) (q0 : Int64) (q1 : Int64) (s0 : Int32) (s1 : Int32) (s2 : Int32) (m0 : Int64) (m1 : Int64) (m2 : Int64) (l0 : Int32) (l1 : Int32) (l2 : Int32) (o0 : Int32) (o1 : Int32) (o2 : Int32) :
    Pays l Z a0 (⟨"com/example/nomoc/nomoc/checker/StateLayout", "unpack", "([J[I)V"⟩ : MethodName) prog_60_method_4_code 4 none ({ frames := 0, cells := 0, slots := 0, locals := 0 } : Room) #[(.ref a), (.ref b), (.ref d)] [(a, ob0 (.ref bw) (.ref bs) (.ref bm) (.ref bl) (.int wi)), (b, .inr (.long, [(.long q0), (.long q1)])), (bw, .inr (.int, [(.int 0), (.int 0), (.int 1)])), (bs, .inr (.int, [(.int s0), (.int s1), (.int s2)])), (bm, .inr (.long, [(.long m0), (.long m1), (.long m2)])), (bl, .inr (.int, [(.int l0), (.int l1), (.int l2)])), (d, .inr (.int, [(.int o0), (.int o1), (.int o2)]))] (([(a, ob0 (.ref bw) (.ref bs) (.ref bm) (.ref bl) (.int wi)), (b, .inr (.long, [(.long q0), (.long q1)])), (bw, .inr (.int, [(.int 0), (.int 0), (.int 1)])), (bs, .inr (.int, [(.int s0), (.int s1), (.int s2)])), (bm, .inr (.long, [(.long m0), (.long m1), (.long m2)])), (bl, .inr (.int, [(.int l0), (.int l1), (.int l2)])), (d, .inr (.int, [(.int o0), (.int o1), (.int o2)]))] : Hs).map (·.1)) (fun v os' => v = none ∧ os' = [(a, ob0 (.ref bw) (.ref bs) (.ref bm) (.ref bl) (.int wi)), (b, .inr (.long, [(.long q0), (.long q1)])), (bw, .inr (.int, [(.int 0), (.int 0), (.int 1)])), (bs, .inr (.int, [(.int s0), (.int s1), (.int s2)])), (bm, .inr (.long, [(.long m0), (.long m1), (.long m2)])), (bl, .inr (.int, [(.int l0), (.int l1), (.int l2)])), (d, .inr (.int, [(.int (own_get q0 s0 m0 l0)), (.int (own_get q0 s1 m1 l1)), (.int (own_get q1 s2 m2 l2))]))]) := by
  refine Pays.of (Ls := #[.val (.ref a), .val (.ref b), .val (.ref d), .unset]) (plainFor_of_name pn_4) (fun m => ef_m_unp12 m a b d) ?_
  intro p e s m below meth c T0 A0
  refine A0.iconst (q := 1) (v := 0) d_prog_60_method_4_0 rfl rfl ?_
  refine A0.istoreN (q := 2) (l' := #[.val (.ref a), .val (.ref b), .val (.ref d), .val (.int 0)]) d_prog_60_method_4_1 rfl rfl ?_
  refine A0.iloadN (q := 3) d_prog_60_method_4_2 rfl rfl ?_
  refine A0.aloadN (q := 4) d_prog_60_method_4_3 rfl rfl rfl ?_
  refine A0.len (qn := 5) (i := 6) (z := (3 : Int32)) d_prog_60_method_4_4 rfl (rfl) rfl ?_
  refine A0.icmpNo (q := 8) d_prog_60_method_4_5 (by decide) rfl ?_
  refine A0.aloadN (q := 9) d_prog_60_method_4_8 rfl rfl rfl ?_
  refine A0.iloadN (q := 10) d_prog_60_method_4_9 rfl rfl ?_
  refine A0.aloadN (q := 11) d_prog_60_method_4_10 rfl rfl rfl ?_
  refine A0.aloadN (q := 12) d_prog_60_method_4_11 rfl rfl rfl ?_
  refine A0.getF (qn := 15) (i := 0) (j := 0) (tw hw 22 rfl) Via.refl d_prog_60_method_4_12 rfl rfl rfl (fun T1 A2 => ?_)
  refine A2.iloadN (q := 16) d_prog_60_method_4_15 rfl rfl ?_
  refine A2.ldI (qn := 17) (i := 2) d_prog_60_method_4_16 rfl (by decide) rfl rfl ?_
  refine A2.ldJ (qn := 18) (i := 1) d_prog_60_method_4_17 rfl (by decide) rfl rfl ?_
  refine A2.aloadN (q := 19) d_prog_60_method_4_18 rfl rfl rfl ?_
  refine A2.getF (qn := 22) (i := 0) (j := 1) (tw hw 24 rfl) Via.refl d_prog_60_method_4_19 rfl rfl rfl (fun T3 A4 => ?_)
  refine A4.iloadN (q := 23) d_prog_60_method_4_22 rfl rfl ?_
  refine A4.ldI (qn := 24) (i := 3) d_prog_60_method_4_23 rfl (by decide) rfl rfl ?_
  refine A4.lushr (q := 25) d_prog_60_method_4_24 rfl ?_
  refine A4.aloadN (q := 26) d_prog_60_method_4_25 rfl rfl rfl ?_
  refine A4.getF (qn := 29) (i := 0) (j := 2) (tw hw 27 rfl) Via.refl d_prog_60_method_4_26 rfl rfl rfl (fun T5 A6 => ?_)
  refine A6.iloadN (q := 30) d_prog_60_method_4_29 rfl rfl ?_
  refine A6.ldJ (qn := 31) (i := 4) d_prog_60_method_4_30 rfl (by decide) rfl rfl ?_
  refine A6.land (q := 32) d_prog_60_method_4_31 rfl ?_
  refine A6.aloadN (q := 33) d_prog_60_method_4_32 rfl rfl rfl ?_
  refine A6.getF (qn := 36) (i := 0) (j := 3) (tw hw 38 rfl) Via.refl d_prog_60_method_4_33 rfl rfl rfl (fun T7 A8 => ?_)
  refine A8.iloadN (q := 37) d_prog_60_method_4_36 rfl rfl ?_
  refine A8.ldI (qn := 38) (i := 5) d_prog_60_method_4_37 rfl (by decide) rfl rfl ?_
  refine A8.i2l (q := 39) d_prog_60_method_4_38 rfl ?_
  refine A8.ladd (q := 40) d_prog_60_method_4_39 rfl ?_
  refine A8.l2i (q := 41) d_prog_60_method_4_40 rfl ?_
  refine A8.stI (qn := 42) (i := 6) d_prog_60_method_4_41 rfl (by decide) (show (0 : Int32).toNatClampNeg < 3 from by decide) rfl rfl (fun T9 A10 => ?_)
  have A11 := A10.cast (k2 := 0) (n2 := 0) (os2 := [(a, ob0 (.ref bw) (.ref bs) (.ref bm) (.ref bl) (.int wi)), (b, .inr (.long, [(.long q0), (.long q1)])), (bw, .inr (.int, [(.int 0), (.int 0), (.int 1)])), (bs, .inr (.int, [(.int s0), (.int s1), (.int s2)])), (bm, .inr (.long, [(.long m0), (.long m1), (.long m2)])), (bl, .inr (.int, [(.int l0), (.int l1), (.int l2)])), (d, .inr (.int, [(.int ((((q0.toUInt64 >>> (s0 &&& 0x3f).toInt64.toUInt64).toInt64) &&& m0) + l0.toInt64).toInt32), (.int o1), (.int o2)]))]) rfl rfl rfl
  refine A11.iinc (q := 45) (l' := #[.val (.ref a), .val (.ref b), .val (.ref d), .val (.int 1)]) d_prog_60_method_4_42 rfl rfl rfl ?_
  refine A11.goto (q := 2) d_prog_60_method_4_45 (by decide) (by decide) ?_
  refine A11.iloadN (q := 3) d_prog_60_method_4_2 rfl rfl ?_
  refine A11.aloadN (q := 4) d_prog_60_method_4_3 rfl rfl rfl ?_
  refine A11.len (qn := 5) (i := 6) (z := (3 : Int32)) d_prog_60_method_4_4 rfl (rfl) rfl ?_
  refine A11.icmpNo (q := 8) d_prog_60_method_4_5 (by decide) rfl ?_
  refine A11.aloadN (q := 9) d_prog_60_method_4_8 rfl rfl rfl ?_
  refine A11.iloadN (q := 10) d_prog_60_method_4_9 rfl rfl ?_
  refine A11.aloadN (q := 11) d_prog_60_method_4_10 rfl rfl rfl ?_
  refine A11.aloadN (q := 12) d_prog_60_method_4_11 rfl rfl rfl ?_
  refine A11.getF (qn := 15) (i := 0) (j := 0) (tw hw 22 rfl) Via.refl d_prog_60_method_4_12 rfl rfl rfl (fun T12 A13 => ?_)
  refine A13.iloadN (q := 16) d_prog_60_method_4_15 rfl rfl ?_
  refine A13.ldI (qn := 17) (i := 2) d_prog_60_method_4_16 rfl (by decide) rfl rfl ?_
  refine A13.ldJ (qn := 18) (i := 1) d_prog_60_method_4_17 rfl (by decide) rfl rfl ?_
  refine A13.aloadN (q := 19) d_prog_60_method_4_18 rfl rfl rfl ?_
  refine A13.getF (qn := 22) (i := 0) (j := 1) (tw hw 24 rfl) Via.refl d_prog_60_method_4_19 rfl rfl rfl (fun T14 A15 => ?_)
  refine A15.iloadN (q := 23) d_prog_60_method_4_22 rfl rfl ?_
  refine A15.ldI (qn := 24) (i := 3) d_prog_60_method_4_23 rfl (by decide) rfl rfl ?_
  refine A15.lushr (q := 25) d_prog_60_method_4_24 rfl ?_
  refine A15.aloadN (q := 26) d_prog_60_method_4_25 rfl rfl rfl ?_
  refine A15.getF (qn := 29) (i := 0) (j := 2) (tw hw 27 rfl) Via.refl d_prog_60_method_4_26 rfl rfl rfl (fun T16 A17 => ?_)
  refine A17.iloadN (q := 30) d_prog_60_method_4_29 rfl rfl ?_
  refine A17.ldJ (qn := 31) (i := 4) d_prog_60_method_4_30 rfl (by decide) rfl rfl ?_
  refine A17.land (q := 32) d_prog_60_method_4_31 rfl ?_
  refine A17.aloadN (q := 33) d_prog_60_method_4_32 rfl rfl rfl ?_
  refine A17.getF (qn := 36) (i := 0) (j := 3) (tw hw 38 rfl) Via.refl d_prog_60_method_4_33 rfl rfl rfl (fun T18 A19 => ?_)
  refine A19.iloadN (q := 37) d_prog_60_method_4_36 rfl rfl ?_
  refine A19.ldI (qn := 38) (i := 5) d_prog_60_method_4_37 rfl (by decide) rfl rfl ?_
  refine A19.i2l (q := 39) d_prog_60_method_4_38 rfl ?_
  refine A19.ladd (q := 40) d_prog_60_method_4_39 rfl ?_
  refine A19.l2i (q := 41) d_prog_60_method_4_40 rfl ?_
  refine A19.stI (qn := 42) (i := 6) d_prog_60_method_4_41 rfl (by decide) (show (1 : Int32).toNatClampNeg < 3 from by decide) rfl rfl (fun T20 A21 => ?_)
  have A22 := A21.cast (k2 := 0) (n2 := 0) (os2 := [(a, ob0 (.ref bw) (.ref bs) (.ref bm) (.ref bl) (.int wi)), (b, .inr (.long, [(.long q0), (.long q1)])), (bw, .inr (.int, [(.int 0), (.int 0), (.int 1)])), (bs, .inr (.int, [(.int s0), (.int s1), (.int s2)])), (bm, .inr (.long, [(.long m0), (.long m1), (.long m2)])), (bl, .inr (.int, [(.int l0), (.int l1), (.int l2)])), (d, .inr (.int, [(.int ((((q0.toUInt64 >>> (s0 &&& 0x3f).toInt64.toUInt64).toInt64) &&& m0) + l0.toInt64).toInt32), (.int ((((q0.toUInt64 >>> (s1 &&& 0x3f).toInt64.toUInt64).toInt64) &&& m1) + l1.toInt64).toInt32), (.int o2)]))]) rfl rfl rfl
  refine A22.iinc (q := 45) (l' := #[.val (.ref a), .val (.ref b), .val (.ref d), .val (.int 2)]) d_prog_60_method_4_42 rfl rfl rfl ?_
  refine A22.goto (q := 2) d_prog_60_method_4_45 (by decide) (by decide) ?_
  refine A22.iloadN (q := 3) d_prog_60_method_4_2 rfl rfl ?_
  refine A22.aloadN (q := 4) d_prog_60_method_4_3 rfl rfl rfl ?_
  refine A22.len (qn := 5) (i := 6) (z := (3 : Int32)) d_prog_60_method_4_4 rfl (rfl) rfl ?_
  refine A22.icmpNo (q := 8) d_prog_60_method_4_5 (by decide) rfl ?_
  refine A22.aloadN (q := 9) d_prog_60_method_4_8 rfl rfl rfl ?_
  refine A22.iloadN (q := 10) d_prog_60_method_4_9 rfl rfl ?_
  refine A22.aloadN (q := 11) d_prog_60_method_4_10 rfl rfl rfl ?_
  refine A22.aloadN (q := 12) d_prog_60_method_4_11 rfl rfl rfl ?_
  refine A22.getF (qn := 15) (i := 0) (j := 0) (tw hw 22 rfl) Via.refl d_prog_60_method_4_12 rfl rfl rfl (fun T23 A24 => ?_)
  refine A24.iloadN (q := 16) d_prog_60_method_4_15 rfl rfl ?_
  refine A24.ldI (qn := 17) (i := 2) d_prog_60_method_4_16 rfl (by decide) rfl rfl ?_
  refine A24.ldJ (qn := 18) (i := 1) d_prog_60_method_4_17 rfl (by decide) rfl rfl ?_
  refine A24.aloadN (q := 19) d_prog_60_method_4_18 rfl rfl rfl ?_
  refine A24.getF (qn := 22) (i := 0) (j := 1) (tw hw 24 rfl) Via.refl d_prog_60_method_4_19 rfl rfl rfl (fun T25 A26 => ?_)
  refine A26.iloadN (q := 23) d_prog_60_method_4_22 rfl rfl ?_
  refine A26.ldI (qn := 24) (i := 3) d_prog_60_method_4_23 rfl (by decide) rfl rfl ?_
  refine A26.lushr (q := 25) d_prog_60_method_4_24 rfl ?_
  refine A26.aloadN (q := 26) d_prog_60_method_4_25 rfl rfl rfl ?_
  refine A26.getF (qn := 29) (i := 0) (j := 2) (tw hw 27 rfl) Via.refl d_prog_60_method_4_26 rfl rfl rfl (fun T27 A28 => ?_)
  refine A28.iloadN (q := 30) d_prog_60_method_4_29 rfl rfl ?_
  refine A28.ldJ (qn := 31) (i := 4) d_prog_60_method_4_30 rfl (by decide) rfl rfl ?_
  refine A28.land (q := 32) d_prog_60_method_4_31 rfl ?_
  refine A28.aloadN (q := 33) d_prog_60_method_4_32 rfl rfl rfl ?_
  refine A28.getF (qn := 36) (i := 0) (j := 3) (tw hw 38 rfl) Via.refl d_prog_60_method_4_33 rfl rfl rfl (fun T29 A30 => ?_)
  refine A30.iloadN (q := 37) d_prog_60_method_4_36 rfl rfl ?_
  refine A30.ldI (qn := 38) (i := 5) d_prog_60_method_4_37 rfl (by decide) rfl rfl ?_
  refine A30.i2l (q := 39) d_prog_60_method_4_38 rfl ?_
  refine A30.ladd (q := 40) d_prog_60_method_4_39 rfl ?_
  refine A30.l2i (q := 41) d_prog_60_method_4_40 rfl ?_
  refine A30.stI (qn := 42) (i := 6) d_prog_60_method_4_41 rfl (by decide) (show (2 : Int32).toNatClampNeg < 3 from by decide) rfl rfl (fun T31 A32 => ?_)
  have A33 := A32.cast (k2 := 0) (n2 := 0) (os2 := [(a, ob0 (.ref bw) (.ref bs) (.ref bm) (.ref bl) (.int wi)), (b, .inr (.long, [(.long q0), (.long q1)])), (bw, .inr (.int, [(.int 0), (.int 0), (.int 1)])), (bs, .inr (.int, [(.int s0), (.int s1), (.int s2)])), (bm, .inr (.long, [(.long m0), (.long m1), (.long m2)])), (bl, .inr (.int, [(.int l0), (.int l1), (.int l2)])), (d, .inr (.int, [(.int ((((q0.toUInt64 >>> (s0 &&& 0x3f).toInt64.toUInt64).toInt64) &&& m0) + l0.toInt64).toInt32), (.int ((((q0.toUInt64 >>> (s1 &&& 0x3f).toInt64.toUInt64).toInt64) &&& m1) + l1.toInt64).toInt32), (.int ((((q1.toUInt64 >>> (s2 &&& 0x3f).toInt64.toUInt64).toInt64) &&& m2) + l2.toInt64).toInt32)]))]) rfl rfl rfl
  refine A33.iinc (q := 45) (l' := #[.val (.ref a), .val (.ref b), .val (.ref d), .val (.int 3)]) d_prog_60_method_4_42 rfl rfl rfl ?_
  refine A33.goto (q := 2) d_prog_60_method_4_45 (by decide) (by decide) ?_
  refine A33.iloadN (q := 3) d_prog_60_method_4_2 rfl rfl ?_
  refine A33.aloadN (q := 4) d_prog_60_method_4_3 rfl rfl rfl ?_
  refine A33.len (qn := 5) (i := 6) (z := (3 : Int32)) d_prog_60_method_4_4 rfl (rfl) rfl ?_
  refine A33.icmpYes (q := 48) d_prog_60_method_4_5 (by decide) (by decide) (by decide) ?_
  exact A33.retV d_prog_60_method_4_48 (by decide) (by decide) ⟨rfl, rfl⟩
theorem pd_8 : parseMethodDescriptor "([I[I[IIJI)V" = some ⟨[(.array .int), (.array .int), (.array .int), .int, .long, .int], none⟩ := by decide +kernel
theorem pd_9 : parseMethodDescriptor "([I[I)V" = some ⟨[(.array .int), (.array .int)], none⟩ := by decide +kernel
theorem pd_10 : parseMethodDescriptor "()I" = some ⟨[], some .int⟩ := by decide +kernel
theorem pd_11 : parseMethodDescriptor "([I[J)V" = some ⟨[(.array .int), (.array .long)], none⟩ := by decide +kernel
theorem pd_12 : parseMethodDescriptor "([J[I)V" = some ⟨[(.array .long), (.array .int)], none⟩ := by decide +kernel
theorem ef_m_law (m : MethodId) (x0 : Int64) (x1 : Int64) (x2 : Int64) (x3 : Int32) (x4 : Int32) (x5 : Int32) : entryFrame m #[(.long x0), (.long x1), (.long x2), (.int x3), (.int x4), (.int x5)] maxLocals = mkF m 0 #[.val (.long x0), .second, .val (.long x1), .second, .val (.long x2), .second, .val (.int x3), .val (.int x4), .val (.int x5), .unset, .unset, .unset, .unset, .unset, .unset] [] := by first | (simp [entryFrame, mkF, argsToLocals, Value.category, maxLocals]; done) | rfl
set_option maxRecDepth 65536 in
set_option maxHeartbeats 40000000 in
theorem m_law (l : Launch) (Z : State) (a0 : Array Value) (hw : ∀ d ∈ tables_1, d.before a0 Z = true) (x0 : Int64) (x1 : Int64) (x2 : Int64) (x3 : Int32) (x4 : Int32) (x5 : Int32) :
    Pays l Z a0 x code maxLocals ret room_1 #[(.long x0), (.long x1), (.long x2), (.int x3), (.int x4), (.int x5)] [] (([] : Hs).map (·.1)) (fun v os' => v = some (.int 1) ∧ True) := by
  refine Pays.of (Ls := #[.val (.long x0), .second, .val (.long x1), .second, .val (.long x2), .second, .val (.int x3), .val (.int x4), .val (.int x5), .unset, .unset, .unset, .unset, .unset, .unset]) (plainFor_of_name pn_6) (fun m => ef_m_law m x0 x1 x2 x3 x4 x5) ?_
  intro p e s m below meth c T0 A0
  refine A0.iconst (q := 1) (v := 3) at_0 rfl rfl ?_
  refine A0.newP (qn := 3) (cap := 3) (tw hw 0 rfl) at_1 (by decide) (by decide) (by decide) (by decide) (by decide) rfl (fun T1 b3 A2 => ?_)
  have A4 := A2.cast (k2 := 1) (n2 := 3) (os2 := [(b3, .inr (.int, [(.int 0), (.int 0), (.int 0)]))]) rfl rfl rfl
  refine A4.astore (q := 5) (l' := #[.val (.long x0), .second, .val (.long x1), .second, .val (.long x2), .second, .val (.int x3), .val (.int x4), .val (.int x5), .val (.ref b3), .unset, .unset, .unset, .unset, .unset]) at_3 rfl rfl rfl ?_
  refine A4.iconst (q := 6) (v := 3) at_5 rfl rfl ?_
  refine A4.newP (qn := 8) (cap := 3) (tw hw 0 rfl) at_6 (by decide) (by decide) (by decide) (by decide) (by decide) rfl (fun T5 b7 A6 => ?_)
  have A8 := A6.cast (k2 := 2) (n2 := 6) (os2 := [(b3, .inr (.int, [(.int 0), (.int 0), (.int 0)])), (b7, .inr (.int, [(.int 0), (.int 0), (.int 0)]))]) rfl rfl rfl
  refine A8.astore (q := 10) (l' := #[.val (.long x0), .second, .val (.long x1), .second, .val (.long x2), .second, .val (.int x3), .val (.int x4), .val (.int x5), .val (.ref b3), .val (.ref b7), .unset, .unset, .unset, .unset]) at_8 rfl rfl rfl ?_
  refine A8.iconst (q := 11) (v := 3) at_10 rfl rfl ?_
  refine A8.newP (qn := 13) (cap := 3) (tw hw 0 rfl) at_11 (by decide) (by decide) (by decide) (by decide) (by decide) rfl (fun T9 b11 A10 => ?_)
  have A12 := A10.cast (k2 := 3) (n2 := 9) (os2 := [(b3, .inr (.int, [(.int 0), (.int 0), (.int 0)])), (b7, .inr (.int, [(.int 0), (.int 0), (.int 0)])), (b11, .inr (.int, [(.int 0), (.int 0), (.int 0)]))]) rfl rfl rfl
  refine A12.astore (q := 15) (l' := #[.val (.long x0), .second, .val (.long x1), .second, .val (.long x2), .second, .val (.int x3), .val (.int x4), .val (.int x5), .val (.ref b3), .val (.ref b7), .val (.ref b11), .unset, .unset, .unset]) at_13 rfl rfl rfl ?_
  refine A12.aload (q := 17) at_15 rfl rfl rfl ?_
  refine A12.aload (q := 19) at_17 rfl rfl rfl ?_
  refine A12.aload (q := 21) at_19 rfl rfl rfl ?_
  refine A12.iconst (q := 22) (v := 0) at_21 rfl rfl ?_
  refine A12.lloadN (q := 23) at_22 rfl rfl ?_
  refine A12.iload (q := 25) at_23 rfl rfl ?_
  refine Here.callS (qn := 28) (os1 := []) (os2 := [(b3, .inr (.int, [(.int 0), (.int 0), (.int 0)])), (b7, .inr (.int, [(.int 0), (.int 0), (.int 0)])), (b11, .inr (.int, [(.int 0), (.int 0), (.int 0)]))]) (rest := []) (W := 0) (argsL := [(.ref b3), (.ref b7), (.ref b11), (.int 0), (.long x0), (.int x3)]) A12 (m_fill0 l Z a0 hw b3 b7 b11 x0 x3 ((0 : Int32)) ((0 : Int32)) ((0 : Int32)) ((0 : Int32)) ((0 : Int32)) ((0 : Int32)) ((0 : Int32)) ((0 : Int32)) ((0 : Int32))) (Or.inr ⟨rfl, rfl⟩) (tw hw 1 rfl) (tw hw 2 rfl) (tw hw 3 rfl) (tw hw 4 rfl) (by decide) at_25 rfl (lenOf pd_8 rfl) rfl (Nat.le_of_eq rfl) (by decide) (by decide) (by decide) (by decide) rfl (fun T13 v14 os15 A16 P17 => ?_)
  obtain ⟨rfl, rfl⟩ := P17
  have A18 := A16.cast (k2 := 3) (n2 := 9) (os2 := [(b3, .inr (.int, [(.int (own_lo x0)), (.int 0), (.int 0)])), (b7, .inr (.int, [(.int (own_hi x0)), (.int 0), (.int 0)])), (b11, .inr (.int, [(.int (own_v3 x0 x3)), (.int 0), (.int 0)]))]) rfl rfl rfl
  refine A18.aload (q := 30) at_28 rfl rfl rfl ?_
  refine A18.aload (q := 32) at_30 rfl rfl rfl ?_
  refine A18.aload (q := 34) at_32 rfl rfl rfl ?_
  refine A18.iconst (q := 35) (v := 1) at_34 rfl rfl ?_
  refine A18.lloadN (q := 36) at_35 rfl rfl ?_
  refine A18.iload (q := 38) at_36 rfl rfl ?_
  refine Here.callS (qn := 41) (os1 := []) (os2 := [(b3, .inr (.int, [(.int (own_lo x0)), (.int 0), (.int 0)])), (b7, .inr (.int, [(.int (own_hi x0)), (.int 0), (.int 0)])), (b11, .inr (.int, [(.int (own_v3 x0 x3)), (.int 0), (.int 0)]))]) (rest := []) (W := 0) (argsL := [(.ref b3), (.ref b7), (.ref b11), (.int 1), (.long x1), (.int x4)]) A18 (m_fill1 l Z a0 hw b3 b7 b11 x1 x4 ((own_lo x0)) ((0 : Int32)) ((0 : Int32)) ((own_hi x0)) ((0 : Int32)) ((0 : Int32)) ((own_v3 x0 x3)) ((0 : Int32)) ((0 : Int32))) (Or.inr ⟨rfl, rfl⟩) (tw hw 1 rfl) (tw hw 2 rfl) (tw hw 3 rfl) (tw hw 4 rfl) (by decide) at_38 rfl (lenOf pd_8 rfl) rfl (Nat.le_of_eq rfl) (by decide) (by decide) (by decide) (by decide) rfl (fun T19 v20 os21 A22 P23 => ?_)
  obtain ⟨rfl, rfl⟩ := P23
  have A24 := A22.cast (k2 := 3) (n2 := 9) (os2 := [(b3, .inr (.int, [(.int (own_lo x0)), (.int (own_lo x1)), (.int 0)])), (b7, .inr (.int, [(.int (own_hi x0)), (.int (own_hi x1)), (.int 0)])), (b11, .inr (.int, [(.int (own_v3 x0 x3)), (.int (own_v3 x1 x4)), (.int 0)]))]) rfl rfl rfl
  refine A24.aload (q := 43) at_41 rfl rfl rfl ?_
  refine A24.aload (q := 45) at_43 rfl rfl rfl ?_
  refine A24.aload (q := 47) at_45 rfl rfl rfl ?_
  refine A24.iconst (q := 48) (v := 2) at_47 rfl rfl ?_
  refine A24.lload (q := 50) at_48 rfl rfl ?_
  refine A24.iload (q := 52) at_50 rfl rfl ?_
  refine Here.callS (qn := 55) (os1 := []) (os2 := [(b3, .inr (.int, [(.int (own_lo x0)), (.int (own_lo x1)), (.int 0)])), (b7, .inr (.int, [(.int (own_hi x0)), (.int (own_hi x1)), (.int 0)])), (b11, .inr (.int, [(.int (own_v3 x0 x3)), (.int (own_v3 x1 x4)), (.int 0)]))]) (rest := []) (W := 0) (argsL := [(.ref b3), (.ref b7), (.ref b11), (.int 2), (.long x2), (.int x5)]) A24 (m_fill2 l Z a0 hw b3 b7 b11 x2 x5 ((own_lo x0)) ((own_lo x1)) ((0 : Int32)) ((own_hi x0)) ((own_hi x1)) ((0 : Int32)) ((own_v3 x0 x3)) ((own_v3 x1 x4)) ((0 : Int32))) (Or.inr ⟨rfl, rfl⟩) (tw hw 1 rfl) (tw hw 2 rfl) (tw hw 3 rfl) (tw hw 4 rfl) (by decide) at_52 rfl (lenOf pd_8 rfl) rfl (Nat.le_of_eq rfl) (by decide) (by decide) (by decide) (by decide) rfl (fun T25 v26 os27 A28 P29 => ?_)
  obtain ⟨rfl, rfl⟩ := P29
  have A30 := A28.cast (k2 := 3) (n2 := 9) (os2 := [(b3, .inr (.int, [(.int (own_lo x0)), (.int (own_lo x1)), (.int (own_lo x2))])), (b7, .inr (.int, [(.int (own_hi x0)), (.int (own_hi x1)), (.int (own_hi x2))])), (b11, .inr (.int, [(.int (own_v3 x0 x3)), (.int (own_v3 x1 x4)), (.int (own_v3 x2 x5))]))]) rfl rfl rfl
  refine A30.newO (qn := 58) (C := "com/example/nomoc/nomoc/checker/StateLayout") (fs := [("com/example/nomoc/nomoc/checker/StateLayout", "words", "[I", .null), ("com/example/nomoc/nomoc/checker/StateLayout", "shifts", "[I", .null), ("com/example/nomoc/nomoc/checker/StateLayout", "masks", "[J", .null), ("com/example/nomoc/nomoc/checker/StateLayout", "lows", "[I", .null), ("com/example/nomoc/nomoc/checker/StateLayout", "width", "I", (.int 0))]) (tw hw 13 rfl) (tw hw 14 rfl) (tw hw 15 rfl) at_55 (by decide) (by decide) (by decide) (List.forall_mem_cons.mpr ⟨⟨Or.inr (tw hw 23 rfl), (.array .int), by decide, rfl⟩, (List.forall_mem_cons.mpr ⟨⟨Or.inr (tw hw 25 rfl), (.array .int), by decide, rfl⟩, (List.forall_mem_cons.mpr ⟨⟨Or.inr (tw hw 28 rfl), (.array .long), by decide, rfl⟩, (List.forall_mem_cons.mpr ⟨⟨Or.inr (tw hw 39 rfl), (.array .int), by decide, rfl⟩, (List.forall_mem_cons.mpr ⟨⟨Or.inr (tw hw 50 rfl), .int, by decide, rfl⟩, (List.forall_mem_nil _)⟩)⟩)⟩)⟩)⟩) rfl (fun T31 b33 A32 => ?_)
  have A34 := A32.cast (k2 := 4) (n2 := 14) (os2 := [(b3, .inr (.int, [(.int (own_lo x0)), (.int (own_lo x1)), (.int (own_lo x2))])), (b7, .inr (.int, [(.int (own_hi x0)), (.int (own_hi x1)), (.int (own_hi x2))])), (b11, .inr (.int, [(.int (own_v3 x0 x3)), (.int (own_v3 x1 x4)), (.int (own_v3 x2 x5))])), (b33, ob0 .null .null .null .null (.int 0))]) rfl rfl rfl
  refine A34.dup (q := 59) at_58 rfl rfl ?_
  refine A34.aload (q := 61) at_59 rfl rfl rfl ?_
  refine A34.aload (q := 63) at_61 rfl rfl rfl ?_
  have A35 := A34.pick (is := [2, 3, 0, 1]) (os2 := [(b11, .inr (.int, [(.int (own_v3 x0 x3)), (.int (own_v3 x1 x4)), (.int (own_v3 x2 x5))])), (b33, ob0 .null .null .null .null (.int 0)), (b3, .inr (.int, [(.int (own_lo x0)), (.int (own_lo x1)), (.int (own_lo x2))])), (b7, .inr (.int, [(.int (own_hi x0)), (.int (own_hi x1)), (.int (own_hi x2))]))]) (by decide) rfl
  refine Here.callI (qn := 66) (os1 := [(b11, .inr (.int, [(.int (own_v3 x0 x3)), (.int (own_v3 x1 x4)), (.int (own_v3 x2 x5))]))]) (os2 := [(b33, ob0 .null .null .null .null (.int 0)), (b3, .inr (.int, [(.int (own_lo x0)), (.int (own_lo x1)), (.int (own_lo x2))])), (b7, .inr (.int, [(.int (own_hi x0)), (.int (own_hi x1)), (.int (own_hi x2))]))]) (rest := [(.ref b33)]) (W := 1) (argsL := [(.ref b3), (.ref b7)]) (a := b33) A35 (m_ctor l Z a0 hw b33 b3 b7 ((own_lo x0)) ((own_lo x1)) ((own_lo x2)) ((own_hi x0)) ((own_hi x1)) ((own_hi x2)) (own_lohi _) (own_lohi _) (own_lohi _)) (Or.inr ⟨rfl, rfl⟩) rfl (tw hw 16 rfl) (tw hw 17 rfl) (tw hw 15 rfl) (tw hw 18 rfl) (by decide) at_63 rfl (lenOf pd_9 rfl) rfl (Nat.le_of_eq rfl) (by decide) (by decide) (by decide) (by decide) rfl (fun T36 v37 os38 A39 P40 => ?_)
  obtain ⟨bw_63, bs_63, bm_63, bl_63, wd_63, sh_63, wi_63, rfl, rfl, hq_63⟩ := P40
  have A41 := A39.cast (k2 := 8) (n2 := 26) (os2 := [(b11, .inr (.int, [(.int (own_v3 x0 x3)), (.int (own_v3 x1 x4)), (.int (own_v3 x2 x5))])), (b33, ob0 (.ref bw_63) (.ref bs_63) (.ref bm_63) (.ref bl_63) (.int wi_63)), (b3, .inr (.int, [(.int (own_lo x0)), (.int (own_lo x1)), (.int (own_lo x2))])), (b7, .inr (.int, [(.int (own_hi x0)), (.int (own_hi x1)), (.int (own_hi x2))])), (bw_63, .inr (.int, [(.int 0), (.int 0), (.int wd_63)])), (bs_63, .inr (.int, [(.int 0), (.int (own_bits (own_lo x0) (own_hi x0))), (.int sh_63)])), (bm_63, .inr (.long, [(.long (own_mk (own_bits (own_lo x0) (own_hi x0)))), (.long (own_mk (own_bits (own_lo x1) (own_hi x1)))), (.long (own_mk (own_bits (own_lo x2) (own_hi x2))))])), (bl_63, .inr (.int, [(.int (own_lo x0)), (.int (own_lo x1)), (.int (own_lo x2))]))]) rfl rfl rfl
  rcases hq_63 with ⟨rfl, rfl, rfl, hs⟩ | ⟨rfl, rfl, rfl⟩
  · have hF := own_fact0 x0 x1 x2 hs
    have hv0 := own_fit3 x0 x3
    have hv1 := own_fit3 x1 x4
    have hv2 := own_fit3 x2 x5
    generalize em0 : (own_mk (own_bits (own_lo x0) (own_hi x0))) = m0 at A41 hF hv0 hv1 hv2 hs ⊢
    generalize em1 : (own_mk (own_bits (own_lo x1) (own_hi x1))) = m1 at A41 hF hv0 hv1 hv2 hs em0 ⊢
    generalize em2 : (own_mk (own_bits (own_lo x2) (own_hi x2))) = m2 at A41 hF hv0 hv1 hv2 hs em0 em1 ⊢
    generalize esh : ((own_bits (own_lo x0) (own_hi x0)) + (own_bits (own_lo x1) (own_hi x1))) = sh at A41 hF hv0 hv1 hv2 hs em0 em1 em2 ⊢
    generalize eb0 : (own_bits (own_lo x0) (own_hi x0)) = b0 at A41 hF hv0 hv1 hv2 hs em0 em1 em2 ⊢
    generalize eb1 : (own_bits (own_lo x1) (own_hi x1)) = b1 at A41 hF hv0 hv1 hv2 hs em0 em1 em2 ⊢
    generalize eb2 : (own_bits (own_lo x2) (own_hi x2)) = b2 at A41 hF hv0 hv1 hv2 hs em0 em1 em2 ⊢
    generalize ev0 : (own_v3 x0 x3) = v0 at A41 hF hv0 hv1 hv2 hs em0 em1 em2 ⊢
    generalize ev1 : (own_v3 x1 x4) = v1 at A41 hF hv0 hv1 hv2 hs em0 em1 em2 ⊢
    generalize ev2 : (own_v3 x2 x5) = v2 at A41 hF hv0 hv1 hv2 hs em0 em1 em2 ⊢
    generalize el0 : (own_lo x0) = l0 at A41 hF hv0 hv1 hv2 hs em0 em1 em2 ⊢
    generalize el1 : (own_lo x1) = l1 at A41 hF hv0 hv1 hv2 hs em0 em1 em2 ⊢
    generalize el2 : (own_lo x2) = l2 at A41 hF hv0 hv1 hv2 hs em0 em1 em2 ⊢
    generalize eh0 : (own_hi x0) = h0 at A41 hF hv0 hv1 hv2 hs em0 em1 em2 ⊢
    generalize eh1 : (own_hi x1) = h1 at A41 hF hv0 hv1 hv2 hs em0 em1 em2 ⊢
    generalize eh2 : (own_hi x2) = h2 at A41 hF hv0 hv1 hv2 hs em0 em1 em2 ⊢
    obtain ⟨hf0, hf1, hf2, hd⟩ := hF
    show Wp _ _ _ _ _ _ _ _ _ _ T36 (mkF m 66 #[.val (.long x0), .second, .val (.long x1), .second, .val (.long x2), .second, .val (.int x3), .val (.int x4), .val (.int x5), .val (.ref b3), .val (.ref b7), .val (.ref b11), .unset, .unset, .unset] [(.ref b33)])
    refine A41.astore (q := 68) (l' := #[.val (.long x0), .second, .val (.long x1), .second, .val (.long x2), .second, .val (.int x3), .val (.int x4), .val (.int x5), .val (.ref b3), .val (.ref b7), .val (.ref b11), .val (.ref b33), .unset, .unset]) at_66 rfl rfl rfl ?_
    refine A41.aload (q := 70) at_68 rfl rfl rfl ?_
    have A42 := A41.pick (is := [0, 2, 3, 4, 5, 6, 7, 1]) (os2 := [(b11, .inr (.int, [(.int v0), (.int v1), (.int v2)])), (b3, .inr (.int, [(.int l0), (.int l1), (.int l2)])), (b7, .inr (.int, [(.int h0), (.int h1), (.int h2)])), (bw_63, .inr (.int, [(.int 0), (.int 0), (.int 0)])), (bs_63, .inr (.int, [(.int 0), (.int b0), (.int sh)])), (bm_63, .inr (.long, [(.long m0), (.long m1), (.long m2)])), (bl_63, .inr (.int, [(.int l0), (.int l1), (.int l2)])), (b33, ob0 (.ref bw_63) (.ref bs_63) (.ref bm_63) (.ref bl_63) (.int 1))]) (by decide) rfl
    refine Here.callV (qn := 73) (os1 := [(b11, .inr (.int, [(.int v0), (.int v1), (.int v2)])), (b3, .inr (.int, [(.int l0), (.int l1), (.int l2)])), (b7, .inr (.int, [(.int h0), (.int h1), (.int h2)])), (bw_63, .inr (.int, [(.int 0), (.int 0), (.int 0)])), (bs_63, .inr (.int, [(.int 0), (.int b0), (.int sh)])), (bm_63, .inr (.long, [(.long m0), (.long m1), (.long m2)])), (bl_63, .inr (.int, [(.int l0), (.int l1), (.int l2)]))]) (os2 := [(b33, ob0 (.ref bw_63) (.ref bs_63) (.ref bm_63) (.ref bl_63) (.int 1))]) (rest := []) (W := 0) (argsL := []) (a := b33) (i := 7) A42 (m_wid l Z a0 hw b33 bw_63 bs_63 bm_63 bl_63 ((1 : Int32))) (Or.inr ⟨rfl, rfl⟩) rfl (tw hw 51 rfl) (tw hw 52 rfl) (tw hw 54 rfl) (tw hw 53 rfl) (tw hw 15 rfl) (tw hw 55 rfl) (by decide) at_70 rfl (lenOf pd_10 rfl) rfl (Nat.le_of_eq rfl) (by decide) (by decide) (by decide) (by decide) rfl (fun T43 v44 os45 A46 P47 => ?_)
    obtain ⟨rfl, rfl⟩ := P47
    have A48 := A46.cast (k2 := 8) (n2 := 26) (os2 := [(b11, .inr (.int, [(.int v0), (.int v1), (.int v2)])), (b3, .inr (.int, [(.int l0), (.int l1), (.int l2)])), (b7, .inr (.int, [(.int h0), (.int h1), (.int h2)])), (bw_63, .inr (.int, [(.int 0), (.int 0), (.int 0)])), (bs_63, .inr (.int, [(.int 0), (.int b0), (.int sh)])), (bm_63, .inr (.long, [(.long m0), (.long m1), (.long m2)])), (bl_63, .inr (.int, [(.int l0), (.int l1), (.int l2)])), (b33, ob0 (.ref bw_63) (.ref bs_63) (.ref bm_63) (.ref bl_63) (.int 1))]) rfl rfl rfl
    refine A48.newP (qn := 75) (cap := 1) (tw hw 26 rfl) at_73 (by decide) (by decide) (by decide) (by decide) (by decide) rfl (fun T49 b51 A50 => ?_)
    have A52 := A50.cast (k2 := 9) (n2 := 27) (os2 := [(b11, .inr (.int, [(.int v0), (.int v1), (.int v2)])), (b3, .inr (.int, [(.int l0), (.int l1), (.int l2)])), (b7, .inr (.int, [(.int h0), (.int h1), (.int h2)])), (bw_63, .inr (.int, [(.int 0), (.int 0), (.int 0)])), (bs_63, .inr (.int, [(.int 0), (.int b0), (.int sh)])), (bm_63, .inr (.long, [(.long m0), (.long m1), (.long m2)])), (bl_63, .inr (.int, [(.int l0), (.int l1), (.int l2)])), (b33, ob0 (.ref bw_63) (.ref bs_63) (.ref bm_63) (.ref bl_63) (.int 1)), (b51, .inr (.long, [(.long 0)]))]) rfl rfl rfl
    refine A52.astore (q := 77) (l' := #[.val (.long x0), .second, .val (.long x1), .second, .val (.long x2), .second, .val (.int x3), .val (.int x4), .val (.int x5), .val (.ref b3), .val (.ref b7), .val (.ref b11), .val (.ref b33), .val (.ref b51), .unset]) at_75 rfl rfl rfl ?_
    refine A52.aload (q := 79) at_77 rfl rfl rfl ?_
    refine A52.aload (q := 81) at_79 rfl rfl rfl ?_
    refine A52.aload (q := 83) at_81 rfl rfl rfl ?_
    have A53 := A52.pick (is := [1, 2, 7, 8, 3, 4, 5, 6, 0]) (os2 := [(b3, .inr (.int, [(.int l0), (.int l1), (.int l2)])), (b7, .inr (.int, [(.int h0), (.int h1), (.int h2)])), (b33, ob0 (.ref bw_63) (.ref bs_63) (.ref bm_63) (.ref bl_63) (.int 1)), (b51, .inr (.long, [(.long 0)])), (bw_63, .inr (.int, [(.int 0), (.int 0), (.int 0)])), (bs_63, .inr (.int, [(.int 0), (.int b0), (.int sh)])), (bm_63, .inr (.long, [(.long m0), (.long m1), (.long m2)])), (bl_63, .inr (.int, [(.int l0), (.int l1), (.int l2)])), (b11, .inr (.int, [(.int v0), (.int v1), (.int v2)]))]) (by decide) rfl
    refine Here.callV (qn := 86) (os1 := [(b3, .inr (.int, [(.int l0), (.int l1), (.int l2)])), (b7, .inr (.int, [(.int h0), (.int h1), (.int h2)]))]) (os2 := [(b33, ob0 (.ref bw_63) (.ref bs_63) (.ref bm_63) (.ref bl_63) (.int 1)), (b51, .inr (.long, [(.long 0)])), (bw_63, .inr (.int, [(.int 0), (.int 0), (.int 0)])), (bs_63, .inr (.int, [(.int 0), (.int b0), (.int sh)])), (bm_63, .inr (.long, [(.long m0), (.long m1), (.long m2)])), (bl_63, .inr (.int, [(.int l0), (.int l1), (.int l2)])), (b11, .inr (.int, [(.int v0), (.int v1), (.int v2)]))]) (rest := []) (W := 0) (argsL := [(.ref b11), (.ref b51)]) (a := b33) (i := 2) A53 (m_pack01 l Z a0 hw b33 b51 bw_63 bs_63 bm_63 bl_63 b11 ((1 : Int32)) ((0 : Int64)) ((0 : Int32)) b0 sh m0 m1 m2 l0 l1 l2 v0 v1 v2) (Or.inr ⟨rfl, rfl⟩) rfl (tw hw 56 rfl) (tw hw 57 rfl) (tw hw 59 rfl) (tw hw 58 rfl) (tw hw 15 rfl) (tw hw 60 rfl) (by decide) at_83 rfl (lenOf pd_11 rfl) rfl (Nat.le_of_eq rfl) (by decide) (by decide) (by decide) (by decide) rfl (fun T54 v55 os56 A57 P58 => ?_)
    obtain ⟨rfl, rfl⟩ := P58
    have A59 := A57.cast (k2 := 9) (n2 := 27) (os2 := [(b3, .inr (.int, [(.int l0), (.int l1), (.int l2)])), (b7, .inr (.int, [(.int h0), (.int h1), (.int h2)])), (b33, ob0 (.ref bw_63) (.ref bs_63) (.ref bm_63) (.ref bl_63) (.int 1)), (b51, .inr (.long, [(.long (own_put (own_put (own_put (0 : Int64) (0 : Int32) m0 l0 v0) b0 m1 l1 v1) sh m2 l2 v2))])), (bw_63, .inr (.int, [(.int 0), (.int 0), (.int 0)])), (bs_63, .inr (.int, [(.int 0), (.int b0), (.int sh)])), (bm_63, .inr (.long, [(.long m0), (.long m1), (.long m2)])), (bl_63, .inr (.int, [(.int l0), (.int l1), (.int l2)])), (b11, .inr (.int, [(.int v0), (.int v1), (.int v2)]))]) rfl rfl rfl
    refine A59.iconst (q := 87) (v := 3) at_86 rfl rfl ?_
    refine A59.newP (qn := 89) (cap := 3) (tw hw 0 rfl) at_87 (by decide) (by decide) (by decide) (by decide) (by decide) rfl (fun T60 b62 A61 => ?_)
    have A63 := A61.cast (k2 := 10) (n2 := 30) (os2 := [(b3, .inr (.int, [(.int l0), (.int l1), (.int l2)])), (b7, .inr (.int, [(.int h0), (.int h1), (.int h2)])), (b33, ob0 (.ref bw_63) (.ref bs_63) (.ref bm_63) (.ref bl_63) (.int 1)), (b51, .inr (.long, [(.long (own_put (own_put (own_put (0 : Int64) (0 : Int32) m0 l0 v0) b0 m1 l1 v1) sh m2 l2 v2))])), (bw_63, .inr (.int, [(.int 0), (.int 0), (.int 0)])), (bs_63, .inr (.int, [(.int 0), (.int b0), (.int sh)])), (bm_63, .inr (.long, [(.long m0), (.long m1), (.long m2)])), (bl_63, .inr (.int, [(.int l0), (.int l1), (.int l2)])), (b11, .inr (.int, [(.int v0), (.int v1), (.int v2)])), (b62, .inr (.int, [(.int 0), (.int 0), (.int 0)]))]) rfl rfl rfl
    refine A63.astore (q := 91) (l' := #[.val (.long x0), .second, .val (.long x1), .second, .val (.long x2), .second, .val (.int x3), .val (.int x4), .val (.int x5), .val (.ref b3), .val (.ref b7), .val (.ref b11), .val (.ref b33), .val (.ref b51), .val (.ref b62)]) at_89 rfl rfl rfl ?_
    refine A63.aload (q := 93) at_91 rfl rfl rfl ?_
    refine A63.aload (q := 95) at_93 rfl rfl rfl ?_
    refine A63.aload (q := 97) at_95 rfl rfl rfl ?_
    have A64 := A63.pick (is := [0, 1, 8, 2, 3, 4, 5, 6, 7, 9]) (os2 := [(b3, .inr (.int, [(.int l0), (.int l1), (.int l2)])), (b7, .inr (.int, [(.int h0), (.int h1), (.int h2)])), (b11, .inr (.int, [(.int v0), (.int v1), (.int v2)])), (b33, ob0 (.ref bw_63) (.ref bs_63) (.ref bm_63) (.ref bl_63) (.int 1)), (b51, .inr (.long, [(.long (own_put (own_put (own_put (0 : Int64) (0 : Int32) m0 l0 v0) b0 m1 l1 v1) sh m2 l2 v2))])), (bw_63, .inr (.int, [(.int 0), (.int 0), (.int 0)])), (bs_63, .inr (.int, [(.int 0), (.int b0), (.int sh)])), (bm_63, .inr (.long, [(.long m0), (.long m1), (.long m2)])), (bl_63, .inr (.int, [(.int l0), (.int l1), (.int l2)])), (b62, .inr (.int, [(.int 0), (.int 0), (.int 0)]))]) (by decide) rfl
    refine Here.callV (qn := 100) (os1 := [(b3, .inr (.int, [(.int l0), (.int l1), (.int l2)])), (b7, .inr (.int, [(.int h0), (.int h1), (.int h2)])), (b11, .inr (.int, [(.int v0), (.int v1), (.int v2)]))]) (os2 := [(b33, ob0 (.ref bw_63) (.ref bs_63) (.ref bm_63) (.ref bl_63) (.int 1)), (b51, .inr (.long, [(.long (own_put (own_put (own_put (0 : Int64) (0 : Int32) m0 l0 v0) b0 m1 l1 v1) sh m2 l2 v2))])), (bw_63, .inr (.int, [(.int 0), (.int 0), (.int 0)])), (bs_63, .inr (.int, [(.int 0), (.int b0), (.int sh)])), (bm_63, .inr (.long, [(.long m0), (.long m1), (.long m2)])), (bl_63, .inr (.int, [(.int l0), (.int l1), (.int l2)])), (b62, .inr (.int, [(.int 0), (.int 0), (.int 0)]))]) (rest := []) (W := 0) (argsL := [(.ref b51), (.ref b62)]) (a := b33) (i := 3) A64 (m_unp01 l Z a0 hw b33 b51 bw_63 bs_63 bm_63 bl_63 b62 ((1 : Int32)) ((own_put (own_put (own_put (0 : Int64) (0 : Int32) m0 l0 v0) b0 m1 l1 v1) sh m2 l2 v2)) ((0 : Int32)) b0 sh m0 m1 m2 l0 l1 l2 ((0 : Int32)) ((0 : Int32)) ((0 : Int32))) (Or.inr ⟨rfl, rfl⟩) rfl (tw hw 67 rfl) (tw hw 68 rfl) (tw hw 70 rfl) (tw hw 69 rfl) (tw hw 15 rfl) (tw hw 71 rfl) (by decide) at_97 rfl (lenOf pd_12 rfl) rfl (Nat.le_of_eq rfl) (by decide) (by decide) (by decide) (by decide) rfl (fun T65 v66 os67 A68 P69 => ?_)
    obtain ⟨rfl, rfl⟩ := P69
    have A70 := A68.cast (k2 := 10) (n2 := 30) (os2 := [(b3, .inr (.int, [(.int l0), (.int l1), (.int l2)])), (b7, .inr (.int, [(.int h0), (.int h1), (.int h2)])), (b11, .inr (.int, [(.int v0), (.int v1), (.int v2)])), (b33, ob0 (.ref bw_63) (.ref bs_63) (.ref bm_63) (.ref bl_63) (.int 1)), (b51, .inr (.long, [(.long (own_put (own_put (own_put (0 : Int64) (0 : Int32) m0 l0 v0) b0 m1 l1 v1) sh m2 l2 v2))])), (bw_63, .inr (.int, [(.int 0), (.int 0), (.int 0)])), (bs_63, .inr (.int, [(.int 0), (.int b0), (.int sh)])), (bm_63, .inr (.long, [(.long m0), (.long m1), (.long m2)])), (bl_63, .inr (.int, [(.int l0), (.int l1), (.int l2)])), (b62, .inr (.int, [(.int (own_get (own_put (own_put (own_put (0 : Int64) (0 : Int32) m0 l0 v0) b0 m1 l1 v1) sh m2 l2 v2) (0 : Int32) m0 l0)), (.int (own_get (own_put (own_put (own_put (0 : Int64) (0 : Int32) m0 l0 v0) b0 m1 l1 v1) sh m2 l2 v2) b0 m1 l1)), (.int (own_get (own_put (own_put (own_put (0 : Int64) (0 : Int32) m0 l0 v0) b0 m1 l1 v1) sh m2 l2 v2) sh m2 l2))]))]) rfl rfl rfl
    refine A70.aload (q := 102) at_100 rfl rfl rfl ?_
    refine A70.iconst (q := 103) (v := 0) at_102 rfl rfl ?_
    refine A70.ldI (qn := 104) (i := 9) at_103 rfl (by decide) rfl rfl ?_
    refine A70.aload (q := 106) at_104 rfl rfl rfl ?_
    refine A70.iconst (q := 107) (v := 0) at_106 rfl rfl ?_
    refine A70.ldI (qn := 108) (i := 2) at_107 rfl (by decide) rfl rfl ?_
    have hc108_71 : (own_get (own_put (own_put (own_put (0 : Int64) (0 : Int32) m0 l0 v0) b0 m1 l1 v1) sh m2 l2 v2) (0 : Int32) m0 l0) = v0 := by
      clear hw A0 A2 A4 A6 A8 A10 A12 A16 A18 A22 A24 A28 A30 A32 A34 A35 A39 A41 A42 A46 A48 A50 A52 A53 A57 A59 A61 A63 A64 A68 A70
      subst em0 em1 em2
      exact (own_other hf2 hf0 (Or.inr (own_dj02 hf0 hf1 hd))).trans ((own_other hf1 hf0 (Or.inr (own_dj01 hf0))).trans (own_same hf0 hv0))
    refine A70.icmpNo (q := 111) at_108 (teq hc108_71).2 rfl ?_
    refine A70.aload (q := 113) at_111 rfl rfl rfl ?_
    refine A70.iconst (q := 114) (v := 1) at_113 rfl rfl ?_
    refine A70.ldI (qn := 115) (i := 9) at_114 rfl (by decide) rfl rfl ?_
    refine A70.aload (q := 117) at_115 rfl rfl rfl ?_
    refine A70.iconst (q := 118) (v := 1) at_117 rfl rfl ?_
    refine A70.ldI (qn := 119) (i := 2) at_118 rfl (by decide) rfl rfl ?_
    have hc119_72 : (own_get (own_put (own_put (own_put (0 : Int64) (0 : Int32) m0 l0 v0) b0 m1 l1 v1) sh m2 l2 v2) b0 m1 l1) = v1 := by
      clear hw A0 A2 A4 A6 A8 A10 A12 A16 A18 A22 A24 A28 A30 A32 A34 A35 A39 A41 A42 A46 A48 A50 A52 A53 A57 A59 A61 A63 A64 A68 A70
      subst em0 em1 em2
      exact (own_other hf2 hf1 (Or.inr (own_dj12 hf0 hf1 hd))).trans (own_same hf1 hv1)
    refine A70.icmpNo (q := 122) at_119 (teq hc119_72).2 rfl ?_
    refine A70.aload (q := 124) at_122 rfl rfl rfl ?_
    refine A70.iconst (q := 125) (v := 2) at_124 rfl rfl ?_
    refine A70.ldI (qn := 126) (i := 9) at_125 rfl (by decide) rfl rfl ?_
    refine A70.aload (q := 128) at_126 rfl rfl rfl ?_
    refine A70.iconst (q := 129) (v := 2) at_128 rfl rfl ?_
    refine A70.ldI (qn := 130) (i := 2) at_129 rfl (by decide) rfl rfl ?_
    have hc130_73 : (own_get (own_put (own_put (own_put (0 : Int64) (0 : Int32) m0 l0 v0) b0 m1 l1 v1) sh m2 l2 v2) sh m2 l2) = v2 := by
      clear hw A0 A2 A4 A6 A8 A10 A12 A16 A18 A22 A24 A28 A30 A32 A34 A35 A39 A41 A42 A46 A48 A50 A52 A53 A57 A59 A61 A63 A64 A68 A70
      subst em0 em1 em2
      exact own_same hf2 hv2
    refine A70.icmpNo (q := 133) at_130 (teq hc130_73).2 rfl ?_
    refine A70.iconst (q := 134) (v := 1) at_133 rfl rfl ?_
    refine A70.goto (q := 138) at_134 (by decide) (by decide) ?_
    exact A70.retN (by simp) at_138 (by decide) (by decide) ⟨rfl, trivial⟩
  · have hF := own_fact1 x0 x1 x2
    have hv0 := own_fit3 x0 x3
    have hv1 := own_fit3 x1 x4
    have hv2 := own_fit3 x2 x5
    generalize em0 : (own_mk (own_bits (own_lo x0) (own_hi x0))) = m0 at A41 hF hv0 hv1 hv2 ⊢
    generalize em1 : (own_mk (own_bits (own_lo x1) (own_hi x1))) = m1 at A41 hF hv0 hv1 hv2 em0 ⊢
    generalize em2 : (own_mk (own_bits (own_lo x2) (own_hi x2))) = m2 at A41 hF hv0 hv1 hv2 em0 em1 ⊢
    generalize eb0 : (own_bits (own_lo x0) (own_hi x0)) = b0 at A41 hF hv0 hv1 hv2 em0 em1 em2 ⊢
    generalize eb1 : (own_bits (own_lo x1) (own_hi x1)) = b1 at A41 hF hv0 hv1 hv2 em0 em1 em2 ⊢
    generalize eb2 : (own_bits (own_lo x2) (own_hi x2)) = b2 at A41 hF hv0 hv1 hv2 em0 em1 em2 ⊢
    generalize ev0 : (own_v3 x0 x3) = v0 at A41 hF hv0 hv1 hv2 em0 em1 em2 ⊢
    generalize ev1 : (own_v3 x1 x4) = v1 at A41 hF hv0 hv1 hv2 em0 em1 em2 ⊢
    generalize ev2 : (own_v3 x2 x5) = v2 at A41 hF hv0 hv1 hv2 em0 em1 em2 ⊢
    generalize el0 : (own_lo x0) = l0 at A41 hF hv0 hv1 hv2 em0 em1 em2 ⊢
    generalize el1 : (own_lo x1) = l1 at A41 hF hv0 hv1 hv2 em0 em1 em2 ⊢
    generalize el2 : (own_lo x2) = l2 at A41 hF hv0 hv1 hv2 em0 em1 em2 ⊢
    generalize eh0 : (own_hi x0) = h0 at A41 hF hv0 hv1 hv2 em0 em1 em2 ⊢
    generalize eh1 : (own_hi x1) = h1 at A41 hF hv0 hv1 hv2 em0 em1 em2 ⊢
    generalize eh2 : (own_hi x2) = h2 at A41 hF hv0 hv1 hv2 em0 em1 em2 ⊢
    obtain ⟨hf0, hf1, hf2⟩ := hF
    show Wp _ _ _ _ _ _ _ _ _ _ T36 (mkF m 66 #[.val (.long x0), .second, .val (.long x1), .second, .val (.long x2), .second, .val (.int x3), .val (.int x4), .val (.int x5), .val (.ref b3), .val (.ref b7), .val (.ref b11), .unset, .unset, .unset] [(.ref b33)])
    refine A41.astore (q := 68) (l' := #[.val (.long x0), .second, .val (.long x1), .second, .val (.long x2), .second, .val (.int x3), .val (.int x4), .val (.int x5), .val (.ref b3), .val (.ref b7), .val (.ref b11), .val (.ref b33), .unset, .unset]) at_66 rfl rfl rfl ?_
    refine A41.aload (q := 70) at_68 rfl rfl rfl ?_
    have A74 := A41.pick (is := [0, 2, 3, 4, 5, 6, 7, 1]) (os2 := [(b11, .inr (.int, [(.int v0), (.int v1), (.int v2)])), (b3, .inr (.int, [(.int l0), (.int l1), (.int l2)])), (b7, .inr (.int, [(.int h0), (.int h1), (.int h2)])), (bw_63, .inr (.int, [(.int 0), (.int 0), (.int 1)])), (bs_63, .inr (.int, [(.int 0), (.int b0), (.int 0)])), (bm_63, .inr (.long, [(.long m0), (.long m1), (.long m2)])), (bl_63, .inr (.int, [(.int l0), (.int l1), (.int l2)])), (b33, ob0 (.ref bw_63) (.ref bs_63) (.ref bm_63) (.ref bl_63) (.int 2))]) (by decide) rfl
    refine Here.callV (qn := 73) (os1 := [(b11, .inr (.int, [(.int v0), (.int v1), (.int v2)])), (b3, .inr (.int, [(.int l0), (.int l1), (.int l2)])), (b7, .inr (.int, [(.int h0), (.int h1), (.int h2)])), (bw_63, .inr (.int, [(.int 0), (.int 0), (.int 1)])), (bs_63, .inr (.int, [(.int 0), (.int b0), (.int 0)])), (bm_63, .inr (.long, [(.long m0), (.long m1), (.long m2)])), (bl_63, .inr (.int, [(.int l0), (.int l1), (.int l2)]))]) (os2 := [(b33, ob0 (.ref bw_63) (.ref bs_63) (.ref bm_63) (.ref bl_63) (.int 2))]) (rest := []) (W := 0) (argsL := []) (a := b33) (i := 7) A74 (m_wid l Z a0 hw b33 bw_63 bs_63 bm_63 bl_63 ((2 : Int32))) (Or.inr ⟨rfl, rfl⟩) rfl (tw hw 51 rfl) (tw hw 52 rfl) (tw hw 54 rfl) (tw hw 53 rfl) (tw hw 15 rfl) (tw hw 55 rfl) (by decide) at_70 rfl (lenOf pd_10 rfl) rfl (Nat.le_of_eq rfl) (by decide) (by decide) (by decide) (by decide) rfl (fun T75 v76 os77 A78 P79 => ?_)
    obtain ⟨rfl, rfl⟩ := P79
    have A80 := A78.cast (k2 := 8) (n2 := 26) (os2 := [(b11, .inr (.int, [(.int v0), (.int v1), (.int v2)])), (b3, .inr (.int, [(.int l0), (.int l1), (.int l2)])), (b7, .inr (.int, [(.int h0), (.int h1), (.int h2)])), (bw_63, .inr (.int, [(.int 0), (.int 0), (.int 1)])), (bs_63, .inr (.int, [(.int 0), (.int b0), (.int 0)])), (bm_63, .inr (.long, [(.long m0), (.long m1), (.long m2)])), (bl_63, .inr (.int, [(.int l0), (.int l1), (.int l2)])), (b33, ob0 (.ref bw_63) (.ref bs_63) (.ref bm_63) (.ref bl_63) (.int 2))]) rfl rfl rfl
    refine A80.newP (qn := 75) (cap := 2) (tw hw 26 rfl) at_73 (by decide) (by decide) (by decide) (by decide) (by decide) rfl (fun T81 b83 A82 => ?_)
    have A84 := A82.cast (k2 := 9) (n2 := 28) (os2 := [(b11, .inr (.int, [(.int v0), (.int v1), (.int v2)])), (b3, .inr (.int, [(.int l0), (.int l1), (.int l2)])), (b7, .inr (.int, [(.int h0), (.int h1), (.int h2)])), (bw_63, .inr (.int, [(.int 0), (.int 0), (.int 1)])), (bs_63, .inr (.int, [(.int 0), (.int b0), (.int 0)])), (bm_63, .inr (.long, [(.long m0), (.long m1), (.long m2)])), (bl_63, .inr (.int, [(.int l0), (.int l1), (.int l2)])), (b33, ob0 (.ref bw_63) (.ref bs_63) (.ref bm_63) (.ref bl_63) (.int 2)), (b83, .inr (.long, [(.long 0), (.long 0)]))]) rfl rfl rfl
    refine A84.astore (q := 77) (l' := #[.val (.long x0), .second, .val (.long x1), .second, .val (.long x2), .second, .val (.int x3), .val (.int x4), .val (.int x5), .val (.ref b3), .val (.ref b7), .val (.ref b11), .val (.ref b33), .val (.ref b83), .unset]) at_75 rfl rfl rfl ?_
    refine A84.aload (q := 79) at_77 rfl rfl rfl ?_
    refine A84.aload (q := 81) at_79 rfl rfl rfl ?_
    refine A84.aload (q := 83) at_81 rfl rfl rfl ?_
    have A85 := A84.pick (is := [1, 2, 7, 8, 3, 4, 5, 6, 0]) (os2 := [(b3, .inr (.int, [(.int l0), (.int l1), (.int l2)])), (b7, .inr (.int, [(.int h0), (.int h1), (.int h2)])), (b33, ob0 (.ref bw_63) (.ref bs_63) (.ref bm_63) (.ref bl_63) (.int 2)), (b83, .inr (.long, [(.long 0), (.long 0)])), (bw_63, .inr (.int, [(.int 0), (.int 0), (.int 1)])), (bs_63, .inr (.int, [(.int 0), (.int b0), (.int 0)])), (bm_63, .inr (.long, [(.long m0), (.long m1), (.long m2)])), (bl_63, .inr (.int, [(.int l0), (.int l1), (.int l2)])), (b11, .inr (.int, [(.int v0), (.int v1), (.int v2)]))]) (by decide) rfl
    refine Here.callV (qn := 86) (os1 := [(b3, .inr (.int, [(.int l0), (.int l1), (.int l2)])), (b7, .inr (.int, [(.int h0), (.int h1), (.int h2)]))]) (os2 := [(b33, ob0 (.ref bw_63) (.ref bs_63) (.ref bm_63) (.ref bl_63) (.int 2)), (b83, .inr (.long, [(.long 0), (.long 0)])), (bw_63, .inr (.int, [(.int 0), (.int 0), (.int 1)])), (bs_63, .inr (.int, [(.int 0), (.int b0), (.int 0)])), (bm_63, .inr (.long, [(.long m0), (.long m1), (.long m2)])), (bl_63, .inr (.int, [(.int l0), (.int l1), (.int l2)])), (b11, .inr (.int, [(.int v0), (.int v1), (.int v2)]))]) (rest := []) (W := 0) (argsL := [(.ref b11), (.ref b83)]) (a := b33) (i := 2) A85 (m_pack12 l Z a0 hw b33 b83 bw_63 bs_63 bm_63 bl_63 b11 ((2 : Int32)) ((0 : Int64)) ((0 : Int64)) ((0 : Int32)) b0 ((0 : Int32)) m0 m1 m2 l0 l1 l2 v0 v1 v2) (Or.inr ⟨rfl, rfl⟩) rfl (tw hw 56 rfl) (tw hw 57 rfl) (tw hw 59 rfl) (tw hw 58 rfl) (tw hw 15 rfl) (tw hw 60 rfl) (by decide) at_83 rfl (lenOf pd_11 rfl) rfl (Nat.le_of_eq rfl) (by decide) (by decide) (by decide) (by decide) rfl (fun T86 v87 os88 A89 P90 => ?_)
    obtain ⟨rfl, rfl⟩ := P90
    have A91 := A89.cast (k2 := 9) (n2 := 28) (os2 := [(b3, .inr (.int, [(.int l0), (.int l1), (.int l2)])), (b7, .inr (.int, [(.int h0), (.int h1), (.int h2)])), (b33, ob0 (.ref bw_63) (.ref bs_63) (.ref bm_63) (.ref bl_63) (.int 2)), (b83, .inr (.long, [(.long (own_put (own_put (0 : Int64) (0 : Int32) m0 l0 v0) b0 m1 l1 v1)), (.long (own_put (0 : Int64) (0 : Int32) m2 l2 v2))])), (bw_63, .inr (.int, [(.int 0), (.int 0), (.int 1)])), (bs_63, .inr (.int, [(.int 0), (.int b0), (.int 0)])), (bm_63, .inr (.long, [(.long m0), (.long m1), (.long m2)])), (bl_63, .inr (.int, [(.int l0), (.int l1), (.int l2)])), (b11, .inr (.int, [(.int v0), (.int v1), (.int v2)]))]) rfl rfl rfl
    refine A91.iconst (q := 87) (v := 3) at_86 rfl rfl ?_
    refine A91.newP (qn := 89) (cap := 3) (tw hw 0 rfl) at_87 (by decide) (by decide) (by decide) (by decide) (by decide) rfl (fun T92 b94 A93 => ?_)
    have A95 := A93.cast (k2 := 10) (n2 := 31) (os2 := [(b3, .inr (.int, [(.int l0), (.int l1), (.int l2)])), (b7, .inr (.int, [(.int h0), (.int h1), (.int h2)])), (b33, ob0 (.ref bw_63) (.ref bs_63) (.ref bm_63) (.ref bl_63) (.int 2)), (b83, .inr (.long, [(.long (own_put (own_put (0 : Int64) (0 : Int32) m0 l0 v0) b0 m1 l1 v1)), (.long (own_put (0 : Int64) (0 : Int32) m2 l2 v2))])), (bw_63, .inr (.int, [(.int 0), (.int 0), (.int 1)])), (bs_63, .inr (.int, [(.int 0), (.int b0), (.int 0)])), (bm_63, .inr (.long, [(.long m0), (.long m1), (.long m2)])), (bl_63, .inr (.int, [(.int l0), (.int l1), (.int l2)])), (b11, .inr (.int, [(.int v0), (.int v1), (.int v2)])), (b94, .inr (.int, [(.int 0), (.int 0), (.int 0)]))]) rfl rfl rfl
    refine A95.astore (q := 91) (l' := #[.val (.long x0), .second, .val (.long x1), .second, .val (.long x2), .second, .val (.int x3), .val (.int x4), .val (.int x5), .val (.ref b3), .val (.ref b7), .val (.ref b11), .val (.ref b33), .val (.ref b83), .val (.ref b94)]) at_89 rfl rfl rfl ?_
    refine A95.aload (q := 93) at_91 rfl rfl rfl ?_
    refine A95.aload (q := 95) at_93 rfl rfl rfl ?_
    refine A95.aload (q := 97) at_95 rfl rfl rfl ?_
    have A96 := A95.pick (is := [0, 1, 8, 2, 3, 4, 5, 6, 7, 9]) (os2 := [(b3, .inr (.int, [(.int l0), (.int l1), (.int l2)])), (b7, .inr (.int, [(.int h0), (.int h1), (.int h2)])), (b11, .inr (.int, [(.int v0), (.int v1), (.int v2)])), (b33, ob0 (.ref bw_63) (.ref bs_63) (.ref bm_63) (.ref bl_63) (.int 2)), (b83, .inr (.long, [(.long (own_put (own_put (0 : Int64) (0 : Int32) m0 l0 v0) b0 m1 l1 v1)), (.long (own_put (0 : Int64) (0 : Int32) m2 l2 v2))])), (bw_63, .inr (.int, [(.int 0), (.int 0), (.int 1)])), (bs_63, .inr (.int, [(.int 0), (.int b0), (.int 0)])), (bm_63, .inr (.long, [(.long m0), (.long m1), (.long m2)])), (bl_63, .inr (.int, [(.int l0), (.int l1), (.int l2)])), (b94, .inr (.int, [(.int 0), (.int 0), (.int 0)]))]) (by decide) rfl
    refine Here.callV (qn := 100) (os1 := [(b3, .inr (.int, [(.int l0), (.int l1), (.int l2)])), (b7, .inr (.int, [(.int h0), (.int h1), (.int h2)])), (b11, .inr (.int, [(.int v0), (.int v1), (.int v2)]))]) (os2 := [(b33, ob0 (.ref bw_63) (.ref bs_63) (.ref bm_63) (.ref bl_63) (.int 2)), (b83, .inr (.long, [(.long (own_put (own_put (0 : Int64) (0 : Int32) m0 l0 v0) b0 m1 l1 v1)), (.long (own_put (0 : Int64) (0 : Int32) m2 l2 v2))])), (bw_63, .inr (.int, [(.int 0), (.int 0), (.int 1)])), (bs_63, .inr (.int, [(.int 0), (.int b0), (.int 0)])), (bm_63, .inr (.long, [(.long m0), (.long m1), (.long m2)])), (bl_63, .inr (.int, [(.int l0), (.int l1), (.int l2)])), (b94, .inr (.int, [(.int 0), (.int 0), (.int 0)]))]) (rest := []) (W := 0) (argsL := [(.ref b83), (.ref b94)]) (a := b33) (i := 3) A96 (m_unp12 l Z a0 hw b33 b83 bw_63 bs_63 bm_63 bl_63 b94 ((2 : Int32)) ((own_put (own_put (0 : Int64) (0 : Int32) m0 l0 v0) b0 m1 l1 v1)) ((own_put (0 : Int64) (0 : Int32) m2 l2 v2)) ((0 : Int32)) b0 ((0 : Int32)) m0 m1 m2 l0 l1 l2 ((0 : Int32)) ((0 : Int32)) ((0 : Int32))) (Or.inr ⟨rfl, rfl⟩) rfl (tw hw 67 rfl) (tw hw 68 rfl) (tw hw 70 rfl) (tw hw 69 rfl) (tw hw 15 rfl) (tw hw 71 rfl) (by decide) at_97 rfl (lenOf pd_12 rfl) rfl (Nat.le_of_eq rfl) (by decide) (by decide) (by decide) (by decide) rfl (fun T97 v98 os99 A100 P101 => ?_)
    obtain ⟨rfl, rfl⟩ := P101
    have A102 := A100.cast (k2 := 10) (n2 := 31) (os2 := [(b3, .inr (.int, [(.int l0), (.int l1), (.int l2)])), (b7, .inr (.int, [(.int h0), (.int h1), (.int h2)])), (b11, .inr (.int, [(.int v0), (.int v1), (.int v2)])), (b33, ob0 (.ref bw_63) (.ref bs_63) (.ref bm_63) (.ref bl_63) (.int 2)), (b83, .inr (.long, [(.long (own_put (own_put (0 : Int64) (0 : Int32) m0 l0 v0) b0 m1 l1 v1)), (.long (own_put (0 : Int64) (0 : Int32) m2 l2 v2))])), (bw_63, .inr (.int, [(.int 0), (.int 0), (.int 1)])), (bs_63, .inr (.int, [(.int 0), (.int b0), (.int 0)])), (bm_63, .inr (.long, [(.long m0), (.long m1), (.long m2)])), (bl_63, .inr (.int, [(.int l0), (.int l1), (.int l2)])), (b94, .inr (.int, [(.int (own_get (own_put (own_put (0 : Int64) (0 : Int32) m0 l0 v0) b0 m1 l1 v1) (0 : Int32) m0 l0)), (.int (own_get (own_put (own_put (0 : Int64) (0 : Int32) m0 l0 v0) b0 m1 l1 v1) b0 m1 l1)), (.int (own_get (own_put (0 : Int64) (0 : Int32) m2 l2 v2) (0 : Int32) m2 l2))]))]) rfl rfl rfl
    refine A102.aload (q := 102) at_100 rfl rfl rfl ?_
    refine A102.iconst (q := 103) (v := 0) at_102 rfl rfl ?_
    refine A102.ldI (qn := 104) (i := 9) at_103 rfl (by decide) rfl rfl ?_
    refine A102.aload (q := 106) at_104 rfl rfl rfl ?_
    refine A102.iconst (q := 107) (v := 0) at_106 rfl rfl ?_
    refine A102.ldI (qn := 108) (i := 2) at_107 rfl (by decide) rfl rfl ?_
    have hc108_103 : (own_get (own_put (own_put (0 : Int64) (0 : Int32) m0 l0 v0) b0 m1 l1 v1) (0 : Int32) m0 l0) = v0 := by
      clear hw A0 A2 A4 A6 A8 A10 A12 A16 A18 A22 A24 A28 A30 A32 A34 A35 A39 A41 A74 A78 A80 A82 A84 A85 A89 A91 A93 A95 A96 A100 A102
      subst em0 em1 em2
      exact (own_other hf1 hf0 (Or.inr (own_dj01 hf0))).trans (own_same hf0 hv0)
    refine A102.icmpNo (q := 111) at_108 (teq hc108_103).2 rfl ?_
    refine A102.aload (q := 113) at_111 rfl rfl rfl ?_
    refine A102.iconst (q := 114) (v := 1) at_113 rfl rfl ?_
    refine A102.ldI (qn := 115) (i := 9) at_114 rfl (by decide) rfl rfl ?_
    refine A102.aload (q := 117) at_115 rfl rfl rfl ?_
    refine A102.iconst (q := 118) (v := 1) at_117 rfl rfl ?_
    refine A102.ldI (qn := 119) (i := 2) at_118 rfl (by decide) rfl rfl ?_
    have hc119_104 : (own_get (own_put (own_put (0 : Int64) (0 : Int32) m0 l0 v0) b0 m1 l1 v1) b0 m1 l1) = v1 := by
      clear hw A0 A2 A4 A6 A8 A10 A12 A16 A18 A22 A24 A28 A30 A32 A34 A35 A39 A41 A74 A78 A80 A82 A84 A85 A89 A91 A93 A95 A96 A100 A102
      subst em0 em1 em2
      exact own_same hf1 hv1
    refine A102.icmpNo (q := 122) at_119 (teq hc119_104).2 rfl ?_
    refine A102.aload (q := 124) at_122 rfl rfl rfl ?_
    refine A102.iconst (q := 125) (v := 2) at_124 rfl rfl ?_
    refine A102.ldI (qn := 126) (i := 9) at_125 rfl (by decide) rfl rfl ?_
    refine A102.aload (q := 128) at_126 rfl rfl rfl ?_
    refine A102.iconst (q := 129) (v := 2) at_128 rfl rfl ?_
    refine A102.ldI (qn := 130) (i := 2) at_129 rfl (by decide) rfl rfl ?_
    have hc130_105 : (own_get (own_put (0 : Int64) (0 : Int32) m2 l2 v2) (0 : Int32) m2 l2) = v2 := by
      clear hw A0 A2 A4 A6 A8 A10 A12 A16 A18 A22 A24 A28 A30 A32 A34 A35 A39 A41 A74 A78 A80 A82 A84 A85 A89 A91 A93 A95 A96 A100 A102
      subst em0 em1 em2
      exact own_same hf2 hv2
    refine A102.icmpNo (q := 133) at_130 (teq hc130_105).2 rfl ?_
    refine A102.iconst (q := 134) (v := 1) at_133 rfl rfl ?_
    refine A102.goto (q := 138) at_134 (by decide) (by decide) ?_
    exact A102.retN (by simp) at_138 (by decide) (by decide) ⟨rfl, trivial⟩
set_option maxRecDepth 65536 in
set_option maxHeartbeats 40000000 in
theorem comes_1 {Post : Tables → Env → Array Value → State → Outcome → State → Prop} (hpost : ∀ tb e args s v u, (limb_1_1.after args s (.returned v) u = true ∧ limb_1_2.after args s (.returned v) u = true ∧ True) → FrameEnd s (.returned v) u (Jvm.fieldLocs frame_1_writes args s ++ Jvm.arrayLocs frame_1_arrays args s ++ Jvm.staticLocs frame_1_statics s) 32 128 → Post tb e args s (.returned v) u) :
    ArmFor flags0 classFile x code maxLocals ret World_1 tables_1 room_1 Calls_1 rest_1 Pre_1 Post := by
  intro l hfl _ _ p e ha hc hk s m args below hf hA hF happ hP
  obtain ⟨hcalls, hrest, hpre⟩ := hP
  obtain ⟨-, -, -, hnamed, -, -, -, hat⟩ := (Spec.applies_iff hf).mp happ
  obtain ⟨hg, hn⟩ := and_e (Cond.before_iff.mp (show (Jvm.Cond.and given_1 narrow_1).before args s = true from hpre))
  obtain ⟨g11, g12⟩ := and_e hg
  obtain ⟨g13, g14⟩ := and_e g12
  obtain ⟨g15, g16⟩ := and_e g14
  obtain ⟨g17, g18⟩ := and_e g16
  obtain ⟨g19, g20⟩ := and_e g18
  obtain ⟨g21, g22⟩ := and_e g20
  obtain ⟨w0, w1, w2, w3, w4, w5, rfl⟩ : ∃ w0 w1 w2 w3 w4 w5 : Value, args = #[w0, w1, w2, w3, w4, w5] := by
    have hs : args.size = 6 := by simpa [Cond.value, given_1] using g11
    obtain ⟨L⟩ := args
    match L, hs with
    | [w0, w1, w2, w3, w4, w5], _ => exact ⟨w0, w1, w2, w3, w4, w5, rfl⟩
  have hw := fun d (hd : d ∈ tables_1) => atoms_spec (ws := Jvm.Cond.code x code maxLocals ret :: tables_1) hat d (List.mem_cons_of_mem _ hd)
  obtain ⟨i0, ei0⟩ := isL_v g13
  obtain rfl : w0 = (.long i0) := Option.some.inj ei0
  obtain ⟨i1, ei1⟩ := isL_v g15
  obtain rfl : w1 = (.long i1) := Option.some.inj ei1
  obtain ⟨i2, ei2⟩ := isL_v g17
  obtain rfl : w2 = (.long i2) := Option.some.inj ei2
  obtain ⟨i3, ei3⟩ := is_v g19
  obtain rfl : w3 = (.int i3) := Option.some.inj ei3
  obtain ⟨i4, ei4⟩ := is_v g21
  obtain rfl : w4 = (.int i4) := Option.some.inj ei4
  obtain ⟨i5, ei5⟩ := is_v g22
  obtain rfl : w5 = (.int i5) := Option.some.inj ei5
  obtain ⟨n, o, h1, h2, h3, _, L, rfl, ⟨N, _, _, rfl, _⟩, hq⟩ := m_law l s _ hw i0 i1 i2 i3 i4 i5 tables_1 s.heap ⟨List.nodup_nil, fun _ q => (nomatch q)⟩ p e ha hc hk s m _ below hf ((Spec.applies_iff_loose hf).mp happ).1 ⟨rfl, State.Warmed39.refl s, rfl⟩ trivial
  refine ⟨n, _, h1, h2, h3, hpost _ _ _ _ _ _ ⟨Cond.after_iff.mpr rfl, Cond.after_iff.mpr (eq_i res_at (Term.int_eval (1)) rfl), trivial⟩ ⟨hq.1, hq.2.1, (hq.2.2.sift fun y hy => Or.inr ((N y hy).elim (fun q => absurd q List.not_mem_nil) id)).mono (by decide) (by decide)⟩⟩
theorem main_1_1 : Claimed_1_1 := comes_1 fun _ _ _ _ _ _ h hF => ⟨h.1, hF⟩
theorem main_1_2 : Claimed_1_2 := comes_1 fun _ _ _ _ _ _ h hF => ⟨h.2.1, hF⟩
end Jvm.Pilot.@@N@@
namespace Jvm.Pilot.@@N@@
open Jvm Jvm.ClassFile Sem Op Lib Jvm.Free Jvm.Stand Jvm.Pilot.@@N@@.Jvm.D
/-! MADE BY PROGRAM (witnessworld.py) out of the Statement's table words and the real class files: 18 classes; the members and pool entries that the words name. The judged class is class 1, her method 1. -/
namespace start1
open Jvm.ClassFile
def u (s : String) : CpInfo := .utf8 (stringToUtf16 s)
/-- a pool by its gaps: so many unusable entries, then the entry; so many at the end -/
def gap : Nat → List CpInfo → List CpInfo
  | 0, r => r
  | n + 1, r => .unusable :: gap n r
def poolList (es : List (Nat × CpInfo)) (last : Nat) : List CpInfo := es.foldr (fun e r => gap e.1 (e.2 :: r)) (gap last [])
def pool (es : List (Nat × CpInfo)) (last : Nat) : Array CpInfo := ⟨poolList es last⟩
def fileOf (pool : Array CpInfo) (this : Nat) (attrs : Array Attribute := #[]) (ms : Array MethodInfo := #[]) (fl : Nat := 33) (sup : Nat := 0) (ifs : Array Nat := #[]) (fds : Array FieldInfo := #[]) : ClassFile where
  minorVersion := 0
  majorVersion := 65
  constantPool := pool
  accessFlags := fl
  thisClass := this
  superClass := sup
  interfaces := ifs
  fields := fds
  methods := ms
  attributes := attrs
def plain (name : String) (sup : Option ClassId) : Class where
  name := name
  kind := .ordinary
  loader := none
  accessFlags := 33
  super := sup
  interfaces := #[]
  cf := none
  fields := #[]
  methods := #[]
  instanceTypes := #[]
  staticTypes := #[]
  resolved := #[]
  callSites := []
  init := .initialized
  statics := none
  mirror := none

def pool0 : Array CpInfo := pool [(5, u "<init>"), (0, u "()V"), (1, .class_ 10), (1, u "java/lang/Object"), (85, u "clone"), (0, u "()Ljava/lang/Object;")] 26

def k0c0 : Code := { maxStack := 0, maxLocals := 1, code := object_method_1_code, exceptionTable := #[], attributes := #[] }
def k0m0 : Method := { name := "<init>", desc := "()V", sig := { parameters := [], returnType := none }, accessFlags := 1, code := some k0c0 }
def k0m1 : Method := { name := "clone", desc := "()Ljava/lang/Object;", sig := { parameters := [], returnType := some (.object "java/lang/Object") }, accessFlags := 260, code := none }
/-- java/lang/Object -/
def k0 : Class := { plain "java/lang/Object" none with
  accessFlags := 33
  interfaces := #[]
  cf := some (fileOf pool0 8 #[] #[{ accessFlags := 1, nameIndex := 5, descriptorIndex := 6, attributes := #[] }, { accessFlags := 260, nameIndex := 96, descriptorIndex := 97, attributes := #[] }] 33 0 #[] #[])
  fields := #[]
  methods := #[k0m0, k0m1]
  instanceTypes := #[]
  staticTypes := #[]
  resolved := Array.replicate 124 none
  statics := none }

def pool1 : Array CpInfo := pool [(2, .class_ 4), (1, u "java/lang/Object"), (0, u "<init>"), (0, u "()V"), (0, .methodref 8 9), (0, .class_ 10), (0, .nameAndType 11 12), (0, u "com/example/nomoc/nomoc/checker/StateLayoutPackPinLaw"), (0, u "fill"), (0, u "([I[I[IIJI)V"), (0, .class_ 14), (0, u "com/example/nomoc/nomoc/checker/StateLayout"), (0, .methodref 13 16), (0, .nameAndType 5 17), (0, u "([I[I)V"), (0, .methodref 13 19), (0, .nameAndType 20 21), (0, u "width"), (0, u "()I"), (0, .methodref 13 23), (0, .nameAndType 24 25), (0, u "pack"), (0, u "([I[J)V"), (0, .methodref 13 27), (0, .nameAndType 28 29), (0, u "unpack"), (0, u "([J[I)V"), (0, .methodref 31 32), (0, .class_ 33), (0, .nameAndType 34 35), (0, u "java/lang/Math"), (0, u "min"), (0, u "(II)I"), (0, .methodref 31 37), (0, .nameAndType 38 35), (0, u "max"), (0, .long 4294967295), (3, u "law"), (0, u "(JJJIII)Z")] 7

def k1m0 : Method := { name := "<init>", desc := "()V", sig := { parameters := [], returnType := none }, accessFlags := 1, code := none }
def k1c1 : Code := { maxStack := 7, maxLocals := 15, code := code, exceptionTable := #[], attributes := #[] }
def k1m1 : Method := { name := "law", desc := "(JJJIII)Z", sig := { parameters := [.long, .long, .long, .int, .int, .int], returnType := some .boolean }, accessFlags := 9, code := some k1c1 }
def k1c2 : Code := { maxStack := 6, maxLocals := 15, code := method_3_code, exceptionTable := #[], attributes := #[] }
def k1m2 : Method := { name := "fill", desc := "([I[I[IIJI)V", sig := { parameters := [(.array .int), (.array .int), (.array .int), .int, .long, .int], returnType := none }, accessFlags := 10, code := some k1c2 }
/-- com/example/nomoc/nomoc/checker/StateLayoutPackPinLaw -/
def k1 : Class := { plain "com/example/nomoc/nomoc/checker/StateLayoutPackPinLaw" (some 0) with
  accessFlags := 49
  interfaces := #[]
  cf := some (fileOf pool1 8 #[] #[{ accessFlags := 1, nameIndex := 5, descriptorIndex := 6, attributes := #[] }, { accessFlags := 9, nameIndex := 43, descriptorIndex := 44, attributes := #[] }, { accessFlags := 10, nameIndex := 11, descriptorIndex := 12, attributes := #[] }] 49 2 #[] #[])
  fields := #[]
  methods := #[k1m0, k1m1, k1m2]
  instanceTypes := #[]
  staticTypes := #[]
  resolved := Array.replicate 52 none
  statics := none }

def pool2 : Array CpInfo := pool [(1, .class_ 2), (0, u "java/lang/Math"), (1, .class_ 6), (1, u "java/lang/Object"), (0, u "<init>"), (0, u "()V"), (89, .class_ 100), (1, u "java/lang/Math$RandomNumberGeneratorHolder"), (71, u "negativeZeroFloatBits"), (0, u "J"), (2, u "negativeZeroDoubleBits"), (21, u "max"), (2, u "min"), (43, u "$assertionsDisabled"), (0, u "Z"), (88, u "(II)I"), (2, u "twoToTheDoubleScaleDown"), (0, u "D"), (4, u "twoToTheDoubleScaleUp"), (9, u "E"), (3, u "PI"), (2, u "TAU"), (2, u "DEGREES_TO_RADIANS"), (0, u "RADIANS_TO_DEGREES")] 94

def k2m0 : Method := { name := "<init>", desc := "()V", sig := { parameters := [], returnType := none }, accessFlags := 2, code := none }
def k2c1 : Code := { maxStack := 2, maxLocals := 2, code := jdk_29_method_65_code, exceptionTable := #[], attributes := #[] }
def k2m1 : Method := { name := "max", desc := "(II)I", sig := { parameters := [.int, .int], returnType := some .int }, accessFlags := 9, code := some k2c1 }
def k2c2 : Code := { maxStack := 2, maxLocals := 2, code := jdk_29_method_69_code, exceptionTable := #[], attributes := #[] }
def k2m2 : Method := { name := "min", desc := "(II)I", sig := { parameters := [.int, .int], returnType := some .int }, accessFlags := 9, code := some k2c2 }
/-- java/lang/Math -/
def k2 : Class := { plain "java/lang/Math" (some 0) with
  accessFlags := 49
  interfaces := #[]
  cf := some (fileOf pool2 1 #[.nestMembers #[98]] #[{ accessFlags := 2, nameIndex := 7, descriptorIndex := 8, attributes := #[] }, { accessFlags := 9, nameIndex := 198, descriptorIndex := 335, attributes := #[] }, { accessFlags := 9, nameIndex := 201, descriptorIndex := 335, attributes := #[] }] 49 4 #[] #[{ accessFlags := 25, nameIndex := 354, descriptorIndex := 339, attributes := #[] }, { accessFlags := 25, nameIndex := 358, descriptorIndex := 339, attributes := #[] }, { accessFlags := 25, nameIndex := 361, descriptorIndex := 339, attributes := #[] }, { accessFlags := 26, nameIndex := 364, descriptorIndex := 339, attributes := #[] }, { accessFlags := 26, nameIndex := 365, descriptorIndex := 339, attributes := #[] }, { accessFlags := 26, nameIndex := 172, descriptorIndex := 173, attributes := #[] }, { accessFlags := 26, nameIndex := 176, descriptorIndex := 173, attributes := #[] }, { accessFlags := 8, nameIndex := 344, descriptorIndex := 339, attributes := #[] }, { accessFlags := 8, nameIndex := 338, descriptorIndex := 339, attributes := #[] }, { accessFlags := 4120, nameIndex := 245, descriptorIndex := 246, attributes := #[] }])
  fields := #[{ name := "E", type := .double, accessFlags := 25, slot := 0, constantValue := 0 }, { name := "PI", type := .double, accessFlags := 25, slot := 1, constantValue := 0 }, { name := "TAU", type := .double, accessFlags := 25, slot := 2, constantValue := 0 }, { name := "DEGREES_TO_RADIANS", type := .double, accessFlags := 26, slot := 3, constantValue := 0 }, { name := "RADIANS_TO_DEGREES", type := .double, accessFlags := 26, slot := 4, constantValue := 0 }, { name := "negativeZeroFloatBits", type := .long, accessFlags := 26, slot := 5, constantValue := 0 }, { name := "negativeZeroDoubleBits", type := .long, accessFlags := 26, slot := 6, constantValue := 0 }, { name := "twoToTheDoubleScaleUp", type := .double, accessFlags := 8, slot := 7, constantValue := 0 }, { name := "twoToTheDoubleScaleDown", type := .double, accessFlags := 8, slot := 8, constantValue := 0 }, { name := "$assertionsDisabled", type := .boolean, accessFlags := 4120, slot := 9, constantValue := 0 }]
  methods := #[k2m0, k2m1, k2m2]
  instanceTypes := #[]
  staticTypes := #[.double, .double, .double, .double, .double, .long, .long, .double, .double, .boolean]
  resolved := Array.replicate 460 none
  statics := none }

def pool3 : Array CpInfo := pool [(1, .methodref 2 3), (0, .class_ 4), (0, .nameAndType 5 6), (0, u "java/lang/Object"), (0, u "<init>"), (0, u "()V"), (0, .fieldref 8 9), (0, .class_ 10), (0, .nameAndType 11 12), (0, u "com/example/nomoc/nomoc/checker/StateLayout"), (0, u "words"), (0, u "[I"), (0, .fieldref 8 14), (0, .nameAndType 15 12), (0, u "shifts"), (0, .fieldref 8 17), (0, .nameAndType 18 19), (0, u "masks"), (0, u "[J"), (0, .methodref 21 22), (0, .class_ 12), (0, .nameAndType 23 24), (0, u "clone"), (0, u "()Ljava/lang/Object;"), (0, .fieldref 8 26), (0, .nameAndType 27 12), (0, u "lows"), (0, .class_ 29), (0, u "java/lang/Long"), (0, .methodref 28 31), (0, .nameAndType 32 33), (0, u "numberOfLeadingZeros"), (0, u "(J)I"), (0, .fieldref 8 35), (0, .nameAndType 36 37), (0, u "width"), (0, u "I"), (0, .methodref 8 39), (0, .nameAndType 40 41), (0, u "set"), (0, u "([JII)V"), (0, .long 18446744073709551615), (1, u "([I[I)V"), (3, u "()I"), (0, u "pack"), (0, u "([I[J)V"), (0, u "unpack"), (0, u "([J[I)V")] 2

def k3c0 : Code := { maxStack := 6, maxLocals := 9, code := prog_60_method_1_code, exceptionTable := #[], attributes := #[] }
def k3m0 : Method := { name := "<init>", desc := "([I[I)V", sig := { parameters := [(.array .int), (.array .int)], returnType := none }, accessFlags := 0, code := some k3c0 }
def k3c1 : Code := { maxStack := 1, maxLocals := 1, code := prog_60_method_2_code, exceptionTable := #[], attributes := #[] }
def k3m1 : Method := { name := "width", desc := "()I", sig := { parameters := [], returnType := some .int }, accessFlags := 0, code := some k3c1 }
def k3c2 : Code := { maxStack := 5, maxLocals := 4, code := prog_60_method_3_code, exceptionTable := #[], attributes := #[] }
def k3m2 : Method := { name := "pack", desc := "([I[J)V", sig := { parameters := [(.array .int), (.array .long)], returnType := none }, accessFlags := 0, code := some k3c2 }
def k3c3 : Code := { maxStack := 6, maxLocals := 4, code := prog_60_method_4_code, exceptionTable := #[], attributes := #[] }
def k3m3 : Method := { name := "unpack", desc := "([J[I)V", sig := { parameters := [(.array .long), (.array .int)], returnType := none }, accessFlags := 0, code := some k3c3 }
def k3c4 : Code := { maxStack := 8, maxLocals := 7, code := prog_60_method_5_code, exceptionTable := #[], attributes := #[] }
def k3m4 : Method := { name := "set", desc := "([JII)V", sig := { parameters := [(.array .long), .int, .int], returnType := none }, accessFlags := 0, code := some k3c4 }
/-- com/example/nomoc/nomoc/checker/StateLayout -/
def k3 : Class := { plain "com/example/nomoc/nomoc/checker/StateLayout" (some 0) with
  accessFlags := 32
  interfaces := #[]
  cf := some (fileOf pool3 8 #[] #[{ accessFlags := 0, nameIndex := 5, descriptorIndex := 44, attributes := #[] }, { accessFlags := 0, nameIndex := 36, descriptorIndex := 48, attributes := #[] }, { accessFlags := 0, nameIndex := 49, descriptorIndex := 50, attributes := #[] }, { accessFlags := 0, nameIndex := 51, descriptorIndex := 52, attributes := #[] }, { accessFlags := 0, nameIndex := 40, descriptorIndex := 41, attributes := #[] }] 32 2 #[] #[{ accessFlags := 18, nameIndex := 11, descriptorIndex := 12, attributes := #[] }, { accessFlags := 18, nameIndex := 15, descriptorIndex := 12, attributes := #[] }, { accessFlags := 18, nameIndex := 18, descriptorIndex := 19, attributes := #[] }, { accessFlags := 18, nameIndex := 27, descriptorIndex := 12, attributes := #[] }, { accessFlags := 18, nameIndex := 36, descriptorIndex := 37, attributes := #[] }])
  fields := #[{ name := "words", type := (.array .int), accessFlags := 18, slot := 0, constantValue := 0 }, { name := "shifts", type := (.array .int), accessFlags := 18, slot := 1, constantValue := 0 }, { name := "masks", type := (.array .long), accessFlags := 18, slot := 2, constantValue := 0 }, { name := "lows", type := (.array .int), accessFlags := 18, slot := 3, constantValue := 0 }, { name := "width", type := .int, accessFlags := 18, slot := 4, constantValue := 0 }]
  methods := #[k3m0, k3m1, k3m2, k3m3, k3m4]
  instanceTypes := #[(.array .int), (.array .int), (.array .long), (.array .int), .int]
  staticTypes := #[]
  resolved := Array.replicate 55 none
  statics := none }

def pool4 : Array CpInfo := pool [(1, .class_ 2), (0, u "java/lang/Cloneable"), (0, .class_ 4), (0, u "java/lang/Object")] 2

/-- java/lang/Cloneable -/
def k4 : Class := { plain "java/lang/Cloneable" (some 0) with
  accessFlags := 1537
  interfaces := #[]
  cf := some (fileOf pool4 1 #[] #[] 1537 3 #[] #[])
  fields := #[]
  methods := #[]
  instanceTypes := #[]
  staticTypes := #[]
  resolved := Array.replicate 7 none
  statics := none }

def pool5 : Array CpInfo := pool [(1, .class_ 2), (0, u "java/io/Serializable"), (0, .class_ 4), (0, u "java/lang/Object")] 2

/-- java/io/Serializable -/
def k5 : Class := { plain "java/io/Serializable" (some 0) with
  accessFlags := 1537
  interfaces := #[]
  cf := some (fileOf pool5 1 #[] #[] 1537 3 #[] #[])
  fields := #[]
  methods := #[]
  instanceTypes := #[]
  staticTypes := #[]
  resolved := Array.replicate 7 none
  statics := none }

def pool6 : Array CpInfo := pool [(2, .class_ 4), (1, u "java/lang/Object"), (0, u "<init>"), (0, u "()V"), (1, .class_ 10), (1, u "java/lang/Number"), (2, .class_ 14), (0, u "java/io/Serializable"), (0, u "serialVersionUID"), (0, u "J")] 20

def k6m0 : Method := { name := "<init>", desc := "()V", sig := { parameters := [], returnType := none }, accessFlags := 1, code := none }
/-- java/lang/Number -/
def k6 : Class := { plain "java/lang/Number" (some 0) with
  accessFlags := 1057
  interfaces := #[5]
  cf := some (fileOf pool6 8 #[] #[{ accessFlags := 1, nameIndex := 5, descriptorIndex := 6, attributes := #[] }] 1057 2 #[13] #[{ accessFlags := 26, nameIndex := 15, descriptorIndex := 16, attributes := #[] }])
  fields := #[{ name := "serialVersionUID", type := .long, accessFlags := 26, slot := 0, constantValue := 0 }]
  methods := #[k6m0]
  instanceTypes := #[]
  staticTypes := #[.long]
  resolved := Array.replicate 37 none
  statics := none }

def pool7 : Array CpInfo := pool [(1, .class_ 2), (0, u "java/lang/Comparable"), (0, .class_ 4), (0, u "java/lang/Object")] 7

/-- java/lang/Comparable -/
def k7 : Class := { plain "java/lang/Comparable" (some 0) with
  accessFlags := 1537
  interfaces := #[]
  cf := some (fileOf pool7 1 #[] #[] 1537 3 #[] #[])
  fields := #[]
  methods := #[]
  instanceTypes := #[]
  staticTypes := #[]
  resolved := Array.replicate 12 none
  statics := none }

def pool8 : Array CpInfo := pool [(1, .class_ 2), (0, u "java/lang/constant/Constable"), (0, .class_ 4), (0, u "java/lang/Object")] 6

/-- java/lang/constant/Constable -/
def k8 : Class := { plain "java/lang/constant/Constable" (some 0) with
  accessFlags := 1537
  interfaces := #[]
  cf := some (fileOf pool8 1 #[] #[] 1537 3 #[] #[])
  fields := #[]
  methods := #[]
  instanceTypes := #[]
  staticTypes := #[]
  resolved := Array.replicate 11 none
  statics := none }

def pool9 : Array CpInfo := pool [(1, .class_ 2), (0, u "java/lang/constant/ConstantDesc"), (0, .class_ 4), (0, u "java/lang/Object")] 32

/-- java/lang/constant/ConstantDesc -/
def k9 : Class := { plain "java/lang/constant/ConstantDesc" (some 0) with
  accessFlags := 1537
  interfaces := #[]
  cf := some (fileOf pool9 1 #[] #[] 1537 3 #[] #[])
  fields := #[]
  methods := #[]
  instanceTypes := #[]
  staticTypes := #[]
  resolved := Array.replicate 37 none
  statics := none }

def pool10 : Array CpInfo := pool [(1, .class_ 2), (0, u "java/lang/Long"), (15, .class_ 20), (1, u "java/lang/Integer"), (79, u "numberOfLeadingZeros"), (0, u "(J)I"), (133, .class_ 237), (1, u "java/lang/Long$LongCache"), (33, .class_ 272), (0, u "java/lang/Number"), (2, u "value"), (0, u "J"), (31, .methodref 18 309), (0, .nameAndType 100 310), (0, u "(I)I"), (50, u "TYPE"), (0, u "Ljava/lang/Class;"), (0, .class_ 364), (0, u "java/lang/Comparable"), (0, .class_ 366), (0, u "java/lang/constant/Constable"), (0, .class_ 368), (0, u "java/lang/constant/ConstantDesc"), (0, u "MIN_VALUE"), (1, u "MAX_VALUE"), (4, u "SIZE"), (0, u "I"), (1, u "BYTES"), (1, u "serialVersionUID")] 142

def k10c0 : Code := { maxStack := 3, maxLocals := 3, code := jdk_35_method_48_code, exceptionTable := #[], attributes := #[] }
def k10m0 : Method := { name := "numberOfLeadingZeros", desc := "(J)I", sig := { parameters := [.long], returnType := some .int }, accessFlags := 9, code := some k10c0 }
/-- java/lang/Long -/
def k10 : Class := { plain "java/lang/Long" (some 6) with
  accessFlags := 49
  interfaces := #[7, 8, 9]
  cf := some (fileOf pool10 1 #[.nestMembers #[235]] #[{ accessFlags := 9, nameIndex := 100, descriptorIndex := 101, attributes := #[] }] 49 271 #[363, 365, 367] #[{ accessFlags := 25, nameIndex := 369, descriptorIndex := 276, attributes := #[] }, { accessFlags := 25, nameIndex := 371, descriptorIndex := 276, attributes := #[] }, { accessFlags := 25, nameIndex := 361, descriptorIndex := 362, attributes := #[] }, { accessFlags := 18, nameIndex := 275, descriptorIndex := 276, attributes := #[] }, { accessFlags := 25, nameIndex := 376, descriptorIndex := 377, attributes := #[] }, { accessFlags := 25, nameIndex := 379, descriptorIndex := 377, attributes := #[] }, { accessFlags := 26, nameIndex := 381, descriptorIndex := 276, attributes := #[] }])
  fields := #[{ name := "MIN_VALUE", type := .long, accessFlags := 25, slot := 0, constantValue := 0 }, { name := "MAX_VALUE", type := .long, accessFlags := 25, slot := 1, constantValue := 0 }, { name := "TYPE", type := (.object "java/lang/Class"), accessFlags := 25, slot := 2, constantValue := 0 }, { name := "value", type := .long, accessFlags := 18, slot := 0, constantValue := 0 }, { name := "SIZE", type := .int, accessFlags := 25, slot := 3, constantValue := 0 }, { name := "BYTES", type := .int, accessFlags := 25, slot := 4, constantValue := 0 }, { name := "serialVersionUID", type := .long, accessFlags := 26, slot := 5, constantValue := 0 }]
  methods := #[k10m0]
  instanceTypes := #[.long]
  staticTypes := #[.long, .long, (.object "java/lang/Class"), .int, .int, .long]
  resolved := Array.replicate 524 none
  statics := none }

def pool11 : Array CpInfo := pool [(1, .class_ 2), (0, u "java/lang/Integer"), (16, u "digits"), (0, u "[C"), (32, u "numberOfLeadingZeros"), (0, u "(I)I"), (30, u "DigitOnes"), (0, u "[B"), (2, u "DigitTens"), (99, .class_ 190), (0, u "java/lang/Integer$IntegerCache"), (3, u "I"), (8, .class_ 204), (0, u "java/lang/Number"), (2, u "value"), (56, .integer 65536), (37, u "TYPE"), (0, u "Ljava/lang/Class;"), (0, .class_ 305), (0, u "java/lang/Comparable"), (0, .class_ 307), (0, u "java/lang/constant/Constable"), (0, .class_ 309), (0, u "java/lang/constant/ConstantDesc"), (0, u "MIN_VALUE"), (1, u "MAX_VALUE"), (3, u "SIZE"), (1, u "BYTES"), (1, u "serialVersionUID"), (0, u "J")] 131

def k11c0 : Code := { maxStack := 3, maxLocals := 2, code := jdk_33_method_47_code, exceptionTable := #[], attributes := #[] }
def k11m0 : Method := { name := "numberOfLeadingZeros", desc := "(I)I", sig := { parameters := [.int], returnType := some .int }, accessFlags := 9, code := some k11c0 }
/-- java/lang/Integer -/
def k11 : Class := { plain "java/lang/Integer" (some 6) with
  accessFlags := 49
  interfaces := #[7, 8, 9]
  cf := some (fileOf pool11 1 #[.nestMembers #[189]] #[{ accessFlags := 9, nameIndex := 53, descriptorIndex := 54, attributes := #[] }] 49 203 #[304, 306, 308] #[{ accessFlags := 25, nameIndex := 310, descriptorIndex := 194, attributes := #[] }, { accessFlags := 25, nameIndex := 312, descriptorIndex := 194, attributes := #[] }, { accessFlags := 25, nameIndex := 302, descriptorIndex := 303, attributes := #[] }, { accessFlags := 24, nameIndex := 19, descriptorIndex := 20, attributes := #[] }, { accessFlags := 24, nameIndex := 89, descriptorIndex := 86, attributes := #[] }, { accessFlags := 24, nameIndex := 85, descriptorIndex := 86, attributes := #[] }, { accessFlags := 18, nameIndex := 207, descriptorIndex := 194, attributes := #[] }, { accessFlags := 25, nameIndex := 316, descriptorIndex := 194, attributes := #[] }, { accessFlags := 25, nameIndex := 318, descriptorIndex := 194, attributes := #[] }, { accessFlags := 26, nameIndex := 320, descriptorIndex := 321, attributes := #[] }])
  fields := #[{ name := "MIN_VALUE", type := .int, accessFlags := 25, slot := 0, constantValue := 0 }, { name := "MAX_VALUE", type := .int, accessFlags := 25, slot := 1, constantValue := 0 }, { name := "TYPE", type := (.object "java/lang/Class"), accessFlags := 25, slot := 2, constantValue := 0 }, { name := "digits", type := (.array .char), accessFlags := 24, slot := 3, constantValue := 0 }, { name := "DigitTens", type := (.array .byte), accessFlags := 24, slot := 4, constantValue := 0 }, { name := "DigitOnes", type := (.array .byte), accessFlags := 24, slot := 5, constantValue := 0 }, { name := "value", type := .int, accessFlags := 18, slot := 0, constantValue := 0 }, { name := "SIZE", type := .int, accessFlags := 25, slot := 6, constantValue := 0 }, { name := "BYTES", type := .int, accessFlags := 25, slot := 7, constantValue := 0 }, { name := "serialVersionUID", type := .long, accessFlags := 26, slot := 8, constantValue := 0 }]
  methods := #[k11m0]
  instanceTypes := #[.int]
  staticTypes := #[.int, .int, (.object "java/lang/Class"), (.array .char), (.array .byte), (.array .byte), .int, .int, .long]
  resolved := Array.replicate 453 none
  statics := none }

/-- the primitive byte -/
def k12 : Class := { plain "byte" none with kind := .primitive 'B', accessFlags := 0x411 }
/-- [B -/
def k13 : Class := { plain "[B" (some 0) with kind := .array 12 .byte, interfaces := #[4, 5], accessFlags := 1041 }

/-- the primitive int -/
def k14 : Class := { plain "int" none with kind := .primitive 'I', accessFlags := 0x411 }
/-- [I -/
def k15 : Class := { plain "[I" (some 0) with kind := .array 14 .int, interfaces := #[4, 5], accessFlags := 1041 }

/-- the primitive long -/
def k16 : Class := { plain "long" none with kind := .primitive 'J', accessFlags := 0x411 }
/-- [J -/
def k17 : Class := { plain "[J" (some 0) with kind := .array 16 .long, interfaces := #[4, 5], accessFlags := 1041 }

def heap : Heap := #[]
def classes : Array Class := #[k0, k1, k2, k3, k4, k5, k6, k7, k8, k9, k10, k11, k12, k13, k14, k15, k16, k17]
def interned : List (Array UInt16 × Addr) := []
def slotsUsed : Nat := 0
def theMethod : MethodId := ⟨1, 1⟩
def args0 : Array Value := #[.long 5, .long 7, .long 9, .int 3, .int 4, .int 5]
def aboutOver (below : List Frame) : State where
  vm := { classes := classes, interned := interned.toArray }
  heap := heap
  slotsUsed := slotsUsed
  threads := #[{ frames := .invoking theMethod args0 :: below }]
def below0 : List Frame := [.native { method := ⟨0, 0⟩, args := #[] }]
def about1 : State := aboutOver below0
def p0 : Program := .bare "" "" ""
def e0 : Env := launch0.env 0 0 0
theorem w_frames : about1.frames = Frame.invoking theMethod args0 :: below0 := rfl
set_option maxRecDepth 65536 in
theorem w_args : argsFit about1.vm theMethod args0 = true := by decide +kernel
set_option maxRecDepth 65536 in
theorem w_heap : heapFits about1 = true := by decide +kernel
set_option maxRecDepth 65536 in
theorem w_runnable : about1.curStatus? = some .runnable := by decide +kernel
set_option maxRecDepth 65536 in
theorem w_alone : about1.alone = true := by decide +kernel
set_option maxRecDepth 65536 in
theorem w_named : about1.methodNamed? x = some theMethod := by decide +kernel
set_option maxRecDepth 65536 in
theorem w_hears : about1.hears theMethod below0 = true := by decide +kernel
set_option maxRecDepth 65536 in
theorem w_ripe : about1.ripe theMethod args0 below0 = true := by decide +kernel
theorem w_running : about1.status = .running := rfl
set_option maxRecDepth 65536 in
theorem w_room : about1.hasRoom e0.platform room_1 = true :=
  launch0.hasRoom_least _ room_1 (by decide +kernel) (by decide +kernel) (by decide +kernel) (by decide +kernel) (by decide +kernel) (by decide +kernel)
theorem allAtoms_all (ts : List Jvm.Cond) (a : Array Jvm.Value) (st : Jvm.State) : (allAtoms ts).before a st = ts.all (fun c => c.before a st) := by
  induction ts with
  | nil => rfl
  | cons c t ih =>
    show (Jvm.Cond.and c (allAtoms t)).before a st = _
    rw [Jvm.Cond.before_and, ih, List.all_cons]
def words1 : List Jvm.Cond := Jvm.Cond.code x code maxLocals ret :: tables_1
/-- a 'code' word, met by the world's own term for the bytes: nothing is compared byte by byte -/
theorem code_word {y : MethodName} {bytes : ByteArray} {mx : Nat} {rt : Option FieldType} {a : Array Value} {s : State} {m : MethodId} {meth : Method} {c : Code} (h1 : s.methodNamed? y = some m) (h2 : s.vm.method? m = some meth) (h3 : meth.code = some c) (h4 : c.code = bytes)
    (h5 : (c.maxLocals == mx && c.exceptionTable.isEmpty && decide (c.maxStack ≤ mostOperands) && decide (meth.sig.returnType = rt) && !meth.locks && decide (parseMethodDescriptor y.desc = some meth.sig)) = true) : (Jvm.Cond.code y bytes mx rt).before a s = true := by
  simp only [Bool.and_eq_true, beq_iff_eq, Bool.not_eq_true', decide_eq_true_eq] at h5
  obtain ⟨⟨⟨⟨⟨g1, g2⟩, g3⟩, g4⟩, g5⟩, g6⟩ := h5
  simp [Cond.before, Cond.holds, Cond.value, h1, h2, h3, h4, g1, g2, g3, g4, g5, g6]
def isCode : Jvm.Cond → Bool
  | .code _ _ _ _ => true
  | _ => false
theorem all_split {L : List Jvm.Cond} {P : Jvm.Cond → Bool} (h1 : L.all (fun c => isCode c || P c) = true) (h2 : ∀ c ∈ L.filter isCode, P c = true) : L.all P = true := by
  refine List.all_eq_true.mpr fun c hc => ?_
  have h := List.all_eq_true.mp h1 c hc
  rcases Bool.eq_false_or_eq_true (isCode c) with hi | hi
  · exact h2 c (List.mem_filter.mpr ⟨hc, hi⟩)
  · simpa [hi] using h
set_option maxRecDepth 65536 in
theorem w_c0 : (Jvm.Cond.code x code maxLocals ret).before args0 about1 = true := code_word (m := ⟨1, 1⟩) (meth := k1m1) (c := k1c1) (by decide +kernel) rfl rfl rfl (by decide +kernel)
set_option maxRecDepth 65536 in
theorem w_c1 : (Jvm.Cond.code ({ cls := "com/example/nomoc/nomoc/checker/StateLayoutPackPinLaw", name := "fill", desc := "([I[I[IIJI)V" } : Jvm.MethodName) method_3_code (15 : Nat) (Option.none : Option Jvm.ClassFile.FieldType)).before args0 about1 = true := code_word (m := ⟨1, 2⟩) (meth := k1m2) (c := k1c2) (by decide +kernel) rfl rfl rfl (by decide +kernel)
set_option maxRecDepth 65536 in
theorem w_c2 : (Jvm.Cond.code ({ cls := "java/lang/Math", name := "min", desc := "(II)I" } : Jvm.MethodName) jdk_29_method_69_code (2 : Nat) (Option.some Jvm.ClassFile.FieldType.int)).before args0 about1 = true := code_word (m := ⟨2, 2⟩) (meth := k2m2) (c := k2c2) (by decide +kernel) rfl rfl rfl (by decide +kernel)
set_option maxRecDepth 65536 in
theorem w_c3 : (Jvm.Cond.code ({ cls := "java/lang/Math", name := "max", desc := "(II)I" } : Jvm.MethodName) jdk_29_method_65_code (2 : Nat) (Option.some Jvm.ClassFile.FieldType.int)).before args0 about1 = true := code_word (m := ⟨2, 1⟩) (meth := k2m1) (c := k2c1) (by decide +kernel) rfl rfl rfl (by decide +kernel)
set_option maxRecDepth 65536 in
theorem w_c4 : (Jvm.Cond.code ({ cls := "com/example/nomoc/nomoc/checker/StateLayout", name := "<init>", desc := "([I[I)V" } : Jvm.MethodName) prog_60_method_1_code (9 : Nat) (Option.none : Option Jvm.ClassFile.FieldType)).before args0 about1 = true := code_word (m := ⟨3, 0⟩) (meth := k3m0) (c := k3c0) (by decide +kernel) rfl rfl rfl (by decide +kernel)
set_option maxRecDepth 65536 in
theorem w_c5 : (Jvm.Cond.code ({ cls := "java/lang/Object", name := "<init>", desc := "()V" } : Jvm.MethodName) object_method_1_code (1 : Nat) (Option.none : Option Jvm.ClassFile.FieldType)).before args0 about1 = true := code_word (m := ⟨0, 0⟩) (meth := k0m0) (c := k0c0) (by decide +kernel) rfl rfl rfl (by decide +kernel)
set_option maxRecDepth 65536 in
theorem w_c6 : (Jvm.Cond.code ({ cls := "java/lang/Long", name := "numberOfLeadingZeros", desc := "(J)I" } : Jvm.MethodName) jdk_35_method_48_code (3 : Nat) (Option.some Jvm.ClassFile.FieldType.int)).before args0 about1 = true := code_word (m := ⟨10, 0⟩) (meth := k10m0) (c := k10c0) (by decide +kernel) rfl rfl rfl (by decide +kernel)
set_option maxRecDepth 65536 in
theorem w_c7 : (Jvm.Cond.code ({ cls := "java/lang/Integer", name := "numberOfLeadingZeros", desc := "(I)I" } : Jvm.MethodName) jdk_33_method_47_code (2 : Nat) (Option.some Jvm.ClassFile.FieldType.int)).before args0 about1 = true := code_word (m := ⟨11, 0⟩) (meth := k11m0) (c := k11c0) (by decide +kernel) rfl rfl rfl (by decide +kernel)
set_option maxRecDepth 65536 in
theorem w_c8 : (Jvm.Cond.code ({ cls := "com/example/nomoc/nomoc/checker/StateLayout", name := "width", desc := "()I" } : Jvm.MethodName) prog_60_method_2_code (1 : Nat) (Option.some Jvm.ClassFile.FieldType.int)).before args0 about1 = true := code_word (m := ⟨3, 1⟩) (meth := k3m1) (c := k3c1) (by decide +kernel) rfl rfl rfl (by decide +kernel)
set_option maxRecDepth 65536 in
theorem w_c9 : (Jvm.Cond.code ({ cls := "com/example/nomoc/nomoc/checker/StateLayout", name := "pack", desc := "([I[J)V" } : Jvm.MethodName) prog_60_method_3_code (4 : Nat) (Option.none : Option Jvm.ClassFile.FieldType)).before args0 about1 = true := code_word (m := ⟨3, 2⟩) (meth := k3m2) (c := k3c2) (by decide +kernel) rfl rfl rfl (by decide +kernel)
set_option maxRecDepth 65536 in
theorem w_c10 : (Jvm.Cond.code ({ cls := "com/example/nomoc/nomoc/checker/StateLayout", name := "set", desc := "([JII)V" } : Jvm.MethodName) prog_60_method_5_code (7 : Nat) (Option.none : Option Jvm.ClassFile.FieldType)).before args0 about1 = true := code_word (m := ⟨3, 4⟩) (meth := k3m4) (c := k3c4) (by decide +kernel) rfl rfl rfl (by decide +kernel)
set_option maxRecDepth 65536 in
theorem w_c11 : (Jvm.Cond.code ({ cls := "com/example/nomoc/nomoc/checker/StateLayout", name := "unpack", desc := "([J[I)V" } : Jvm.MethodName) prog_60_method_4_code (4 : Nat) (Option.none : Option Jvm.ClassFile.FieldType)).before args0 about1 = true := code_word (m := ⟨3, 3⟩) (meth := k3m3) (c := k3c3) (by decide +kernel) rfl rfl rfl (by decide +kernel)
def codes1 : List Jvm.Cond := [Jvm.Cond.code x code maxLocals ret, Jvm.Cond.code ({ cls := "com/example/nomoc/nomoc/checker/StateLayoutPackPinLaw", name := "fill", desc := "([I[I[IIJI)V" } : Jvm.MethodName) method_3_code (15 : Nat) (Option.none : Option Jvm.ClassFile.FieldType), Jvm.Cond.code ({ cls := "java/lang/Math", name := "min", desc := "(II)I" } : Jvm.MethodName) jdk_29_method_69_code (2 : Nat) (Option.some Jvm.ClassFile.FieldType.int), Jvm.Cond.code ({ cls := "java/lang/Math", name := "max", desc := "(II)I" } : Jvm.MethodName) jdk_29_method_65_code (2 : Nat) (Option.some Jvm.ClassFile.FieldType.int), Jvm.Cond.code ({ cls := "com/example/nomoc/nomoc/checker/StateLayout", name := "<init>", desc := "([I[I)V" } : Jvm.MethodName) prog_60_method_1_code (9 : Nat) (Option.none : Option Jvm.ClassFile.FieldType), Jvm.Cond.code ({ cls := "java/lang/Object", name := "<init>", desc := "()V" } : Jvm.MethodName) object_method_1_code (1 : Nat) (Option.none : Option Jvm.ClassFile.FieldType), Jvm.Cond.code ({ cls := "java/lang/Long", name := "numberOfLeadingZeros", desc := "(J)I" } : Jvm.MethodName) jdk_35_method_48_code (3 : Nat) (Option.some Jvm.ClassFile.FieldType.int), Jvm.Cond.code ({ cls := "java/lang/Integer", name := "numberOfLeadingZeros", desc := "(I)I" } : Jvm.MethodName) jdk_33_method_47_code (2 : Nat) (Option.some Jvm.ClassFile.FieldType.int), Jvm.Cond.code ({ cls := "com/example/nomoc/nomoc/checker/StateLayout", name := "width", desc := "()I" } : Jvm.MethodName) prog_60_method_2_code (1 : Nat) (Option.some Jvm.ClassFile.FieldType.int), Jvm.Cond.code ({ cls := "com/example/nomoc/nomoc/checker/StateLayout", name := "pack", desc := "([I[J)V" } : Jvm.MethodName) prog_60_method_3_code (4 : Nat) (Option.none : Option Jvm.ClassFile.FieldType), Jvm.Cond.code ({ cls := "com/example/nomoc/nomoc/checker/StateLayout", name := "set", desc := "([JII)V" } : Jvm.MethodName) prog_60_method_5_code (7 : Nat) (Option.none : Option Jvm.ClassFile.FieldType), Jvm.Cond.code ({ cls := "com/example/nomoc/nomoc/checker/StateLayout", name := "unpack", desc := "([J[I)V" } : Jvm.MethodName) prog_60_method_4_code (4 : Nat) (Option.none : Option Jvm.ClassFile.FieldType)]
set_option maxRecDepth 65536 in
theorem codes_eq : words1.filter isCode = codes1 := rfl
theorem w_codes : ∀ c ∈ words1.filter isCode, c.before args0 about1 = true := by
  rw [codes_eq]
  intro c hc
  simp only [codes1, List.mem_cons, List.not_mem_nil, or_false] at hc
  rcases hc with rfl | rfl | rfl | rfl | rfl | rfl | rfl | rfl | rfl | rfl | rfl | rfl
  · exact w_c0
  · exact w_c1
  · exact w_c2
  · exact w_c3
  · exact w_c4
  · exact w_c5
  · exact w_c6
  · exact w_c7
  · exact w_c8
  · exact w_c9
  · exact w_c10
  · exact w_c11
set_option maxRecDepth 65536 in
theorem w_t1 : (words1.take 24).all (fun c => isCode c || c.before args0 about1) = true := by decide +kernel
set_option maxRecDepth 65536 in
theorem w_t2 : ((words1.drop 24).take 24).all (fun c => isCode c || c.before args0 about1) = true := by decide +kernel
set_option maxRecDepth 65536 in
theorem w_t3 : (((words1.drop 24).drop 24).take 24).all (fun c => isCode c || c.before args0 about1) = true := by decide +kernel
set_option maxRecDepth 65536 in
theorem w_t4 : (((words1.drop 24).drop 24).drop 24).all (fun c => isCode c || c.before args0 about1) = true := by decide +kernel
theorem w_tables : (allAtoms (Jvm.Cond.code x code maxLocals ret :: tables_1)).before args0 about1 = true := by
  rw [allAtoms_all]
  show words1.all (fun c => c.before args0 about1) = true
  refine all_split ?_ w_codes
  rw [← List.take_append_drop 24 words1, List.all_append, w_t1, ← List.take_append_drop 24 (words1.drop 24), List.all_append, w_t2, ← List.take_append_drop 24 ((words1.drop 24).drop 24), List.all_append, w_t3, w_t4]
  rfl
set_option maxRecDepth 65536 in
theorem w_case : (Jvm.Cond.and given_1 narrow_1).before args0 about1 = true := by decide +kernel
theorem w_applies : (headSpec (Jvm.Cond.code x code maxLocals ret :: tables_1) room_1).applies x e0.platform about1 = true :=
  (Spec.applies_iff w_frames).mpr ⟨w_running, w_runnable, w_alone, w_named, w_hears, w_ripe, w_room, w_tables⟩
theorem atStart : AtStart classFile x code maxLocals ret World_1 tables_1 room_1 Calls_1 rest_1 Pre_1 launch0 p0 e0 about1 theMethod args0 below0 :=
  ⟨lists_1, trivial, launch0.admits_env _ _ _, launch0.least_env, fairChoices_fair.cas, fairChoices_fair.clock, w_frames, w_args, w_heap, w_applies, trivial, trivial, w_case⟩
end start1
theorem witness_1 : WitnessClaimed_1 := ⟨start1.p0, start1.e0, start1.about1, start1.theMethod, start1.args0, start1.below0, start1.atStart⟩
end Jvm.Pilot.@@N@@
