import JvmDerived
import JvmDerived.Pilot.@@N@@Statement
import JvmDerived.Pilot.@@N@@Code
set_option linter.unusedVariables false
set_option linter.unusedSimpArgs false
@@BLOCK:NumsL.lean.txt@@
namespace Jvm.OwnWp
open Jvm Jvm.ClassFile Sem Op Lib Jvm.Free Jvm.Stand Jvm.LawKit Jvm.RoadKit
/-! The heap of a walk as a plain list of the objects that it may touch. -/
abbrev Fd := String × String × String × Value
abbrev Ob := (String × List Fd) ⊕ (FieldType × List Value)
abbrev Hs := List (Addr × Ob)
section Heaps
variable {Z : State} {a0 : Array Value} {h h' h0 : Heap} {a b : Addr} {sl : Nat} {v : Value} {o o' : Ob} {os os' rest : Hs} {dm fp fp2 : List Addr}
def ObAt (Z : State) (a0 : Array Value) (h : Heap) (a : Addr) : Ob → Prop
  | .inl x => Exa Z h a x.1 ∧ (x.2.map (·.2.1)).Nodup ∧ ∀ q ∈ x.2, Fld Z h a q.1 q.2.1 q.2.2.1 q.2.2.2 ∧ Laid Z a0 x.1 q.1 q.2.1 q.2.2.1 ∧ ∃ t, parseFieldDescriptor q.2.2.1 = some t
  | .inr x => ∃ c : Cell, Arr Z h a c x.1 ∧ c.slots.toList = x.2 ∧ Exa Z h a ("[" ++ x.1.toString) ∧ ∀ v ∈ x.2, fits x.1 v = true
theorem ObAt.lt (F : ObAt Z a0 h a o) : a < h.size := by
  cases o with
  | inl x => exact F.1.lt
  | inr x => obtain ⟨c, A, -⟩ := F; exact A.lt
theorem ObAt.move (hm : ∀ c, h[a]? = some c → h'[a]? = some c) (F : ObAt Z a0 h a o) : ObAt Z a0 h' a o := by
  cases o with
  | inl x =>
    obtain ⟨⟨cell, k, h1, r⟩, hn, hq⟩ := F
    refine ⟨⟨cell, k, hm _ h1, r⟩, hn, fun q hq' => ?_⟩
    obtain ⟨⟨cell, cf, k, i, f, h1, r⟩, L⟩ := hq q hq'
    exact ⟨⟨cell, cf, k, i, f, hm _ h1, r⟩, L⟩
  | inr x =>
    obtain ⟨c, A, e, ⟨cell, k, h1, r⟩, hf⟩ := F
    exact ⟨c, ⟨hm _ A.1, A.2⟩, e, ⟨cell, k, hm _ h1, r⟩, hf⟩
theorem ObAt.ext (E : Ext h h') (F : ObAt Z a0 h a o) : ObAt Z a0 h' a o := F.move fun c hc => E.2 _ _ hc
theorem wr_ne (W : Wr h h' a sl v) (hne : b ≠ a) {c : Cell} (hc : h[b]? = some c) : h'[b]? = some c := by
  obtain ⟨cb', h1, -, -, -, h5, -⟩ := wr_at W hc
  rw [h1, h5 hne]
/-- the cells that a walk may write: those of its footprint, and the new ones -/
def Dm (fp : List Addr) (n0 : Nat) (a : Addr) : Prop := a ∈ fp ∨ n0 ≤ a
def Hq (Z : State) (a0 : Array Value) (h : Heap) (os : Hs) : Prop := (os.map (·.1)).Nodup ∧ ∀ q ∈ os, ObAt Z a0 h q.1 q.2
def Hp (Z : State) (a0 : Array Value) (dm fp : List Addr) (h0 h : Heap) (os : Hs) : Prop :=
  Hq Z a0 h os ∧ (∀ q ∈ os, Dm dm h0.size q.1) ∧ h0.size ≤ h.size ∧ ∀ a c, h0[a]? = some c → a ∉ fp → h[a]? = some c
theorem Hp.start (H : Hq Z a0 h os) : Hp Z a0 (os.map (·.1)) fp h h os := ⟨H, fun q hq => Or.inl (List.mem_map.mpr ⟨q, hq, rfl⟩), Nat.le_refl _, fun _ _ q _ => q⟩
theorem Hp.ext (E : Ext h h') (H : Hp Z a0 dm fp h0 h os) : Hp Z a0 dm fp h0 h' os :=
  ⟨⟨H.1.1, fun q hq => (H.1.2 q hq).ext E⟩, H.2.1, Nat.le_trans H.2.2.1 E.1, fun a c q n => E.2 _ _ (H.2.2.2 a c q n)⟩
theorem Hp.push (E : Ext h h') (F : ObAt Z a0 h' h.size o) (H : Hp Z a0 dm fp h0 h os) : Hp Z a0 dm fp h0 h' (os ++ [(h.size, o)]) := by
  have H' := H.ext E
  refine ⟨⟨?_, fun q hq => ?_⟩, fun q hq => ?_, H'.2.2⟩
  · rw [List.map_append, List.nodup_append]
    refine ⟨H.1.1, by simp, fun x hx y hy => ?_⟩
    obtain ⟨q, hq, rfl⟩ := List.mem_map.mp hx
    have := (H.1.2 q hq).lt
    simp only [List.map_cons, List.map_nil, List.mem_singleton] at hy
    intro e
    rw [e, hy] at this
    exact Nat.lt_irrefl _ this
  · rcases List.mem_append.mp hq with hq | hq
    · exact H'.1.2 q hq
    · cases List.mem_singleton.mp hq; exact F
  · rcases List.mem_append.mp hq with hq | hq
    · exact H.2.1 q hq
    · cases List.mem_singleton.mp hq; exact Or.inr H.2.2.1
theorem mem_set {α : Type} {l : List α} {k : Nat} {x q : α} (hq : q ∈ l.set k x) : q = x ∨ ∃ i, i ≠ k ∧ l[i]? = some q := by
  obtain ⟨i, hi⟩ := List.mem_iff_getElem?.mp hq
  rw [List.getElem?_set] at hi
  by_cases e : k = i
  · rw [if_pos e] at hi
    split at hi
    · exact Or.inl (Option.some.inj hi).symm
    · cases hi
  · rw [if_neg e] at hi
    exact Or.inr ⟨i, fun z => e z.symm, hi⟩
theorem nodup_inj {α : Type} {l : List α} (hn : l.Nodup) {i j : Nat} {x : α} (hi : l[i]? = some x) (hj : l[j]? = some x) : i = j := by
  obtain ⟨h1, e1⟩ := List.getElem?_eq_some_iff.mp hi
  obtain ⟨h2, e2⟩ := List.getElem?_eq_some_iff.mp hj
  exact (List.getElem_inj hn).mp (e1.trans e2.symm)
theorem map_at {α β : Type} {l : List α} {f : α → β} {i : Nat} {x : α} (hi : l[i]? = some x) : (l.map f)[i]? = some (f x) := by rw [List.getElem?_map, hi]; rfl
theorem map_set_same {α β : Type} {l : List α} {f : α → β} {k : Nat} {x x' : α} (hk : l[k]? = some x) (e : f x' = f x) : (l.set k x').map f = l.map f := by
  apply List.ext_getElem?
  intro i
  rw [List.getElem?_map, List.getElem?_map, List.getElem?_set]
  by_cases z : k = i
  · subst z
    rw [if_pos rfl]
    have := (List.getElem?_eq_some_iff.mp hk).1
    rw [if_pos this, hk]
    exact congrArg some e
  · rw [if_neg z]
theorem Hp.wr {k : Nat} (hD : Dm fp h0.size a) (W : Wr h h' a sl v) (ho : os[k]? = some (a, o)) (F : ObAt Z a0 h' a o') (H : Hp Z a0 dm fp h0 h os) : Hp Z a0 dm fp h0 h' (os.set k (a, o')) := by
  have hM : Dm dm h0.size a := H.2.1 _ (List.mem_of_getElem? ho)
  refine ⟨⟨?_, fun q hq => ?_⟩, fun q hq => ?_, by rw [W.size]; exact H.2.2.1, fun x c hx hn => ?_⟩
  · rw [map_set_same (f := fun x : Addr × Ob => x.1) (x' := (a, o')) ho rfl]; exact H.1.1
  · rcases mem_set hq with rfl | ⟨i, hi, hq⟩
    · exact F
    · have hne : q.1 ≠ a := fun e => hi (nodup_inj H.1.1 (map_at hq) (by rw [map_at ho, e]))
      exact (H.1.2 q (List.mem_of_getElem? hq)).move fun c hc => wr_ne W hne hc
  · rcases mem_set hq with rfl | ⟨i, hi, hq⟩
    · exact hM
    · exact H.2.1 q (List.mem_of_getElem? hq)
  · refine wr_ne W (fun e => ?_) (H.2.2.2 x c hx hn)
    subst e
    rcases hD with hD | hD
    · exact hn hD
    · exact absurd (Array.getElem?_eq_some_iff.mp hx).1 (Nat.not_lt.mpr hD)
theorem Hp.fld {k : Nat} {C : String} {fs : List Fd} {j : Nat} {O n d : String} {w : Value} (ho : os[k]? = some (a, .inl (C, fs))) (hj : fs[j]? = some (O, n, d, w)) (H : Hp Z a0 dm fp h0 h os) : Fld Z h a O n d w :=
  ((H.1.2 _ (List.mem_of_getElem? ho)).2.2 _ (List.mem_of_getElem? hj)).1
theorem Hp.exa {k : Nat} {C : String} {fs : List Fd} (ho : os[k]? = some (a, .inl (C, fs))) (H : Hp Z a0 dm fp h0 h os) : Exa Z h a C := (H.1.2 _ (List.mem_of_getElem? ho)).1
theorem Hp.putf {k : Nat} {C : String} {fs : List Fd} {j : Nat} {O n d : String} {w : Value} (hD : Dm fp h0.size a) (ho : os[k]? = some (a, .inl (C, fs))) (hj : fs[j]? = some (O, n, d, w)) (W : Wr h h' a (RoadKit.slotOf Z O n d) v) (H : Hp Z a0 dm fp h0 h os) :
    Hp Z a0 dm fp h0 h' (os.set k (a, .inl (C, fs.set j (O, n, d, v)))) := by
  refine H.wr hD W ho ?_
  obtain ⟨hE, hN, hF⟩ := H.1.2 _ (List.mem_of_getElem? ho)
  dsimp only at hE hN hF
  obtain ⟨F, L, t, ht⟩ := hF _ (List.mem_of_getElem? hj)
  refine ⟨hE.wr W, ?_, fun q hq => ?_⟩
  · dsimp only
    rw [map_set_same (f := fun x : Fd => x.2.1) (x' := (O, n, d, v)) hj rfl]; exact hN
  · rcases mem_set hq with rfl | ⟨i, hi, hq⟩
    · exact ⟨F.same W, L, t, ht⟩
    · obtain ⟨F', L', t', ht'⟩ := hF _ (List.mem_of_getElem? hq)
      have hne : q.2.1 ≠ n := fun e => hi (nodup_inj hN (map_at hq) (by rw [map_at hj, e]))
      exact ⟨F'.other W (Or.inr (slot_ne L' L hne ht' ht)), L', t', ht'⟩
theorem Hp.arr {k : Nat} {ty : FieldType} {vs : List Value} (ho : os[k]? = some (a, .inr (ty, vs))) (H : Hp Z a0 dm fp h0 h os) : ∃ c : Cell, Arr Z h a c ty ∧ c.slots.toList = vs := by
  obtain ⟨c, A, e, -⟩ := H.1.2 _ (List.mem_of_getElem? ho)
  exact ⟨c, A, e⟩
theorem Hp.puta {k : Nat} {ty : FieldType} {vs : List Value} {j : Nat} (hD : Dm fp h0.size a) (hf : fits ty v = true) (ho : os[k]? = some (a, .inr (ty, vs))) (W : Wr h h' a j v) (H : Hp Z a0 dm fp h0 h os) : Hp Z a0 dm fp h0 h' (os.set k (a, .inr (ty, vs.set j v))) := by
  refine H.wr hD W ho ?_
  obtain ⟨c, A, e, E, F⟩ := H.1.2 _ (List.mem_of_getElem? ho)
  refine ⟨_, A.same W, ?_, E.wr W, fun q hq => ?_⟩
  · dsimp only at e ⊢
    rw [← e]
    simp [Cell.setSlot]
  · rcases mem_set hq with rfl | ⟨i, -, hq⟩
    · exact hf
    · exact F q (List.mem_of_getElem? hq)
theorem Hp.call (H : Hp Z a0 dm fp h0 h (rest ++ os)) (H' : Hp Z a0 (os.map (·.1)) fp2 h h' os') (hc : fp2 = [] ∨ (fp2 = os.map (·.1) ∧ dm = fp)) : Hp Z a0 dm fp h0 h' (rest ++ os') := by
  have hN := H.1.1
  rw [List.map_append, List.nodup_append] at hN
  have hsub : ∀ x ∈ fp2, x ∈ os.map (·.1) := fun x hx => by
    rcases hc with rfl | ⟨rfl, -⟩
    · exact absurd hx List.not_mem_nil
    · exact hx
  have hD : ∀ x, Dm (os.map (·.1)) h.size x → Dm dm h0.size x := fun x hx => by
    rcases hx with hx | hx
    · obtain ⟨q, hq, rfl⟩ := List.mem_map.mp hx
      exact H.2.1 q (List.mem_append.mpr (Or.inr hq))
    · exact Or.inr (Nat.le_trans H.2.2.1 hx)
  have hR : ∀ q ∈ rest, q.1 ∉ os.map (·.1) := fun q hq hm => hN.2.2 _ (List.mem_map.mpr ⟨q, hq, rfl⟩) _ hm rfl
  refine ⟨⟨?_, fun q hq => ?_⟩, fun q hq => ?_, Nat.le_trans H.2.2.1 H'.2.2.1, fun x c hx hn => ?_⟩
  · rw [List.map_append, List.nodup_append]
    refine ⟨hN.1, H'.1.1, fun x hx y hy e => ?_⟩
    subst e
    obtain ⟨q, hq, rfl⟩ := List.mem_map.mp hx
    obtain ⟨q', hq', e⟩ := List.mem_map.mp hy
    have := H'.2.1 q' hq'
    rw [e] at this
    rcases this with t | t
    · exact hR q hq t
    · exact absurd (H.1.2 q (List.mem_append.mpr (Or.inl hq))).lt (Nat.not_lt.mpr t)
  · rcases List.mem_append.mp hq with hq | hq
    · exact (H.1.2 q (List.mem_append.mpr (Or.inl hq))).move fun c hc => H'.2.2.2 _ _ hc (fun z => hR q hq (hsub _ z))
    · exact H'.1.2 q hq
  · rcases List.mem_append.mp hq with hq | hq
    · exact H.2.1 q (List.mem_append.mpr (Or.inl hq))
    · exact hD _ (H'.2.1 q hq)
  · refine H'.2.2.2 _ _ (H.2.2.2 x c hx hn) fun hm => ?_
    rcases hc with rfl | ⟨rfl, rfl⟩
    · exact absurd hm List.not_mem_nil
    · obtain ⟨q, hq, rfl⟩ := List.mem_map.mp hm
      rcases H.2.1 q (List.mem_append.mpr (Or.inr hq)) with t | t
      · exact hn t
      · exact absurd (Array.getElem?_eq_some_iff.mp hx).1 (Nat.not_lt.mpr t)
theorem pick_mem {is : List Nat} {os2 : Hs} (he : is.map (fun i => os[i]?) = os2.map some) {q : Addr × Ob} (hq : q ∈ os2) : ∃ i ∈ is, os[i]? = some q := by
  have : some q ∈ is.map (fun i => os[i]?) := by rw [he]; exact List.mem_map.mpr ⟨q, hq, rfl⟩
  obtain ⟨i, hi, e⟩ := List.mem_map.mp this
  exact ⟨i, hi, e⟩
theorem pick_nodup (hN : (os.map (·.1)).Nodup) : ∀ {is : List Nat} {os2 : Hs}, is.Nodup → is.map (fun i => os[i]?) = os2.map some → (os2.map (·.1)).Nodup
  | [], [], _, _ => List.nodup_nil
  | [], _ :: _, _, he => by cases he
  | _ :: _, [], _, he => by cases he
  | i :: is, q :: os2, hi, he => by
    simp only [List.map_cons, List.cons.injEq] at he
    rw [List.nodup_cons] at hi
    rw [List.map_cons, List.nodup_cons]
    refine ⟨fun hm => ?_, pick_nodup hN hi.2 he.2⟩
    obtain ⟨q', hq', e⟩ := List.mem_map.mp hm
    obtain ⟨i', hi', e'⟩ := pick_mem he.2 hq'
    have := nodup_inj hN (map_at he.1) (by rw [map_at e', e])
    exact hi.1 (this ▸ hi')
theorem Hp.pick {is : List Nat} {os2 : Hs} (H : Hp Z a0 dm fp h0 h os) (hn : is.Nodup) (he : is.map (fun i => os[i]?) = os2.map some) : Hp Z a0 dm fp h0 h os2 :=
  have hm : ∀ q ∈ os2, q ∈ os := fun q hq => by obtain ⟨i, -, e⟩ := pick_mem he hq; exact List.mem_of_getElem? e
  ⟨⟨pick_nodup H.1.1 hn he, fun q hq => H.1.2 q (hm q hq)⟩, fun q hq => H.2.1 q (hm q hq), H.2.2⟩
end Heaps
/-- what a walk holds at a point -/
def Here (p : Program) (l : Launch) (e : Env) (R : Room) (s : State) (m : MethodId) (args : Array Value) (below : List Frame) (meth : Method) (c : Code) (Z : State) (a0 : Array Value) (y : MethodName) (bytes : ByteArray) (ml : Nat) (ret : Option FieldType) (dm fp : List Addr) (T : State) (k n : Nat) (os : Hs) : Prop :=
  ∃ locs, Stand p l e R s m args below meth c T locs k n ∧ (∀ q ∈ locs, Dm fp s.heap.size q.base) ∧ Hp Z a0 dm fp s.heap T.heap os ∧ p.tables.exec = Jvm.exec ∧ Z.Warmed39 s.vm ∧ c.code = bytes ∧ c.maxLocals = ml ∧ s.vm.findClass y.cls = some m.cls ∧ meth.name = y.name ∧ meth.sig.returnType = ret ∧ meth.locks = false
/-- from here the body returns, and what it leaves is as Post says -/
def Wp (p : Program) (e : Env) (below : List Frame) (Z : State) (a0 : Array Value) (dm fp : List Addr) (R : Room) (s : State) (Post : Option Value → Hs → Prop) (T : State) (g : JFrame) : Prop :=
  ∃ s₂ o, Steps p.tables e below (T.setTop g) s₂ ∧ s₂.status = .running ∧ Ended s₂ below o ∧ ∃ v L, o = .returned v ∧ ((∀ q ∈ L, Dm fp s.heap.size q.base) ∧ ∃ os', Hp Z a0 dm fp s.heap s₂.heap os' ∧ Post v os') ∧ FrameEnd s o s₂ L R.cells R.slots
/-- a body's contract -/
def Pays (l : Launch) (Z : State) (a0 : Array Value) (y : MethodName) (bytes : ByteArray) (ml : Nat) (ret : Option FieldType) (R : Room) (args : Array Value) (os : Hs) (fp : List Addr) (Post : Option Value → Hs → Prop) : Prop :=
  ∀ (ws : List Jvm.Cond) (h0 : Heap), Hq Z a0 h0 os → MetFree l y (head1 (Jvm.Cond.code y bytes ml ret :: ws) R) (fun a U => a = args ∧ Z.Warmed39 U.vm ∧ U.heap = h0) (fun _ _ _ _ _ => True)
    (fun _ U o U' => ∃ v L, o = .returned v ∧ ((∀ q ∈ L, Dm fp h0.size q.base) ∧ ∃ os', Hp Z a0 (os.map (·.1)) fp h0 U'.heap os' ∧ Post v os') ∧ FrameEnd U o U' L R.cells R.slots)
section Walks
variable {p : Program} {l : Launch} {e : Env} {R : Room} {s : State} {m : MethodId} {args : Array Value} {below : List Frame} {meth : Method} {c : Code} {Z : State} {a0 : Array Value} {y : MethodName} {bytes : ByteArray} {ml : Nat} {ret : Option FieldType} {dm fp fp2 : List Addr} {T T' : State} {k n : Nat} {os : Hs} {Post : Option Value → Hs → Prop} {pc : Nat} {Ls : Array Slot} {st rest : List Value}
theorem Wp.go {g g' : JFrame} (hs : ∀ t, Steps p.tables e below (T'.setTop g') t → Steps p.tables e below (T.setTop g) t) (K : Wp p e below Z a0 dm fp R s Post T' g') : Wp p e below Z a0 dm fp R s Post T g := by
  obtain ⟨s₂, o, h1, r⟩ := K
  exact ⟨s₂, o, hs _ h1, r⟩
theorem Here.hr (A : Here p l e R s m args below meth c Z a0 y bytes ml ret dm fp T k n os) : At T m c below := by obtain ⟨_, X, -⟩ := A; exact X.here
theorem Here.hx (A : Here p l e R s m args below meth c Z a0 y bytes ml ret dm fp T k n os) : p.tables.exec = Jvm.exec := by obtain ⟨_, -, -, -, hx, -⟩ := A; exact hx
theorem Here.hb {r : Except DecodeError (Instr × Nat)} (A : Here p l e R s m args below meth c Z a0 y bytes ml ret dm fp T k n os) (hd : decode bytes pc = r) : decode c.code pc = r := by obtain ⟨_, -, -, -, -, -, hb, -⟩ := A; exact hb ▸ hd
theorem Here.pick {is : List Nat} {os2 : Hs} (A : Here p l e R s m args below meth c Z a0 y bytes ml ret dm fp T k n os) (hn : is.Nodup) (he : is.map (fun i => os[i]?) = os2.map some) : Here p l e R s m args below meth c Z a0 y bytes ml ret dm fp T k n os2 := by
  obtain ⟨locs, X, N, H, r⟩ := A
  exact ⟨locs, X, N, H.pick hn he, r⟩
theorem Here.cast {k2 n2 : Nat} {os2 : Hs} (A : Here p l e R s m args below meth c Z a0 y bytes ml ret dm fp T k n os) (h1 : k = k2) (h2 : n = n2) (h3 : os = os2) : Here p l e R s m args below meth c Z a0 y bytes ml ret dm fp T k2 n2 os2 := by
  subst h1 h2 h3
  exact A
theorem Here.more {k2 n2 : Nat} (A : Here p l e R s m args below meth c Z a0 y bytes ml ret dm fp T k n os) (h1 : k ≤ k2) (h2 : n ≤ n2) : Here p l e R s m args below meth c Z a0 y bytes ml ret dm fp T k2 n2 os := by
  obtain ⟨locs, X, r⟩ := A
  exact ⟨locs, X.more h1 h2, r⟩
theorem Here.irem {x z : Int32} (A : Here p l e R s m args below meth c Z a0 y bytes ml ret dm fp T k n os) (hd : decode bytes pc = .ok (.irem, 1)) (hz : z ≠ 0) {qn : Nat} (hq : pc + 1 = qn)
    (K : Wp p e below Z a0 dm fp R s Post T (mkF m qn Ls (.int (x % z) :: rest))) : Wp p e below Z a0 dm fp R s Post T (mkF m pc Ls (.int z :: .int x :: rest)) := by
  subst hq
  have q := irem_eq_mod x z
  exact Wp.go (fun t kt => XS.irem A.hr A.hx rfl (A.hb hd) rfl hz (by rw [q]; exact kt)) K
theorem lrem_eq (x z : Int64) : x - (x / z) * z = x % z := by
  apply Int64.toInt_inj.mp
  rw [Jvm.Kit.i64_rem, Int64.toInt_mod]
theorem Here.lrem {x z : Int64} (A : Here p l e R s m args below meth c Z a0 y bytes ml ret dm fp T k n os) (hd : decode bytes pc = .ok (.lrem, 1)) (hz : z ≠ 0) {qn : Nat} (hq : pc + 1 = qn)
    (K : Wp p e below Z a0 dm fp R s Post T (mkF m qn Ls (.long (x % z) :: rest))) : Wp p e below Z a0 dm fp R s Post T (mkF m pc Ls (.long z :: .long x :: rest)) := by
  subst hq
  have q := lrem_eq x z
  exact Wp.go (fun t kt => XS.lrem A.hr A.hx rfl (A.hb hd) rfl hz (by rw [q]; exact kt)) K
theorem Pays.of (hpl : plainFor y = true) (hef : ∀ m, entryFrame m args ml = mkF m 0 Ls [])
    (body : ∀ p e s m below meth c T, Here p l e R s m args below meth c Z a0 y bytes ml ret (os.map (·.1)) fp T 0 0 os → Wp p e below Z a0 (os.map (·.1)) fp R s Post T (mkF m 0 Ls [])) : Pays l Z a0 y bytes ml ret R args os fp Post := by
  intro ws h0 hq
  refine MetFree.of_bodySF hpl hisR ?_
  intro p e s m args' below meth c s₁ Bd hml0 hP hK
  obtain ⟨rfl, hZ, hh⟩ := hP
  have X0 : Stand p l e R s m args' below meth c s₁ [] 0 0 := Stand.of_body Bd
  have e0 : s₁.heap = s.heap := by rw [Bd.state]; rfl
  subst hh
  obtain ⟨s₂, o, h1, h2, h3, h4⟩ := body p e s m below meth c s₁ ⟨[], X0, fun _ q => (nomatch q), by rw [e0]; exact Hp.start hq, Bd.exec, hZ, Bd.bytes, hml0, findClass_of_methodNamed Bd.named, (name_of_methodNamed Bd.named Bd.method).1, Bd.returns, Bd.notSynchronized⟩
  exact ⟨s₂, o, castTop (hef m) h1, h2, h3, h4⟩
theorem Here.fin {v : Option Value} {g : JFrame} (A : Here p l e R s m args below meth c Z a0 y bytes ml ret dm fp T k n os) (hv : ret = none → v = none) (hk : k ≤ R.cells) (hn : n ≤ R.slots) (hP : Post v os)
    (hs : ∀ (locs : List Loc), Stand p l e R s m args below meth c T locs k n → meth.sig.returnType = ret → ∀ fs : List Frame, (∀ (f : JFrame) (acts : List Action), f.method = m → f.locked = none → f.entered = [] → (doReturn e (T.setTop f) acts v).1 = T.setFrames fs) → Steps p.tables e below (T.setTop g) (T.setFrames fs)) :
    Wp p e below Z a0 dm fp R s Post T g := by
  obtain ⟨locs, X, N, H, hx, hZ, hb, hml, hown, hnm, hret, hlk⟩ := A
  obtain ⟨fs, hr, hrun, hended, hW, hsame⟩ := X.leave (v := v) (fun h => hv (hret ▸ h)) hlk
  exact ⟨_, _, hs locs X hret fs hr, hrun, hended, v, locs, rfl, ⟨N, os, H, hP⟩, ⟨_, rfl⟩, hW, hsame.mono hk hn⟩
theorem Here.retV (A : Here p l e R s m args below meth c Z a0 y bytes ml none dm fp T k n os) (hd : decode bytes pc = .ok (.return_, 1)) (hk : k ≤ R.cells) (hn : n ≤ R.slots) (hP : Post none os) : Wp p e below Z a0 dm fp R s Post T (mkF m pc Ls []) :=
  A.fin (v := none) (fun _ => rfl) hk hn hP fun _ X hret _ hr => X.returnOut A.hx hret (A.hb hd) hr
theorem Here.retT {w : Value} {t : FieldType} {i : Instr} (A : Here p l e R s m args below meth c Z a0 y bytes ml (some t) dm fp T k n os) (hd : decode bytes pc = .ok (i, 1)) (hw : narrow t w = w)
    (hi : (i = .ireturn ∧ (t = .int ∨ t = .boolean ∨ t = .byte ∨ t = .char ∨ t = .short) ∧ ∃ z, w = .int z) ∨ (i = .lreturn ∧ t = .long ∧ ∃ z, w = .long z) ∨ (i = .dreturn ∧ t = .double ∧ ∃ z, w = .double z) ∨ (i = .freturn ∧ t = .float ∧ ∃ z, w = .float z) ∨ (i = .areturn ∧ t.isReference = true ∧ w.isRef = true))
    (hk : k ≤ R.cells) (hn : n ≤ R.slots) (hP : Post (some w) os) : Wp p e below Z a0 dm fp R s Post T (mkF m pc Ls (w :: rest)) :=
  A.fin (v := some w) (fun h => by cases h) hk hn hP fun _ X hret _ hr => retOut X A.hx hret hw hi (A.hb hd) hr
theorem Here.retI {z : Int32} (A : Here p l e R s m args below meth c Z a0 y bytes ml (some .int) dm fp T k n os) (hd : decode bytes pc = .ok (.ireturn, 1)) (hk : k ≤ R.cells) (hn : n ≤ R.slots) (hP : Post (some (.int z)) os) : Wp p e below Z a0 dm fp R s Post T (mkF m pc Ls (.int z :: rest)) :=
  A.retT hd rfl (Or.inl ⟨rfl, Or.inl rfl, z, rfl⟩) hk hn hP
theorem Here.retJ {z : Int64} (A : Here p l e R s m args below meth c Z a0 y bytes ml (some .long) dm fp T k n os) (hd : decode bytes pc = .ok (.lreturn, 1)) (hk : k ≤ R.cells) (hn : n ≤ R.slots) (hP : Post (some (.long z)) os) : Wp p e below Z a0 dm fp R s Post T (mkF m pc Ls (.long z :: rest)) :=
  A.retT hd rfl (Or.inr (Or.inl ⟨rfl, rfl, z, rfl⟩)) hk hn hP
theorem Here.retR {a : Addr} {t : FieldType} (A : Here p l e R s m args below meth c Z a0 y bytes ml (some t) dm fp T k n os) (hd : decode bytes pc = .ok (.areturn, 1)) (ht : t.isReference = true) (hk : k ≤ R.cells) (hn : n ≤ R.slots) (hP : Post (some (.ref a)) os) : Wp p e below Z a0 dm fp R s Post T (mkF m pc Ls (.ref a :: rest)) :=
  A.retT hd (by cases t <;> first | rfl | (cases ht)) (Or.inr (Or.inr (Or.inr (Or.inr ⟨rfl, ht, rfl⟩)))) hk hn hP
/-- of a boolean, byte, char, short: what comes out is narrowed -/
theorem Here.retN {z : Int32} {t : FieldType} (A : Here p l e R s m args below meth c Z a0 y bytes ml (some t) dm fp T k n os) (ht : t = .boolean ∨ t = .byte ∨ t = .char ∨ t = .short) (hd : decode bytes pc = .ok (.ireturn, 1)) (hk : k ≤ R.cells) (hn : n ≤ R.slots) (hP : Post (some (.int (nar t z))) os) : Wp p e below Z a0 dm fp R s Post T (mkF m pc Ls (.int z :: rest)) :=
  A.fin (v := some (.int (nar t z))) (fun h => by cases h) hk hn hP fun _ X hret _ hr => RoadKit.retN X A.hx hret ht (A.hb hd) hr
/-! single instructions (printed by mkops.py) -/
theorem Here.iloadN {j : Fin 4} {v : Int32} {q : Nat} (A : Here p l e R s m args below meth c Z a0 y bytes ml ret dm fp T k n os) (hd : decode bytes pc = .ok (.iload_n j, 1)) (hl : Ls[j.val]? = some (.val (.int v))) (hq : pc + 1 = q) (K : Wp p e below Z a0 dm fp R s Post T (mkF m q Ls (.int v :: st))) : Wp p e below Z a0 dm fp R s Post T (mkF m pc Ls st) := by
  subst hq
  exact Wp.go (fun t kt => XS.iloadN A.hr A.hx rfl (A.hb hd) hl kt) K
theorem Here.iload {j : Nat} {v : Int32} {q : Nat} (A : Here p l e R s m args below meth c Z a0 y bytes ml ret dm fp T k n os) (hd : decode bytes pc = .ok (.iload j, 2)) (hl : Ls[j]? = some (.val (.int v))) (hq : pc + 2 = q) (K : Wp p e below Z a0 dm fp R s Post T (mkF m q Ls (.int v :: st))) : Wp p e below Z a0 dm fp R s Post T (mkF m pc Ls st) := by
  subst hq
  exact Wp.go (fun t kt => XS.iload A.hr A.hx rfl (A.hb hd) hl kt) K
theorem Here.istoreN {j : Fin 4} {v : Int32} {l' : Array Slot} {q : Nat} (A : Here p l e R s m args below meth c Z a0 y bytes ml ret dm fp T k n os) (hd : decode bytes pc = .ok (.istore_n j, 1)) (hl : storeLocals Ls j.val (.int v) = some l') (hq : pc + 1 = q) (K : Wp p e below Z a0 dm fp R s Post T (mkF m q l' rest)) : Wp p e below Z a0 dm fp R s Post T (mkF m pc Ls (.int v :: rest)) := by
  subst hq
  exact Wp.go (fun t kt => XS.istoreN A.hr A.hx rfl (A.hb hd) rfl hl kt) K
theorem Here.istore {j : Nat} {v : Int32} {l' : Array Slot} {q : Nat} (A : Here p l e R s m args below meth c Z a0 y bytes ml ret dm fp T k n os) (hd : decode bytes pc = .ok (.istore j, 2)) (hl : storeLocals Ls j (.int v) = some l') (hq : pc + 2 = q) (K : Wp p e below Z a0 dm fp R s Post T (mkF m q l' rest)) : Wp p e below Z a0 dm fp R s Post T (mkF m pc Ls (.int v :: rest)) := by
  subst hq
  exact Wp.go (fun t kt => XS.istore A.hr A.hx rfl (A.hb hd) rfl hl kt) K
theorem Here.lloadN {j : Fin 4} {v : Int64} {q : Nat} (A : Here p l e R s m args below meth c Z a0 y bytes ml ret dm fp T k n os) (hd : decode bytes pc = .ok (.lload_n j, 1)) (hl : Ls[j.val]? = some (.val (.long v))) (hq : pc + 1 = q) (K : Wp p e below Z a0 dm fp R s Post T (mkF m q Ls (.long v :: st))) : Wp p e below Z a0 dm fp R s Post T (mkF m pc Ls st) := by
  subst hq
  exact Wp.go (fun t kt => XS.lloadN A.hr A.hx rfl (A.hb hd) hl kt) K
theorem Here.lload {j : Nat} {v : Int64} {q : Nat} (A : Here p l e R s m args below meth c Z a0 y bytes ml ret dm fp T k n os) (hd : decode bytes pc = .ok (.lload j, 2)) (hl : Ls[j]? = some (.val (.long v))) (hq : pc + 2 = q) (K : Wp p e below Z a0 dm fp R s Post T (mkF m q Ls (.long v :: st))) : Wp p e below Z a0 dm fp R s Post T (mkF m pc Ls st) := by
  subst hq
  exact Wp.go (fun t kt => XS.lload A.hr A.hx rfl (A.hb hd) hl kt) K
theorem Here.lstoreN {j : Fin 4} {v : Int64} {l' : Array Slot} {q : Nat} (A : Here p l e R s m args below meth c Z a0 y bytes ml ret dm fp T k n os) (hd : decode bytes pc = .ok (.lstore_n j, 1)) (hl : storeLocals Ls j.val (.long v) = some l') (hq : pc + 1 = q) (K : Wp p e below Z a0 dm fp R s Post T (mkF m q l' rest)) : Wp p e below Z a0 dm fp R s Post T (mkF m pc Ls (.long v :: rest)) := by
  subst hq
  exact Wp.go (fun t kt => XS.lstoreN A.hr A.hx rfl (A.hb hd) rfl hl kt) K
theorem Here.lstore {j : Nat} {v : Int64} {l' : Array Slot} {q : Nat} (A : Here p l e R s m args below meth c Z a0 y bytes ml ret dm fp T k n os) (hd : decode bytes pc = .ok (.lstore j, 2)) (hl : storeLocals Ls j (.long v) = some l') (hq : pc + 2 = q) (K : Wp p e below Z a0 dm fp R s Post T (mkF m q l' rest)) : Wp p e below Z a0 dm fp R s Post T (mkF m pc Ls (.long v :: rest)) := by
  subst hq
  exact Wp.go (fun t kt => XS.lstore A.hr A.hx rfl (A.hb hd) rfl hl kt) K
theorem Here.aloadN {j : Fin 4} {v : Value} {q : Nat} (A : Here p l e R s m args below meth c Z a0 y bytes ml ret dm fp T k n os) (hd : decode bytes pc = .ok (.aload_n j, 1)) (hl : Ls[j.val]? = some (.val v)) (hv : v.isRef = true) (hq : pc + 1 = q) (K : Wp p e below Z a0 dm fp R s Post T (mkF m q Ls (v :: st))) : Wp p e below Z a0 dm fp R s Post T (mkF m pc Ls st) := by
  subst hq
  exact Wp.go (fun t kt => XS.aloadN A.hr A.hx rfl (A.hb hd) hl hv kt) K
theorem Here.aload {j : Nat} {v : Value} {q : Nat} (A : Here p l e R s m args below meth c Z a0 y bytes ml ret dm fp T k n os) (hd : decode bytes pc = .ok (.aload j, 2)) (hl : Ls[j]? = some (.val v)) (hv : v.isRef = true) (hq : pc + 2 = q) (K : Wp p e below Z a0 dm fp R s Post T (mkF m q Ls (v :: st))) : Wp p e below Z a0 dm fp R s Post T (mkF m pc Ls st) := by
  subst hq
  exact Wp.go (fun t kt => XS.aload A.hr A.hx rfl (A.hb hd) hl hv kt) K
theorem Here.astoreN {j : Fin 4} {v : Value} {l' : Array Slot} {q : Nat} (A : Here p l e R s m args below meth c Z a0 y bytes ml ret dm fp T k n os) (hd : decode bytes pc = .ok (.astore_n j, 1)) (hv : v.isRef = true) (hl : storeLocals Ls j.val v = some l') (hq : pc + 1 = q) (K : Wp p e below Z a0 dm fp R s Post T (mkF m q l' rest)) : Wp p e below Z a0 dm fp R s Post T (mkF m pc Ls (v :: rest)) := by
  subst hq
  exact Wp.go (fun t kt => XS.astoreN A.hr A.hx rfl (A.hb hd) rfl hv hl kt) K
theorem Here.astore {j : Nat} {v : Value} {l' : Array Slot} {q : Nat} (A : Here p l e R s m args below meth c Z a0 y bytes ml ret dm fp T k n os) (hd : decode bytes pc = .ok (.astore j, 2)) (hv : v.isRef = true) (hl : storeLocals Ls j v = some l') (hq : pc + 2 = q) (K : Wp p e below Z a0 dm fp R s Post T (mkF m q l' rest)) : Wp p e below Z a0 dm fp R s Post T (mkF m pc Ls (v :: rest)) := by
  subst hq
  exact Wp.go (fun t kt => XS.astore A.hr A.hx rfl (A.hb hd) rfl hv hl kt) K
theorem Here.iconst {i : Int} {v : Int32} {q : Nat} (A : Here p l e R s m args below meth c Z a0 y bytes ml ret dm fp T k n os) (hd : decode bytes pc = .ok (.iconst i, 1)) (hv : Int32.ofInt i = v) (hq : pc + 1 = q) (K : Wp p e below Z a0 dm fp R s Post T (mkF m q Ls (.int v :: st))) : Wp p e below Z a0 dm fp R s Post T (mkF m pc Ls st) := by
  subst hq hv
  exact Wp.go (fun t kt => XS.iconst A.hr A.hx rfl (A.hb hd) kt) K
theorem Here.bipush {i : Int} {v : Int32} {q : Nat} (A : Here p l e R s m args below meth c Z a0 y bytes ml ret dm fp T k n os) (hd : decode bytes pc = .ok (.bipush i, 2)) (hv : (Int8.ofInt i).toInt32 = v) (hq : pc + 2 = q) (K : Wp p e below Z a0 dm fp R s Post T (mkF m q Ls (.int v :: st))) : Wp p e below Z a0 dm fp R s Post T (mkF m pc Ls st) := by
  subst hq hv
  exact Wp.go (fun t kt => XS.bipush A.hr A.hx rfl (A.hb hd) kt) K
theorem Here.sipush {i : Int} {v : Int32} {q : Nat} (A : Here p l e R s m args below meth c Z a0 y bytes ml ret dm fp T k n os) (hd : decode bytes pc = .ok (.sipush i, 3)) (hv : (Int16.ofInt i).toInt32 = v) (hq : pc + 3 = q) (K : Wp p e below Z a0 dm fp R s Post T (mkF m q Ls (.int v :: st))) : Wp p e below Z a0 dm fp R s Post T (mkF m pc Ls st) := by
  subst hq hv
  exact Wp.go (fun t kt => XS.sipush A.hr A.hx rfl (A.hb hd) kt) K
theorem Here.lconst {i : Fin 2} {v : Int64} {q : Nat} (A : Here p l e R s m args below meth c Z a0 y bytes ml ret dm fp T k n os) (hd : decode bytes pc = .ok (.lconst i, 1)) (hv : Int64.ofNat i.val = v) (hq : pc + 1 = q) (K : Wp p e below Z a0 dm fp R s Post T (mkF m q Ls (.long v :: st))) : Wp p e below Z a0 dm fp R s Post T (mkF m pc Ls st) := by
  subst hq hv
  exact Wp.go (fun t kt => XS.lconst A.hr A.hx rfl (A.hb hd) kt) K
theorem Here.aconstNull  {q : Nat} (A : Here p l e R s m args below meth c Z a0 y bytes ml ret dm fp T k n os) (hd : decode bytes pc = .ok (.aconst_null, 1)) (hq : pc + 1 = q) (K : Wp p e below Z a0 dm fp R s Post T (mkF m q Ls (.null :: st))) : Wp p e below Z a0 dm fp R s Post T (mkF m pc Ls st) := by
  subst hq
  exact Wp.go (fun t kt => XS.aconstNull A.hr A.hx rfl (A.hb hd)  kt) K
theorem Here.iadd {x z : Int32} {q : Nat} (A : Here p l e R s m args below meth c Z a0 y bytes ml ret dm fp T k n os) (hd : decode bytes pc = .ok (.iadd, 1)) (hq : pc + 1 = q) (K : Wp p e below Z a0 dm fp R s Post T (mkF m q Ls (.int (x + z) :: rest))) : Wp p e below Z a0 dm fp R s Post T (mkF m pc Ls (.int z :: .int x :: rest)) := by
  subst hq
  exact Wp.go (fun t kt => XS.iadd A.hr A.hx rfl (A.hb hd) rfl kt) K
theorem Here.ladd {x z : Int64} {q : Nat} (A : Here p l e R s m args below meth c Z a0 y bytes ml ret dm fp T k n os) (hd : decode bytes pc = .ok (.ladd, 1)) (hq : pc + 1 = q) (K : Wp p e below Z a0 dm fp R s Post T (mkF m q Ls (.long (x + z) :: rest))) : Wp p e below Z a0 dm fp R s Post T (mkF m pc Ls (.long z :: .long x :: rest)) := by
  subst hq
  exact Wp.go (fun t kt => XS.ladd A.hr A.hx rfl (A.hb hd) rfl kt) K
theorem Here.isub {x z : Int32} {q : Nat} (A : Here p l e R s m args below meth c Z a0 y bytes ml ret dm fp T k n os) (hd : decode bytes pc = .ok (.isub, 1)) (hq : pc + 1 = q) (K : Wp p e below Z a0 dm fp R s Post T (mkF m q Ls (.int (x - z) :: rest))) : Wp p e below Z a0 dm fp R s Post T (mkF m pc Ls (.int z :: .int x :: rest)) := by
  subst hq
  exact Wp.go (fun t kt => XS.isub A.hr A.hx rfl (A.hb hd) rfl kt) K
theorem Here.lsub {x z : Int64} {q : Nat} (A : Here p l e R s m args below meth c Z a0 y bytes ml ret dm fp T k n os) (hd : decode bytes pc = .ok (.lsub, 1)) (hq : pc + 1 = q) (K : Wp p e below Z a0 dm fp R s Post T (mkF m q Ls (.long (x - z) :: rest))) : Wp p e below Z a0 dm fp R s Post T (mkF m pc Ls (.long z :: .long x :: rest)) := by
  subst hq
  exact Wp.go (fun t kt => XS.lsub A.hr A.hx rfl (A.hb hd) rfl kt) K
theorem Here.imul {x z : Int32} {q : Nat} (A : Here p l e R s m args below meth c Z a0 y bytes ml ret dm fp T k n os) (hd : decode bytes pc = .ok (.imul, 1)) (hq : pc + 1 = q) (K : Wp p e below Z a0 dm fp R s Post T (mkF m q Ls (.int (x * z) :: rest))) : Wp p e below Z a0 dm fp R s Post T (mkF m pc Ls (.int z :: .int x :: rest)) := by
  subst hq
  exact Wp.go (fun t kt => XS.imul A.hr A.hx rfl (A.hb hd) rfl kt) K
theorem Here.lmul {x z : Int64} {q : Nat} (A : Here p l e R s m args below meth c Z a0 y bytes ml ret dm fp T k n os) (hd : decode bytes pc = .ok (.lmul, 1)) (hq : pc + 1 = q) (K : Wp p e below Z a0 dm fp R s Post T (mkF m q Ls (.long (x * z) :: rest))) : Wp p e below Z a0 dm fp R s Post T (mkF m pc Ls (.long z :: .long x :: rest)) := by
  subst hq
  exact Wp.go (fun t kt => XS.lmul A.hr A.hx rfl (A.hb hd) rfl kt) K
theorem Here.iand {x z : Int32} {q : Nat} (A : Here p l e R s m args below meth c Z a0 y bytes ml ret dm fp T k n os) (hd : decode bytes pc = .ok (.iand, 1)) (hq : pc + 1 = q) (K : Wp p e below Z a0 dm fp R s Post T (mkF m q Ls (.int (x &&& z) :: rest))) : Wp p e below Z a0 dm fp R s Post T (mkF m pc Ls (.int z :: .int x :: rest)) := by
  subst hq
  exact Wp.go (fun t kt => XS.iand A.hr A.hx rfl (A.hb hd) rfl kt) K
theorem Here.land {x z : Int64} {q : Nat} (A : Here p l e R s m args below meth c Z a0 y bytes ml ret dm fp T k n os) (hd : decode bytes pc = .ok (.land, 1)) (hq : pc + 1 = q) (K : Wp p e below Z a0 dm fp R s Post T (mkF m q Ls (.long (x &&& z) :: rest))) : Wp p e below Z a0 dm fp R s Post T (mkF m pc Ls (.long z :: .long x :: rest)) := by
  subst hq
  exact Wp.go (fun t kt => XS.land A.hr A.hx rfl (A.hb hd) rfl kt) K
theorem Here.ior {x z : Int32} {q : Nat} (A : Here p l e R s m args below meth c Z a0 y bytes ml ret dm fp T k n os) (hd : decode bytes pc = .ok (.ior, 1)) (hq : pc + 1 = q) (K : Wp p e below Z a0 dm fp R s Post T (mkF m q Ls (.int (x ||| z) :: rest))) : Wp p e below Z a0 dm fp R s Post T (mkF m pc Ls (.int z :: .int x :: rest)) := by
  subst hq
  exact Wp.go (fun t kt => XS.ior A.hr A.hx rfl (A.hb hd) rfl kt) K
theorem Here.lor {x z : Int64} {q : Nat} (A : Here p l e R s m args below meth c Z a0 y bytes ml ret dm fp T k n os) (hd : decode bytes pc = .ok (.lor, 1)) (hq : pc + 1 = q) (K : Wp p e below Z a0 dm fp R s Post T (mkF m q Ls (.long (x ||| z) :: rest))) : Wp p e below Z a0 dm fp R s Post T (mkF m pc Ls (.long z :: .long x :: rest)) := by
  subst hq
  exact Wp.go (fun t kt => XS.lor A.hr A.hx rfl (A.hb hd) rfl kt) K
theorem Here.ixor {x z : Int32} {q : Nat} (A : Here p l e R s m args below meth c Z a0 y bytes ml ret dm fp T k n os) (hd : decode bytes pc = .ok (.ixor, 1)) (hq : pc + 1 = q) (K : Wp p e below Z a0 dm fp R s Post T (mkF m q Ls (.int (x ^^^ z) :: rest))) : Wp p e below Z a0 dm fp R s Post T (mkF m pc Ls (.int z :: .int x :: rest)) := by
  subst hq
  exact Wp.go (fun t kt => XS.ixor A.hr A.hx rfl (A.hb hd) rfl kt) K
theorem Here.lxor {x z : Int64} {q : Nat} (A : Here p l e R s m args below meth c Z a0 y bytes ml ret dm fp T k n os) (hd : decode bytes pc = .ok (.lxor, 1)) (hq : pc + 1 = q) (K : Wp p e below Z a0 dm fp R s Post T (mkF m q Ls (.long (x ^^^ z) :: rest))) : Wp p e below Z a0 dm fp R s Post T (mkF m pc Ls (.long z :: .long x :: rest)) := by
  subst hq
  exact Wp.go (fun t kt => XS.lxor A.hr A.hx rfl (A.hb hd) rfl kt) K
theorem Here.idiv {x z : Int32} {q : Nat} (A : Here p l e R s m args below meth c Z a0 y bytes ml ret dm fp T k n os) (hd : decode bytes pc = .ok (.idiv, 1)) (hz : z ≠ 0) (hq : pc + 1 = q) (K : Wp p e below Z a0 dm fp R s Post T (mkF m q Ls (.int (x / z) :: rest))) : Wp p e below Z a0 dm fp R s Post T (mkF m pc Ls (.int z :: .int x :: rest)) := by
  subst hq
  exact Wp.go (fun t kt => XS.idiv A.hr A.hx rfl (A.hb hd) rfl hz kt) K
theorem Here.ineg {x : Int32} {q : Nat} (A : Here p l e R s m args below meth c Z a0 y bytes ml ret dm fp T k n os) (hd : decode bytes pc = .ok (.ineg, 1)) (hq : pc + 1 = q) (K : Wp p e below Z a0 dm fp R s Post T (mkF m q Ls (.int (-x) :: rest))) : Wp p e below Z a0 dm fp R s Post T (mkF m pc Ls (.int x :: rest)) := by
  subst hq
  exact Wp.go (fun t kt => XS.ineg A.hr A.hx rfl (A.hb hd) rfl kt) K
theorem Here.ldiv {x z : Int64} {q : Nat} (A : Here p l e R s m args below meth c Z a0 y bytes ml ret dm fp T k n os) (hd : decode bytes pc = .ok (.ldiv, 1)) (hz : z ≠ 0) (hq : pc + 1 = q) (K : Wp p e below Z a0 dm fp R s Post T (mkF m q Ls (.long (x / z) :: rest))) : Wp p e below Z a0 dm fp R s Post T (mkF m pc Ls (.long z :: .long x :: rest)) := by
  subst hq
  exact Wp.go (fun t kt => XS.ldiv A.hr A.hx rfl (A.hb hd) rfl hz kt) K
theorem Here.lneg {x : Int64} {q : Nat} (A : Here p l e R s m args below meth c Z a0 y bytes ml ret dm fp T k n os) (hd : decode bytes pc = .ok (.lneg, 1)) (hq : pc + 1 = q) (K : Wp p e below Z a0 dm fp R s Post T (mkF m q Ls (.long (-x) :: rest))) : Wp p e below Z a0 dm fp R s Post T (mkF m pc Ls (.long x :: rest)) := by
  subst hq
  exact Wp.go (fun t kt => XS.lneg A.hr A.hx rfl (A.hb hd) rfl kt) K
theorem Here.i2l {x : Int32} {q : Nat} (A : Here p l e R s m args below meth c Z a0 y bytes ml ret dm fp T k n os) (hd : decode bytes pc = .ok (.i2l, 1)) (hq : pc + 1 = q) (K : Wp p e below Z a0 dm fp R s Post T (mkF m q Ls (.long (x.toInt64) :: rest))) : Wp p e below Z a0 dm fp R s Post T (mkF m pc Ls (.int x :: rest)) := by
  subst hq
  exact Wp.go (fun t kt => XS.i2l A.hr A.hx rfl (A.hb hd) rfl kt) K
theorem Here.l2i {x : Int64} {q : Nat} (A : Here p l e R s m args below meth c Z a0 y bytes ml ret dm fp T k n os) (hd : decode bytes pc = .ok (.l2i, 1)) (hq : pc + 1 = q) (K : Wp p e below Z a0 dm fp R s Post T (mkF m q Ls (.int (x.toInt32) :: rest))) : Wp p e below Z a0 dm fp R s Post T (mkF m pc Ls (.long x :: rest)) := by
  subst hq
  exact Wp.go (fun t kt => XS.l2i A.hr A.hx rfl (A.hb hd) rfl kt) K
theorem Here.i2b {x : Int32} {q : Nat} (A : Here p l e R s m args below meth c Z a0 y bytes ml ret dm fp T k n os) (hd : decode bytes pc = .ok (.i2b, 1)) (hq : pc + 1 = q) (K : Wp p e below Z a0 dm fp R s Post T (mkF m q Ls (.int (x.toInt8.toInt32) :: rest))) : Wp p e below Z a0 dm fp R s Post T (mkF m pc Ls (.int x :: rest)) := by
  subst hq
  exact Wp.go (fun t kt => XS.i2b A.hr A.hx rfl (A.hb hd) rfl kt) K
theorem Here.i2s {x : Int32} {q : Nat} (A : Here p l e R s m args below meth c Z a0 y bytes ml ret dm fp T k n os) (hd : decode bytes pc = .ok (.i2s, 1)) (hq : pc + 1 = q) (K : Wp p e below Z a0 dm fp R s Post T (mkF m q Ls (.int (x.toInt16.toInt32) :: rest))) : Wp p e below Z a0 dm fp R s Post T (mkF m pc Ls (.int x :: rest)) := by
  subst hq
  exact Wp.go (fun t kt => XS.i2s A.hr A.hx rfl (A.hb hd) rfl kt) K
theorem Here.i2c {x : Int32} {q : Nat} (A : Here p l e R s m args below meth c Z a0 y bytes ml ret dm fp T k n os) (hd : decode bytes pc = .ok (.i2c, 1)) (hq : pc + 1 = q) (K : Wp p e below Z a0 dm fp R s Post T (mkF m q Ls (.int (x.toUInt32.toUInt16.toUInt32.toInt32) :: rest))) : Wp p e below Z a0 dm fp R s Post T (mkF m pc Ls (.int x :: rest)) := by
  subst hq
  exact Wp.go (fun t kt => XS.i2c A.hr A.hx rfl (A.hb hd) rfl kt) K
theorem Here.ishl {x : Int32} {z : Int32} {q : Nat} (A : Here p l e R s m args below meth c Z a0 y bytes ml ret dm fp T k n os) (hd : decode bytes pc = .ok (.ishl, 1)) (hq : pc + 1 = q) (K : Wp p e below Z a0 dm fp R s Post T (mkF m q Ls (.int (x <<< (z &&& 31)) :: rest))) : Wp p e below Z a0 dm fp R s Post T (mkF m pc Ls (.int z :: .int x :: rest)) := by
  subst hq
  exact Wp.go (fun t kt => XS.ishl A.hr A.hx rfl (A.hb hd) rfl kt) K
theorem Here.ishr {x : Int32} {z : Int32} {q : Nat} (A : Here p l e R s m args below meth c Z a0 y bytes ml ret dm fp T k n os) (hd : decode bytes pc = .ok (.ishr, 1)) (hq : pc + 1 = q) (K : Wp p e below Z a0 dm fp R s Post T (mkF m q Ls (.int (x >>> (z &&& 31)) :: rest))) : Wp p e below Z a0 dm fp R s Post T (mkF m pc Ls (.int z :: .int x :: rest)) := by
  subst hq
  exact Wp.go (fun t kt => XS.ishr A.hr A.hx rfl (A.hb hd) rfl kt) K
theorem Here.iushr {x : Int32} {z : Int32} {q : Nat} (A : Here p l e R s m args below meth c Z a0 y bytes ml ret dm fp T k n os) (hd : decode bytes pc = .ok (.iushr, 1)) (hq : pc + 1 = q) (K : Wp p e below Z a0 dm fp R s Post T (mkF m q Ls (.int ((x.toUInt32 >>> (z &&& 31).toUInt32).toInt32) :: rest))) : Wp p e below Z a0 dm fp R s Post T (mkF m pc Ls (.int z :: .int x :: rest)) := by
  subst hq
  exact Wp.go (fun t kt => XS.iushr A.hr A.hx rfl (A.hb hd) rfl kt) K
theorem Here.lshl {x : Int64} {z : Int32} {q : Nat} (A : Here p l e R s m args below meth c Z a0 y bytes ml ret dm fp T k n os) (hd : decode bytes pc = .ok (.lshl, 1)) (hq : pc + 1 = q) (K : Wp p e below Z a0 dm fp R s Post T (mkF m q Ls (.long (x <<< (z &&& 0x3f).toInt64) :: rest))) : Wp p e below Z a0 dm fp R s Post T (mkF m pc Ls (.int z :: .long x :: rest)) := by
  subst hq
  exact Wp.go (fun t kt => XS.lshl A.hr A.hx rfl (A.hb hd) rfl kt) K
theorem Here.lshr {x : Int64} {z : Int32} {q : Nat} (A : Here p l e R s m args below meth c Z a0 y bytes ml ret dm fp T k n os) (hd : decode bytes pc = .ok (.lshr, 1)) (hq : pc + 1 = q) (K : Wp p e below Z a0 dm fp R s Post T (mkF m q Ls (.long (x >>> (z &&& 0x3f).toInt64) :: rest))) : Wp p e below Z a0 dm fp R s Post T (mkF m pc Ls (.int z :: .long x :: rest)) := by
  subst hq
  exact Wp.go (fun t kt => XS.lshr A.hr A.hx rfl (A.hb hd) rfl kt) K
theorem Here.lushr {x : Int64} {z : Int32} {q : Nat} (A : Here p l e R s m args below meth c Z a0 y bytes ml ret dm fp T k n os) (hd : decode bytes pc = .ok (.lushr, 1)) (hq : pc + 1 = q) (K : Wp p e below Z a0 dm fp R s Post T (mkF m q Ls (.long ((x.toUInt64 >>> (z &&& 0x3f).toInt64.toUInt64).toInt64) :: rest))) : Wp p e below Z a0 dm fp R s Post T (mkF m pc Ls (.int z :: .long x :: rest)) := by
  subst hq
  exact Wp.go (fun t kt => XS.lushr A.hr A.hx rfl (A.hb hd) rfl kt) K
theorem Here.lcmp {x z : Int64} {q : Nat} (A : Here p l e R s m args below meth c Z a0 y bytes ml ret dm fp T k n os) (hd : decode bytes pc = .ok (.lcmp, 1)) (hq : pc + 1 = q) (K : Wp p e below Z a0 dm fp R s Post T (mkF m q Ls (.int (lcmpW x z) :: rest))) : Wp p e below Z a0 dm fp R s Post T (mkF m pc Ls (.long z :: .long x :: rest)) := by
  subst hq
  exact Wp.go (fun t kt => XS.lcmp A.hr A.hx rfl (A.hb hd) rfl kt) K
theorem Here.iinc {j : Nat} {i : Int} {x : Int32} {l' : Array Slot} {q : Nat} (A : Here p l e R s m args below meth c Z a0 y bytes ml ret dm fp T k n os) (hd : decode bytes pc = .ok (.iinc j i, 3)) (hl : Ls[j]? = some (.val (.int x))) (hl' : storeLocals Ls j (.int (x + Int32.ofInt i)) = some l') (hq : pc + 3 = q) (K : Wp p e below Z a0 dm fp R s Post T (mkF m q l' st)) : Wp p e below Z a0 dm fp R s Post T (mkF m pc Ls st) := by
  subst hq
  exact Wp.go (fun t kt => XS.iinc A.hr A.hx rfl (A.hb hd) hl hl' kt) K
theorem Here.dup {v : Value} {q : Nat} (A : Here p l e R s m args below meth c Z a0 y bytes ml ret dm fp T k n os) (hd : decode bytes pc = .ok (.dup, 1)) (hv : v.category = 1) (hq : pc + 1 = q) (K : Wp p e below Z a0 dm fp R s Post T (mkF m q Ls (v :: v :: rest))) : Wp p e below Z a0 dm fp R s Post T (mkF m pc Ls (v :: rest)) := by
  subst hq
  exact Wp.go (fun t kt => XS.dup A.hr A.hx rfl (A.hb hd) rfl hv kt) K
theorem Here.pop {v : Value} {q : Nat} (A : Here p l e R s m args below meth c Z a0 y bytes ml ret dm fp T k n os) (hd : decode bytes pc = .ok (.pop, 1)) (hv : v.category = 1) (hq : pc + 1 = q) (K : Wp p e below Z a0 dm fp R s Post T (mkF m q Ls rest)) : Wp p e below Z a0 dm fp R s Post T (mkF m pc Ls (v :: rest)) := by
  subst hq
  exact Wp.go (fun t kt => XS.pop A.hr A.hx rfl (A.hb hd) rfl hv kt) K
theorem Here.dup_x1 {v w : Value} {q : Nat} (A : Here p l e R s m args below meth c Z a0 y bytes ml ret dm fp T k n os) (hd : decode bytes pc = .ok (.dup_x1, 1)) (hv : v.category = 1) (hw : w.category = 1) (hq : pc + 1 = q) (K : Wp p e below Z a0 dm fp R s Post T (mkF m q Ls (v :: w :: v :: rest))) : Wp p e below Z a0 dm fp R s Post T (mkF m pc Ls (v :: w :: rest)) := by
  subst hq
  exact Wp.go (fun t kt => XS.dupX1 A.hr A.hx rfl (A.hb hd) rfl hv hw kt) K
theorem Here.dup2 {v w : Value} {q : Nat} (A : Here p l e R s m args below meth c Z a0 y bytes ml ret dm fp T k n os) (hd : decode bytes pc = .ok (.dup2, 1)) (hv : v.category = 1) (hw : w.category = 1) (hq : pc + 1 = q) (K : Wp p e below Z a0 dm fp R s Post T (mkF m q Ls (v :: w :: v :: w :: rest))) : Wp p e below Z a0 dm fp R s Post T (mkF m pc Ls (v :: w :: rest)) := by
  subst hq
  exact Wp.go (fun t kt => Jvm.Free.XT.dup2 A.hr A.hx rfl (A.hb hd) rfl hv hw kt) K
theorem Here.dup2L {x : Int64} {q : Nat} (A : Here p l e R s m args below meth c Z a0 y bytes ml ret dm fp T k n os) (hd : decode bytes pc = .ok (.dup2, 1)) (hq : pc + 1 = q) (K : Wp p e below Z a0 dm fp R s Post T (mkF m q Ls (.long x :: .long x :: rest))) : Wp p e below Z a0 dm fp R s Post T (mkF m pc Ls (.long x :: rest)) := by
  subst hq
  exact Wp.go (fun t kt => Jvm.Free.XT.dup2L A.hr A.hx rfl (A.hb hd) rfl kt) K
theorem Here.goto {o : Int} {q : Nat} (A : Here p l e R s m args below meth c Z a0 y bytes ml ret dm fp T k n os) (hd : decode bytes pc = .ok (.goto o, 3)) (ho : 0 ≤ (pc : Int) + o) (hq : ((pc : Int) + o).toNat = q) (K : Wp p e below Z a0 dm fp R s Post T (mkF m q Ls st)) : Wp p e below Z a0 dm fp R s Post T (mkF m pc Ls st) :=
  Wp.go (fun t kt => XS.goto A.hr A.hx rfl (pc0 := pc) (pc' := q) rfl (A.hb hd) ho hq kt) K
theorem Here.ifYes {cd : ClassFile.Cond} {o : Int} {x : Int32} {q : Nat} (A : Here p l e R s m args below meth c Z a0 y bytes ml ret dm fp T k n os) (hd : decode bytes pc = .ok (.ifCond cd o, 3)) (hc : ifCond.holds cd x = true) (ho : 0 ≤ (pc : Int) + o) (hq : ((pc : Int) + o).toNat = q) (K : Wp p e below Z a0 dm fp R s Post T (mkF m q Ls rest)) : Wp p e below Z a0 dm fp R s Post T (mkF m pc Ls (.int x :: rest)) :=
  Wp.go (fun t kt => XS.ifYes A.hr A.hx rfl (pc0 := pc) (pc' := q) rfl (A.hb hd) rfl hc ho hq kt) K
theorem Here.ifNo {cd : ClassFile.Cond} {o : Int} {x : Int32} {q : Nat} (A : Here p l e R s m args below meth c Z a0 y bytes ml ret dm fp T k n os) (hd : decode bytes pc = .ok (.ifCond cd o, 3)) (hc : ifCond.holds cd x = false) (hq : pc + 3 = q) (K : Wp p e below Z a0 dm fp R s Post T (mkF m q Ls rest)) : Wp p e below Z a0 dm fp R s Post T (mkF m pc Ls (.int x :: rest)) := by
  subst hq
  exact Wp.go (fun t kt => XS.ifNo A.hr A.hx rfl (A.hb hd) rfl hc kt) K
theorem Here.icmpYes {cd : ClassFile.Cond} {o : Int} {x z : Int32} {q : Nat} (A : Here p l e R s m args below meth c Z a0 y bytes ml ret dm fp T k n os) (hd : decode bytes pc = .ok (.if_icmp cd o, 3)) (hc : if_icmp.holds cd x z = true) (ho : 0 ≤ (pc : Int) + o) (hq : ((pc : Int) + o).toNat = q) (K : Wp p e below Z a0 dm fp R s Post T (mkF m q Ls rest)) : Wp p e below Z a0 dm fp R s Post T (mkF m pc Ls (.int z :: .int x :: rest)) :=
  Wp.go (fun t kt => XS.icmpYes A.hr A.hx rfl (pc0 := pc) (pc' := q) rfl (A.hb hd) rfl hc ho hq kt) K
theorem Here.icmpNo {cd : ClassFile.Cond} {o : Int} {x z : Int32} {q : Nat} (A : Here p l e R s m args below meth c Z a0 y bytes ml ret dm fp T k n os) (hd : decode bytes pc = .ok (.if_icmp cd o, 3)) (hc : if_icmp.holds cd x z = false) (hq : pc + 3 = q) (K : Wp p e below Z a0 dm fp R s Post T (mkF m q Ls rest)) : Wp p e below Z a0 dm fp R s Post T (mkF m pc Ls (.int z :: .int x :: rest)) := by
  subst hq
  exact Wp.go (fun t kt => XS.icmpNo A.hr A.hx rfl (A.hb hd) rfl hc kt) K
theorem Wp.top {v v' : Value} (h : v = v') (K : Wp p e below Z a0 dm fp R s Post T (mkF m pc Ls (v' :: st))) : Wp p e below Z a0 dm fp R s Post T (mkF m pc Ls (v :: st)) := by
  subst h
  exact K
/-! reads and writes -/
theorem Here.getF {O f d R0 : String} {idx i j : Nat} {a : Addr} {C : String} {fs : List Fd} {v : Value} (A : Here p l e R s m args below meth c Z a0 y bytes ml ret dm fp T k n os) (w : (Jvm.Cond.fieldLink y.cls idx R0 f d).before a0 Z = true) (via : Via Z R0 O f d) (hd : decode bytes pc = .ok (.getfield idx, 3)) (ho : os[i]? = some (a, .inl (C, fs))) (hj : fs[j]? = some (O, f, d, v)) {qn : Nat} (hq : pc + 3 = qn)
    (K : ∀ T', Here p l e R s m args below meth c Z a0 y bytes ml ret dm fp T' k n os → Wp p e below Z a0 dm fp R s Post T' (mkF m qn Ls (v :: rest))) : Wp p e below Z a0 dm fp R s Post T (mkF m pc Ls (.ref a :: rest)) := by
  subst hq
  have A' := A
  obtain ⟨locs, X, N, H, hx, hZ, hb, hml, hown, q⟩ := A
  obtain ⟨T1, X1, e1, st1⟩ := RoadKit.getF X hx hZ hown (host := "") (Or.inl w) via rfl (H.fld ho hj) (g := mkF m pc Ls (.ref a :: rest)) rfl rfl (A'.hb hd)
  exact Wp.go st1 (K T1 ⟨locs, X1, N, by rw [e1]; exact H, hx, hZ, hb, hml, hown, q⟩)
theorem Here.putF {O f d R0 : String} {idx i j kk : Nat} {a : Addr} {C : String} {fs : List Fd} {v old : Value} {ty : FieldType} (A : Here p l e R s m args below meth c Z a0 y bytes ml ret dm fp T k n os) (w : (Jvm.Cond.fieldLink y.cls idx R0 f d).before a0 Z = true) (via : Via Z R0 O f d)
    (hL : (Jvm.Cond.lays C O f d).before a0 Z = true ∨ ((Jvm.Cond.laysFinal C O f d).before a0 Z = true ∧ y.cls = O ∧ y.name = "<init>")) (wi : (Jvm.Cond.instantiable C kk).before a0 Z = true) (hty : parseFieldDescriptor d = some ty) (hnw : narrow ty v = v) (hf : fits ty v = true)
    (hd : decode bytes pc = .ok (.putfield idx, 3)) (ho : os[i]? = some (a, .inl (C, fs))) (hj : fs[j]? = some (O, f, d, old)) (hdf : dm = fp) {qn : Nat} (hq : pc + 3 = qn)
    (K : ∀ T', Here p l e R s m args below meth c Z a0 y bytes ml ret dm fp T' k n (os.set i (a, .inl (C, fs.set j (O, f, d, v)))) → Wp p e below Z a0 dm fp R s Post T' (mkF m qn Ls rest)) : Wp p e below Z a0 dm fp R s Post T (mkF m pc Ls (v :: .ref a :: rest)) := by
  subst hq
  have A' := A
  obtain ⟨locs, X, N, H, hx, hZ, hb, hml, hown, hnm, q⟩ := A
  have hD : Dm fp s.heap.size a := hdf ▸ H.2.1 _ (List.mem_of_getElem? ho)
  obtain ⟨T1, h1, X1, e1, W1, st1⟩ := RoadKit.putF X hx hZ hown (host := "") (Or.inl w) via rfl (H.fld ho hj) (H.exa ho) (hL.imp id fun z => ⟨z.1, z.2.1, hnm.trans z.2.2⟩) wi hty hnw hf (g := mkF m pc Ls (v :: .ref a :: rest)) rfl rfl (A'.hb hd)
  refine Wp.go st1 (K T1 ⟨_, X1, fun q hq => ?_, by rw [e1]; exact H.putf hD ho hj W1, hx, hZ, hb, hml, hown, hnm, q⟩)
  rcases List.mem_append.mp hq with hq | hq
  · exact N q hq
  · cases List.mem_singleton.mp hq; exact hD
theorem Here.putFN {O f d R0 : String} {idx i j kk : Nat} {a : Addr} {C : String} {fs : List Fd} {v v' old : Value} {ty : FieldType} (A : Here p l e R s m args below meth c Z a0 y bytes ml ret dm fp T k n os) (w : (Jvm.Cond.fieldLink y.cls idx R0 f d).before a0 Z = true) (via : Via Z R0 O f d)
    (hL : (Jvm.Cond.lays C O f d).before a0 Z = true ∨ ((Jvm.Cond.laysFinal C O f d).before a0 Z = true ∧ y.cls = O ∧ y.name = "<init>")) (wi : (Jvm.Cond.instantiable C kk).before a0 Z = true) (hty : parseFieldDescriptor d = some ty) (hnw : narrow ty v = v') (hf : fits ty v' = true)
    (hd : decode bytes pc = .ok (.putfield idx, 3)) (ho : os[i]? = some (a, .inl (C, fs))) (hj : fs[j]? = some (O, f, d, old)) (hdf : dm = fp) {qn : Nat} (hq : pc + 3 = qn)
    (K : ∀ T', Here p l e R s m args below meth c Z a0 y bytes ml ret dm fp T' k n (os.set i (a, .inl (C, fs.set j (O, f, d, v')))) → Wp p e below Z a0 dm fp R s Post T' (mkF m qn Ls rest)) : Wp p e below Z a0 dm fp R s Post T (mkF m pc Ls (v :: .ref a :: rest)) := by
  subst hq
  have A' := A
  obtain ⟨locs, X, N, H, hx, hZ, hb, hml, hown, hnm, q⟩ := A
  have hD : Dm fp s.heap.size a := hdf ▸ H.2.1 _ (List.mem_of_getElem? ho)
  obtain ⟨T1, h1, X1, e1, W1, st1⟩ := RoadKit.putFN X hx hZ hown w via rfl (H.fld ho hj) (H.exa ho) (hL.imp id fun z => ⟨z.1, z.2.1, hnm.trans z.2.2⟩) wi hty hnw hf (g := mkF m pc Ls (v :: .ref a :: rest)) rfl rfl (A'.hb hd)
  refine Wp.go st1 (K T1 ⟨_, X1, fun q hq => ?_, by rw [e1]; exact H.putf hD ho hj W1, hx, hZ, hb, hml, hown, hnm, q⟩)
  rcases List.mem_append.mp hq with hq | hq
  · exact N q hq
  · cases List.mem_singleton.mp hq; exact hD
theorem Here.newO {idx nn : Nat} {C : String} {fs : List Fd} (A : Here p l e R s m args below meth c Z a0 y bytes ml ret dm fp T k n os) (w : (Jvm.Cond.classLink y.cls idx C).before a0 Z = true) (wi : (Jvm.Cond.instantiable C nn).before a0 Z = true) (wz : (Jvm.Cond.initialized C).before a0 Z = true) (hd : decode bytes pc = .ok (.new idx, 3)) (hc : k + 1 ≤ R.cells) (hl : n + nn ≤ R.slots)
    (hnd : (fs.map (·.2.1)).Nodup) (hfs : ∀ q ∈ fs, Laid Z a0 C q.1 q.2.1 q.2.2.1 ∧ ∃ t, parseFieldDescriptor q.2.2.1 = some t ∧ q.2.2.2 = defaultValue t) {qn : Nat} (hq : pc + 3 = qn)
    (K : ∀ T' a, Here p l e R s m args below meth c Z a0 y bytes ml ret dm fp T' (k + 1) (n + nn) (os ++ [(a, .inl (C, fs))]) → Wp p e below Z a0 dm fp R s Post T' (mkF m qn Ls (.ref a :: st))) : Wp p e below Z a0 dm fp R s Post T (mkF m pc Ls st) := by
  subst hq
  have A' := A
  obtain ⟨locs, X, N, H, hx, hZ, hb, hml, hown, q⟩ := A
  obtain ⟨T1, h1, X1, e1, E1, A1, D1, -, st1⟩ := RoadKit.newO X hx hZ hown w wi wz rfl (g := mkF m pc Ls st) rfl (A'.hb hd) hc hl
  have F1 : ObAt Z a0 h1 T.heap.size (.inl (C, fs)) := ⟨A1, hnd, fun q hq => by
    obtain ⟨L, t, ht, hv⟩ := hfs q hq
    refine ⟨?_, L, t, ht⟩
    rw [hv]
    exact D1 L ht⟩
  exact Wp.go st1 (K T1 _ ⟨_, X1, N, by rw [e1]; exact H.push E1 F1, hx, hZ, hb, hml, hown, q⟩)
theorem Here.newP {aty : ArrayType} {z : Int32} {cap : Nat} (A : Here p l e R s m args below meth c Z a0 y bytes ml ret dm fp T k n os) (w : (Jvm.Cond.arrayClass (newarray.typeOf aty)).before a0 Z = true) (hd : decode bytes pc = .ok (.newarray aty, 2)) (hz : ¬ z < 0) (hcap : z.toNatClampNeg ≤ cap) (hb8 : cap * 8 ≤ 536870912) (hc : k + 1 ≤ R.cells) (hl : n + cap ≤ R.slots) {qn : Nat} (hq : pc + 2 = qn)
    (K : ∀ T' a, Here p l e R s m args below meth c Z a0 y bytes ml ret dm fp T' (k + 1) (n + cap) (os ++ [(a, .inr (newarray.typeOf aty, List.replicate z.toNatClampNeg (defaultValue (newarray.typeOf aty))))]) → Wp p e below Z a0 dm fp R s Post T' (mkF m qn Ls (.ref a :: st))) : Wp p e below Z a0 dm fp R s Post T (mkF m pc Ls (.int z :: st)) := by
  subst hq
  have A' := A
  obtain ⟨locs, X, N, H, hx, hZ, hb, hml, hown, q⟩ := A
  obtain ⟨T1, h1, cA, X1, e1, E1, A1, B1, st1⟩ := RoadKit.newPE X hx hZ w rfl (g := mkF m pc Ls (.int z :: st)) rfl (A'.hb hd) rfl hz hcap hb8 hc hl rfl
  have F1 : ObAt Z a0 h1 T.heap.size (.inr (newarray.typeOf aty, List.replicate z.toNatClampNeg (defaultValue (newarray.typeOf aty)))) := ⟨_, A1, by simp [newA], B1, fun v hv => by
    rw [(List.mem_replicate.mp hv).2]
    cases aty <;> rfl⟩
  exact Wp.go st1 (K T1 _ ⟨_, X1, N, by rw [e1]; exact H.push E1 F1, hx, hZ, hb, hml, hown, q⟩)
theorem inb {vs : List Value} {cl : Cell} {j : Int32} (e : cl.slots.toList = vs) (hj : ¬ j < 0) (hl : j.toNatClampNeg < vs.length) : ¬ (j < 0 ∨ cl.slots.size ≤ j.toNatClampNeg) := by
  subst e
  rw [Array.length_toList] at hl
  rintro (h | h)
  · exact hj h
  · exact absurd hl (Nat.not_lt.mpr h)
theorem Here.stOf {i : Nat} {a : Addr} {ty : FieldType} {vs : List Value} {j : Int32} {v : Value} {g : JFrame} (hf : fits ty v = true) (A : Here p l e R s m args below meth c Z a0 y bytes ml ret dm fp T k n os) (ho : os[i]? = some (a, .inr (ty, vs))) (hj : ¬ j < 0) (hl : j.toNatClampNeg < vs.length) (hdf : dm = fp)
    (S : ∀ (locs : List Loc) (cl : Cell), Stand p l e R s m args below meth c T locs k n → Arr Z T.heap a cl ty → ¬ (j < 0 ∨ cl.slots.size ≤ j.toNatClampNeg) → ∃ T' h', Stand p l e R s m args below meth c T' (locs ++ [⟨a, j.toNatClampNeg⟩]) k n ∧ T'.heap = h' ∧ Wr T.heap h' a j.toNatClampNeg v ∧ ∀ target, Steps p.tables e below (T'.setTop (mkF m (pc + 1) Ls rest)) target → Steps p.tables e below (T.setTop g) target)
    (K : ∀ T', Here p l e R s m args below meth c Z a0 y bytes ml ret dm fp T' k n (os.set i (a, .inr (ty, vs.set j.toNatClampNeg v))) → Wp p e below Z a0 dm fp R s Post T' (mkF m (pc + 1) Ls rest)) : Wp p e below Z a0 dm fp R s Post T g := by
  obtain ⟨locs, X, N, H, q⟩ := A
  obtain ⟨cl, Ar, ec⟩ := H.arr ho
  have hD : Dm fp s.heap.size a := hdf ▸ H.2.1 _ (List.mem_of_getElem? ho)
  obtain ⟨T1, h1, X1, e1, W1, st1⟩ := S locs cl X Ar (inb ec hj hl)
  refine Wp.go st1 (K T1 ⟨_, X1, fun q hq => ?_, by rw [e1]; exact H.puta hD hf ho W1, q⟩)
  rcases List.mem_append.mp hq with hq | hq
  · exact N q hq
  · cases List.mem_singleton.mp hq; exact hD
theorem Here.hz (A : Here p l e R s m args below meth c Z a0 y bytes ml ret dm fp T k n os) : Z.Warmed39 s.vm := by obtain ⟨_, -, -, -, -, hZ, -⟩ := A; exact hZ
theorem Here.stI {i : Nat} {a : Addr} {vs : List Value} {j x : Int32} (A : Here p l e R s m args below meth c Z a0 y bytes ml ret dm fp T k n os) (hd : decode bytes pc = .ok (.iastore, 1)) (ho : os[i]? = some (a, .inr (.int, vs))) (hj : ¬ j < 0) (hl : j.toNatClampNeg < vs.length) (hdf : dm = fp) {qn : Nat} (hq : pc + 1 = qn)
    (K : ∀ T', Here p l e R s m args below meth c Z a0 y bytes ml ret dm fp T' k n (os.set i (a, .inr (.int, vs.set j.toNatClampNeg (.int x)))) → Wp p e below Z a0 dm fp R s Post T' (mkF m qn Ls rest)) : Wp p e below Z a0 dm fp R s Post T (mkF m pc Ls (.int x :: .int j :: .ref a :: rest)) := by
  subst hq
  exact Here.stOf rfl A ho hj hl hdf (fun _ _ X Ar hin => RoadKit.stI X A.hx A.hz rfl Ar hin (g := mkF m pc Ls (.int x :: .int j :: .ref a :: rest)) rfl rfl (A.hb hd)) K
theorem Here.stJ {i : Nat} {a : Addr} {vs : List Value} {j : Int32} {x : Int64} (A : Here p l e R s m args below meth c Z a0 y bytes ml ret dm fp T k n os) (hd : decode bytes pc = .ok (.lastore, 1)) (ho : os[i]? = some (a, .inr (.long, vs))) (hj : ¬ j < 0) (hl : j.toNatClampNeg < vs.length) (hdf : dm = fp) {qn : Nat} (hq : pc + 1 = qn)
    (K : ∀ T', Here p l e R s m args below meth c Z a0 y bytes ml ret dm fp T' k n (os.set i (a, .inr (.long, vs.set j.toNatClampNeg (.long x)))) → Wp p e below Z a0 dm fp R s Post T' (mkF m qn Ls rest)) : Wp p e below Z a0 dm fp R s Post T (mkF m pc Ls (.long x :: .int j :: .ref a :: rest)) := by
  subst hq
  exact Here.stOf rfl A ho hj hl hdf (fun _ _ X Ar hin => RoadKit.stJ X A.hx A.hz rfl Ar hin (g := mkF m pc Ls (.long x :: .int j :: .ref a :: rest)) rfl rfl (A.hb hd)) K
theorem Here.stC {i : Nat} {a : Addr} {vs : List Value} {j x : Int32} (A : Here p l e R s m args below meth c Z a0 y bytes ml ret dm fp T k n os) (hd : decode bytes pc = .ok (.castore, 1)) (ho : os[i]? = some (a, .inr (.char, vs))) (hj : ¬ j < 0) (hl : j.toNatClampNeg < vs.length) (hdf : dm = fp) {qn : Nat} (hq : pc + 1 = qn)
    (K : ∀ T', Here p l e R s m args below meth c Z a0 y bytes ml ret dm fp T' k n (os.set i (a, .inr (.char, vs.set j.toNatClampNeg (.int (nar .char x))))) → Wp p e below Z a0 dm fp R s Post T' (mkF m qn Ls rest)) : Wp p e below Z a0 dm fp R s Post T (mkF m pc Ls (.int x :: .int j :: .ref a :: rest)) := by
  subst hq
  exact Here.stOf (fits_nar_char _) A ho hj hl hdf (fun _ _ X Ar hin => RoadKit.stC X A.hx A.hz rfl Ar hin (g := mkF m pc Ls (.int x :: .int j :: .ref a :: rest)) rfl rfl (A.hb hd)) K
theorem Here.stB {i : Nat} {a : Addr} {vs : List Value} {j x : Int32} (A : Here p l e R s m args below meth c Z a0 y bytes ml ret dm fp T k n os) (hd : decode bytes pc = .ok (.bastore, 1)) (ho : os[i]? = some (a, .inr (.byte, vs))) (hj : ¬ j < 0) (hl : j.toNatClampNeg < vs.length) (hdf : dm = fp) {qn : Nat} (hq : pc + 1 = qn)
    (K : ∀ T', Here p l e R s m args below meth c Z a0 y bytes ml ret dm fp T' k n (os.set i (a, .inr (.byte, vs.set j.toNatClampNeg (.int (nar .byte x))))) → Wp p e below Z a0 dm fp R s Post T' (mkF m qn Ls rest)) : Wp p e below Z a0 dm fp R s Post T (mkF m pc Ls (.int x :: .int j :: .ref a :: rest)) := by
  subst hq
  exact Here.stOf (fits_nar_byte _) A ho hj hl hdf (fun _ _ X Ar hin => RoadKit.stB X A.hx A.hz rfl Ar hin (g := mkF m pc Ls (.int x :: .int j :: .ref a :: rest)) rfl rfl (A.hb hd)) K
theorem Here.ldOf {i : Nat} {a : Addr} {ty : FieldType} {vs : List Value} {j : Int32} {v : Value} {g g' : JFrame} (A : Here p l e R s m args below meth c Z a0 y bytes ml ret dm fp T k n os) (ho : os[i]? = some (a, .inr (ty, vs))) (hj : ¬ j < 0) (hv : vs[j.toNatClampNeg]? = some v)
    (S : ∀ (locs : List Loc) (cl : Cell), Stand p l e R s m args below meth c T locs k n → T.heap[a]? = some cl → s.isArrayOf cl ty → cl.vm ≠ .unknown → ¬ (j < 0 ∨ cl.slots.size ≤ j.toNatClampNeg) → cl.slots[j.toNatClampNeg]? = some v → ∀ target, Steps p.tables e below (T.setTop g') target → Steps p.tables e below (T.setTop g) target)
    (K : Wp p e below Z a0 dm fp R s Post T g') : Wp p e below Z a0 dm fp R s Post T g := by
  have hz := A.hz
  obtain ⟨locs, X, N, H, q⟩ := A
  obtain ⟨cl, Ar, ec⟩ := H.arr ho
  refine Wp.go (S locs cl X Ar.1 (State.isArrayOf_alike hz.alike Ar.2.1) Ar.2.2 (inb ec hj (List.getElem?_eq_some_iff.mp hv).1) ?_) K
  rw [← ec, Array.getElem?_toList] at hv
  exact hv
theorem Here.ldI {i : Nat} {a : Addr} {vs : List Value} {j : Int32} {v : Value} (A : Here p l e R s m args below meth c Z a0 y bytes ml ret dm fp T k n os) (hd : decode bytes pc = .ok (.iaload, 1)) (ho : os[i]? = some (a, .inr (.int, vs))) (hj : ¬ j < 0) (hv : vs[j.toNatClampNeg]? = some v) {qn : Nat} (hq : pc + 1 = qn)
    (K : Wp p e below Z a0 dm fp R s Post T (mkF m qn Ls (v :: rest))) : Wp p e below Z a0 dm fp R s Post T (mkF m pc Ls (.int j :: .ref a :: rest)) := by
  subst hq
  exact A.ldOf ho hj hv (fun _ _ X h1 h2 h3 h4 h5 t kt => X.iaload A.hx h1 h2 h3 h4 h5 (g := mkF m pc Ls (.int j :: .ref a :: rest)) rfl rfl (A.hb hd) t kt) K
theorem Here.ldJ {i : Nat} {a : Addr} {vs : List Value} {j : Int32} {v : Value} (A : Here p l e R s m args below meth c Z a0 y bytes ml ret dm fp T k n os) (hd : decode bytes pc = .ok (.laload, 1)) (ho : os[i]? = some (a, .inr (.long, vs))) (hj : ¬ j < 0) (hv : vs[j.toNatClampNeg]? = some v) {qn : Nat} (hq : pc + 1 = qn)
    (K : Wp p e below Z a0 dm fp R s Post T (mkF m qn Ls (v :: rest))) : Wp p e below Z a0 dm fp R s Post T (mkF m pc Ls (.int j :: .ref a :: rest)) := by
  subst hq
  exact A.ldOf ho hj hv (fun _ _ X h1 h2 h3 h4 h5 t kt => X.laload A.hx h1 h2 h3 h4 h5 (g := mkF m pc Ls (.int j :: .ref a :: rest)) rfl rfl (A.hb hd) t kt) K
theorem Here.ldC {i : Nat} {a : Addr} {vs : List Value} {j : Int32} {v : Value} (A : Here p l e R s m args below meth c Z a0 y bytes ml ret dm fp T k n os) (hd : decode bytes pc = .ok (.caload, 1)) (ho : os[i]? = some (a, .inr (.char, vs))) (hj : ¬ j < 0) (hv : vs[j.toNatClampNeg]? = some v) {qn : Nat} (hq : pc + 1 = qn)
    (K : Wp p e below Z a0 dm fp R s Post T (mkF m qn Ls (v :: rest))) : Wp p e below Z a0 dm fp R s Post T (mkF m pc Ls (.int j :: .ref a :: rest)) := by
  subst hq
  exact A.ldOf ho hj hv (fun _ _ X h1 h2 h3 h4 h5 t kt => X.caload A.hx h1 h2 h3 h4 h5 (g := mkF m pc Ls (.int j :: .ref a :: rest)) rfl rfl (A.hb hd) t kt) K
theorem Here.ldB {i : Nat} {a : Addr} {vs : List Value} {j : Int32} {v : Value} (A : Here p l e R s m args below meth c Z a0 y bytes ml ret dm fp T k n os) (hd : decode bytes pc = .ok (.baload, 1)) (ho : os[i]? = some (a, .inr (.byte, vs))) (hj : ¬ j < 0) (hv : vs[j.toNatClampNeg]? = some v) {qn : Nat} (hq : pc + 1 = qn)
    (K : Wp p e below Z a0 dm fp R s Post T (mkF m qn Ls (v :: rest))) : Wp p e below Z a0 dm fp R s Post T (mkF m pc Ls (.int j :: .ref a :: rest)) := by
  subst hq
  exact A.ldOf ho hj hv (fun _ _ X h1 h2 h3 h4 h5 t kt => X.baloadBytes A.hx h1 h2 h3 h4 h5 (g := mkF m pc Ls (.int j :: .ref a :: rest)) rfl rfl (A.hb hd) t kt) K
theorem Here.len {i : Nat} {a : Addr} {ty : FieldType} {vs : List Value} {z : Int32} (A : Here p l e R s m args below meth c Z a0 y bytes ml ret dm fp T k n os) (hd : decode bytes pc = .ok (.arraylength, 1)) (ho : os[i]? = some (a, .inr (ty, vs))) (hz : vs.length.toInt32 = z) {qn : Nat} (hq : pc + 1 = qn)
    (K : Wp p e below Z a0 dm fp R s Post T (mkF m qn Ls (.int z :: rest))) : Wp p e below Z a0 dm fp R s Post T (mkF m pc Ls (.ref a :: rest)) := by
  subst hq
  have A' := A
  obtain ⟨locs, X, N, H, q⟩ := A
  obtain ⟨cl, Ar, ec⟩ := H.arr ho
  subst hz
  rw [← ec, Array.length_toList] at K
  exact Wp.go (fun t kt => X.arraylength A'.hx Ar.1 (State.isArrayOf_alike A'.hz.alike Ar.2.1) (g := mkF m pc Ls (.ref a :: rest)) rfl rfl (A'.hb hd) t kt) K
theorem Here.ldc {idx : Nat} {v : Int32} (A : Here p l e R s m args below meth c Z a0 y bytes ml ret dm fp T k n os) (w : (Jvm.Cond.constant y.cls idx v).before a0 Z = true) (hd : decode bytes pc = .ok (.ldc idx, 2)) {qn : Nat} (hq : pc + 2 = qn)
    (K : Wp p e below Z a0 dm fp R s Post T (mkF m qn Ls (.int v :: st))) : Wp p e below Z a0 dm fp R s Post T (mkF m pc Ls st) := by
  subst hq
  have A' := A
  obtain ⟨locs, X, N, H, hx, hZ, hb, hml, hown, q⟩ := A
  exact Wp.go (X.ldcInt hx hown (mvT hZ w) (g := mkF m pc Ls st) rfl (A'.hb hd)) K
theorem Here.ldcw {idx : Nat} {v : Int32} (A : Here p l e R s m args below meth c Z a0 y bytes ml ret dm fp T k n os) (w : (Jvm.Cond.constant y.cls idx v).before a0 Z = true) (hd : decode bytes pc = .ok (.ldc_w idx, 3)) {qn : Nat} (hq : pc + 3 = qn)
    (K : Wp p e below Z a0 dm fp R s Post T (mkF m qn Ls (.int v :: st))) : Wp p e below Z a0 dm fp R s Post T (mkF m pc Ls st) := by
  subst hq
  have A' := A
  obtain ⟨locs, X, N, H, hx, hZ, hb, hml, hown, q⟩ := A
  exact Wp.go (X.ldcwInt hx hown (mvT hZ w) (g := mkF m pc Ls st) rfl (A'.hb hd)) K
theorem Here.ldc2 {idx : Nat} {v : Int64} (A : Here p l e R s m args below meth c Z a0 y bytes ml ret dm fp T k n os) (w : (Jvm.Cond.constantLong y.cls idx v).before a0 Z = true) (hd : decode bytes pc = .ok (.ldc2_w idx, 3)) {qn : Nat} (hq : pc + 3 = qn)
    (K : Wp p e below Z a0 dm fp R s Post T (mkF m qn Ls (.long v :: st))) : Wp p e below Z a0 dm fp R s Post T (mkF m pc Ls st) := by
  subst hq
  have A' := A
  obtain ⟨locs, X, N, H, hx, hZ, hb, hml, hown, q⟩ := A
  exact Wp.go (X.ldc2Long hx hown (mvT hZ w) (g := mkF m pc Ls st) rfl (A'.hb hd)) K
/-- a primitive array's clone -/
theorem Here.clone {idx W i cap : Nat} {a : Addr} {ty : FieldType} {vs : List Value} {ad : String} (A : Here p l e R s m args below meth c Z a0 y bytes ml ret dm fp T k n os)
    (w1 : (Jvm.Cond.methodLink y.cls idx ⟨ad, "clone", "()Ljava/lang/Object;"⟩).before a0 Z = true) (w2 : (Jvm.Cond.sameMethod ad "java/lang/Object" "clone" "()Ljava/lang/Object;").before a0 Z = true) (w3 : (Jvm.Cond.native ⟨"java/lang/Object", "clone", "()Ljava/lang/Object;"⟩).before a0 Z = true)
    (w4 : (Jvm.Cond.instanceMethod ⟨"java/lang/Object", "clone", "()Ljava/lang/Object;"⟩).before a0 Z = true) (w5 : (Jvm.Cond.selects ad ⟨ad, "clone", "()Ljava/lang/Object;"⟩ ⟨"java/lang/Object", "clone", "()Ljava/lang/Object;"⟩).before a0 Z = true) (w6 : (Jvm.Cond.castable ad "java/lang/Cloneable").before a0 Z = true)
    (had : "[" ++ ty.toString = ad) (hd : decode bytes pc = .ok (.invokevirtual idx, 3)) (hsz : Ls.size = ml) (ho : os[i]? = some (a, .inr (ty, vs))) (hW : (rest.map fun v => v.category).sum ≤ W) (hf : 1 ≤ R.frames) (hl : W + 14 ≤ R.locals) (hcap : vs.length ≤ cap) (hc : k + 1 ≤ R.cells) (hs : n + cap ≤ R.slots) {qn : Nat} (hq : pc + 3 = qn)
    (K : ∀ T' b, Here p l e R s m args below meth c Z a0 y bytes ml ret dm fp T' (k + 1) (n + cap) (os ++ [(b, .inr (ty, vs))]) → Wp p e below Z a0 dm fp R s Post T' (mkF m qn Ls (.ref b :: rest))) : Wp p e below Z a0 dm fp R s Post T (mkF m pc Ls (.ref a :: rest)) := by
  subst hq
  have A' := A
  obtain ⟨locs, X, N, H, hx, hZ, hb, hml, hown, q⟩ := A
  obtain ⟨cl, Ar, ec, E, F⟩ := H.1.2 _ (List.mem_of_getElem? ho)
  dsimp only at ec E F Ar
  subst had
  have FC : FitC Z cl := fitC_of Ar fun j hj v hv => F v (by rw [← ec, Array.mem_toList_iff]; exact Array.mem_of_getElem? hv)
  obtain ⟨T1, h1, X1, e1, E1, A1, B1, st1⟩ := cloneA X hx hZ hown w1 w2 w3 w4 w5 w6 rfl Ar E FC (g := mkF m pc Ls (.ref a :: rest)) rfl (hsz.trans hml.symm) rfl (A'.hb hd) hf (W := W) (by show 2 * 0 + _ ≤ _; rw [Nat.mul_zero, Nat.zero_add]; exact hW) hl (cap := cap) (by rw [← Array.length_toList, ec]; exact hcap) hc hs
  exact Wp.go st1 (K T1 _ ⟨_, X1, N, by rw [e1]; exact H.push E1 ⟨_, A1, ec, B1, F⟩, hx, hZ, hb, hml, hown, q⟩)
theorem Here.ccast {idx i : Nat} {a : Addr} {ty : FieldType} {vs : List Value} {K0 : String} (A : Here p l e R s m args below meth c Z a0 y bytes ml ret dm fp T k n os) (w : (Jvm.Cond.classLink y.cls idx K0).before a0 Z = true) (had : "[" ++ ty.toString = K0) (hd : decode bytes pc = .ok (.checkcast idx, 3)) (ho : os[i]? = some (a, .inr (ty, vs))) {qn : Nat} (hq : pc + 3 = qn)
    (K : ∀ T', Here p l e R s m args below meth c Z a0 y bytes ml ret dm fp T' k n os → Wp p e below Z a0 dm fp R s Post T' (mkF m qn Ls (.ref a :: rest))) : Wp p e below Z a0 dm fp R s Post T (mkF m pc Ls (.ref a :: rest)) := by
  subst hq
  have A' := A
  obtain ⟨locs, X, N, H, hx, hZ, hb, hml, hown, q⟩ := A
  obtain ⟨cl, Ar, ec, E, F⟩ := H.1.2 _ (List.mem_of_getElem? ho)
  subst had
  obtain ⟨T1, X1, e1, st1⟩ := castY X hx hZ hown w rfl (Ins.self E) (g := mkF m pc Ls (.ref a :: rest)) rfl rfl (A'.hb hd)
  exact Wp.go st1 (K T1 ⟨locs, X1, N, by rw [e1]; exact H, hx, hZ, hb, hml, hown, q⟩)
/-! calls -/
theorem Here.initO {idx W : Nat} {a : Addr} (A : Here p l e R s m args below meth c Z a0 y bytes ml ret dm fp T k n os) (w1 : (Jvm.Cond.methodLink y.cls idx Lib.objectInit).before a0 Z = true) (w2 : (Jvm.Cond.instanceMethod Lib.objectInit).before a0 Z = true) (w3 : (Jvm.Cond.code Lib.objectInit Jvm.Example.Point.objCode 1 none).before a0 Z = true)
    (hd : decode bytes pc = .ok (.invokespecial idx, 3)) (hsz : Ls.size = ml) (hW : (rest.map fun v => v.category).sum ≤ W) (hf : 1 ≤ R.frames) (hl : W + 12 ≤ R.locals) {qn : Nat} (hq : pc + 3 = qn)
    (K : ∀ T', Here p l e R s m args below meth c Z a0 y bytes ml ret dm fp T' k n os → Wp p e below Z a0 dm fp R s Post T' (mkF m qn Ls rest)) : Wp p e below Z a0 dm fp R s Post T (mkF m pc Ls (.ref a :: rest)) := by
  subst hq
  have A' := A
  obtain ⟨locs, X, N, H, hx, hZ, hb, hml, hown, q⟩ := A
  obtain ⟨T1, X1, e1, st1⟩ := RoadKit.initO X hx hZ hown w1 w2 w3 rfl (g := mkF m pc Ls (.ref a :: rest)) rfl (hsz.trans hml.symm) rfl (A'.hb hd) hf (W := W) (by show 2 * 0 + _ ≤ _; rw [Nat.mul_zero, Nat.zero_add]; exact hW) hl
  exact Wp.go st1 (K T1 ⟨locs, X1, N, by rw [e1]; exact H, hx, hZ, hb, hml, hown, q⟩)
theorem dm_call {h0 h : Heap} {os1 os2 : Hs} (H : Hp Z a0 dm fp h0 h (os1 ++ os2)) (hc : fp2 = [] ∨ (fp2 = os2.map (·.1) ∧ dm = fp)) {x : Addr} (hx : Dm fp2 h.size x) : Dm fp h0.size x := by
  rcases hx with hx | hx
  · rcases hc with rfl | ⟨rfl, rfl⟩
    · exact absurd hx List.not_mem_nil
    · obtain ⟨q, hq, rfl⟩ := List.mem_map.mp hx
      exact H.2.1 q (List.mem_append.mpr (Or.inr hq))
  · exact Or.inr (Nat.le_trans H.2.2.1 hx)
theorem Here.callS {idx W : Nat} {y' : MethodName} {bytes' : ByteArray} {ml' : Nat} {ret' : Option FieldType} {R' : Room} {argsL : List Value} {os1 os2 : Hs} {Post' : Option Value → Hs → Prop}
    (A : Here p l e R s m args below meth c Z a0 y bytes ml ret dm fp T k n (os1 ++ os2)) (M : Pays l Z a0 y' bytes' ml' ret' R' argsL.toArray os2 fp2 Post') (hcc : fp2 = [] ∨ (fp2 = os2.map (·.1) ∧ dm = fp))
    (w1 : (Jvm.Cond.methodLink y.cls idx y').before a0 Z = true) (w2 : (Jvm.Cond.static y').before a0 Z = true) (w3 : (Jvm.Cond.initialized y'.cls).before a0 Z = true) (w4 : (Jvm.Cond.code y' bytes' ml' ret').before a0 Z = true) (hy : y'.cls ≠ "java/lang/invoke/MethodHandle" ∧ y'.cls ≠ "java/lang/invoke/VarHandle")
    (hd : decode bytes pc = .ok (.invokestatic idx, 3)) (hsz : Ls.size = ml) (hlen : ∀ sig, parseMethodDescriptor y'.desc = some sig → argsL.length = sig.parameters.length) (hst : st = argsL.reverse ++ rest) (hW : (rest.map fun v => v.category).sum ≤ W) (hf : R'.frames + 1 ≤ R.frames) (hl : W + (ml' + 11) + R'.locals ≤ R.locals) (hc : k + R'.cells ≤ R.cells) (hs : n + R'.slots ≤ R.slots) {qn : Nat} (hq : pc + 3 = qn)
    (K : ∀ T' v os', Here p l e R s m args below meth c Z a0 y bytes ml ret dm fp T' (k + R'.cells) (n + R'.slots) (os1 ++ os') → Post' v os' → Wp p e below Z a0 dm fp R s Post T' (mkF m qn Ls (v.toList ++ rest))) : Wp p e below Z a0 dm fp R s Post T (mkF m pc Ls st) := by
  subst hq
  have A' := A
  obtain ⟨locs, X, N, H, hx, hZ, hb, hml, hown, q⟩ := A
  have hq : Hq Z a0 T.heap os2 := ⟨by have := H.1.1; rw [List.map_append, List.nodup_append] at this; exact this.2.1, fun q hq => H.1.2 q (List.mem_append.mpr (Or.inr hq))⟩
  obtain ⟨v, _, ⟨T1, L1, k1, n1⟩, -, X1, ⟨Lc, hQ, l1, y1, z1⟩, st1⟩ := Jvm.LawKit.callS X hx (y := y') hown (mvT hZ w1) (mvT hZ w2) (mvT hZ w3) (mvT hZ w4) hy (backOf (W := W) (h := T.heap) (Q := fun v h L => (∀ q ∈ L, Dm fp2 T.heap.size q.base) ∧ ∃ os', Hp Z a0 (os2.map (·.1)) fp2 T.heap h os' ∧ Post' v os') (M [] T.heap hq) hZ w4 w3 hf hl) (g := mkF m pc Ls st) rfl (hsz.trans hml.symm) (argsL := argsL) (rest := rest) hlen hst (by show 2 * 0 + _ ≤ _; rw [Nat.mul_zero, Nat.zero_add]; exact hW) (A'.hb hd) (fun _ _ => ⟨rfl, rfl, hc, hs⟩)
  dsimp only [Pt.U, Pt.locs, Pt.cells, Pt.slots] at X1 l1 y1 z1 st1 hQ
  subst l1 y1 z1
  obtain ⟨N1, os', H1, hP⟩ := hQ
  refine Wp.go st1 (K T1 v os' ⟨_, X1, fun q hq => ?_, H.call H1 hcc, hx, hZ, hb, hml, hown, q⟩ hP)
  rcases List.mem_append.mp hq with hq | hq
  · exact N q hq
  · exact dm_call H hcc (N1 q hq)
theorem Here.callI {idx W : Nat} {y' : MethodName} {bytes' : ByteArray} {ml' : Nat} {R' : Room} {argsL : List Value} {a : Addr} {os1 os2 : Hs} {Post' : Option Value → Hs → Prop}
    (A : Here p l e R s m args below meth c Z a0 y bytes ml ret dm fp T k n (os1 ++ os2)) (M : Pays l Z a0 y' bytes' ml' none R' (.ref a :: argsL).toArray os2 fp2 Post') (hcc : fp2 = [] ∨ (fp2 = os2.map (·.1) ∧ dm = fp)) (hini : y'.name = "<init>")
    (w1 : (Jvm.Cond.methodLink y.cls idx y').before a0 Z = true) (w2 : (Jvm.Cond.instanceMethod y').before a0 Z = true) (w3 : (Jvm.Cond.initialized y'.cls).before a0 Z = true) (w4 : (Jvm.Cond.code y' bytes' ml' none).before a0 Z = true) (hy : y'.cls ≠ "java/lang/invoke/MethodHandle" ∧ y'.cls ≠ "java/lang/invoke/VarHandle")
    (hd : decode bytes pc = .ok (.invokespecial idx, 3)) (hsz : Ls.size = ml) (hlen : ∀ sig, parseMethodDescriptor y'.desc = some sig → argsL.length = sig.parameters.length) (hst : st = argsL.reverse ++ .ref a :: rest) (hW : (rest.map fun v => v.category).sum ≤ W) (hf : R'.frames + 1 ≤ R.frames) (hl : W + (ml' + 11) + R'.locals ≤ R.locals) (hc : k + R'.cells ≤ R.cells) (hs : n + R'.slots ≤ R.slots) {qn : Nat} (hq : pc + 3 = qn)
    (K : ∀ T' v os', Here p l e R s m args below meth c Z a0 y bytes ml ret dm fp T' (k + R'.cells) (n + R'.slots) (os1 ++ os') → Post' v os' → Wp p e below Z a0 dm fp R s Post T' (mkF m qn Ls (v.toList ++ rest))) : Wp p e below Z a0 dm fp R s Post T (mkF m pc Ls st) := by
  subst hq
  have A' := A
  obtain ⟨locs, X, N, H, hx, hZ, hb, hml, hown, q⟩ := A
  have hq : Hq Z a0 T.heap os2 := ⟨by have := H.1.1; rw [List.map_append, List.nodup_append] at this; exact this.2.1, fun q hq => H.1.2 q (List.mem_append.mpr (Or.inr hq))⟩
  obtain ⟨v, _, ⟨T1, L1, k1, n1⟩, -, X1, ⟨Lc, hQ, l1, y1, z1⟩, st1⟩ := X.specialBack hx (y := y') hini hown (mvT hZ w1) (mvT hZ w2) (mvT hZ w4) hy (backOf (W := W) (h := T.heap) (Q := fun v h L => (∀ q ∈ L, Dm fp2 T.heap.size q.base) ∧ ∃ os', Hp Z a0 (os2.map (·.1)) fp2 T.heap h os' ∧ Post' v os') (M [] T.heap hq) hZ w4 w3 hf hl) (g := mkF m pc Ls st) rfl (hsz.trans hml.symm) (Steps.refl _) (a := a) (argsL := argsL) (rest := rest) hlen hst (by show 2 * 0 + _ ≤ _; rw [Nat.mul_zero, Nat.zero_add]; exact hW) (A'.hb hd) (fun _ _ => ⟨rfl, rfl, hc, hs⟩)
  dsimp only [Pt.U, Pt.locs, Pt.cells, Pt.slots] at X1 l1 y1 z1 st1 hQ
  subst l1 y1 z1
  obtain ⟨N1, os', H1, hP⟩ := hQ
  refine Wp.go (fun t kt => st1.trans kt) (K T1 v os' ⟨_, X1, fun q hq => ?_, H.call H1 hcc, hx, hZ, hb, hml, hown, q⟩ hP)
  rcases List.mem_append.mp hq with hq | hq
  · exact N q hq
  · exact dm_call H hcc (N1 q hq)
theorem Here.callV {idx W i : Nat} {y' : MethodName} {bytes' : ByteArray} {ml' : Nat} {ret' : Option FieldType} {R' : Room} {argsL : List Value} {a : Addr} {C : String} {fs : List Fd} {os1 os2 : Hs} {Post' : Option Value → Hs → Prop}
    (A : Here p l e R s m args below meth c Z a0 y bytes ml ret dm fp T k n (os1 ++ os2)) (M : Pays l Z a0 y' bytes' ml' ret' R' (.ref a :: argsL).toArray os2 fp2 Post') (hcc : fp2 = [] ∨ (fp2 = os2.map (·.1) ∧ dm = fp)) (ho : (os1 ++ os2)[i]? = some (a, .inl (C, fs)))
    (w1 : (Jvm.Cond.methodLink y.cls idx y').before a0 Z = true) (wd : (Jvm.Cond.declares y').before a0 Z = true) (ws : (Jvm.Cond.selects C y' y').before a0 Z = true) (w2 : (Jvm.Cond.instanceMethod y').before a0 Z = true) (w3 : (Jvm.Cond.initialized y'.cls).before a0 Z = true) (w4 : (Jvm.Cond.code y' bytes' ml' ret').before a0 Z = true) (hy : y'.cls ≠ "java/lang/invoke/MethodHandle" ∧ y'.cls ≠ "java/lang/invoke/VarHandle")
    (hd : decode bytes pc = .ok (.invokevirtual idx, 3)) (hsz : Ls.size = ml) (hlen : ∀ sig, parseMethodDescriptor y'.desc = some sig → argsL.length = sig.parameters.length) (hst : st = argsL.reverse ++ .ref a :: rest) (hW : (rest.map fun v => v.category).sum ≤ W) (hf : R'.frames + 1 ≤ R.frames) (hl : W + (ml' + 11) + R'.locals ≤ R.locals) (hc : k + R'.cells ≤ R.cells) (hs : n + R'.slots ≤ R.slots) {qn : Nat} (hq : pc + 3 = qn)
    (K : ∀ T' v os', Here p l e R s m args below meth c Z a0 y bytes ml ret dm fp T' (k + R'.cells) (n + R'.slots) (os1 ++ os') → Post' v os' → Wp p e below Z a0 dm fp R s Post T' (mkF m qn Ls (v.toList ++ rest))) : Wp p e below Z a0 dm fp R s Post T (mkF m pc Ls st) := by
  subst hq
  have A' := A
  obtain ⟨locs, X, N, H, hx, hZ, hb, hml, hown, q⟩ := A
  have hq : Hq Z a0 T.heap os2 := ⟨by have := H.1.1; rw [List.map_append, List.nodup_append] at this; exact this.2.1, fun q hq => H.1.2 q (List.mem_append.mpr (Or.inr hq))⟩
  obtain ⟨cq, kq, qa, qb, qc⟩ := isOf (T := T) hZ rfl (H.exa ho)
  obtain ⟨v, _, ⟨T1, L1, k1, n1⟩, -, X1, ⟨Lc, hQ, l1, y1, z1⟩, st1⟩ := X.virtualBack hx (y := y') (z := y') hown (mvT hZ w1) (mvT hZ wd) (notFace_of_selects (args := #[]) (mvT hZ ws)) (mvT hZ ws) (mvT hZ w2) hy (backOf (W := W) (h := T.heap) (Q := fun v h L => (∀ q ∈ L, Dm fp2 T.heap.size q.base) ∧ ∃ os', Hp Z a0 (os2.map (·.1)) fp2 T.heap h os' ∧ Post' v os') (M [] T.heap hq) hZ w4 w3 hf hl) qa qc (g := mkF m pc Ls st) rfl (hsz.trans hml.symm) (Steps.refl _) (argsL := argsL) (rest := rest) hlen hst (by show 2 * 0 + _ ≤ _; rw [Nat.mul_zero, Nat.zero_add]; exact hW) (A'.hb hd) (fun _ _ => ⟨rfl, rfl, hc, hs⟩)
  dsimp only [Pt.U, Pt.locs, Pt.cells, Pt.slots] at X1 l1 y1 z1 st1 hQ
  subst l1 y1 z1
  obtain ⟨N1, os', H1, hP⟩ := hQ
  refine Wp.go (fun t kt => st1.trans kt) (K T1 v os' ⟨_, X1, fun q hq => ?_, H.call H1 hcc, hx, hZ, hb, hml, hown, q⟩ hP)
  rcases List.mem_append.mp hq with hq | hq
  · exact N q hq
  · exact dm_call H hcc (N1 q hq)
end Walks
end Jvm.OwnWp
namespace Jvm.Pilot.@@N@@
open Jvm Jvm.ClassFile Sem Op Lib Jvm.Free Jvm.Stand Jvm.LawKit Jvm.RoadKit Bundle Jvm.OwnWp Jvm.Pilot.@@N@@.Jvm.D
theorem tw {a0 : Array Value} {Z : State} (hw : ∀ d ∈ tables_1, d.before a0 Z = true) (k : Nat) {d : Jvm.Cond} (h : tables_1[k]? = some d) : d.before a0 Z = true := hw d (List.mem_of_getElem? h)
theorem bm32 (x : Int) : x.bmod (2 ^ 32) = (x + 2147483648) % 4294967296 - 2147483648 := by
  rw [Int.bmod_def]; split <;> omega
theorem bm64 (x : Int) : x.bmod (2 ^ 64) = (x + 9223372036854775808) % 18446744073709551616 - 9223372036854775808 := by
  rw [Int.bmod_def]; split <;> omega
theorem own_c16 (x : Int32) : x.toUInt32.toUInt16.toUInt32.toInt32 = x &&& 65535 := by
  apply Int32.toBitVec_inj.mp
  apply BitVec.eq_of_toNat_eq
  have h1 : (x.toUInt32.toUInt16.toUInt32.toInt32).toBitVec.toNat = x.toBitVec.toNat % 65536 := by
    show ((x.toBitVec.setWidth 16).setWidth 32).toNat = _
    simp only [BitVec.toNat_setWidth]
    omega
  have h2 : (x &&& 65535).toBitVec.toNat = x.toBitVec.toNat % 65536 := by
    show (x.toBitVec &&& 65535#32).toNat = _
    rw [BitVec.toNat_and]
    exact Nat.and_two_pow_sub_one_eq_mod x.toBitVec.toNat 16
  rw [h1, h2]
theorem l32_0 : (0 : Int32).toInt = 0 := by decide
theorem l32_1 : (1 : Int32).toInt = 1 := by decide
theorem l32_9 : (9 : Int32).toInt = 9 := by decide
theorem l32_10 : (10 : Int32).toInt = 10 := by decide
theorem l32_13 : (13 : Int32).toInt = 13 := by decide
theorem l32_32 : (32 : Int32).toInt = 32 := by decide
theorem l32_34 : (34 : Int32).toInt = 34 := by decide
theorem l32_37 : (37 : Int32).toInt = 37 := by decide
theorem l32_38 : (38 : Int32).toInt = 38 := by decide
theorem l32_39 : (39 : Int32).toInt = 39 := by decide
theorem l32_126 : (126 : Int32).toInt = 126 := by decide
theorem l32_127 : (127 : Int32).toInt = 127 := by decide
theorem l32_133 : (133 : Int32).toInt = 133 := by decide
theorem l32_159 : (159 : Int32).toInt = 159 := by decide
theorem l32_160 : (160 : Int32).toInt = 160 := by decide
theorem l32_8232 : (8232 : Int32).toInt = 8232 := by decide
theorem l32_55295 : (55295 : Int32).toInt = 55295 := by decide
theorem l32_57344 : (57344 : Int32).toInt = 57344 := by decide
theorem l32_65533 : (65533 : Int32).toInt = 65533 := by decide
theorem l32_65535 : (65535 : Int32).toInt = 65535 := by decide
theorem d_method_2_0 : decode method_2_code 0 = .ok (.iload_n 0, 1) := by decide +kernel
theorem d_method_2_1 : decode method_2_code 1 = .ok (.bipush 9, 2) := by decide +kernel
theorem d_method_2_3 : decode method_2_code 3 = .ok (.if_icmp .eq 15, 3) := by decide +kernel
theorem d_method_2_18 : decode method_2_code 18 = .ok (.iconst 1, 1) := by decide +kernel
theorem d_method_2_19 : decode method_2_code 19 = .ok (.ireturn, 1) := by decide +kernel
theorem d_method_2_6 : decode method_2_code 6 = .ok (.iload_n 0, 1) := by decide +kernel
theorem d_method_2_7 : decode method_2_code 7 = .ok (.bipush 10, 2) := by decide +kernel
theorem d_method_2_9 : decode method_2_code 9 = .ok (.if_icmp .eq 9, 3) := by decide +kernel
theorem d_method_2_12 : decode method_2_code 12 = .ok (.iload_n 0, 1) := by decide +kernel
theorem d_method_2_13 : decode method_2_code 13 = .ok (.bipush 13, 2) := by decide +kernel
theorem d_method_2_15 : decode method_2_code 15 = .ok (.if_icmp .ne 5, 3) := by decide +kernel
theorem d_method_2_20 : decode method_2_code 20 = .ok (.iload_n 0, 1) := by decide +kernel
theorem d_method_2_21 : decode method_2_code 21 = .ok (.bipush 32, 2) := by decide +kernel
theorem d_method_2_23 : decode method_2_code 23 = .ok (.if_icmp .lt 11, 3) := by decide +kernel
theorem d_method_2_34 : decode method_2_code 34 = .ok (.iload_n 0, 1) := by decide +kernel
theorem d_method_2_35 : decode method_2_code 35 = .ok (.ldc 8, 2) := by decide +kernel
theorem d_method_2_37 : decode method_2_code 37 = .ok (.if_icmp .lt 13, 3) := by decide +kernel
theorem d_method_2_50 : decode method_2_code 50 = .ok (.iconst 0, 1) := by decide +kernel
theorem d_method_2_51 : decode method_2_code 51 = .ok (.ireturn, 1) := by decide +kernel
theorem d_method_2_40 : decode method_2_code 40 = .ok (.iload_n 0, 1) := by decide +kernel
theorem d_method_2_41 : decode method_2_code 41 = .ok (.ldc 9, 2) := by decide +kernel
theorem d_method_2_43 : decode method_2_code 43 = .ok (.if_icmp .gt 7, 3) := by decide +kernel
theorem d_method_2_46 : decode method_2_code 46 = .ok (.iconst 1, 1) := by decide +kernel
theorem d_method_2_47 : decode method_2_code 47 = .ok (.goto 4, 3) := by decide +kernel
theorem d_method_2_26 : decode method_2_code 26 = .ok (.iload_n 0, 1) := by decide +kernel
theorem d_method_2_27 : decode method_2_code 27 = .ok (.ldc 7, 2) := by decide +kernel
theorem d_method_2_29 : decode method_2_code 29 = .ok (.if_icmp .gt 5, 3) := by decide +kernel
theorem d_method_2_32 : decode method_2_code 32 = .ok (.iconst 1, 1) := by decide +kernel
theorem d_method_2_33 : decode method_2_code 33 = .ok (.ireturn, 1) := by decide +kernel
theorem pn_0 : plainName "com/example/fine_events/fineevents/ValueCountIsSparePinLaw" = true := by first | (simp [plainName, overriddenIn]; done) | decide +kernel
theorem ef_m_x10 (m : MethodId) (x0 : Int32) : entryFrame m #[(.int x0)] 1 = mkF m 0 #[.val (.int x0)] [] := by first | (simp [entryFrame, mkF, argsToLocals, Value.category]; done) | rfl
set_option maxRecDepth 65536 in
set_option maxHeartbeats 40000000 in
theorem m_x10 (l : Launch) (Z : State) (a0 : Array Value) (hw : ∀ d ∈ tables_1, d.before a0 Z = true) (z : Int32) :
    Pays l Z a0 (⟨"com/example/fine_events/fineevents/ValueCountIsSparePinLaw", "isXml10Char", "(I)Z"⟩ : MethodName) method_2_code 1 (some .boolean) ({ frames := 0, cells := 0, slots := 0, locals := 0 } : Room) #[(.int z)] [] (([] : Hs).map (·.1)) (fun v os' => ∃ (r : Int32), v = some (.int r) ∧ os' = [] ∧ ((r = 1 ∧ (z.toInt = 9 ∨ z.toInt = 10 ∨ z.toInt = 13 ∨ (32 ≤ z.toInt ∧ z.toInt ≤ 55295) ∨ (57344 ≤ z.toInt ∧ z.toInt ≤ 65533))) ∨ (r = 0 ∧ ¬ (z.toInt = 9 ∨ z.toInt = 10 ∨ z.toInt = 13 ∨ (32 ≤ z.toInt ∧ z.toInt ≤ 55295) ∨ (57344 ≤ z.toInt ∧ z.toInt ≤ 65533))))) := by
  refine Pays.of (Ls := #[.val (.int z)]) (plainFor_of_name pn_0) (fun m => ef_m_x10 m z) ?_
  intro p e s m below meth c T0 A0
  refine A0.iloadN (q := 1) d_method_2_0 rfl rfl ?_
  refine A0.bipush (q := 3) (v := 9) d_method_2_1 rfl rfl ?_
  by_cases hc3_1 : z = (9 : Int32)
  · refine A0.icmpYes (q := 18) d_method_2_3 (teq hc3_1).1 (by decide) (by decide) ?_
    refine A0.iconst (q := 19) (v := 1) d_method_2_18 rfl rfl ?_
    refine A0.retN (by simp) d_method_2_19 (by decide) (by decide) ⟨(1 : Int32), rfl, rfl, ?_⟩
    clear hw A0
    (try simp only [true_and, and_true, false_and, and_false, true_or, or_true, false_or, or_false, not_true_eq_false, not_false_eq_true, Int32.lt_iff_toInt_lt, Int64.lt_iff_toInt_lt, Int32.le_iff_toInt_le, Int64.le_iff_toInt_le, ← Int32.toInt_inj, ← Int64.toInt_inj, Int32.toInt_add, Int32.toInt_sub, Int32.toInt_neg, Int64.toInt_add, Int64.toInt_sub, Int64.toInt_neg, Int64.toInt_mul, Int32.toInt_toInt64, bm32, bm64, l32_0, l32_1, l32_9, l32_10, l32_13, l32_32, l32_34, l32_37, l32_38, l32_39, l32_126, l32_127, l32_133, l32_159, l32_160, l32_8232, l32_55295, l32_57344, l32_65533, l32_65535] at hc3_1 ⊢) <;> omega
  · refine A0.icmpNo (q := 6) d_method_2_3 (feq hc3_1).1 rfl ?_
    refine A0.iloadN (q := 7) d_method_2_6 rfl rfl ?_
    refine A0.bipush (q := 9) (v := 10) d_method_2_7 rfl rfl ?_
    by_cases hc9_2 : z = (10 : Int32)
    · refine A0.icmpYes (q := 18) d_method_2_9 (teq hc9_2).1 (by decide) (by decide) ?_
      refine A0.iconst (q := 19) (v := 1) d_method_2_18 rfl rfl ?_
      refine A0.retN (by simp) d_method_2_19 (by decide) (by decide) ⟨(1 : Int32), rfl, rfl, ?_⟩
      clear hw A0
      (try simp only [true_and, and_true, false_and, and_false, true_or, or_true, false_or, or_false, not_true_eq_false, not_false_eq_true, Int32.lt_iff_toInt_lt, Int64.lt_iff_toInt_lt, Int32.le_iff_toInt_le, Int64.le_iff_toInt_le, ← Int32.toInt_inj, ← Int64.toInt_inj, Int32.toInt_add, Int32.toInt_sub, Int32.toInt_neg, Int64.toInt_add, Int64.toInt_sub, Int64.toInt_neg, Int64.toInt_mul, Int32.toInt_toInt64, bm32, bm64, l32_0, l32_1, l32_9, l32_10, l32_13, l32_32, l32_34, l32_37, l32_38, l32_39, l32_126, l32_127, l32_133, l32_159, l32_160, l32_8232, l32_55295, l32_57344, l32_65533, l32_65535] at hc3_1 hc9_2 ⊢) <;> omega
    · refine A0.icmpNo (q := 12) d_method_2_9 (feq hc9_2).1 rfl ?_
      refine A0.iloadN (q := 13) d_method_2_12 rfl rfl ?_
      refine A0.bipush (q := 15) (v := 13) d_method_2_13 rfl rfl ?_
      by_cases hc15_3 : z = (13 : Int32)
      · refine A0.icmpNo (q := 18) d_method_2_15 (teq hc15_3).2 rfl ?_
        refine A0.iconst (q := 19) (v := 1) d_method_2_18 rfl rfl ?_
        refine A0.retN (by simp) d_method_2_19 (by decide) (by decide) ⟨(1 : Int32), rfl, rfl, ?_⟩
        clear hw A0
        (try simp only [true_and, and_true, false_and, and_false, true_or, or_true, false_or, or_false, not_true_eq_false, not_false_eq_true, Int32.lt_iff_toInt_lt, Int64.lt_iff_toInt_lt, Int32.le_iff_toInt_le, Int64.le_iff_toInt_le, ← Int32.toInt_inj, ← Int64.toInt_inj, Int32.toInt_add, Int32.toInt_sub, Int32.toInt_neg, Int64.toInt_add, Int64.toInt_sub, Int64.toInt_neg, Int64.toInt_mul, Int32.toInt_toInt64, bm32, bm64, l32_0, l32_1, l32_9, l32_10, l32_13, l32_32, l32_34, l32_37, l32_38, l32_39, l32_126, l32_127, l32_133, l32_159, l32_160, l32_8232, l32_55295, l32_57344, l32_65533, l32_65535] at hc3_1 hc9_2 hc15_3 ⊢) <;> omega
      · refine A0.icmpYes (q := 20) d_method_2_15 (feq hc15_3).2 (by decide) (by decide) ?_
        refine A0.iloadN (q := 21) d_method_2_20 rfl rfl ?_
        refine A0.bipush (q := 23) (v := 32) d_method_2_21 rfl rfl ?_
        by_cases hc23_4 : z < (32 : Int32)
        · refine A0.icmpYes (q := 34) d_method_2_23 (tlt hc23_4).1 (by decide) (by decide) ?_
          refine A0.iloadN (q := 35) d_method_2_34 rfl rfl ?_
          refine A0.ldc (qn := 37) (v := 57344) (tw hw 5 rfl) d_method_2_35 rfl ?_
          by_cases hc37_5 : z < (57344 : Int32)
          · refine A0.icmpYes (q := 50) d_method_2_37 (tlt hc37_5).1 (by decide) (by decide) ?_
            refine A0.iconst (q := 51) (v := 0) d_method_2_50 rfl rfl ?_
            refine A0.retN (by simp) d_method_2_51 (by decide) (by decide) ⟨(0 : Int32), rfl, rfl, ?_⟩
            clear hw A0
            (try simp only [true_and, and_true, false_and, and_false, true_or, or_true, false_or, or_false, not_true_eq_false, not_false_eq_true, Int32.lt_iff_toInt_lt, Int64.lt_iff_toInt_lt, Int32.le_iff_toInt_le, Int64.le_iff_toInt_le, ← Int32.toInt_inj, ← Int64.toInt_inj, Int32.toInt_add, Int32.toInt_sub, Int32.toInt_neg, Int64.toInt_add, Int64.toInt_sub, Int64.toInt_neg, Int64.toInt_mul, Int32.toInt_toInt64, bm32, bm64, l32_0, l32_1, l32_9, l32_10, l32_13, l32_32, l32_34, l32_37, l32_38, l32_39, l32_126, l32_127, l32_133, l32_159, l32_160, l32_8232, l32_55295, l32_57344, l32_65533, l32_65535] at hc3_1 hc9_2 hc15_3 hc23_4 hc37_5 ⊢) <;> omega
          · refine A0.icmpNo (q := 40) d_method_2_37 (flt hc37_5).1 rfl ?_
            refine A0.iloadN (q := 41) d_method_2_40 rfl rfl ?_
            refine A0.ldc (qn := 43) (v := 65533) (tw hw 22 rfl) d_method_2_41 rfl ?_
            by_cases hc43_6 : (65533 : Int32) < z
            · refine A0.icmpYes (q := 50) d_method_2_43 (tlt hc43_6).2.2.1 (by decide) (by decide) ?_
              refine A0.iconst (q := 51) (v := 0) d_method_2_50 rfl rfl ?_
              refine A0.retN (by simp) d_method_2_51 (by decide) (by decide) ⟨(0 : Int32), rfl, rfl, ?_⟩
              clear hw A0
              (try simp only [true_and, and_true, false_and, and_false, true_or, or_true, false_or, or_false, not_true_eq_false, not_false_eq_true, Int32.lt_iff_toInt_lt, Int64.lt_iff_toInt_lt, Int32.le_iff_toInt_le, Int64.le_iff_toInt_le, ← Int32.toInt_inj, ← Int64.toInt_inj, Int32.toInt_add, Int32.toInt_sub, Int32.toInt_neg, Int64.toInt_add, Int64.toInt_sub, Int64.toInt_neg, Int64.toInt_mul, Int32.toInt_toInt64, bm32, bm64, l32_0, l32_1, l32_9, l32_10, l32_13, l32_32, l32_34, l32_37, l32_38, l32_39, l32_126, l32_127, l32_133, l32_159, l32_160, l32_8232, l32_55295, l32_57344, l32_65533, l32_65535] at hc3_1 hc9_2 hc15_3 hc23_4 hc37_5 hc43_6 ⊢) <;> omega
            · refine A0.icmpNo (q := 46) d_method_2_43 (flt hc43_6).2.2.1 rfl ?_
              refine A0.iconst (q := 47) (v := 1) d_method_2_46 rfl rfl ?_
              refine A0.goto (q := 51) d_method_2_47 (by decide) (by decide) ?_
              refine A0.retN (by simp) d_method_2_51 (by decide) (by decide) ⟨(1 : Int32), rfl, rfl, ?_⟩
              clear hw A0
              (try simp only [true_and, and_true, false_and, and_false, true_or, or_true, false_or, or_false, not_true_eq_false, not_false_eq_true, Int32.lt_iff_toInt_lt, Int64.lt_iff_toInt_lt, Int32.le_iff_toInt_le, Int64.le_iff_toInt_le, ← Int32.toInt_inj, ← Int64.toInt_inj, Int32.toInt_add, Int32.toInt_sub, Int32.toInt_neg, Int64.toInt_add, Int64.toInt_sub, Int64.toInt_neg, Int64.toInt_mul, Int32.toInt_toInt64, bm32, bm64, l32_0, l32_1, l32_9, l32_10, l32_13, l32_32, l32_34, l32_37, l32_38, l32_39, l32_126, l32_127, l32_133, l32_159, l32_160, l32_8232, l32_55295, l32_57344, l32_65533, l32_65535] at hc3_1 hc9_2 hc15_3 hc23_4 hc37_5 hc43_6 ⊢) <;> omega
        · refine A0.icmpNo (q := 26) d_method_2_23 (flt hc23_4).1 rfl ?_
          refine A0.iloadN (q := 27) d_method_2_26 rfl rfl ?_
          refine A0.ldc (qn := 29) (v := 55295) (tw hw 11 rfl) d_method_2_27 rfl ?_
          by_cases hc29_7 : (55295 : Int32) < z
          · refine A0.icmpYes (q := 34) d_method_2_29 (tlt hc29_7).2.2.1 (by decide) (by decide) ?_
            refine A0.iloadN (q := 35) d_method_2_34 rfl rfl ?_
            refine A0.ldc (qn := 37) (v := 57344) (tw hw 5 rfl) d_method_2_35 rfl ?_
            by_cases hc37_8 : z < (57344 : Int32)
            · refine A0.icmpYes (q := 50) d_method_2_37 (tlt hc37_8).1 (by decide) (by decide) ?_
              refine A0.iconst (q := 51) (v := 0) d_method_2_50 rfl rfl ?_
              refine A0.retN (by simp) d_method_2_51 (by decide) (by decide) ⟨(0 : Int32), rfl, rfl, ?_⟩
              clear hw A0
              (try simp only [true_and, and_true, false_and, and_false, true_or, or_true, false_or, or_false, not_true_eq_false, not_false_eq_true, Int32.lt_iff_toInt_lt, Int64.lt_iff_toInt_lt, Int32.le_iff_toInt_le, Int64.le_iff_toInt_le, ← Int32.toInt_inj, ← Int64.toInt_inj, Int32.toInt_add, Int32.toInt_sub, Int32.toInt_neg, Int64.toInt_add, Int64.toInt_sub, Int64.toInt_neg, Int64.toInt_mul, Int32.toInt_toInt64, bm32, bm64, l32_0, l32_1, l32_9, l32_10, l32_13, l32_32, l32_34, l32_37, l32_38, l32_39, l32_126, l32_127, l32_133, l32_159, l32_160, l32_8232, l32_55295, l32_57344, l32_65533, l32_65535] at hc3_1 hc9_2 hc15_3 hc23_4 hc29_7 hc37_8 ⊢) <;> omega
            · refine A0.icmpNo (q := 40) d_method_2_37 (flt hc37_8).1 rfl ?_
              refine A0.iloadN (q := 41) d_method_2_40 rfl rfl ?_
              refine A0.ldc (qn := 43) (v := 65533) (tw hw 22 rfl) d_method_2_41 rfl ?_
              by_cases hc43_9 : (65533 : Int32) < z
              · refine A0.icmpYes (q := 50) d_method_2_43 (tlt hc43_9).2.2.1 (by decide) (by decide) ?_
                refine A0.iconst (q := 51) (v := 0) d_method_2_50 rfl rfl ?_
                refine A0.retN (by simp) d_method_2_51 (by decide) (by decide) ⟨(0 : Int32), rfl, rfl, ?_⟩
                clear hw A0
                (try simp only [true_and, and_true, false_and, and_false, true_or, or_true, false_or, or_false, not_true_eq_false, not_false_eq_true, Int32.lt_iff_toInt_lt, Int64.lt_iff_toInt_lt, Int32.le_iff_toInt_le, Int64.le_iff_toInt_le, ← Int32.toInt_inj, ← Int64.toInt_inj, Int32.toInt_add, Int32.toInt_sub, Int32.toInt_neg, Int64.toInt_add, Int64.toInt_sub, Int64.toInt_neg, Int64.toInt_mul, Int32.toInt_toInt64, bm32, bm64, l32_0, l32_1, l32_9, l32_10, l32_13, l32_32, l32_34, l32_37, l32_38, l32_39, l32_126, l32_127, l32_133, l32_159, l32_160, l32_8232, l32_55295, l32_57344, l32_65533, l32_65535] at hc3_1 hc9_2 hc15_3 hc23_4 hc29_7 hc37_8 hc43_9 ⊢) <;> omega
              · refine A0.icmpNo (q := 46) d_method_2_43 (flt hc43_9).2.2.1 rfl ?_
                refine A0.iconst (q := 47) (v := 1) d_method_2_46 rfl rfl ?_
                refine A0.goto (q := 51) d_method_2_47 (by decide) (by decide) ?_
                refine A0.retN (by simp) d_method_2_51 (by decide) (by decide) ⟨(1 : Int32), rfl, rfl, ?_⟩
                clear hw A0
                (try simp only [true_and, and_true, false_and, and_false, true_or, or_true, false_or, or_false, not_true_eq_false, not_false_eq_true, Int32.lt_iff_toInt_lt, Int64.lt_iff_toInt_lt, Int32.le_iff_toInt_le, Int64.le_iff_toInt_le, ← Int32.toInt_inj, ← Int64.toInt_inj, Int32.toInt_add, Int32.toInt_sub, Int32.toInt_neg, Int64.toInt_add, Int64.toInt_sub, Int64.toInt_neg, Int64.toInt_mul, Int32.toInt_toInt64, bm32, bm64, l32_0, l32_1, l32_9, l32_10, l32_13, l32_32, l32_34, l32_37, l32_38, l32_39, l32_126, l32_127, l32_133, l32_159, l32_160, l32_8232, l32_55295, l32_57344, l32_65533, l32_65535] at hc3_1 hc9_2 hc15_3 hc23_4 hc29_7 hc37_8 hc43_9 ⊢) <;> omega
          · refine A0.icmpNo (q := 32) d_method_2_29 (flt hc29_7).2.2.1 rfl ?_
            refine A0.iconst (q := 33) (v := 1) d_method_2_32 rfl rfl ?_
            refine A0.retN (by simp) d_method_2_33 (by decide) (by decide) ⟨(1 : Int32), rfl, rfl, ?_⟩
            clear hw A0
            (try simp only [true_and, and_true, false_and, and_false, true_or, or_true, false_or, or_false, not_true_eq_false, not_false_eq_true, Int32.lt_iff_toInt_lt, Int64.lt_iff_toInt_lt, Int32.le_iff_toInt_le, Int64.le_iff_toInt_le, ← Int32.toInt_inj, ← Int64.toInt_inj, Int32.toInt_add, Int32.toInt_sub, Int32.toInt_neg, Int64.toInt_add, Int64.toInt_sub, Int64.toInt_neg, Int64.toInt_mul, Int32.toInt_toInt64, bm32, bm64, l32_0, l32_1, l32_9, l32_10, l32_13, l32_32, l32_34, l32_37, l32_38, l32_39, l32_126, l32_127, l32_133, l32_159, l32_160, l32_8232, l32_55295, l32_57344, l32_65533, l32_65535] at hc3_1 hc9_2 hc15_3 hc23_4 hc29_7 ⊢) <;> omega
theorem d_method_3_0 : decode method_3_code 0 = .ok (.iload_n 0, 1) := by decide +kernel
theorem d_method_3_1 : decode method_3_code 1 = .ok (.bipush 127, 2) := by decide +kernel
theorem d_method_3_3 : decode method_3_code 3 = .ok (.if_icmp .lt 14, 3) := by decide +kernel
theorem d_method_3_17 : decode method_3_code 17 = .ok (.iconst 0, 1) := by decide +kernel
theorem d_method_3_18 : decode method_3_code 18 = .ok (.ireturn, 1) := by decide +kernel
theorem d_method_3_6 : decode method_3_code 6 = .ok (.iload_n 0, 1) := by decide +kernel
theorem d_method_3_7 : decode method_3_code 7 = .ok (.sipush 159, 3) := by decide +kernel
theorem d_method_3_10 : decode method_3_code 10 = .ok (.if_icmp .gt 7, 3) := by decide +kernel
theorem d_method_3_13 : decode method_3_code 13 = .ok (.iconst 1, 1) := by decide +kernel
theorem d_method_3_14 : decode method_3_code 14 = .ok (.goto 4, 3) := by decide +kernel
theorem ef_m_rs (m : MethodId) (x0 : Int32) : entryFrame m #[(.int x0)] 1 = mkF m 0 #[.val (.int x0)] [] := by first | (simp [entryFrame, mkF, argsToLocals, Value.category]; done) | rfl
set_option maxRecDepth 65536 in
set_option maxHeartbeats 40000000 in
theorem m_rs (l : Launch) (Z : State) (a0 : Array Value) (hw : ∀ d ∈ tables_1, d.before a0 Z = true) (z : Int32) :
    Pays l Z a0 (⟨"com/example/fine_events/fineevents/ValueCountIsSparePinLaw", "isRestrictedInXml11", "(I)Z"⟩ : MethodName) method_3_code 1 (some .boolean) ({ frames := 0, cells := 0, slots := 0, locals := 0 } : Room) #[(.int z)] [] (([] : Hs).map (·.1)) (fun v os' => ∃ (r : Int32), v = some (.int r) ∧ os' = [] ∧ ((r = 1 ∧ (127 ≤ z.toInt ∧ z.toInt ≤ 159)) ∨ (r = 0 ∧ ¬ (127 ≤ z.toInt ∧ z.toInt ≤ 159)))) := by
  refine Pays.of (Ls := #[.val (.int z)]) (plainFor_of_name pn_0) (fun m => ef_m_rs m z) ?_
  intro p e s m below meth c T0 A0
  refine A0.iloadN (q := 1) d_method_3_0 rfl rfl ?_
  refine A0.bipush (q := 3) (v := 127) d_method_3_1 rfl rfl ?_
  by_cases hc3_1 : z < (127 : Int32)
  · refine A0.icmpYes (q := 17) d_method_3_3 (tlt hc3_1).1 (by decide) (by decide) ?_
    refine A0.iconst (q := 18) (v := 0) d_method_3_17 rfl rfl ?_
    refine A0.retN (by simp) d_method_3_18 (by decide) (by decide) ⟨(0 : Int32), rfl, rfl, ?_⟩
    clear hw A0
    (try simp only [true_and, and_true, false_and, and_false, true_or, or_true, false_or, or_false, not_true_eq_false, not_false_eq_true, Int32.lt_iff_toInt_lt, Int64.lt_iff_toInt_lt, Int32.le_iff_toInt_le, Int64.le_iff_toInt_le, ← Int32.toInt_inj, ← Int64.toInt_inj, Int32.toInt_add, Int32.toInt_sub, Int32.toInt_neg, Int64.toInt_add, Int64.toInt_sub, Int64.toInt_neg, Int64.toInt_mul, Int32.toInt_toInt64, bm32, bm64, l32_0, l32_1, l32_9, l32_10, l32_13, l32_32, l32_34, l32_37, l32_38, l32_39, l32_126, l32_127, l32_133, l32_159, l32_160, l32_8232, l32_55295, l32_57344, l32_65533, l32_65535] at hc3_1 ⊢) <;> omega
  · refine A0.icmpNo (q := 6) d_method_3_3 (flt hc3_1).1 rfl ?_
    refine A0.iloadN (q := 7) d_method_3_6 rfl rfl ?_
    refine A0.sipush (q := 10) (v := 159) d_method_3_7 rfl rfl ?_
    by_cases hc10_2 : (159 : Int32) < z
    · refine A0.icmpYes (q := 17) d_method_3_10 (tlt hc10_2).2.2.1 (by decide) (by decide) ?_
      refine A0.iconst (q := 18) (v := 0) d_method_3_17 rfl rfl ?_
      refine A0.retN (by simp) d_method_3_18 (by decide) (by decide) ⟨(0 : Int32), rfl, rfl, ?_⟩
      clear hw A0
      (try simp only [true_and, and_true, false_and, and_false, true_or, or_true, false_or, or_false, not_true_eq_false, not_false_eq_true, Int32.lt_iff_toInt_lt, Int64.lt_iff_toInt_lt, Int32.le_iff_toInt_le, Int64.le_iff_toInt_le, ← Int32.toInt_inj, ← Int64.toInt_inj, Int32.toInt_add, Int32.toInt_sub, Int32.toInt_neg, Int64.toInt_add, Int64.toInt_sub, Int64.toInt_neg, Int64.toInt_mul, Int32.toInt_toInt64, bm32, bm64, l32_0, l32_1, l32_9, l32_10, l32_13, l32_32, l32_34, l32_37, l32_38, l32_39, l32_126, l32_127, l32_133, l32_159, l32_160, l32_8232, l32_55295, l32_57344, l32_65533, l32_65535] at hc3_1 hc10_2 ⊢) <;> omega
    · refine A0.icmpNo (q := 13) d_method_3_10 (flt hc10_2).2.2.1 rfl ?_
      refine A0.iconst (q := 14) (v := 1) d_method_3_13 rfl rfl ?_
      refine A0.goto (q := 18) d_method_3_14 (by decide) (by decide) ?_
      refine A0.retN (by simp) d_method_3_18 (by decide) (by decide) ⟨(1 : Int32), rfl, rfl, ?_⟩
      clear hw A0
      (try simp only [true_and, and_true, false_and, and_false, true_or, or_true, false_or, or_false, not_true_eq_false, not_false_eq_true, Int32.lt_iff_toInt_lt, Int64.lt_iff_toInt_lt, Int32.le_iff_toInt_le, Int64.le_iff_toInt_le, ← Int32.toInt_inj, ← Int64.toInt_inj, Int32.toInt_add, Int32.toInt_sub, Int32.toInt_neg, Int64.toInt_add, Int64.toInt_sub, Int64.toInt_neg, Int64.toInt_mul, Int32.toInt_toInt64, bm32, bm64, l32_0, l32_1, l32_9, l32_10, l32_13, l32_32, l32_34, l32_37, l32_38, l32_39, l32_126, l32_127, l32_133, l32_159, l32_160, l32_8232, l32_55295, l32_57344, l32_65533, l32_65535] at hc3_1 hc10_2 ⊢) <;> omega
theorem d_method_4_0 : decode method_4_code 0 = .ok (.iload_n 0, 1) := by decide +kernel
theorem d_method_4_1 : decode method_4_code 1 = .ok (.bipush 38, 2) := by decide +kernel
theorem d_method_4_3 : decode method_4_code 3 = .ok (.if_icmp .eq 21, 3) := by decide +kernel
theorem d_method_4_24 : decode method_4_code 24 = .ok (.iconst 1, 1) := by decide +kernel
theorem d_method_4_25 : decode method_4_code 25 = .ok (.goto 4, 3) := by decide +kernel
theorem d_method_4_29 : decode method_4_code 29 = .ok (.ireturn, 1) := by decide +kernel
theorem d_method_4_6 : decode method_4_code 6 = .ok (.iload_n 0, 1) := by decide +kernel
theorem d_method_4_7 : decode method_4_code 7 = .ok (.bipush 37, 2) := by decide +kernel
theorem d_method_4_9 : decode method_4_code 9 = .ok (.if_icmp .eq 15, 3) := by decide +kernel
theorem d_method_4_12 : decode method_4_code 12 = .ok (.iload_n 0, 1) := by decide +kernel
theorem d_method_4_13 : decode method_4_code 13 = .ok (.bipush 34, 2) := by decide +kernel
theorem d_method_4_15 : decode method_4_code 15 = .ok (.if_icmp .eq 9, 3) := by decide +kernel
theorem d_method_4_18 : decode method_4_code 18 = .ok (.iload_n 0, 1) := by decide +kernel
theorem d_method_4_19 : decode method_4_code 19 = .ok (.bipush 39, 2) := by decide +kernel
theorem d_method_4_21 : decode method_4_code 21 = .ok (.if_icmp .ne 7, 3) := by decide +kernel
theorem d_method_4_28 : decode method_4_code 28 = .ok (.iconst 0, 1) := by decide +kernel
theorem ef_m_ls (m : MethodId) (x0 : Int32) : entryFrame m #[(.int x0)] 1 = mkF m 0 #[.val (.int x0)] [] := by first | (simp [entryFrame, mkF, argsToLocals, Value.category]; done) | rfl
set_option maxRecDepth 65536 in
set_option maxHeartbeats 40000000 in
theorem m_ls (l : Launch) (Z : State) (a0 : Array Value) (hw : ∀ d ∈ tables_1, d.before a0 Z = true) (z : Int32) :
    Pays l Z a0 (⟨"com/example/fine_events/fineevents/ValueCountIsSparePinLaw", "isLiteralSyntax", "(I)Z"⟩ : MethodName) method_4_code 1 (some .boolean) ({ frames := 0, cells := 0, slots := 0, locals := 0 } : Room) #[(.int z)] [] (([] : Hs).map (·.1)) (fun v os' => ∃ (r : Int32), v = some (.int r) ∧ os' = [] ∧ ((r = 1 ∧ (z.toInt = 38 ∨ z.toInt = 37 ∨ z.toInt = 34 ∨ z.toInt = 39)) ∨ (r = 0 ∧ ¬ (z.toInt = 38 ∨ z.toInt = 37 ∨ z.toInt = 34 ∨ z.toInt = 39)))) := by
  refine Pays.of (Ls := #[.val (.int z)]) (plainFor_of_name pn_0) (fun m => ef_m_ls m z) ?_
  intro p e s m below meth c T0 A0
  refine A0.iloadN (q := 1) d_method_4_0 rfl rfl ?_
  refine A0.bipush (q := 3) (v := 38) d_method_4_1 rfl rfl ?_
  by_cases hc3_1 : z = (38 : Int32)
  · refine A0.icmpYes (q := 24) d_method_4_3 (teq hc3_1).1 (by decide) (by decide) ?_
    refine A0.iconst (q := 25) (v := 1) d_method_4_24 rfl rfl ?_
    refine A0.goto (q := 29) d_method_4_25 (by decide) (by decide) ?_
    refine A0.retN (by simp) d_method_4_29 (by decide) (by decide) ⟨(1 : Int32), rfl, rfl, ?_⟩
    clear hw A0
    (try simp only [true_and, and_true, false_and, and_false, true_or, or_true, false_or, or_false, not_true_eq_false, not_false_eq_true, Int32.lt_iff_toInt_lt, Int64.lt_iff_toInt_lt, Int32.le_iff_toInt_le, Int64.le_iff_toInt_le, ← Int32.toInt_inj, ← Int64.toInt_inj, Int32.toInt_add, Int32.toInt_sub, Int32.toInt_neg, Int64.toInt_add, Int64.toInt_sub, Int64.toInt_neg, Int64.toInt_mul, Int32.toInt_toInt64, bm32, bm64, l32_0, l32_1, l32_9, l32_10, l32_13, l32_32, l32_34, l32_37, l32_38, l32_39, l32_126, l32_127, l32_133, l32_159, l32_160, l32_8232, l32_55295, l32_57344, l32_65533, l32_65535] at hc3_1 ⊢) <;> omega
  · refine A0.icmpNo (q := 6) d_method_4_3 (feq hc3_1).1 rfl ?_
    refine A0.iloadN (q := 7) d_method_4_6 rfl rfl ?_
    refine A0.bipush (q := 9) (v := 37) d_method_4_7 rfl rfl ?_
    by_cases hc9_2 : z = (37 : Int32)
    · refine A0.icmpYes (q := 24) d_method_4_9 (teq hc9_2).1 (by decide) (by decide) ?_
      refine A0.iconst (q := 25) (v := 1) d_method_4_24 rfl rfl ?_
      refine A0.goto (q := 29) d_method_4_25 (by decide) (by decide) ?_
      refine A0.retN (by simp) d_method_4_29 (by decide) (by decide) ⟨(1 : Int32), rfl, rfl, ?_⟩
      clear hw A0
      (try simp only [true_and, and_true, false_and, and_false, true_or, or_true, false_or, or_false, not_true_eq_false, not_false_eq_true, Int32.lt_iff_toInt_lt, Int64.lt_iff_toInt_lt, Int32.le_iff_toInt_le, Int64.le_iff_toInt_le, ← Int32.toInt_inj, ← Int64.toInt_inj, Int32.toInt_add, Int32.toInt_sub, Int32.toInt_neg, Int64.toInt_add, Int64.toInt_sub, Int64.toInt_neg, Int64.toInt_mul, Int32.toInt_toInt64, bm32, bm64, l32_0, l32_1, l32_9, l32_10, l32_13, l32_32, l32_34, l32_37, l32_38, l32_39, l32_126, l32_127, l32_133, l32_159, l32_160, l32_8232, l32_55295, l32_57344, l32_65533, l32_65535] at hc3_1 hc9_2 ⊢) <;> omega
    · refine A0.icmpNo (q := 12) d_method_4_9 (feq hc9_2).1 rfl ?_
      refine A0.iloadN (q := 13) d_method_4_12 rfl rfl ?_
      refine A0.bipush (q := 15) (v := 34) d_method_4_13 rfl rfl ?_
      by_cases hc15_3 : z = (34 : Int32)
      · refine A0.icmpYes (q := 24) d_method_4_15 (teq hc15_3).1 (by decide) (by decide) ?_
        refine A0.iconst (q := 25) (v := 1) d_method_4_24 rfl rfl ?_
        refine A0.goto (q := 29) d_method_4_25 (by decide) (by decide) ?_
        refine A0.retN (by simp) d_method_4_29 (by decide) (by decide) ⟨(1 : Int32), rfl, rfl, ?_⟩
        clear hw A0
        (try simp only [true_and, and_true, false_and, and_false, true_or, or_true, false_or, or_false, not_true_eq_false, not_false_eq_true, Int32.lt_iff_toInt_lt, Int64.lt_iff_toInt_lt, Int32.le_iff_toInt_le, Int64.le_iff_toInt_le, ← Int32.toInt_inj, ← Int64.toInt_inj, Int32.toInt_add, Int32.toInt_sub, Int32.toInt_neg, Int64.toInt_add, Int64.toInt_sub, Int64.toInt_neg, Int64.toInt_mul, Int32.toInt_toInt64, bm32, bm64, l32_0, l32_1, l32_9, l32_10, l32_13, l32_32, l32_34, l32_37, l32_38, l32_39, l32_126, l32_127, l32_133, l32_159, l32_160, l32_8232, l32_55295, l32_57344, l32_65533, l32_65535] at hc3_1 hc9_2 hc15_3 ⊢) <;> omega
      · refine A0.icmpNo (q := 18) d_method_4_15 (feq hc15_3).1 rfl ?_
        refine A0.iloadN (q := 19) d_method_4_18 rfl rfl ?_
        refine A0.bipush (q := 21) (v := 39) d_method_4_19 rfl rfl ?_
        by_cases hc21_4 : z = (39 : Int32)
        · refine A0.icmpNo (q := 24) d_method_4_21 (teq hc21_4).2 rfl ?_
          refine A0.iconst (q := 25) (v := 1) d_method_4_24 rfl rfl ?_
          refine A0.goto (q := 29) d_method_4_25 (by decide) (by decide) ?_
          refine A0.retN (by simp) d_method_4_29 (by decide) (by decide) ⟨(1 : Int32), rfl, rfl, ?_⟩
          clear hw A0
          (try simp only [true_and, and_true, false_and, and_false, true_or, or_true, false_or, or_false, not_true_eq_false, not_false_eq_true, Int32.lt_iff_toInt_lt, Int64.lt_iff_toInt_lt, Int32.le_iff_toInt_le, Int64.le_iff_toInt_le, ← Int32.toInt_inj, ← Int64.toInt_inj, Int32.toInt_add, Int32.toInt_sub, Int32.toInt_neg, Int64.toInt_add, Int64.toInt_sub, Int64.toInt_neg, Int64.toInt_mul, Int32.toInt_toInt64, bm32, bm64, l32_0, l32_1, l32_9, l32_10, l32_13, l32_32, l32_34, l32_37, l32_38, l32_39, l32_126, l32_127, l32_133, l32_159, l32_160, l32_8232, l32_55295, l32_57344, l32_65533, l32_65535] at hc3_1 hc9_2 hc15_3 hc21_4 ⊢) <;> omega
        · refine A0.icmpYes (q := 28) d_method_4_21 (feq hc21_4).2 (by decide) (by decide) ?_
          refine A0.iconst (q := 29) (v := 0) d_method_4_28 rfl rfl ?_
          refine A0.retN (by simp) d_method_4_29 (by decide) (by decide) ⟨(0 : Int32), rfl, rfl, ?_⟩
          clear hw A0
          (try simp only [true_and, and_true, false_and, and_false, true_or, or_true, false_or, or_false, not_true_eq_false, not_false_eq_true, Int32.lt_iff_toInt_lt, Int64.lt_iff_toInt_lt, Int32.le_iff_toInt_le, Int64.le_iff_toInt_le, ← Int32.toInt_inj, ← Int64.toInt_inj, Int32.toInt_add, Int32.toInt_sub, Int32.toInt_neg, Int64.toInt_add, Int64.toInt_sub, Int64.toInt_neg, Int64.toInt_mul, Int32.toInt_toInt64, bm32, bm64, l32_0, l32_1, l32_9, l32_10, l32_13, l32_32, l32_34, l32_37, l32_38, l32_39, l32_126, l32_127, l32_133, l32_159, l32_160, l32_8232, l32_55295, l32_57344, l32_65533, l32_65535] at hc3_1 hc9_2 hc15_3 hc21_4 ⊢) <;> omega
theorem d_method_5_0 : decode method_5_code 0 = .ok (.iload_n 0, 1) := by decide +kernel
theorem d_method_5_1 : decode method_5_code 1 = .ok (.sipush 133, 3) := by decide +kernel
theorem d_method_5_4 : decode method_5_code 4 = .ok (.if_icmp .eq 10, 3) := by decide +kernel
theorem d_method_5_14 : decode method_5_code 14 = .ok (.iconst 1, 1) := by decide +kernel
theorem d_method_5_15 : decode method_5_code 15 = .ok (.goto 4, 3) := by decide +kernel
theorem d_method_5_19 : decode method_5_code 19 = .ok (.ireturn, 1) := by decide +kernel
theorem d_method_5_7 : decode method_5_code 7 = .ok (.iload_n 0, 1) := by decide +kernel
theorem d_method_5_8 : decode method_5_code 8 = .ok (.sipush 8232, 3) := by decide +kernel
theorem d_method_5_11 : decode method_5_code 11 = .ok (.if_icmp .ne 7, 3) := by decide +kernel
theorem d_method_5_18 : decode method_5_code 18 = .ok (.iconst 0, 1) := by decide +kernel
theorem ef_m_le (m : MethodId) (x0 : Int32) : entryFrame m #[(.int x0)] 1 = mkF m 0 #[.val (.int x0)] [] := by first | (simp [entryFrame, mkF, argsToLocals, Value.category]; done) | rfl
set_option maxRecDepth 65536 in
set_option maxHeartbeats 40000000 in
theorem m_le (l : Launch) (Z : State) (a0 : Array Value) (hw : ∀ d ∈ tables_1, d.before a0 Z = true) (z : Int32) :
    Pays l Z a0 (⟨"com/example/fine_events/fineevents/ValueCountIsSparePinLaw", "isXml11OnlyLineEnd", "(I)Z"⟩ : MethodName) method_5_code 1 (some .boolean) ({ frames := 0, cells := 0, slots := 0, locals := 0 } : Room) #[(.int z)] [] (([] : Hs).map (·.1)) (fun v os' => ∃ (r : Int32), v = some (.int r) ∧ os' = [] ∧ ((r = 1 ∧ (z.toInt = 133 ∨ z.toInt = 8232)) ∨ (r = 0 ∧ ¬ (z.toInt = 133 ∨ z.toInt = 8232)))) := by
  refine Pays.of (Ls := #[.val (.int z)]) (plainFor_of_name pn_0) (fun m => ef_m_le m z) ?_
  intro p e s m below meth c T0 A0
  refine A0.iloadN (q := 1) d_method_5_0 rfl rfl ?_
  refine A0.sipush (q := 4) (v := 133) d_method_5_1 rfl rfl ?_
  by_cases hc4_1 : z = (133 : Int32)
  · refine A0.icmpYes (q := 14) d_method_5_4 (teq hc4_1).1 (by decide) (by decide) ?_
    refine A0.iconst (q := 15) (v := 1) d_method_5_14 rfl rfl ?_
    refine A0.goto (q := 19) d_method_5_15 (by decide) (by decide) ?_
    refine A0.retN (by simp) d_method_5_19 (by decide) (by decide) ⟨(1 : Int32), rfl, rfl, ?_⟩
    clear hw A0
    (try simp only [true_and, and_true, false_and, and_false, true_or, or_true, false_or, or_false, not_true_eq_false, not_false_eq_true, Int32.lt_iff_toInt_lt, Int64.lt_iff_toInt_lt, Int32.le_iff_toInt_le, Int64.le_iff_toInt_le, ← Int32.toInt_inj, ← Int64.toInt_inj, Int32.toInt_add, Int32.toInt_sub, Int32.toInt_neg, Int64.toInt_add, Int64.toInt_sub, Int64.toInt_neg, Int64.toInt_mul, Int32.toInt_toInt64, bm32, bm64, l32_0, l32_1, l32_9, l32_10, l32_13, l32_32, l32_34, l32_37, l32_38, l32_39, l32_126, l32_127, l32_133, l32_159, l32_160, l32_8232, l32_55295, l32_57344, l32_65533, l32_65535] at hc4_1 ⊢) <;> omega
  · refine A0.icmpNo (q := 7) d_method_5_4 (feq hc4_1).1 rfl ?_
    refine A0.iloadN (q := 8) d_method_5_7 rfl rfl ?_
    refine A0.sipush (q := 11) (v := 8232) d_method_5_8 rfl rfl ?_
    by_cases hc11_2 : z = (8232 : Int32)
    · refine A0.icmpNo (q := 14) d_method_5_11 (teq hc11_2).2 rfl ?_
      refine A0.iconst (q := 15) (v := 1) d_method_5_14 rfl rfl ?_
      refine A0.goto (q := 19) d_method_5_15 (by decide) (by decide) ?_
      refine A0.retN (by simp) d_method_5_19 (by decide) (by decide) ⟨(1 : Int32), rfl, rfl, ?_⟩
      clear hw A0
      (try simp only [true_and, and_true, false_and, and_false, true_or, or_true, false_or, or_false, not_true_eq_false, not_false_eq_true, Int32.lt_iff_toInt_lt, Int64.lt_iff_toInt_lt, Int32.le_iff_toInt_le, Int64.le_iff_toInt_le, ← Int32.toInt_inj, ← Int64.toInt_inj, Int32.toInt_add, Int32.toInt_sub, Int32.toInt_neg, Int64.toInt_add, Int64.toInt_sub, Int64.toInt_neg, Int64.toInt_mul, Int32.toInt_toInt64, bm32, bm64, l32_0, l32_1, l32_9, l32_10, l32_13, l32_32, l32_34, l32_37, l32_38, l32_39, l32_126, l32_127, l32_133, l32_159, l32_160, l32_8232, l32_55295, l32_57344, l32_65533, l32_65535] at hc4_1 hc11_2 ⊢) <;> omega
    · refine A0.icmpYes (q := 18) d_method_5_11 (feq hc11_2).2 (by decide) (by decide) ?_
      refine A0.iconst (q := 19) (v := 0) d_method_5_18 rfl rfl ?_
      refine A0.retN (by simp) d_method_5_19 (by decide) (by decide) ⟨(0 : Int32), rfl, rfl, ?_⟩
      clear hw A0
      (try simp only [true_and, and_true, false_and, and_false, true_or, or_true, false_or, or_false, not_true_eq_false, not_false_eq_true, Int32.lt_iff_toInt_lt, Int64.lt_iff_toInt_lt, Int32.le_iff_toInt_le, Int64.le_iff_toInt_le, ← Int32.toInt_inj, ← Int64.toInt_inj, Int32.toInt_add, Int32.toInt_sub, Int32.toInt_neg, Int64.toInt_add, Int64.toInt_sub, Int64.toInt_neg, Int64.toInt_mul, Int32.toInt_toInt64, bm32, bm64, l32_0, l32_1, l32_9, l32_10, l32_13, l32_32, l32_34, l32_37, l32_38, l32_39, l32_126, l32_127, l32_133, l32_159, l32_160, l32_8232, l32_55295, l32_57344, l32_65533, l32_65535] at hc4_1 hc11_2 ⊢) <;> omega
theorem d_prog_66_method_15_0 : decode prog_66_method_15_code 0 = .ok (.iload_n 0, 1) := by decide +kernel
theorem d_prog_66_method_15_1 : decode prog_66_method_15_code 1 = .ok (.bipush 9, 2) := by decide +kernel
theorem d_prog_66_method_15_3 : decode prog_66_method_15_code 3 = .ok (.if_icmp .eq 83, 3) := by decide +kernel
theorem d_prog_66_method_15_86 : decode prog_66_method_15_code 86 = .ok (.iconst 1, 1) := by decide +kernel
theorem d_prog_66_method_15_87 : decode prog_66_method_15_code 87 = .ok (.goto 4, 3) := by decide +kernel
theorem d_prog_66_method_15_91 : decode prog_66_method_15_code 91 = .ok (.ireturn, 1) := by decide +kernel
theorem d_prog_66_method_15_6 : decode prog_66_method_15_code 6 = .ok (.iload_n 0, 1) := by decide +kernel
theorem d_prog_66_method_15_7 : decode prog_66_method_15_code 7 = .ok (.bipush 10, 2) := by decide +kernel
theorem d_prog_66_method_15_9 : decode prog_66_method_15_code 9 = .ok (.if_icmp .eq 77, 3) := by decide +kernel
theorem d_prog_66_method_15_12 : decode prog_66_method_15_code 12 = .ok (.iload_n 0, 1) := by decide +kernel
theorem d_prog_66_method_15_13 : decode prog_66_method_15_code 13 = .ok (.bipush 13, 2) := by decide +kernel
theorem d_prog_66_method_15_15 : decode prog_66_method_15_code 15 = .ok (.if_icmp .eq 71, 3) := by decide +kernel
theorem d_prog_66_method_15_18 : decode prog_66_method_15_code 18 = .ok (.iload_n 0, 1) := by decide +kernel
theorem d_prog_66_method_15_19 : decode prog_66_method_15_code 19 = .ok (.bipush 32, 2) := by decide +kernel
theorem d_prog_66_method_15_21 : decode prog_66_method_15_code 21 = .ok (.if_icmp .lt 33, 3) := by decide +kernel
theorem d_prog_66_method_15_54 : decode prog_66_method_15_code 54 = .ok (.iload_n 0, 1) := by decide +kernel
theorem d_prog_66_method_15_55 : decode prog_66_method_15_code 55 = .ok (.sipush 160, 3) := by decide +kernel
theorem d_prog_66_method_15_58 : decode prog_66_method_15_code 58 = .ok (.if_icmp .lt 16, 3) := by decide +kernel
theorem d_prog_66_method_15_74 : decode prog_66_method_15_code 74 = .ok (.iload_n 0, 1) := by decide +kernel
theorem d_prog_66_method_15_75 : decode prog_66_method_15_code 75 = .ok (.ldc 125, 2) := by decide +kernel
theorem d_prog_66_method_15_77 : decode prog_66_method_15_code 77 = .ok (.if_icmp .lt 13, 3) := by decide +kernel
theorem d_prog_66_method_15_90 : decode prog_66_method_15_code 90 = .ok (.iconst 0, 1) := by decide +kernel
theorem d_prog_66_method_15_80 : decode prog_66_method_15_code 80 = .ok (.iload_n 0, 1) := by decide +kernel
theorem d_prog_66_method_15_81 : decode prog_66_method_15_code 81 = .ok (.ldc 126, 2) := by decide +kernel
theorem d_prog_66_method_15_83 : decode prog_66_method_15_code 83 = .ok (.if_icmp .gt 7, 3) := by decide +kernel
theorem d_prog_66_method_15_61 : decode prog_66_method_15_code 61 = .ok (.iload_n 0, 1) := by decide +kernel
theorem d_prog_66_method_15_62 : decode prog_66_method_15_code 62 = .ok (.ldc 124, 2) := by decide +kernel
theorem d_prog_66_method_15_64 : decode prog_66_method_15_code 64 = .ok (.if_icmp .gt 10, 3) := by decide +kernel
theorem d_prog_66_method_15_67 : decode prog_66_method_15_code 67 = .ok (.iload_n 0, 1) := by decide +kernel
theorem d_prog_66_method_15_68 : decode prog_66_method_15_code 68 = .ok (.sipush 8232, 3) := by decide +kernel
theorem d_prog_66_method_15_71 : decode prog_66_method_15_code 71 = .ok (.if_icmp .ne 15, 3) := by decide +kernel
theorem d_prog_66_method_15_24 : decode prog_66_method_15_code 24 = .ok (.iload_n 0, 1) := by decide +kernel
theorem d_prog_66_method_15_25 : decode prog_66_method_15_code 25 = .ok (.bipush 126, 2) := by decide +kernel
theorem d_prog_66_method_15_27 : decode prog_66_method_15_code 27 = .ok (.if_icmp .gt 27, 3) := by decide +kernel
theorem d_prog_66_method_15_30 : decode prog_66_method_15_code 30 = .ok (.iload_n 0, 1) := by decide +kernel
theorem d_prog_66_method_15_31 : decode prog_66_method_15_code 31 = .ok (.bipush 38, 2) := by decide +kernel
theorem d_prog_66_method_15_33 : decode prog_66_method_15_code 33 = .ok (.if_icmp .eq 21, 3) := by decide +kernel
theorem d_prog_66_method_15_36 : decode prog_66_method_15_code 36 = .ok (.iload_n 0, 1) := by decide +kernel
theorem d_prog_66_method_15_37 : decode prog_66_method_15_code 37 = .ok (.bipush 37, 2) := by decide +kernel
theorem d_prog_66_method_15_39 : decode prog_66_method_15_code 39 = .ok (.if_icmp .eq 15, 3) := by decide +kernel
theorem d_prog_66_method_15_42 : decode prog_66_method_15_code 42 = .ok (.iload_n 0, 1) := by decide +kernel
theorem d_prog_66_method_15_43 : decode prog_66_method_15_code 43 = .ok (.bipush 34, 2) := by decide +kernel
theorem d_prog_66_method_15_45 : decode prog_66_method_15_code 45 = .ok (.if_icmp .eq 9, 3) := by decide +kernel
theorem d_prog_66_method_15_48 : decode prog_66_method_15_code 48 = .ok (.iload_n 0, 1) := by decide +kernel
theorem d_prog_66_method_15_49 : decode prog_66_method_15_code 49 = .ok (.bipush 39, 2) := by decide +kernel
theorem d_prog_66_method_15_51 : decode prog_66_method_15_code 51 = .ok (.if_icmp .ne 35, 3) := by decide +kernel
theorem pn_1 : plainName "com/example/fine_events/fineevents/ValueCount" = true := by first | (simp [plainName, overriddenIn]; done) | decide +kernel
theorem ef_m_sp (m : MethodId) (x0 : Int32) : entryFrame m #[(.int x0)] 1 = mkF m 0 #[.val (.int x0)] [] := by first | (simp [entryFrame, mkF, argsToLocals, Value.category]; done) | rfl
set_option maxRecDepth 65536 in
set_option maxHeartbeats 40000000 in
theorem m_sp (l : Launch) (Z : State) (a0 : Array Value) (hw : ∀ d ∈ tables_1, d.before a0 Z = true) (z : Int32) :
    Pays l Z a0 (⟨"com/example/fine_events/fineevents/ValueCount", "isSpare", "(C)Z"⟩ : MethodName) prog_66_method_15_code 1 (some .boolean) ({ frames := 0, cells := 0, slots := 0, locals := 0 } : Room) #[(.int z)] [] (([] : Hs).map (·.1)) (fun v os' => ∃ (r : Int32), v = some (.int r) ∧ os' = [] ∧ ((r = 1 ∧ ((z.toInt = 9 ∨ z.toInt = 10 ∨ z.toInt = 13 ∨ (32 ≤ z.toInt ∧ z.toInt ≤ 55295) ∨ (57344 ≤ z.toInt ∧ z.toInt ≤ 65533)) ∧ ¬ (127 ≤ z.toInt ∧ z.toInt ≤ 159) ∧ ¬ (z.toInt = 38 ∨ z.toInt = 37 ∨ z.toInt = 34 ∨ z.toInt = 39) ∧ ¬ (z.toInt = 133 ∨ z.toInt = 8232))) ∨ (r = 0 ∧ ¬ ((z.toInt = 9 ∨ z.toInt = 10 ∨ z.toInt = 13 ∨ (32 ≤ z.toInt ∧ z.toInt ≤ 55295) ∨ (57344 ≤ z.toInt ∧ z.toInt ≤ 65533)) ∧ ¬ (127 ≤ z.toInt ∧ z.toInt ≤ 159) ∧ ¬ (z.toInt = 38 ∨ z.toInt = 37 ∨ z.toInt = 34 ∨ z.toInt = 39) ∧ ¬ (z.toInt = 133 ∨ z.toInt = 8232))))) := by
  refine Pays.of (Ls := #[.val (.int z)]) (plainFor_of_name pn_1) (fun m => ef_m_sp m z) ?_
  intro p e s m below meth c T0 A0
  refine A0.iloadN (q := 1) d_prog_66_method_15_0 rfl rfl ?_
  refine A0.bipush (q := 3) (v := 9) d_prog_66_method_15_1 rfl rfl ?_
  by_cases hc3_1 : z = (9 : Int32)
  · refine A0.icmpYes (q := 86) d_prog_66_method_15_3 (teq hc3_1).1 (by decide) (by decide) ?_
    refine A0.iconst (q := 87) (v := 1) d_prog_66_method_15_86 rfl rfl ?_
    refine A0.goto (q := 91) d_prog_66_method_15_87 (by decide) (by decide) ?_
    refine A0.retN (by simp) d_prog_66_method_15_91 (by decide) (by decide) ⟨(1 : Int32), rfl, rfl, ?_⟩
    clear hw A0
    (try simp only [true_and, and_true, false_and, and_false, true_or, or_true, false_or, or_false, not_true_eq_false, not_false_eq_true, Int32.lt_iff_toInt_lt, Int64.lt_iff_toInt_lt, Int32.le_iff_toInt_le, Int64.le_iff_toInt_le, ← Int32.toInt_inj, ← Int64.toInt_inj, Int32.toInt_add, Int32.toInt_sub, Int32.toInt_neg, Int64.toInt_add, Int64.toInt_sub, Int64.toInt_neg, Int64.toInt_mul, Int32.toInt_toInt64, bm32, bm64, l32_0, l32_1, l32_9, l32_10, l32_13, l32_32, l32_34, l32_37, l32_38, l32_39, l32_126, l32_127, l32_133, l32_159, l32_160, l32_8232, l32_55295, l32_57344, l32_65533, l32_65535] at hc3_1 ⊢) <;> omega
  · refine A0.icmpNo (q := 6) d_prog_66_method_15_3 (feq hc3_1).1 rfl ?_
    refine A0.iloadN (q := 7) d_prog_66_method_15_6 rfl rfl ?_
    refine A0.bipush (q := 9) (v := 10) d_prog_66_method_15_7 rfl rfl ?_
    by_cases hc9_2 : z = (10 : Int32)
    · refine A0.icmpYes (q := 86) d_prog_66_method_15_9 (teq hc9_2).1 (by decide) (by decide) ?_
      refine A0.iconst (q := 87) (v := 1) d_prog_66_method_15_86 rfl rfl ?_
      refine A0.goto (q := 91) d_prog_66_method_15_87 (by decide) (by decide) ?_
      refine A0.retN (by simp) d_prog_66_method_15_91 (by decide) (by decide) ⟨(1 : Int32), rfl, rfl, ?_⟩
      clear hw A0
      (try simp only [true_and, and_true, false_and, and_false, true_or, or_true, false_or, or_false, not_true_eq_false, not_false_eq_true, Int32.lt_iff_toInt_lt, Int64.lt_iff_toInt_lt, Int32.le_iff_toInt_le, Int64.le_iff_toInt_le, ← Int32.toInt_inj, ← Int64.toInt_inj, Int32.toInt_add, Int32.toInt_sub, Int32.toInt_neg, Int64.toInt_add, Int64.toInt_sub, Int64.toInt_neg, Int64.toInt_mul, Int32.toInt_toInt64, bm32, bm64, l32_0, l32_1, l32_9, l32_10, l32_13, l32_32, l32_34, l32_37, l32_38, l32_39, l32_126, l32_127, l32_133, l32_159, l32_160, l32_8232, l32_55295, l32_57344, l32_65533, l32_65535] at hc3_1 hc9_2 ⊢) <;> omega
    · refine A0.icmpNo (q := 12) d_prog_66_method_15_9 (feq hc9_2).1 rfl ?_
      refine A0.iloadN (q := 13) d_prog_66_method_15_12 rfl rfl ?_
      refine A0.bipush (q := 15) (v := 13) d_prog_66_method_15_13 rfl rfl ?_
      by_cases hc15_3 : z = (13 : Int32)
      · refine A0.icmpYes (q := 86) d_prog_66_method_15_15 (teq hc15_3).1 (by decide) (by decide) ?_
        refine A0.iconst (q := 87) (v := 1) d_prog_66_method_15_86 rfl rfl ?_
        refine A0.goto (q := 91) d_prog_66_method_15_87 (by decide) (by decide) ?_
        refine A0.retN (by simp) d_prog_66_method_15_91 (by decide) (by decide) ⟨(1 : Int32), rfl, rfl, ?_⟩
        clear hw A0
        (try simp only [true_and, and_true, false_and, and_false, true_or, or_true, false_or, or_false, not_true_eq_false, not_false_eq_true, Int32.lt_iff_toInt_lt, Int64.lt_iff_toInt_lt, Int32.le_iff_toInt_le, Int64.le_iff_toInt_le, ← Int32.toInt_inj, ← Int64.toInt_inj, Int32.toInt_add, Int32.toInt_sub, Int32.toInt_neg, Int64.toInt_add, Int64.toInt_sub, Int64.toInt_neg, Int64.toInt_mul, Int32.toInt_toInt64, bm32, bm64, l32_0, l32_1, l32_9, l32_10, l32_13, l32_32, l32_34, l32_37, l32_38, l32_39, l32_126, l32_127, l32_133, l32_159, l32_160, l32_8232, l32_55295, l32_57344, l32_65533, l32_65535] at hc3_1 hc9_2 hc15_3 ⊢) <;> omega
      · refine A0.icmpNo (q := 18) d_prog_66_method_15_15 (feq hc15_3).1 rfl ?_
        refine A0.iloadN (q := 19) d_prog_66_method_15_18 rfl rfl ?_
        refine A0.bipush (q := 21) (v := 32) d_prog_66_method_15_19 rfl rfl ?_
        by_cases hc21_4 : z < (32 : Int32)
        · refine A0.icmpYes (q := 54) d_prog_66_method_15_21 (tlt hc21_4).1 (by decide) (by decide) ?_
          refine A0.iloadN (q := 55) d_prog_66_method_15_54 rfl rfl ?_
          refine A0.sipush (q := 58) (v := 160) d_prog_66_method_15_55 rfl rfl ?_
          by_cases hc58_5 : z < (160 : Int32)
          · refine A0.icmpYes (q := 74) d_prog_66_method_15_58 (tlt hc58_5).1 (by decide) (by decide) ?_
            refine A0.iloadN (q := 75) d_prog_66_method_15_74 rfl rfl ?_
            refine A0.ldc (qn := 77) (v := 57344) (tw hw 10 rfl) d_prog_66_method_15_75 rfl ?_
            by_cases hc77_6 : z < (57344 : Int32)
            · refine A0.icmpYes (q := 90) d_prog_66_method_15_77 (tlt hc77_6).1 (by decide) (by decide) ?_
              refine A0.iconst (q := 91) (v := 0) d_prog_66_method_15_90 rfl rfl ?_
              refine A0.retN (by simp) d_prog_66_method_15_91 (by decide) (by decide) ⟨(0 : Int32), rfl, rfl, ?_⟩
              clear hw A0
              (try simp only [true_and, and_true, false_and, and_false, true_or, or_true, false_or, or_false, not_true_eq_false, not_false_eq_true, Int32.lt_iff_toInt_lt, Int64.lt_iff_toInt_lt, Int32.le_iff_toInt_le, Int64.le_iff_toInt_le, ← Int32.toInt_inj, ← Int64.toInt_inj, Int32.toInt_add, Int32.toInt_sub, Int32.toInt_neg, Int64.toInt_add, Int64.toInt_sub, Int64.toInt_neg, Int64.toInt_mul, Int32.toInt_toInt64, bm32, bm64, l32_0, l32_1, l32_9, l32_10, l32_13, l32_32, l32_34, l32_37, l32_38, l32_39, l32_126, l32_127, l32_133, l32_159, l32_160, l32_8232, l32_55295, l32_57344, l32_65533, l32_65535] at hc3_1 hc9_2 hc15_3 hc21_4 hc58_5 hc77_6 ⊢) <;> omega
            · refine A0.icmpNo (q := 80) d_prog_66_method_15_77 (flt hc77_6).1 rfl ?_
              refine A0.iloadN (q := 81) d_prog_66_method_15_80 rfl rfl ?_
              refine A0.ldc (qn := 83) (v := 65533) (tw hw 23 rfl) d_prog_66_method_15_81 rfl ?_
              by_cases hc83_7 : (65533 : Int32) < z
              · refine A0.icmpYes (q := 90) d_prog_66_method_15_83 (tlt hc83_7).2.2.1 (by decide) (by decide) ?_
                refine A0.iconst (q := 91) (v := 0) d_prog_66_method_15_90 rfl rfl ?_
                refine A0.retN (by simp) d_prog_66_method_15_91 (by decide) (by decide) ⟨(0 : Int32), rfl, rfl, ?_⟩
                clear hw A0
                (try simp only [true_and, and_true, false_and, and_false, true_or, or_true, false_or, or_false, not_true_eq_false, not_false_eq_true, Int32.lt_iff_toInt_lt, Int64.lt_iff_toInt_lt, Int32.le_iff_toInt_le, Int64.le_iff_toInt_le, ← Int32.toInt_inj, ← Int64.toInt_inj, Int32.toInt_add, Int32.toInt_sub, Int32.toInt_neg, Int64.toInt_add, Int64.toInt_sub, Int64.toInt_neg, Int64.toInt_mul, Int32.toInt_toInt64, bm32, bm64, l32_0, l32_1, l32_9, l32_10, l32_13, l32_32, l32_34, l32_37, l32_38, l32_39, l32_126, l32_127, l32_133, l32_159, l32_160, l32_8232, l32_55295, l32_57344, l32_65533, l32_65535] at hc3_1 hc9_2 hc15_3 hc21_4 hc58_5 hc77_6 hc83_7 ⊢) <;> omega
              · refine A0.icmpNo (q := 86) d_prog_66_method_15_83 (flt hc83_7).2.2.1 rfl ?_
                refine A0.iconst (q := 87) (v := 1) d_prog_66_method_15_86 rfl rfl ?_
                refine A0.goto (q := 91) d_prog_66_method_15_87 (by decide) (by decide) ?_
                refine A0.retN (by simp) d_prog_66_method_15_91 (by decide) (by decide) ⟨(1 : Int32), rfl, rfl, ?_⟩
                clear hw A0
                (try simp only [true_and, and_true, false_and, and_false, true_or, or_true, false_or, or_false, not_true_eq_false, not_false_eq_true, Int32.lt_iff_toInt_lt, Int64.lt_iff_toInt_lt, Int32.le_iff_toInt_le, Int64.le_iff_toInt_le, ← Int32.toInt_inj, ← Int64.toInt_inj, Int32.toInt_add, Int32.toInt_sub, Int32.toInt_neg, Int64.toInt_add, Int64.toInt_sub, Int64.toInt_neg, Int64.toInt_mul, Int32.toInt_toInt64, bm32, bm64, l32_0, l32_1, l32_9, l32_10, l32_13, l32_32, l32_34, l32_37, l32_38, l32_39, l32_126, l32_127, l32_133, l32_159, l32_160, l32_8232, l32_55295, l32_57344, l32_65533, l32_65535] at hc3_1 hc9_2 hc15_3 hc21_4 hc58_5 hc77_6 hc83_7 ⊢) <;> omega
          · refine A0.icmpNo (q := 61) d_prog_66_method_15_58 (flt hc58_5).1 rfl ?_
            refine A0.iloadN (q := 62) d_prog_66_method_15_61 rfl rfl ?_
            refine A0.ldc (qn := 64) (v := 55295) (tw hw 21 rfl) d_prog_66_method_15_62 rfl ?_
            by_cases hc64_8 : (55295 : Int32) < z
            · refine A0.icmpYes (q := 74) d_prog_66_method_15_64 (tlt hc64_8).2.2.1 (by decide) (by decide) ?_
              refine A0.iloadN (q := 75) d_prog_66_method_15_74 rfl rfl ?_
              refine A0.ldc (qn := 77) (v := 57344) (tw hw 10 rfl) d_prog_66_method_15_75 rfl ?_
              by_cases hc77_9 : z < (57344 : Int32)
              · refine A0.icmpYes (q := 90) d_prog_66_method_15_77 (tlt hc77_9).1 (by decide) (by decide) ?_
                refine A0.iconst (q := 91) (v := 0) d_prog_66_method_15_90 rfl rfl ?_
                refine A0.retN (by simp) d_prog_66_method_15_91 (by decide) (by decide) ⟨(0 : Int32), rfl, rfl, ?_⟩
                clear hw A0
                (try simp only [true_and, and_true, false_and, and_false, true_or, or_true, false_or, or_false, not_true_eq_false, not_false_eq_true, Int32.lt_iff_toInt_lt, Int64.lt_iff_toInt_lt, Int32.le_iff_toInt_le, Int64.le_iff_toInt_le, ← Int32.toInt_inj, ← Int64.toInt_inj, Int32.toInt_add, Int32.toInt_sub, Int32.toInt_neg, Int64.toInt_add, Int64.toInt_sub, Int64.toInt_neg, Int64.toInt_mul, Int32.toInt_toInt64, bm32, bm64, l32_0, l32_1, l32_9, l32_10, l32_13, l32_32, l32_34, l32_37, l32_38, l32_39, l32_126, l32_127, l32_133, l32_159, l32_160, l32_8232, l32_55295, l32_57344, l32_65533, l32_65535] at hc3_1 hc9_2 hc15_3 hc21_4 hc58_5 hc64_8 hc77_9 ⊢) <;> omega
              · refine A0.icmpNo (q := 80) d_prog_66_method_15_77 (flt hc77_9).1 rfl ?_
                refine A0.iloadN (q := 81) d_prog_66_method_15_80 rfl rfl ?_
                refine A0.ldc (qn := 83) (v := 65533) (tw hw 23 rfl) d_prog_66_method_15_81 rfl ?_
                by_cases hc83_10 : (65533 : Int32) < z
                · refine A0.icmpYes (q := 90) d_prog_66_method_15_83 (tlt hc83_10).2.2.1 (by decide) (by decide) ?_
                  refine A0.iconst (q := 91) (v := 0) d_prog_66_method_15_90 rfl rfl ?_
                  refine A0.retN (by simp) d_prog_66_method_15_91 (by decide) (by decide) ⟨(0 : Int32), rfl, rfl, ?_⟩
                  clear hw A0
                  (try simp only [true_and, and_true, false_and, and_false, true_or, or_true, false_or, or_false, not_true_eq_false, not_false_eq_true, Int32.lt_iff_toInt_lt, Int64.lt_iff_toInt_lt, Int32.le_iff_toInt_le, Int64.le_iff_toInt_le, ← Int32.toInt_inj, ← Int64.toInt_inj, Int32.toInt_add, Int32.toInt_sub, Int32.toInt_neg, Int64.toInt_add, Int64.toInt_sub, Int64.toInt_neg, Int64.toInt_mul, Int32.toInt_toInt64, bm32, bm64, l32_0, l32_1, l32_9, l32_10, l32_13, l32_32, l32_34, l32_37, l32_38, l32_39, l32_126, l32_127, l32_133, l32_159, l32_160, l32_8232, l32_55295, l32_57344, l32_65533, l32_65535] at hc3_1 hc9_2 hc15_3 hc21_4 hc58_5 hc64_8 hc77_9 hc83_10 ⊢) <;> omega
                · refine A0.icmpNo (q := 86) d_prog_66_method_15_83 (flt hc83_10).2.2.1 rfl ?_
                  refine A0.iconst (q := 87) (v := 1) d_prog_66_method_15_86 rfl rfl ?_
                  refine A0.goto (q := 91) d_prog_66_method_15_87 (by decide) (by decide) ?_
                  refine A0.retN (by simp) d_prog_66_method_15_91 (by decide) (by decide) ⟨(1 : Int32), rfl, rfl, ?_⟩
                  clear hw A0
                  (try simp only [true_and, and_true, false_and, and_false, true_or, or_true, false_or, or_false, not_true_eq_false, not_false_eq_true, Int32.lt_iff_toInt_lt, Int64.lt_iff_toInt_lt, Int32.le_iff_toInt_le, Int64.le_iff_toInt_le, ← Int32.toInt_inj, ← Int64.toInt_inj, Int32.toInt_add, Int32.toInt_sub, Int32.toInt_neg, Int64.toInt_add, Int64.toInt_sub, Int64.toInt_neg, Int64.toInt_mul, Int32.toInt_toInt64, bm32, bm64, l32_0, l32_1, l32_9, l32_10, l32_13, l32_32, l32_34, l32_37, l32_38, l32_39, l32_126, l32_127, l32_133, l32_159, l32_160, l32_8232, l32_55295, l32_57344, l32_65533, l32_65535] at hc3_1 hc9_2 hc15_3 hc21_4 hc58_5 hc64_8 hc77_9 hc83_10 ⊢) <;> omega
            · refine A0.icmpNo (q := 67) d_prog_66_method_15_64 (flt hc64_8).2.2.1 rfl ?_
              refine A0.iloadN (q := 68) d_prog_66_method_15_67 rfl rfl ?_
              refine A0.sipush (q := 71) (v := 8232) d_prog_66_method_15_68 rfl rfl ?_
              by_cases hc71_11 : z = (8232 : Int32)
              · refine A0.icmpNo (q := 74) d_prog_66_method_15_71 (teq hc71_11).2 rfl ?_
                refine A0.iloadN (q := 75) d_prog_66_method_15_74 rfl rfl ?_
                refine A0.ldc (qn := 77) (v := 57344) (tw hw 10 rfl) d_prog_66_method_15_75 rfl ?_
                by_cases hc77_12 : z < (57344 : Int32)
                · refine A0.icmpYes (q := 90) d_prog_66_method_15_77 (tlt hc77_12).1 (by decide) (by decide) ?_
                  refine A0.iconst (q := 91) (v := 0) d_prog_66_method_15_90 rfl rfl ?_
                  refine A0.retN (by simp) d_prog_66_method_15_91 (by decide) (by decide) ⟨(0 : Int32), rfl, rfl, ?_⟩
                  clear hw A0
                  (try simp only [true_and, and_true, false_and, and_false, true_or, or_true, false_or, or_false, not_true_eq_false, not_false_eq_true, Int32.lt_iff_toInt_lt, Int64.lt_iff_toInt_lt, Int32.le_iff_toInt_le, Int64.le_iff_toInt_le, ← Int32.toInt_inj, ← Int64.toInt_inj, Int32.toInt_add, Int32.toInt_sub, Int32.toInt_neg, Int64.toInt_add, Int64.toInt_sub, Int64.toInt_neg, Int64.toInt_mul, Int32.toInt_toInt64, bm32, bm64, l32_0, l32_1, l32_9, l32_10, l32_13, l32_32, l32_34, l32_37, l32_38, l32_39, l32_126, l32_127, l32_133, l32_159, l32_160, l32_8232, l32_55295, l32_57344, l32_65533, l32_65535] at hc3_1 hc9_2 hc15_3 hc21_4 hc58_5 hc64_8 hc71_11 hc77_12 ⊢) <;> omega
                · refine A0.icmpNo (q := 80) d_prog_66_method_15_77 (flt hc77_12).1 rfl ?_
                  refine A0.iloadN (q := 81) d_prog_66_method_15_80 rfl rfl ?_
                  refine A0.ldc (qn := 83) (v := 65533) (tw hw 23 rfl) d_prog_66_method_15_81 rfl ?_
                  by_cases hc83_13 : (65533 : Int32) < z
                  · refine A0.icmpYes (q := 90) d_prog_66_method_15_83 (tlt hc83_13).2.2.1 (by decide) (by decide) ?_
                    refine A0.iconst (q := 91) (v := 0) d_prog_66_method_15_90 rfl rfl ?_
                    refine A0.retN (by simp) d_prog_66_method_15_91 (by decide) (by decide) ⟨(0 : Int32), rfl, rfl, ?_⟩
                    clear hw A0
                    (try simp only [true_and, and_true, false_and, and_false, true_or, or_true, false_or, or_false, not_true_eq_false, not_false_eq_true, Int32.lt_iff_toInt_lt, Int64.lt_iff_toInt_lt, Int32.le_iff_toInt_le, Int64.le_iff_toInt_le, ← Int32.toInt_inj, ← Int64.toInt_inj, Int32.toInt_add, Int32.toInt_sub, Int32.toInt_neg, Int64.toInt_add, Int64.toInt_sub, Int64.toInt_neg, Int64.toInt_mul, Int32.toInt_toInt64, bm32, bm64, l32_0, l32_1, l32_9, l32_10, l32_13, l32_32, l32_34, l32_37, l32_38, l32_39, l32_126, l32_127, l32_133, l32_159, l32_160, l32_8232, l32_55295, l32_57344, l32_65533, l32_65535] at hc3_1 hc9_2 hc15_3 hc21_4 hc58_5 hc64_8 hc71_11 hc77_12 hc83_13 ⊢) <;> omega
                  · refine A0.icmpNo (q := 86) d_prog_66_method_15_83 (flt hc83_13).2.2.1 rfl ?_
                    refine A0.iconst (q := 87) (v := 1) d_prog_66_method_15_86 rfl rfl ?_
                    refine A0.goto (q := 91) d_prog_66_method_15_87 (by decide) (by decide) ?_
                    refine A0.retN (by simp) d_prog_66_method_15_91 (by decide) (by decide) ⟨(1 : Int32), rfl, rfl, ?_⟩
                    clear hw A0
                    (try simp only [true_and, and_true, false_and, and_false, true_or, or_true, false_or, or_false, not_true_eq_false, not_false_eq_true, Int32.lt_iff_toInt_lt, Int64.lt_iff_toInt_lt, Int32.le_iff_toInt_le, Int64.le_iff_toInt_le, ← Int32.toInt_inj, ← Int64.toInt_inj, Int32.toInt_add, Int32.toInt_sub, Int32.toInt_neg, Int64.toInt_add, Int64.toInt_sub, Int64.toInt_neg, Int64.toInt_mul, Int32.toInt_toInt64, bm32, bm64, l32_0, l32_1, l32_9, l32_10, l32_13, l32_32, l32_34, l32_37, l32_38, l32_39, l32_126, l32_127, l32_133, l32_159, l32_160, l32_8232, l32_55295, l32_57344, l32_65533, l32_65535] at hc3_1 hc9_2 hc15_3 hc21_4 hc58_5 hc64_8 hc71_11 hc77_12 hc83_13 ⊢) <;> omega
              · refine A0.icmpYes (q := 86) d_prog_66_method_15_71 (feq hc71_11).2 (by decide) (by decide) ?_
                refine A0.iconst (q := 87) (v := 1) d_prog_66_method_15_86 rfl rfl ?_
                refine A0.goto (q := 91) d_prog_66_method_15_87 (by decide) (by decide) ?_
                refine A0.retN (by simp) d_prog_66_method_15_91 (by decide) (by decide) ⟨(1 : Int32), rfl, rfl, ?_⟩
                clear hw A0
                (try simp only [true_and, and_true, false_and, and_false, true_or, or_true, false_or, or_false, not_true_eq_false, not_false_eq_true, Int32.lt_iff_toInt_lt, Int64.lt_iff_toInt_lt, Int32.le_iff_toInt_le, Int64.le_iff_toInt_le, ← Int32.toInt_inj, ← Int64.toInt_inj, Int32.toInt_add, Int32.toInt_sub, Int32.toInt_neg, Int64.toInt_add, Int64.toInt_sub, Int64.toInt_neg, Int64.toInt_mul, Int32.toInt_toInt64, bm32, bm64, l32_0, l32_1, l32_9, l32_10, l32_13, l32_32, l32_34, l32_37, l32_38, l32_39, l32_126, l32_127, l32_133, l32_159, l32_160, l32_8232, l32_55295, l32_57344, l32_65533, l32_65535] at hc3_1 hc9_2 hc15_3 hc21_4 hc58_5 hc64_8 hc71_11 ⊢) <;> omega
        · refine A0.icmpNo (q := 24) d_prog_66_method_15_21 (flt hc21_4).1 rfl ?_
          refine A0.iloadN (q := 25) d_prog_66_method_15_24 rfl rfl ?_
          refine A0.bipush (q := 27) (v := 126) d_prog_66_method_15_25 rfl rfl ?_
          by_cases hc27_14 : (126 : Int32) < z
          · refine A0.icmpYes (q := 54) d_prog_66_method_15_27 (tlt hc27_14).2.2.1 (by decide) (by decide) ?_
            refine A0.iloadN (q := 55) d_prog_66_method_15_54 rfl rfl ?_
            refine A0.sipush (q := 58) (v := 160) d_prog_66_method_15_55 rfl rfl ?_
            by_cases hc58_15 : z < (160 : Int32)
            · refine A0.icmpYes (q := 74) d_prog_66_method_15_58 (tlt hc58_15).1 (by decide) (by decide) ?_
              refine A0.iloadN (q := 75) d_prog_66_method_15_74 rfl rfl ?_
              refine A0.ldc (qn := 77) (v := 57344) (tw hw 10 rfl) d_prog_66_method_15_75 rfl ?_
              by_cases hc77_16 : z < (57344 : Int32)
              · refine A0.icmpYes (q := 90) d_prog_66_method_15_77 (tlt hc77_16).1 (by decide) (by decide) ?_
                refine A0.iconst (q := 91) (v := 0) d_prog_66_method_15_90 rfl rfl ?_
                refine A0.retN (by simp) d_prog_66_method_15_91 (by decide) (by decide) ⟨(0 : Int32), rfl, rfl, ?_⟩
                clear hw A0
                (try simp only [true_and, and_true, false_and, and_false, true_or, or_true, false_or, or_false, not_true_eq_false, not_false_eq_true, Int32.lt_iff_toInt_lt, Int64.lt_iff_toInt_lt, Int32.le_iff_toInt_le, Int64.le_iff_toInt_le, ← Int32.toInt_inj, ← Int64.toInt_inj, Int32.toInt_add, Int32.toInt_sub, Int32.toInt_neg, Int64.toInt_add, Int64.toInt_sub, Int64.toInt_neg, Int64.toInt_mul, Int32.toInt_toInt64, bm32, bm64, l32_0, l32_1, l32_9, l32_10, l32_13, l32_32, l32_34, l32_37, l32_38, l32_39, l32_126, l32_127, l32_133, l32_159, l32_160, l32_8232, l32_55295, l32_57344, l32_65533, l32_65535] at hc3_1 hc9_2 hc15_3 hc21_4 hc27_14 hc58_15 hc77_16 ⊢) <;> omega
              · refine A0.icmpNo (q := 80) d_prog_66_method_15_77 (flt hc77_16).1 rfl ?_
                refine A0.iloadN (q := 81) d_prog_66_method_15_80 rfl rfl ?_
                refine A0.ldc (qn := 83) (v := 65533) (tw hw 23 rfl) d_prog_66_method_15_81 rfl ?_
                by_cases hc83_17 : (65533 : Int32) < z
                · refine A0.icmpYes (q := 90) d_prog_66_method_15_83 (tlt hc83_17).2.2.1 (by decide) (by decide) ?_
                  refine A0.iconst (q := 91) (v := 0) d_prog_66_method_15_90 rfl rfl ?_
                  refine A0.retN (by simp) d_prog_66_method_15_91 (by decide) (by decide) ⟨(0 : Int32), rfl, rfl, ?_⟩
                  clear hw A0
                  (try simp only [true_and, and_true, false_and, and_false, true_or, or_true, false_or, or_false, not_true_eq_false, not_false_eq_true, Int32.lt_iff_toInt_lt, Int64.lt_iff_toInt_lt, Int32.le_iff_toInt_le, Int64.le_iff_toInt_le, ← Int32.toInt_inj, ← Int64.toInt_inj, Int32.toInt_add, Int32.toInt_sub, Int32.toInt_neg, Int64.toInt_add, Int64.toInt_sub, Int64.toInt_neg, Int64.toInt_mul, Int32.toInt_toInt64, bm32, bm64, l32_0, l32_1, l32_9, l32_10, l32_13, l32_32, l32_34, l32_37, l32_38, l32_39, l32_126, l32_127, l32_133, l32_159, l32_160, l32_8232, l32_55295, l32_57344, l32_65533, l32_65535] at hc3_1 hc9_2 hc15_3 hc21_4 hc27_14 hc58_15 hc77_16 hc83_17 ⊢) <;> omega
                · refine A0.icmpNo (q := 86) d_prog_66_method_15_83 (flt hc83_17).2.2.1 rfl ?_
                  refine A0.iconst (q := 87) (v := 1) d_prog_66_method_15_86 rfl rfl ?_
                  refine A0.goto (q := 91) d_prog_66_method_15_87 (by decide) (by decide) ?_
                  refine A0.retN (by simp) d_prog_66_method_15_91 (by decide) (by decide) ⟨(1 : Int32), rfl, rfl, ?_⟩
                  clear hw A0
                  (try simp only [true_and, and_true, false_and, and_false, true_or, or_true, false_or, or_false, not_true_eq_false, not_false_eq_true, Int32.lt_iff_toInt_lt, Int64.lt_iff_toInt_lt, Int32.le_iff_toInt_le, Int64.le_iff_toInt_le, ← Int32.toInt_inj, ← Int64.toInt_inj, Int32.toInt_add, Int32.toInt_sub, Int32.toInt_neg, Int64.toInt_add, Int64.toInt_sub, Int64.toInt_neg, Int64.toInt_mul, Int32.toInt_toInt64, bm32, bm64, l32_0, l32_1, l32_9, l32_10, l32_13, l32_32, l32_34, l32_37, l32_38, l32_39, l32_126, l32_127, l32_133, l32_159, l32_160, l32_8232, l32_55295, l32_57344, l32_65533, l32_65535] at hc3_1 hc9_2 hc15_3 hc21_4 hc27_14 hc58_15 hc77_16 hc83_17 ⊢) <;> omega
            · refine A0.icmpNo (q := 61) d_prog_66_method_15_58 (flt hc58_15).1 rfl ?_
              refine A0.iloadN (q := 62) d_prog_66_method_15_61 rfl rfl ?_
              refine A0.ldc (qn := 64) (v := 55295) (tw hw 21 rfl) d_prog_66_method_15_62 rfl ?_
              by_cases hc64_18 : (55295 : Int32) < z
              · refine A0.icmpYes (q := 74) d_prog_66_method_15_64 (tlt hc64_18).2.2.1 (by decide) (by decide) ?_
                refine A0.iloadN (q := 75) d_prog_66_method_15_74 rfl rfl ?_
                refine A0.ldc (qn := 77) (v := 57344) (tw hw 10 rfl) d_prog_66_method_15_75 rfl ?_
                by_cases hc77_19 : z < (57344 : Int32)
                · refine A0.icmpYes (q := 90) d_prog_66_method_15_77 (tlt hc77_19).1 (by decide) (by decide) ?_
                  refine A0.iconst (q := 91) (v := 0) d_prog_66_method_15_90 rfl rfl ?_
                  refine A0.retN (by simp) d_prog_66_method_15_91 (by decide) (by decide) ⟨(0 : Int32), rfl, rfl, ?_⟩
                  clear hw A0
                  (try simp only [true_and, and_true, false_and, and_false, true_or, or_true, false_or, or_false, not_true_eq_false, not_false_eq_true, Int32.lt_iff_toInt_lt, Int64.lt_iff_toInt_lt, Int32.le_iff_toInt_le, Int64.le_iff_toInt_le, ← Int32.toInt_inj, ← Int64.toInt_inj, Int32.toInt_add, Int32.toInt_sub, Int32.toInt_neg, Int64.toInt_add, Int64.toInt_sub, Int64.toInt_neg, Int64.toInt_mul, Int32.toInt_toInt64, bm32, bm64, l32_0, l32_1, l32_9, l32_10, l32_13, l32_32, l32_34, l32_37, l32_38, l32_39, l32_126, l32_127, l32_133, l32_159, l32_160, l32_8232, l32_55295, l32_57344, l32_65533, l32_65535] at hc3_1 hc9_2 hc15_3 hc21_4 hc27_14 hc58_15 hc64_18 hc77_19 ⊢) <;> omega
                · refine A0.icmpNo (q := 80) d_prog_66_method_15_77 (flt hc77_19).1 rfl ?_
                  refine A0.iloadN (q := 81) d_prog_66_method_15_80 rfl rfl ?_
                  refine A0.ldc (qn := 83) (v := 65533) (tw hw 23 rfl) d_prog_66_method_15_81 rfl ?_
                  by_cases hc83_20 : (65533 : Int32) < z
                  · refine A0.icmpYes (q := 90) d_prog_66_method_15_83 (tlt hc83_20).2.2.1 (by decide) (by decide) ?_
                    refine A0.iconst (q := 91) (v := 0) d_prog_66_method_15_90 rfl rfl ?_
                    refine A0.retN (by simp) d_prog_66_method_15_91 (by decide) (by decide) ⟨(0 : Int32), rfl, rfl, ?_⟩
                    clear hw A0
                    (try simp only [true_and, and_true, false_and, and_false, true_or, or_true, false_or, or_false, not_true_eq_false, not_false_eq_true, Int32.lt_iff_toInt_lt, Int64.lt_iff_toInt_lt, Int32.le_iff_toInt_le, Int64.le_iff_toInt_le, ← Int32.toInt_inj, ← Int64.toInt_inj, Int32.toInt_add, Int32.toInt_sub, Int32.toInt_neg, Int64.toInt_add, Int64.toInt_sub, Int64.toInt_neg, Int64.toInt_mul, Int32.toInt_toInt64, bm32, bm64, l32_0, l32_1, l32_9, l32_10, l32_13, l32_32, l32_34, l32_37, l32_38, l32_39, l32_126, l32_127, l32_133, l32_159, l32_160, l32_8232, l32_55295, l32_57344, l32_65533, l32_65535] at hc3_1 hc9_2 hc15_3 hc21_4 hc27_14 hc58_15 hc64_18 hc77_19 hc83_20 ⊢) <;> omega
                  · refine A0.icmpNo (q := 86) d_prog_66_method_15_83 (flt hc83_20).2.2.1 rfl ?_
                    refine A0.iconst (q := 87) (v := 1) d_prog_66_method_15_86 rfl rfl ?_
                    refine A0.goto (q := 91) d_prog_66_method_15_87 (by decide) (by decide) ?_
                    refine A0.retN (by simp) d_prog_66_method_15_91 (by decide) (by decide) ⟨(1 : Int32), rfl, rfl, ?_⟩
                    clear hw A0
                    (try simp only [true_and, and_true, false_and, and_false, true_or, or_true, false_or, or_false, not_true_eq_false, not_false_eq_true, Int32.lt_iff_toInt_lt, Int64.lt_iff_toInt_lt, Int32.le_iff_toInt_le, Int64.le_iff_toInt_le, ← Int32.toInt_inj, ← Int64.toInt_inj, Int32.toInt_add, Int32.toInt_sub, Int32.toInt_neg, Int64.toInt_add, Int64.toInt_sub, Int64.toInt_neg, Int64.toInt_mul, Int32.toInt_toInt64, bm32, bm64, l32_0, l32_1, l32_9, l32_10, l32_13, l32_32, l32_34, l32_37, l32_38, l32_39, l32_126, l32_127, l32_133, l32_159, l32_160, l32_8232, l32_55295, l32_57344, l32_65533, l32_65535] at hc3_1 hc9_2 hc15_3 hc21_4 hc27_14 hc58_15 hc64_18 hc77_19 hc83_20 ⊢) <;> omega
              · refine A0.icmpNo (q := 67) d_prog_66_method_15_64 (flt hc64_18).2.2.1 rfl ?_
                refine A0.iloadN (q := 68) d_prog_66_method_15_67 rfl rfl ?_
                refine A0.sipush (q := 71) (v := 8232) d_prog_66_method_15_68 rfl rfl ?_
                by_cases hc71_21 : z = (8232 : Int32)
                · refine A0.icmpNo (q := 74) d_prog_66_method_15_71 (teq hc71_21).2 rfl ?_
                  refine A0.iloadN (q := 75) d_prog_66_method_15_74 rfl rfl ?_
                  refine A0.ldc (qn := 77) (v := 57344) (tw hw 10 rfl) d_prog_66_method_15_75 rfl ?_
                  by_cases hc77_22 : z < (57344 : Int32)
                  · refine A0.icmpYes (q := 90) d_prog_66_method_15_77 (tlt hc77_22).1 (by decide) (by decide) ?_
                    refine A0.iconst (q := 91) (v := 0) d_prog_66_method_15_90 rfl rfl ?_
                    refine A0.retN (by simp) d_prog_66_method_15_91 (by decide) (by decide) ⟨(0 : Int32), rfl, rfl, ?_⟩
                    clear hw A0
                    (try simp only [true_and, and_true, false_and, and_false, true_or, or_true, false_or, or_false, not_true_eq_false, not_false_eq_true, Int32.lt_iff_toInt_lt, Int64.lt_iff_toInt_lt, Int32.le_iff_toInt_le, Int64.le_iff_toInt_le, ← Int32.toInt_inj, ← Int64.toInt_inj, Int32.toInt_add, Int32.toInt_sub, Int32.toInt_neg, Int64.toInt_add, Int64.toInt_sub, Int64.toInt_neg, Int64.toInt_mul, Int32.toInt_toInt64, bm32, bm64, l32_0, l32_1, l32_9, l32_10, l32_13, l32_32, l32_34, l32_37, l32_38, l32_39, l32_126, l32_127, l32_133, l32_159, l32_160, l32_8232, l32_55295, l32_57344, l32_65533, l32_65535] at hc3_1 hc9_2 hc15_3 hc21_4 hc27_14 hc58_15 hc64_18 hc71_21 hc77_22 ⊢) <;> omega
                  · refine A0.icmpNo (q := 80) d_prog_66_method_15_77 (flt hc77_22).1 rfl ?_
                    refine A0.iloadN (q := 81) d_prog_66_method_15_80 rfl rfl ?_
                    refine A0.ldc (qn := 83) (v := 65533) (tw hw 23 rfl) d_prog_66_method_15_81 rfl ?_
                    by_cases hc83_23 : (65533 : Int32) < z
                    · refine A0.icmpYes (q := 90) d_prog_66_method_15_83 (tlt hc83_23).2.2.1 (by decide) (by decide) ?_
                      refine A0.iconst (q := 91) (v := 0) d_prog_66_method_15_90 rfl rfl ?_
                      refine A0.retN (by simp) d_prog_66_method_15_91 (by decide) (by decide) ⟨(0 : Int32), rfl, rfl, ?_⟩
                      clear hw A0
                      (try simp only [true_and, and_true, false_and, and_false, true_or, or_true, false_or, or_false, not_true_eq_false, not_false_eq_true, Int32.lt_iff_toInt_lt, Int64.lt_iff_toInt_lt, Int32.le_iff_toInt_le, Int64.le_iff_toInt_le, ← Int32.toInt_inj, ← Int64.toInt_inj, Int32.toInt_add, Int32.toInt_sub, Int32.toInt_neg, Int64.toInt_add, Int64.toInt_sub, Int64.toInt_neg, Int64.toInt_mul, Int32.toInt_toInt64, bm32, bm64, l32_0, l32_1, l32_9, l32_10, l32_13, l32_32, l32_34, l32_37, l32_38, l32_39, l32_126, l32_127, l32_133, l32_159, l32_160, l32_8232, l32_55295, l32_57344, l32_65533, l32_65535] at hc3_1 hc9_2 hc15_3 hc21_4 hc27_14 hc58_15 hc64_18 hc71_21 hc77_22 hc83_23 ⊢) <;> omega
                    · refine A0.icmpNo (q := 86) d_prog_66_method_15_83 (flt hc83_23).2.2.1 rfl ?_
                      refine A0.iconst (q := 87) (v := 1) d_prog_66_method_15_86 rfl rfl ?_
                      refine A0.goto (q := 91) d_prog_66_method_15_87 (by decide) (by decide) ?_
                      refine A0.retN (by simp) d_prog_66_method_15_91 (by decide) (by decide) ⟨(1 : Int32), rfl, rfl, ?_⟩
                      clear hw A0
                      (try simp only [true_and, and_true, false_and, and_false, true_or, or_true, false_or, or_false, not_true_eq_false, not_false_eq_true, Int32.lt_iff_toInt_lt, Int64.lt_iff_toInt_lt, Int32.le_iff_toInt_le, Int64.le_iff_toInt_le, ← Int32.toInt_inj, ← Int64.toInt_inj, Int32.toInt_add, Int32.toInt_sub, Int32.toInt_neg, Int64.toInt_add, Int64.toInt_sub, Int64.toInt_neg, Int64.toInt_mul, Int32.toInt_toInt64, bm32, bm64, l32_0, l32_1, l32_9, l32_10, l32_13, l32_32, l32_34, l32_37, l32_38, l32_39, l32_126, l32_127, l32_133, l32_159, l32_160, l32_8232, l32_55295, l32_57344, l32_65533, l32_65535] at hc3_1 hc9_2 hc15_3 hc21_4 hc27_14 hc58_15 hc64_18 hc71_21 hc77_22 hc83_23 ⊢) <;> omega
                · refine A0.icmpYes (q := 86) d_prog_66_method_15_71 (feq hc71_21).2 (by decide) (by decide) ?_
                  refine A0.iconst (q := 87) (v := 1) d_prog_66_method_15_86 rfl rfl ?_
                  refine A0.goto (q := 91) d_prog_66_method_15_87 (by decide) (by decide) ?_
                  refine A0.retN (by simp) d_prog_66_method_15_91 (by decide) (by decide) ⟨(1 : Int32), rfl, rfl, ?_⟩
                  clear hw A0
                  (try simp only [true_and, and_true, false_and, and_false, true_or, or_true, false_or, or_false, not_true_eq_false, not_false_eq_true, Int32.lt_iff_toInt_lt, Int64.lt_iff_toInt_lt, Int32.le_iff_toInt_le, Int64.le_iff_toInt_le, ← Int32.toInt_inj, ← Int64.toInt_inj, Int32.toInt_add, Int32.toInt_sub, Int32.toInt_neg, Int64.toInt_add, Int64.toInt_sub, Int64.toInt_neg, Int64.toInt_mul, Int32.toInt_toInt64, bm32, bm64, l32_0, l32_1, l32_9, l32_10, l32_13, l32_32, l32_34, l32_37, l32_38, l32_39, l32_126, l32_127, l32_133, l32_159, l32_160, l32_8232, l32_55295, l32_57344, l32_65533, l32_65535] at hc3_1 hc9_2 hc15_3 hc21_4 hc27_14 hc58_15 hc64_18 hc71_21 ⊢) <;> omega
          · refine A0.icmpNo (q := 30) d_prog_66_method_15_27 (flt hc27_14).2.2.1 rfl ?_
            refine A0.iloadN (q := 31) d_prog_66_method_15_30 rfl rfl ?_
            refine A0.bipush (q := 33) (v := 38) d_prog_66_method_15_31 rfl rfl ?_
            by_cases hc33_24 : z = (38 : Int32)
            · refine A0.icmpYes (q := 54) d_prog_66_method_15_33 (teq hc33_24).1 (by decide) (by decide) ?_
              refine A0.iloadN (q := 55) d_prog_66_method_15_54 rfl rfl ?_
              refine A0.sipush (q := 58) (v := 160) d_prog_66_method_15_55 rfl rfl ?_
              by_cases hc58_25 : z < (160 : Int32)
              · refine A0.icmpYes (q := 74) d_prog_66_method_15_58 (tlt hc58_25).1 (by decide) (by decide) ?_
                refine A0.iloadN (q := 75) d_prog_66_method_15_74 rfl rfl ?_
                refine A0.ldc (qn := 77) (v := 57344) (tw hw 10 rfl) d_prog_66_method_15_75 rfl ?_
                by_cases hc77_26 : z < (57344 : Int32)
                · refine A0.icmpYes (q := 90) d_prog_66_method_15_77 (tlt hc77_26).1 (by decide) (by decide) ?_
                  refine A0.iconst (q := 91) (v := 0) d_prog_66_method_15_90 rfl rfl ?_
                  refine A0.retN (by simp) d_prog_66_method_15_91 (by decide) (by decide) ⟨(0 : Int32), rfl, rfl, ?_⟩
                  clear hw A0
                  (try simp only [true_and, and_true, false_and, and_false, true_or, or_true, false_or, or_false, not_true_eq_false, not_false_eq_true, Int32.lt_iff_toInt_lt, Int64.lt_iff_toInt_lt, Int32.le_iff_toInt_le, Int64.le_iff_toInt_le, ← Int32.toInt_inj, ← Int64.toInt_inj, Int32.toInt_add, Int32.toInt_sub, Int32.toInt_neg, Int64.toInt_add, Int64.toInt_sub, Int64.toInt_neg, Int64.toInt_mul, Int32.toInt_toInt64, bm32, bm64, l32_0, l32_1, l32_9, l32_10, l32_13, l32_32, l32_34, l32_37, l32_38, l32_39, l32_126, l32_127, l32_133, l32_159, l32_160, l32_8232, l32_55295, l32_57344, l32_65533, l32_65535] at hc3_1 hc9_2 hc15_3 hc21_4 hc27_14 hc33_24 hc58_25 hc77_26 ⊢) <;> omega
                · refine A0.icmpNo (q := 80) d_prog_66_method_15_77 (flt hc77_26).1 rfl ?_
                  refine A0.iloadN (q := 81) d_prog_66_method_15_80 rfl rfl ?_
                  refine A0.ldc (qn := 83) (v := 65533) (tw hw 23 rfl) d_prog_66_method_15_81 rfl ?_
                  by_cases hc83_27 : (65533 : Int32) < z
                  · refine A0.icmpYes (q := 90) d_prog_66_method_15_83 (tlt hc83_27).2.2.1 (by decide) (by decide) ?_
                    refine A0.iconst (q := 91) (v := 0) d_prog_66_method_15_90 rfl rfl ?_
                    refine A0.retN (by simp) d_prog_66_method_15_91 (by decide) (by decide) ⟨(0 : Int32), rfl, rfl, ?_⟩
                    clear hw A0
                    (try simp only [true_and, and_true, false_and, and_false, true_or, or_true, false_or, or_false, not_true_eq_false, not_false_eq_true, Int32.lt_iff_toInt_lt, Int64.lt_iff_toInt_lt, Int32.le_iff_toInt_le, Int64.le_iff_toInt_le, ← Int32.toInt_inj, ← Int64.toInt_inj, Int32.toInt_add, Int32.toInt_sub, Int32.toInt_neg, Int64.toInt_add, Int64.toInt_sub, Int64.toInt_neg, Int64.toInt_mul, Int32.toInt_toInt64, bm32, bm64, l32_0, l32_1, l32_9, l32_10, l32_13, l32_32, l32_34, l32_37, l32_38, l32_39, l32_126, l32_127, l32_133, l32_159, l32_160, l32_8232, l32_55295, l32_57344, l32_65533, l32_65535] at hc3_1 hc9_2 hc15_3 hc21_4 hc27_14 hc33_24 hc58_25 hc77_26 hc83_27 ⊢) <;> omega
                  · refine A0.icmpNo (q := 86) d_prog_66_method_15_83 (flt hc83_27).2.2.1 rfl ?_
                    refine A0.iconst (q := 87) (v := 1) d_prog_66_method_15_86 rfl rfl ?_
                    refine A0.goto (q := 91) d_prog_66_method_15_87 (by decide) (by decide) ?_
                    refine A0.retN (by simp) d_prog_66_method_15_91 (by decide) (by decide) ⟨(1 : Int32), rfl, rfl, ?_⟩
                    clear hw A0
                    (try simp only [true_and, and_true, false_and, and_false, true_or, or_true, false_or, or_false, not_true_eq_false, not_false_eq_true, Int32.lt_iff_toInt_lt, Int64.lt_iff_toInt_lt, Int32.le_iff_toInt_le, Int64.le_iff_toInt_le, ← Int32.toInt_inj, ← Int64.toInt_inj, Int32.toInt_add, Int32.toInt_sub, Int32.toInt_neg, Int64.toInt_add, Int64.toInt_sub, Int64.toInt_neg, Int64.toInt_mul, Int32.toInt_toInt64, bm32, bm64, l32_0, l32_1, l32_9, l32_10, l32_13, l32_32, l32_34, l32_37, l32_38, l32_39, l32_126, l32_127, l32_133, l32_159, l32_160, l32_8232, l32_55295, l32_57344, l32_65533, l32_65535] at hc3_1 hc9_2 hc15_3 hc21_4 hc27_14 hc33_24 hc58_25 hc77_26 hc83_27 ⊢) <;> omega
              · refine A0.icmpNo (q := 61) d_prog_66_method_15_58 (flt hc58_25).1 rfl ?_
                refine A0.iloadN (q := 62) d_prog_66_method_15_61 rfl rfl ?_
                refine A0.ldc (qn := 64) (v := 55295) (tw hw 21 rfl) d_prog_66_method_15_62 rfl ?_
                by_cases hc64_28 : (55295 : Int32) < z
                · refine A0.icmpYes (q := 74) d_prog_66_method_15_64 (tlt hc64_28).2.2.1 (by decide) (by decide) ?_
                  refine A0.iloadN (q := 75) d_prog_66_method_15_74 rfl rfl ?_
                  refine A0.ldc (qn := 77) (v := 57344) (tw hw 10 rfl) d_prog_66_method_15_75 rfl ?_
                  by_cases hc77_29 : z < (57344 : Int32)
                  · refine A0.icmpYes (q := 90) d_prog_66_method_15_77 (tlt hc77_29).1 (by decide) (by decide) ?_
                    refine A0.iconst (q := 91) (v := 0) d_prog_66_method_15_90 rfl rfl ?_
                    refine A0.retN (by simp) d_prog_66_method_15_91 (by decide) (by decide) ⟨(0 : Int32), rfl, rfl, ?_⟩
                    clear hw A0
                    (try simp only [true_and, and_true, false_and, and_false, true_or, or_true, false_or, or_false, not_true_eq_false, not_false_eq_true, Int32.lt_iff_toInt_lt, Int64.lt_iff_toInt_lt, Int32.le_iff_toInt_le, Int64.le_iff_toInt_le, ← Int32.toInt_inj, ← Int64.toInt_inj, Int32.toInt_add, Int32.toInt_sub, Int32.toInt_neg, Int64.toInt_add, Int64.toInt_sub, Int64.toInt_neg, Int64.toInt_mul, Int32.toInt_toInt64, bm32, bm64, l32_0, l32_1, l32_9, l32_10, l32_13, l32_32, l32_34, l32_37, l32_38, l32_39, l32_126, l32_127, l32_133, l32_159, l32_160, l32_8232, l32_55295, l32_57344, l32_65533, l32_65535] at hc3_1 hc9_2 hc15_3 hc21_4 hc27_14 hc33_24 hc58_25 hc64_28 hc77_29 ⊢) <;> omega
                  · refine A0.icmpNo (q := 80) d_prog_66_method_15_77 (flt hc77_29).1 rfl ?_
                    refine A0.iloadN (q := 81) d_prog_66_method_15_80 rfl rfl ?_
                    refine A0.ldc (qn := 83) (v := 65533) (tw hw 23 rfl) d_prog_66_method_15_81 rfl ?_
                    by_cases hc83_30 : (65533 : Int32) < z
                    · refine A0.icmpYes (q := 90) d_prog_66_method_15_83 (tlt hc83_30).2.2.1 (by decide) (by decide) ?_
                      refine A0.iconst (q := 91) (v := 0) d_prog_66_method_15_90 rfl rfl ?_
                      refine A0.retN (by simp) d_prog_66_method_15_91 (by decide) (by decide) ⟨(0 : Int32), rfl, rfl, ?_⟩
                      clear hw A0
                      (try simp only [true_and, and_true, false_and, and_false, true_or, or_true, false_or, or_false, not_true_eq_false, not_false_eq_true, Int32.lt_iff_toInt_lt, Int64.lt_iff_toInt_lt, Int32.le_iff_toInt_le, Int64.le_iff_toInt_le, ← Int32.toInt_inj, ← Int64.toInt_inj, Int32.toInt_add, Int32.toInt_sub, Int32.toInt_neg, Int64.toInt_add, Int64.toInt_sub, Int64.toInt_neg, Int64.toInt_mul, Int32.toInt_toInt64, bm32, bm64, l32_0, l32_1, l32_9, l32_10, l32_13, l32_32, l32_34, l32_37, l32_38, l32_39, l32_126, l32_127, l32_133, l32_159, l32_160, l32_8232, l32_55295, l32_57344, l32_65533, l32_65535] at hc3_1 hc9_2 hc15_3 hc21_4 hc27_14 hc33_24 hc58_25 hc64_28 hc77_29 hc83_30 ⊢) <;> omega
                    · refine A0.icmpNo (q := 86) d_prog_66_method_15_83 (flt hc83_30).2.2.1 rfl ?_
                      refine A0.iconst (q := 87) (v := 1) d_prog_66_method_15_86 rfl rfl ?_
                      refine A0.goto (q := 91) d_prog_66_method_15_87 (by decide) (by decide) ?_
                      refine A0.retN (by simp) d_prog_66_method_15_91 (by decide) (by decide) ⟨(1 : Int32), rfl, rfl, ?_⟩
                      clear hw A0
                      (try simp only [true_and, and_true, false_and, and_false, true_or, or_true, false_or, or_false, not_true_eq_false, not_false_eq_true, Int32.lt_iff_toInt_lt, Int64.lt_iff_toInt_lt, Int32.le_iff_toInt_le, Int64.le_iff_toInt_le, ← Int32.toInt_inj, ← Int64.toInt_inj, Int32.toInt_add, Int32.toInt_sub, Int32.toInt_neg, Int64.toInt_add, Int64.toInt_sub, Int64.toInt_neg, Int64.toInt_mul, Int32.toInt_toInt64, bm32, bm64, l32_0, l32_1, l32_9, l32_10, l32_13, l32_32, l32_34, l32_37, l32_38, l32_39, l32_126, l32_127, l32_133, l32_159, l32_160, l32_8232, l32_55295, l32_57344, l32_65533, l32_65535] at hc3_1 hc9_2 hc15_3 hc21_4 hc27_14 hc33_24 hc58_25 hc64_28 hc77_29 hc83_30 ⊢) <;> omega
                · refine A0.icmpNo (q := 67) d_prog_66_method_15_64 (flt hc64_28).2.2.1 rfl ?_
                  refine A0.iloadN (q := 68) d_prog_66_method_15_67 rfl rfl ?_
                  refine A0.sipush (q := 71) (v := 8232) d_prog_66_method_15_68 rfl rfl ?_
                  by_cases hc71_31 : z = (8232 : Int32)
                  · refine A0.icmpNo (q := 74) d_prog_66_method_15_71 (teq hc71_31).2 rfl ?_
                    refine A0.iloadN (q := 75) d_prog_66_method_15_74 rfl rfl ?_
                    refine A0.ldc (qn := 77) (v := 57344) (tw hw 10 rfl) d_prog_66_method_15_75 rfl ?_
                    by_cases hc77_32 : z < (57344 : Int32)
                    · refine A0.icmpYes (q := 90) d_prog_66_method_15_77 (tlt hc77_32).1 (by decide) (by decide) ?_
                      refine A0.iconst (q := 91) (v := 0) d_prog_66_method_15_90 rfl rfl ?_
                      refine A0.retN (by simp) d_prog_66_method_15_91 (by decide) (by decide) ⟨(0 : Int32), rfl, rfl, ?_⟩
                      clear hw A0
                      (try simp only [true_and, and_true, false_and, and_false, true_or, or_true, false_or, or_false, not_true_eq_false, not_false_eq_true, Int32.lt_iff_toInt_lt, Int64.lt_iff_toInt_lt, Int32.le_iff_toInt_le, Int64.le_iff_toInt_le, ← Int32.toInt_inj, ← Int64.toInt_inj, Int32.toInt_add, Int32.toInt_sub, Int32.toInt_neg, Int64.toInt_add, Int64.toInt_sub, Int64.toInt_neg, Int64.toInt_mul, Int32.toInt_toInt64, bm32, bm64, l32_0, l32_1, l32_9, l32_10, l32_13, l32_32, l32_34, l32_37, l32_38, l32_39, l32_126, l32_127, l32_133, l32_159, l32_160, l32_8232, l32_55295, l32_57344, l32_65533, l32_65535] at hc3_1 hc9_2 hc15_3 hc21_4 hc27_14 hc33_24 hc58_25 hc64_28 hc71_31 hc77_32 ⊢) <;> omega
                    · refine A0.icmpNo (q := 80) d_prog_66_method_15_77 (flt hc77_32).1 rfl ?_
                      refine A0.iloadN (q := 81) d_prog_66_method_15_80 rfl rfl ?_
                      refine A0.ldc (qn := 83) (v := 65533) (tw hw 23 rfl) d_prog_66_method_15_81 rfl ?_
                      by_cases hc83_33 : (65533 : Int32) < z
                      · refine A0.icmpYes (q := 90) d_prog_66_method_15_83 (tlt hc83_33).2.2.1 (by decide) (by decide) ?_
                        refine A0.iconst (q := 91) (v := 0) d_prog_66_method_15_90 rfl rfl ?_
                        refine A0.retN (by simp) d_prog_66_method_15_91 (by decide) (by decide) ⟨(0 : Int32), rfl, rfl, ?_⟩
                        clear hw A0
                        (try simp only [true_and, and_true, false_and, and_false, true_or, or_true, false_or, or_false, not_true_eq_false, not_false_eq_true, Int32.lt_iff_toInt_lt, Int64.lt_iff_toInt_lt, Int32.le_iff_toInt_le, Int64.le_iff_toInt_le, ← Int32.toInt_inj, ← Int64.toInt_inj, Int32.toInt_add, Int32.toInt_sub, Int32.toInt_neg, Int64.toInt_add, Int64.toInt_sub, Int64.toInt_neg, Int64.toInt_mul, Int32.toInt_toInt64, bm32, bm64, l32_0, l32_1, l32_9, l32_10, l32_13, l32_32, l32_34, l32_37, l32_38, l32_39, l32_126, l32_127, l32_133, l32_159, l32_160, l32_8232, l32_55295, l32_57344, l32_65533, l32_65535] at hc3_1 hc9_2 hc15_3 hc21_4 hc27_14 hc33_24 hc58_25 hc64_28 hc71_31 hc77_32 hc83_33 ⊢) <;> omega
                      · refine A0.icmpNo (q := 86) d_prog_66_method_15_83 (flt hc83_33).2.2.1 rfl ?_
                        refine A0.iconst (q := 87) (v := 1) d_prog_66_method_15_86 rfl rfl ?_
                        refine A0.goto (q := 91) d_prog_66_method_15_87 (by decide) (by decide) ?_
                        refine A0.retN (by simp) d_prog_66_method_15_91 (by decide) (by decide) ⟨(1 : Int32), rfl, rfl, ?_⟩
                        clear hw A0
                        (try simp only [true_and, and_true, false_and, and_false, true_or, or_true, false_or, or_false, not_true_eq_false, not_false_eq_true, Int32.lt_iff_toInt_lt, Int64.lt_iff_toInt_lt, Int32.le_iff_toInt_le, Int64.le_iff_toInt_le, ← Int32.toInt_inj, ← Int64.toInt_inj, Int32.toInt_add, Int32.toInt_sub, Int32.toInt_neg, Int64.toInt_add, Int64.toInt_sub, Int64.toInt_neg, Int64.toInt_mul, Int32.toInt_toInt64, bm32, bm64, l32_0, l32_1, l32_9, l32_10, l32_13, l32_32, l32_34, l32_37, l32_38, l32_39, l32_126, l32_127, l32_133, l32_159, l32_160, l32_8232, l32_55295, l32_57344, l32_65533, l32_65535] at hc3_1 hc9_2 hc15_3 hc21_4 hc27_14 hc33_24 hc58_25 hc64_28 hc71_31 hc77_32 hc83_33 ⊢) <;> omega
                  · refine A0.icmpYes (q := 86) d_prog_66_method_15_71 (feq hc71_31).2 (by decide) (by decide) ?_
                    refine A0.iconst (q := 87) (v := 1) d_prog_66_method_15_86 rfl rfl ?_
                    refine A0.goto (q := 91) d_prog_66_method_15_87 (by decide) (by decide) ?_
                    refine A0.retN (by simp) d_prog_66_method_15_91 (by decide) (by decide) ⟨(1 : Int32), rfl, rfl, ?_⟩
                    clear hw A0
                    (try simp only [true_and, and_true, false_and, and_false, true_or, or_true, false_or, or_false, not_true_eq_false, not_false_eq_true, Int32.lt_iff_toInt_lt, Int64.lt_iff_toInt_lt, Int32.le_iff_toInt_le, Int64.le_iff_toInt_le, ← Int32.toInt_inj, ← Int64.toInt_inj, Int32.toInt_add, Int32.toInt_sub, Int32.toInt_neg, Int64.toInt_add, Int64.toInt_sub, Int64.toInt_neg, Int64.toInt_mul, Int32.toInt_toInt64, bm32, bm64, l32_0, l32_1, l32_9, l32_10, l32_13, l32_32, l32_34, l32_37, l32_38, l32_39, l32_126, l32_127, l32_133, l32_159, l32_160, l32_8232, l32_55295, l32_57344, l32_65533, l32_65535] at hc3_1 hc9_2 hc15_3 hc21_4 hc27_14 hc33_24 hc58_25 hc64_28 hc71_31 ⊢) <;> omega
            · refine A0.icmpNo (q := 36) d_prog_66_method_15_33 (feq hc33_24).1 rfl ?_
              refine A0.iloadN (q := 37) d_prog_66_method_15_36 rfl rfl ?_
              refine A0.bipush (q := 39) (v := 37) d_prog_66_method_15_37 rfl rfl ?_
              by_cases hc39_34 : z = (37 : Int32)
              · refine A0.icmpYes (q := 54) d_prog_66_method_15_39 (teq hc39_34).1 (by decide) (by decide) ?_
                refine A0.iloadN (q := 55) d_prog_66_method_15_54 rfl rfl ?_
                refine A0.sipush (q := 58) (v := 160) d_prog_66_method_15_55 rfl rfl ?_
                by_cases hc58_35 : z < (160 : Int32)
                · refine A0.icmpYes (q := 74) d_prog_66_method_15_58 (tlt hc58_35).1 (by decide) (by decide) ?_
                  refine A0.iloadN (q := 75) d_prog_66_method_15_74 rfl rfl ?_
                  refine A0.ldc (qn := 77) (v := 57344) (tw hw 10 rfl) d_prog_66_method_15_75 rfl ?_
                  by_cases hc77_36 : z < (57344 : Int32)
                  · refine A0.icmpYes (q := 90) d_prog_66_method_15_77 (tlt hc77_36).1 (by decide) (by decide) ?_
                    refine A0.iconst (q := 91) (v := 0) d_prog_66_method_15_90 rfl rfl ?_
                    refine A0.retN (by simp) d_prog_66_method_15_91 (by decide) (by decide) ⟨(0 : Int32), rfl, rfl, ?_⟩
                    clear hw A0
                    (try simp only [true_and, and_true, false_and, and_false, true_or, or_true, false_or, or_false, not_true_eq_false, not_false_eq_true, Int32.lt_iff_toInt_lt, Int64.lt_iff_toInt_lt, Int32.le_iff_toInt_le, Int64.le_iff_toInt_le, ← Int32.toInt_inj, ← Int64.toInt_inj, Int32.toInt_add, Int32.toInt_sub, Int32.toInt_neg, Int64.toInt_add, Int64.toInt_sub, Int64.toInt_neg, Int64.toInt_mul, Int32.toInt_toInt64, bm32, bm64, l32_0, l32_1, l32_9, l32_10, l32_13, l32_32, l32_34, l32_37, l32_38, l32_39, l32_126, l32_127, l32_133, l32_159, l32_160, l32_8232, l32_55295, l32_57344, l32_65533, l32_65535] at hc3_1 hc9_2 hc15_3 hc21_4 hc27_14 hc33_24 hc39_34 hc58_35 hc77_36 ⊢) <;> omega
                  · refine A0.icmpNo (q := 80) d_prog_66_method_15_77 (flt hc77_36).1 rfl ?_
                    refine A0.iloadN (q := 81) d_prog_66_method_15_80 rfl rfl ?_
                    refine A0.ldc (qn := 83) (v := 65533) (tw hw 23 rfl) d_prog_66_method_15_81 rfl ?_
                    by_cases hc83_37 : (65533 : Int32) < z
                    · refine A0.icmpYes (q := 90) d_prog_66_method_15_83 (tlt hc83_37).2.2.1 (by decide) (by decide) ?_
                      refine A0.iconst (q := 91) (v := 0) d_prog_66_method_15_90 rfl rfl ?_
                      refine A0.retN (by simp) d_prog_66_method_15_91 (by decide) (by decide) ⟨(0 : Int32), rfl, rfl, ?_⟩
                      clear hw A0
                      (try simp only [true_and, and_true, false_and, and_false, true_or, or_true, false_or, or_false, not_true_eq_false, not_false_eq_true, Int32.lt_iff_toInt_lt, Int64.lt_iff_toInt_lt, Int32.le_iff_toInt_le, Int64.le_iff_toInt_le, ← Int32.toInt_inj, ← Int64.toInt_inj, Int32.toInt_add, Int32.toInt_sub, Int32.toInt_neg, Int64.toInt_add, Int64.toInt_sub, Int64.toInt_neg, Int64.toInt_mul, Int32.toInt_toInt64, bm32, bm64, l32_0, l32_1, l32_9, l32_10, l32_13, l32_32, l32_34, l32_37, l32_38, l32_39, l32_126, l32_127, l32_133, l32_159, l32_160, l32_8232, l32_55295, l32_57344, l32_65533, l32_65535] at hc3_1 hc9_2 hc15_3 hc21_4 hc27_14 hc33_24 hc39_34 hc58_35 hc77_36 hc83_37 ⊢) <;> omega
                    · refine A0.icmpNo (q := 86) d_prog_66_method_15_83 (flt hc83_37).2.2.1 rfl ?_
                      refine A0.iconst (q := 87) (v := 1) d_prog_66_method_15_86 rfl rfl ?_
                      refine A0.goto (q := 91) d_prog_66_method_15_87 (by decide) (by decide) ?_
                      refine A0.retN (by simp) d_prog_66_method_15_91 (by decide) (by decide) ⟨(1 : Int32), rfl, rfl, ?_⟩
                      clear hw A0
                      (try simp only [true_and, and_true, false_and, and_false, true_or, or_true, false_or, or_false, not_true_eq_false, not_false_eq_true, Int32.lt_iff_toInt_lt, Int64.lt_iff_toInt_lt, Int32.le_iff_toInt_le, Int64.le_iff_toInt_le, ← Int32.toInt_inj, ← Int64.toInt_inj, Int32.toInt_add, Int32.toInt_sub, Int32.toInt_neg, Int64.toInt_add, Int64.toInt_sub, Int64.toInt_neg, Int64.toInt_mul, Int32.toInt_toInt64, bm32, bm64, l32_0, l32_1, l32_9, l32_10, l32_13, l32_32, l32_34, l32_37, l32_38, l32_39, l32_126, l32_127, l32_133, l32_159, l32_160, l32_8232, l32_55295, l32_57344, l32_65533, l32_65535] at hc3_1 hc9_2 hc15_3 hc21_4 hc27_14 hc33_24 hc39_34 hc58_35 hc77_36 hc83_37 ⊢) <;> omega
                · refine A0.icmpNo (q := 61) d_prog_66_method_15_58 (flt hc58_35).1 rfl ?_
                  refine A0.iloadN (q := 62) d_prog_66_method_15_61 rfl rfl ?_
                  refine A0.ldc (qn := 64) (v := 55295) (tw hw 21 rfl) d_prog_66_method_15_62 rfl ?_
                  by_cases hc64_38 : (55295 : Int32) < z
                  · refine A0.icmpYes (q := 74) d_prog_66_method_15_64 (tlt hc64_38).2.2.1 (by decide) (by decide) ?_
                    refine A0.iloadN (q := 75) d_prog_66_method_15_74 rfl rfl ?_
                    refine A0.ldc (qn := 77) (v := 57344) (tw hw 10 rfl) d_prog_66_method_15_75 rfl ?_
                    by_cases hc77_39 : z < (57344 : Int32)
                    · refine A0.icmpYes (q := 90) d_prog_66_method_15_77 (tlt hc77_39).1 (by decide) (by decide) ?_
                      refine A0.iconst (q := 91) (v := 0) d_prog_66_method_15_90 rfl rfl ?_
                      refine A0.retN (by simp) d_prog_66_method_15_91 (by decide) (by decide) ⟨(0 : Int32), rfl, rfl, ?_⟩
                      clear hw A0
                      (try simp only [true_and, and_true, false_and, and_false, true_or, or_true, false_or, or_false, not_true_eq_false, not_false_eq_true, Int32.lt_iff_toInt_lt, Int64.lt_iff_toInt_lt, Int32.le_iff_toInt_le, Int64.le_iff_toInt_le, ← Int32.toInt_inj, ← Int64.toInt_inj, Int32.toInt_add, Int32.toInt_sub, Int32.toInt_neg, Int64.toInt_add, Int64.toInt_sub, Int64.toInt_neg, Int64.toInt_mul, Int32.toInt_toInt64, bm32, bm64, l32_0, l32_1, l32_9, l32_10, l32_13, l32_32, l32_34, l32_37, l32_38, l32_39, l32_126, l32_127, l32_133, l32_159, l32_160, l32_8232, l32_55295, l32_57344, l32_65533, l32_65535] at hc3_1 hc9_2 hc15_3 hc21_4 hc27_14 hc33_24 hc39_34 hc58_35 hc64_38 hc77_39 ⊢) <;> omega
                    · refine A0.icmpNo (q := 80) d_prog_66_method_15_77 (flt hc77_39).1 rfl ?_
                      refine A0.iloadN (q := 81) d_prog_66_method_15_80 rfl rfl ?_
                      refine A0.ldc (qn := 83) (v := 65533) (tw hw 23 rfl) d_prog_66_method_15_81 rfl ?_
                      by_cases hc83_40 : (65533 : Int32) < z
                      · refine A0.icmpYes (q := 90) d_prog_66_method_15_83 (tlt hc83_40).2.2.1 (by decide) (by decide) ?_
                        refine A0.iconst (q := 91) (v := 0) d_prog_66_method_15_90 rfl rfl ?_
                        refine A0.retN (by simp) d_prog_66_method_15_91 (by decide) (by decide) ⟨(0 : Int32), rfl, rfl, ?_⟩
                        clear hw A0
                        (try simp only [true_and, and_true, false_and, and_false, true_or, or_true, false_or, or_false, not_true_eq_false, not_false_eq_true, Int32.lt_iff_toInt_lt, Int64.lt_iff_toInt_lt, Int32.le_iff_toInt_le, Int64.le_iff_toInt_le, ← Int32.toInt_inj, ← Int64.toInt_inj, Int32.toInt_add, Int32.toInt_sub, Int32.toInt_neg, Int64.toInt_add, Int64.toInt_sub, Int64.toInt_neg, Int64.toInt_mul, Int32.toInt_toInt64, bm32, bm64, l32_0, l32_1, l32_9, l32_10, l32_13, l32_32, l32_34, l32_37, l32_38, l32_39, l32_126, l32_127, l32_133, l32_159, l32_160, l32_8232, l32_55295, l32_57344, l32_65533, l32_65535] at hc3_1 hc9_2 hc15_3 hc21_4 hc27_14 hc33_24 hc39_34 hc58_35 hc64_38 hc77_39 hc83_40 ⊢) <;> omega
                      · refine A0.icmpNo (q := 86) d_prog_66_method_15_83 (flt hc83_40).2.2.1 rfl ?_
                        refine A0.iconst (q := 87) (v := 1) d_prog_66_method_15_86 rfl rfl ?_
                        refine A0.goto (q := 91) d_prog_66_method_15_87 (by decide) (by decide) ?_
                        refine A0.retN (by simp) d_prog_66_method_15_91 (by decide) (by decide) ⟨(1 : Int32), rfl, rfl, ?_⟩
                        clear hw A0
                        (try simp only [true_and, and_true, false_and, and_false, true_or, or_true, false_or, or_false, not_true_eq_false, not_false_eq_true, Int32.lt_iff_toInt_lt, Int64.lt_iff_toInt_lt, Int32.le_iff_toInt_le, Int64.le_iff_toInt_le, ← Int32.toInt_inj, ← Int64.toInt_inj, Int32.toInt_add, Int32.toInt_sub, Int32.toInt_neg, Int64.toInt_add, Int64.toInt_sub, Int64.toInt_neg, Int64.toInt_mul, Int32.toInt_toInt64, bm32, bm64, l32_0, l32_1, l32_9, l32_10, l32_13, l32_32, l32_34, l32_37, l32_38, l32_39, l32_126, l32_127, l32_133, l32_159, l32_160, l32_8232, l32_55295, l32_57344, l32_65533, l32_65535] at hc3_1 hc9_2 hc15_3 hc21_4 hc27_14 hc33_24 hc39_34 hc58_35 hc64_38 hc77_39 hc83_40 ⊢) <;> omega
                  · refine A0.icmpNo (q := 67) d_prog_66_method_15_64 (flt hc64_38).2.2.1 rfl ?_
                    refine A0.iloadN (q := 68) d_prog_66_method_15_67 rfl rfl ?_
                    refine A0.sipush (q := 71) (v := 8232) d_prog_66_method_15_68 rfl rfl ?_
                    by_cases hc71_41 : z = (8232 : Int32)
                    · refine A0.icmpNo (q := 74) d_prog_66_method_15_71 (teq hc71_41).2 rfl ?_
                      refine A0.iloadN (q := 75) d_prog_66_method_15_74 rfl rfl ?_
                      refine A0.ldc (qn := 77) (v := 57344) (tw hw 10 rfl) d_prog_66_method_15_75 rfl ?_
                      by_cases hc77_42 : z < (57344 : Int32)
                      · refine A0.icmpYes (q := 90) d_prog_66_method_15_77 (tlt hc77_42).1 (by decide) (by decide) ?_
                        refine A0.iconst (q := 91) (v := 0) d_prog_66_method_15_90 rfl rfl ?_
                        refine A0.retN (by simp) d_prog_66_method_15_91 (by decide) (by decide) ⟨(0 : Int32), rfl, rfl, ?_⟩
                        clear hw A0
                        (try simp only [true_and, and_true, false_and, and_false, true_or, or_true, false_or, or_false, not_true_eq_false, not_false_eq_true, Int32.lt_iff_toInt_lt, Int64.lt_iff_toInt_lt, Int32.le_iff_toInt_le, Int64.le_iff_toInt_le, ← Int32.toInt_inj, ← Int64.toInt_inj, Int32.toInt_add, Int32.toInt_sub, Int32.toInt_neg, Int64.toInt_add, Int64.toInt_sub, Int64.toInt_neg, Int64.toInt_mul, Int32.toInt_toInt64, bm32, bm64, l32_0, l32_1, l32_9, l32_10, l32_13, l32_32, l32_34, l32_37, l32_38, l32_39, l32_126, l32_127, l32_133, l32_159, l32_160, l32_8232, l32_55295, l32_57344, l32_65533, l32_65535] at hc3_1 hc9_2 hc15_3 hc21_4 hc27_14 hc33_24 hc39_34 hc58_35 hc64_38 hc71_41 hc77_42 ⊢) <;> omega
                      · refine A0.icmpNo (q := 80) d_prog_66_method_15_77 (flt hc77_42).1 rfl ?_
                        refine A0.iloadN (q := 81) d_prog_66_method_15_80 rfl rfl ?_
                        refine A0.ldc (qn := 83) (v := 65533) (tw hw 23 rfl) d_prog_66_method_15_81 rfl ?_
                        by_cases hc83_43 : (65533 : Int32) < z
                        · refine A0.icmpYes (q := 90) d_prog_66_method_15_83 (tlt hc83_43).2.2.1 (by decide) (by decide) ?_
                          refine A0.iconst (q := 91) (v := 0) d_prog_66_method_15_90 rfl rfl ?_
                          refine A0.retN (by simp) d_prog_66_method_15_91 (by decide) (by decide) ⟨(0 : Int32), rfl, rfl, ?_⟩
                          clear hw A0
                          (try simp only [true_and, and_true, false_and, and_false, true_or, or_true, false_or, or_false, not_true_eq_false, not_false_eq_true, Int32.lt_iff_toInt_lt, Int64.lt_iff_toInt_lt, Int32.le_iff_toInt_le, Int64.le_iff_toInt_le, ← Int32.toInt_inj, ← Int64.toInt_inj, Int32.toInt_add, Int32.toInt_sub, Int32.toInt_neg, Int64.toInt_add, Int64.toInt_sub, Int64.toInt_neg, Int64.toInt_mul, Int32.toInt_toInt64, bm32, bm64, l32_0, l32_1, l32_9, l32_10, l32_13, l32_32, l32_34, l32_37, l32_38, l32_39, l32_126, l32_127, l32_133, l32_159, l32_160, l32_8232, l32_55295, l32_57344, l32_65533, l32_65535] at hc3_1 hc9_2 hc15_3 hc21_4 hc27_14 hc33_24 hc39_34 hc58_35 hc64_38 hc71_41 hc77_42 hc83_43 ⊢) <;> omega
                        · refine A0.icmpNo (q := 86) d_prog_66_method_15_83 (flt hc83_43).2.2.1 rfl ?_
                          refine A0.iconst (q := 87) (v := 1) d_prog_66_method_15_86 rfl rfl ?_
                          refine A0.goto (q := 91) d_prog_66_method_15_87 (by decide) (by decide) ?_
                          refine A0.retN (by simp) d_prog_66_method_15_91 (by decide) (by decide) ⟨(1 : Int32), rfl, rfl, ?_⟩
                          clear hw A0
                          (try simp only [true_and, and_true, false_and, and_false, true_or, or_true, false_or, or_false, not_true_eq_false, not_false_eq_true, Int32.lt_iff_toInt_lt, Int64.lt_iff_toInt_lt, Int32.le_iff_toInt_le, Int64.le_iff_toInt_le, ← Int32.toInt_inj, ← Int64.toInt_inj, Int32.toInt_add, Int32.toInt_sub, Int32.toInt_neg, Int64.toInt_add, Int64.toInt_sub, Int64.toInt_neg, Int64.toInt_mul, Int32.toInt_toInt64, bm32, bm64, l32_0, l32_1, l32_9, l32_10, l32_13, l32_32, l32_34, l32_37, l32_38, l32_39, l32_126, l32_127, l32_133, l32_159, l32_160, l32_8232, l32_55295, l32_57344, l32_65533, l32_65535] at hc3_1 hc9_2 hc15_3 hc21_4 hc27_14 hc33_24 hc39_34 hc58_35 hc64_38 hc71_41 hc77_42 hc83_43 ⊢) <;> omega
                    · refine A0.icmpYes (q := 86) d_prog_66_method_15_71 (feq hc71_41).2 (by decide) (by decide) ?_
                      refine A0.iconst (q := 87) (v := 1) d_prog_66_method_15_86 rfl rfl ?_
                      refine A0.goto (q := 91) d_prog_66_method_15_87 (by decide) (by decide) ?_
                      refine A0.retN (by simp) d_prog_66_method_15_91 (by decide) (by decide) ⟨(1 : Int32), rfl, rfl, ?_⟩
                      clear hw A0
                      (try simp only [true_and, and_true, false_and, and_false, true_or, or_true, false_or, or_false, not_true_eq_false, not_false_eq_true, Int32.lt_iff_toInt_lt, Int64.lt_iff_toInt_lt, Int32.le_iff_toInt_le, Int64.le_iff_toInt_le, ← Int32.toInt_inj, ← Int64.toInt_inj, Int32.toInt_add, Int32.toInt_sub, Int32.toInt_neg, Int64.toInt_add, Int64.toInt_sub, Int64.toInt_neg, Int64.toInt_mul, Int32.toInt_toInt64, bm32, bm64, l32_0, l32_1, l32_9, l32_10, l32_13, l32_32, l32_34, l32_37, l32_38, l32_39, l32_126, l32_127, l32_133, l32_159, l32_160, l32_8232, l32_55295, l32_57344, l32_65533, l32_65535] at hc3_1 hc9_2 hc15_3 hc21_4 hc27_14 hc33_24 hc39_34 hc58_35 hc64_38 hc71_41 ⊢) <;> omega
              · refine A0.icmpNo (q := 42) d_prog_66_method_15_39 (feq hc39_34).1 rfl ?_
                refine A0.iloadN (q := 43) d_prog_66_method_15_42 rfl rfl ?_
                refine A0.bipush (q := 45) (v := 34) d_prog_66_method_15_43 rfl rfl ?_
                by_cases hc45_44 : z = (34 : Int32)
                · refine A0.icmpYes (q := 54) d_prog_66_method_15_45 (teq hc45_44).1 (by decide) (by decide) ?_
                  refine A0.iloadN (q := 55) d_prog_66_method_15_54 rfl rfl ?_
                  refine A0.sipush (q := 58) (v := 160) d_prog_66_method_15_55 rfl rfl ?_
                  by_cases hc58_45 : z < (160 : Int32)
                  · refine A0.icmpYes (q := 74) d_prog_66_method_15_58 (tlt hc58_45).1 (by decide) (by decide) ?_
                    refine A0.iloadN (q := 75) d_prog_66_method_15_74 rfl rfl ?_
                    refine A0.ldc (qn := 77) (v := 57344) (tw hw 10 rfl) d_prog_66_method_15_75 rfl ?_
                    by_cases hc77_46 : z < (57344 : Int32)
                    · refine A0.icmpYes (q := 90) d_prog_66_method_15_77 (tlt hc77_46).1 (by decide) (by decide) ?_
                      refine A0.iconst (q := 91) (v := 0) d_prog_66_method_15_90 rfl rfl ?_
                      refine A0.retN (by simp) d_prog_66_method_15_91 (by decide) (by decide) ⟨(0 : Int32), rfl, rfl, ?_⟩
                      clear hw A0
                      (try simp only [true_and, and_true, false_and, and_false, true_or, or_true, false_or, or_false, not_true_eq_false, not_false_eq_true, Int32.lt_iff_toInt_lt, Int64.lt_iff_toInt_lt, Int32.le_iff_toInt_le, Int64.le_iff_toInt_le, ← Int32.toInt_inj, ← Int64.toInt_inj, Int32.toInt_add, Int32.toInt_sub, Int32.toInt_neg, Int64.toInt_add, Int64.toInt_sub, Int64.toInt_neg, Int64.toInt_mul, Int32.toInt_toInt64, bm32, bm64, l32_0, l32_1, l32_9, l32_10, l32_13, l32_32, l32_34, l32_37, l32_38, l32_39, l32_126, l32_127, l32_133, l32_159, l32_160, l32_8232, l32_55295, l32_57344, l32_65533, l32_65535] at hc3_1 hc9_2 hc15_3 hc21_4 hc27_14 hc33_24 hc39_34 hc45_44 hc58_45 hc77_46 ⊢) <;> omega
                    · refine A0.icmpNo (q := 80) d_prog_66_method_15_77 (flt hc77_46).1 rfl ?_
                      refine A0.iloadN (q := 81) d_prog_66_method_15_80 rfl rfl ?_
                      refine A0.ldc (qn := 83) (v := 65533) (tw hw 23 rfl) d_prog_66_method_15_81 rfl ?_
                      by_cases hc83_47 : (65533 : Int32) < z
                      · refine A0.icmpYes (q := 90) d_prog_66_method_15_83 (tlt hc83_47).2.2.1 (by decide) (by decide) ?_
                        refine A0.iconst (q := 91) (v := 0) d_prog_66_method_15_90 rfl rfl ?_
                        refine A0.retN (by simp) d_prog_66_method_15_91 (by decide) (by decide) ⟨(0 : Int32), rfl, rfl, ?_⟩
                        clear hw A0
                        (try simp only [true_and, and_true, false_and, and_false, true_or, or_true, false_or, or_false, not_true_eq_false, not_false_eq_true, Int32.lt_iff_toInt_lt, Int64.lt_iff_toInt_lt, Int32.le_iff_toInt_le, Int64.le_iff_toInt_le, ← Int32.toInt_inj, ← Int64.toInt_inj, Int32.toInt_add, Int32.toInt_sub, Int32.toInt_neg, Int64.toInt_add, Int64.toInt_sub, Int64.toInt_neg, Int64.toInt_mul, Int32.toInt_toInt64, bm32, bm64, l32_0, l32_1, l32_9, l32_10, l32_13, l32_32, l32_34, l32_37, l32_38, l32_39, l32_126, l32_127, l32_133, l32_159, l32_160, l32_8232, l32_55295, l32_57344, l32_65533, l32_65535] at hc3_1 hc9_2 hc15_3 hc21_4 hc27_14 hc33_24 hc39_34 hc45_44 hc58_45 hc77_46 hc83_47 ⊢) <;> omega
                      · refine A0.icmpNo (q := 86) d_prog_66_method_15_83 (flt hc83_47).2.2.1 rfl ?_
                        refine A0.iconst (q := 87) (v := 1) d_prog_66_method_15_86 rfl rfl ?_
                        refine A0.goto (q := 91) d_prog_66_method_15_87 (by decide) (by decide) ?_
                        refine A0.retN (by simp) d_prog_66_method_15_91 (by decide) (by decide) ⟨(1 : Int32), rfl, rfl, ?_⟩
                        clear hw A0
                        (try simp only [true_and, and_true, false_and, and_false, true_or, or_true, false_or, or_false, not_true_eq_false, not_false_eq_true, Int32.lt_iff_toInt_lt, Int64.lt_iff_toInt_lt, Int32.le_iff_toInt_le, Int64.le_iff_toInt_le, ← Int32.toInt_inj, ← Int64.toInt_inj, Int32.toInt_add, Int32.toInt_sub, Int32.toInt_neg, Int64.toInt_add, Int64.toInt_sub, Int64.toInt_neg, Int64.toInt_mul, Int32.toInt_toInt64, bm32, bm64, l32_0, l32_1, l32_9, l32_10, l32_13, l32_32, l32_34, l32_37, l32_38, l32_39, l32_126, l32_127, l32_133, l32_159, l32_160, l32_8232, l32_55295, l32_57344, l32_65533, l32_65535] at hc3_1 hc9_2 hc15_3 hc21_4 hc27_14 hc33_24 hc39_34 hc45_44 hc58_45 hc77_46 hc83_47 ⊢) <;> omega
                  · refine A0.icmpNo (q := 61) d_prog_66_method_15_58 (flt hc58_45).1 rfl ?_
                    refine A0.iloadN (q := 62) d_prog_66_method_15_61 rfl rfl ?_
                    refine A0.ldc (qn := 64) (v := 55295) (tw hw 21 rfl) d_prog_66_method_15_62 rfl ?_
                    by_cases hc64_48 : (55295 : Int32) < z
                    · refine A0.icmpYes (q := 74) d_prog_66_method_15_64 (tlt hc64_48).2.2.1 (by decide) (by decide) ?_
                      refine A0.iloadN (q := 75) d_prog_66_method_15_74 rfl rfl ?_
                      refine A0.ldc (qn := 77) (v := 57344) (tw hw 10 rfl) d_prog_66_method_15_75 rfl ?_
                      by_cases hc77_49 : z < (57344 : Int32)
                      · refine A0.icmpYes (q := 90) d_prog_66_method_15_77 (tlt hc77_49).1 (by decide) (by decide) ?_
                        refine A0.iconst (q := 91) (v := 0) d_prog_66_method_15_90 rfl rfl ?_
                        refine A0.retN (by simp) d_prog_66_method_15_91 (by decide) (by decide) ⟨(0 : Int32), rfl, rfl, ?_⟩
                        clear hw A0
                        (try simp only [true_and, and_true, false_and, and_false, true_or, or_true, false_or, or_false, not_true_eq_false, not_false_eq_true, Int32.lt_iff_toInt_lt, Int64.lt_iff_toInt_lt, Int32.le_iff_toInt_le, Int64.le_iff_toInt_le, ← Int32.toInt_inj, ← Int64.toInt_inj, Int32.toInt_add, Int32.toInt_sub, Int32.toInt_neg, Int64.toInt_add, Int64.toInt_sub, Int64.toInt_neg, Int64.toInt_mul, Int32.toInt_toInt64, bm32, bm64, l32_0, l32_1, l32_9, l32_10, l32_13, l32_32, l32_34, l32_37, l32_38, l32_39, l32_126, l32_127, l32_133, l32_159, l32_160, l32_8232, l32_55295, l32_57344, l32_65533, l32_65535] at hc3_1 hc9_2 hc15_3 hc21_4 hc27_14 hc33_24 hc39_34 hc45_44 hc58_45 hc64_48 hc77_49 ⊢) <;> omega
                      · refine A0.icmpNo (q := 80) d_prog_66_method_15_77 (flt hc77_49).1 rfl ?_
                        refine A0.iloadN (q := 81) d_prog_66_method_15_80 rfl rfl ?_
                        refine A0.ldc (qn := 83) (v := 65533) (tw hw 23 rfl) d_prog_66_method_15_81 rfl ?_
                        by_cases hc83_50 : (65533 : Int32) < z
                        · refine A0.icmpYes (q := 90) d_prog_66_method_15_83 (tlt hc83_50).2.2.1 (by decide) (by decide) ?_
                          refine A0.iconst (q := 91) (v := 0) d_prog_66_method_15_90 rfl rfl ?_
                          refine A0.retN (by simp) d_prog_66_method_15_91 (by decide) (by decide) ⟨(0 : Int32), rfl, rfl, ?_⟩
                          clear hw A0
                          (try simp only [true_and, and_true, false_and, and_false, true_or, or_true, false_or, or_false, not_true_eq_false, not_false_eq_true, Int32.lt_iff_toInt_lt, Int64.lt_iff_toInt_lt, Int32.le_iff_toInt_le, Int64.le_iff_toInt_le, ← Int32.toInt_inj, ← Int64.toInt_inj, Int32.toInt_add, Int32.toInt_sub, Int32.toInt_neg, Int64.toInt_add, Int64.toInt_sub, Int64.toInt_neg, Int64.toInt_mul, Int32.toInt_toInt64, bm32, bm64, l32_0, l32_1, l32_9, l32_10, l32_13, l32_32, l32_34, l32_37, l32_38, l32_39, l32_126, l32_127, l32_133, l32_159, l32_160, l32_8232, l32_55295, l32_57344, l32_65533, l32_65535] at hc3_1 hc9_2 hc15_3 hc21_4 hc27_14 hc33_24 hc39_34 hc45_44 hc58_45 hc64_48 hc77_49 hc83_50 ⊢) <;> omega
                        · refine A0.icmpNo (q := 86) d_prog_66_method_15_83 (flt hc83_50).2.2.1 rfl ?_
                          refine A0.iconst (q := 87) (v := 1) d_prog_66_method_15_86 rfl rfl ?_
                          refine A0.goto (q := 91) d_prog_66_method_15_87 (by decide) (by decide) ?_
                          refine A0.retN (by simp) d_prog_66_method_15_91 (by decide) (by decide) ⟨(1 : Int32), rfl, rfl, ?_⟩
                          clear hw A0
                          (try simp only [true_and, and_true, false_and, and_false, true_or, or_true, false_or, or_false, not_true_eq_false, not_false_eq_true, Int32.lt_iff_toInt_lt, Int64.lt_iff_toInt_lt, Int32.le_iff_toInt_le, Int64.le_iff_toInt_le, ← Int32.toInt_inj, ← Int64.toInt_inj, Int32.toInt_add, Int32.toInt_sub, Int32.toInt_neg, Int64.toInt_add, Int64.toInt_sub, Int64.toInt_neg, Int64.toInt_mul, Int32.toInt_toInt64, bm32, bm64, l32_0, l32_1, l32_9, l32_10, l32_13, l32_32, l32_34, l32_37, l32_38, l32_39, l32_126, l32_127, l32_133, l32_159, l32_160, l32_8232, l32_55295, l32_57344, l32_65533, l32_65535] at hc3_1 hc9_2 hc15_3 hc21_4 hc27_14 hc33_24 hc39_34 hc45_44 hc58_45 hc64_48 hc77_49 hc83_50 ⊢) <;> omega
                    · refine A0.icmpNo (q := 67) d_prog_66_method_15_64 (flt hc64_48).2.2.1 rfl ?_
                      refine A0.iloadN (q := 68) d_prog_66_method_15_67 rfl rfl ?_
                      refine A0.sipush (q := 71) (v := 8232) d_prog_66_method_15_68 rfl rfl ?_
                      by_cases hc71_51 : z = (8232 : Int32)
                      · refine A0.icmpNo (q := 74) d_prog_66_method_15_71 (teq hc71_51).2 rfl ?_
                        refine A0.iloadN (q := 75) d_prog_66_method_15_74 rfl rfl ?_
                        refine A0.ldc (qn := 77) (v := 57344) (tw hw 10 rfl) d_prog_66_method_15_75 rfl ?_
                        by_cases hc77_52 : z < (57344 : Int32)
                        · refine A0.icmpYes (q := 90) d_prog_66_method_15_77 (tlt hc77_52).1 (by decide) (by decide) ?_
                          refine A0.iconst (q := 91) (v := 0) d_prog_66_method_15_90 rfl rfl ?_
                          refine A0.retN (by simp) d_prog_66_method_15_91 (by decide) (by decide) ⟨(0 : Int32), rfl, rfl, ?_⟩
                          clear hw A0
                          (try simp only [true_and, and_true, false_and, and_false, true_or, or_true, false_or, or_false, not_true_eq_false, not_false_eq_true, Int32.lt_iff_toInt_lt, Int64.lt_iff_toInt_lt, Int32.le_iff_toInt_le, Int64.le_iff_toInt_le, ← Int32.toInt_inj, ← Int64.toInt_inj, Int32.toInt_add, Int32.toInt_sub, Int32.toInt_neg, Int64.toInt_add, Int64.toInt_sub, Int64.toInt_neg, Int64.toInt_mul, Int32.toInt_toInt64, bm32, bm64, l32_0, l32_1, l32_9, l32_10, l32_13, l32_32, l32_34, l32_37, l32_38, l32_39, l32_126, l32_127, l32_133, l32_159, l32_160, l32_8232, l32_55295, l32_57344, l32_65533, l32_65535] at hc3_1 hc9_2 hc15_3 hc21_4 hc27_14 hc33_24 hc39_34 hc45_44 hc58_45 hc64_48 hc71_51 hc77_52 ⊢) <;> omega
                        · refine A0.icmpNo (q := 80) d_prog_66_method_15_77 (flt hc77_52).1 rfl ?_
                          refine A0.iloadN (q := 81) d_prog_66_method_15_80 rfl rfl ?_
                          refine A0.ldc (qn := 83) (v := 65533) (tw hw 23 rfl) d_prog_66_method_15_81 rfl ?_
                          by_cases hc83_53 : (65533 : Int32) < z
                          · refine A0.icmpYes (q := 90) d_prog_66_method_15_83 (tlt hc83_53).2.2.1 (by decide) (by decide) ?_
                            refine A0.iconst (q := 91) (v := 0) d_prog_66_method_15_90 rfl rfl ?_
                            refine A0.retN (by simp) d_prog_66_method_15_91 (by decide) (by decide) ⟨(0 : Int32), rfl, rfl, ?_⟩
                            clear hw A0
                            (try simp only [true_and, and_true, false_and, and_false, true_or, or_true, false_or, or_false, not_true_eq_false, not_false_eq_true, Int32.lt_iff_toInt_lt, Int64.lt_iff_toInt_lt, Int32.le_iff_toInt_le, Int64.le_iff_toInt_le, ← Int32.toInt_inj, ← Int64.toInt_inj, Int32.toInt_add, Int32.toInt_sub, Int32.toInt_neg, Int64.toInt_add, Int64.toInt_sub, Int64.toInt_neg, Int64.toInt_mul, Int32.toInt_toInt64, bm32, bm64, l32_0, l32_1, l32_9, l32_10, l32_13, l32_32, l32_34, l32_37, l32_38, l32_39, l32_126, l32_127, l32_133, l32_159, l32_160, l32_8232, l32_55295, l32_57344, l32_65533, l32_65535] at hc3_1 hc9_2 hc15_3 hc21_4 hc27_14 hc33_24 hc39_34 hc45_44 hc58_45 hc64_48 hc71_51 hc77_52 hc83_53 ⊢) <;> omega
                          · refine A0.icmpNo (q := 86) d_prog_66_method_15_83 (flt hc83_53).2.2.1 rfl ?_
                            refine A0.iconst (q := 87) (v := 1) d_prog_66_method_15_86 rfl rfl ?_
                            refine A0.goto (q := 91) d_prog_66_method_15_87 (by decide) (by decide) ?_
                            refine A0.retN (by simp) d_prog_66_method_15_91 (by decide) (by decide) ⟨(1 : Int32), rfl, rfl, ?_⟩
                            clear hw A0
                            (try simp only [true_and, and_true, false_and, and_false, true_or, or_true, false_or, or_false, not_true_eq_false, not_false_eq_true, Int32.lt_iff_toInt_lt, Int64.lt_iff_toInt_lt, Int32.le_iff_toInt_le, Int64.le_iff_toInt_le, ← Int32.toInt_inj, ← Int64.toInt_inj, Int32.toInt_add, Int32.toInt_sub, Int32.toInt_neg, Int64.toInt_add, Int64.toInt_sub, Int64.toInt_neg, Int64.toInt_mul, Int32.toInt_toInt64, bm32, bm64, l32_0, l32_1, l32_9, l32_10, l32_13, l32_32, l32_34, l32_37, l32_38, l32_39, l32_126, l32_127, l32_133, l32_159, l32_160, l32_8232, l32_55295, l32_57344, l32_65533, l32_65535] at hc3_1 hc9_2 hc15_3 hc21_4 hc27_14 hc33_24 hc39_34 hc45_44 hc58_45 hc64_48 hc71_51 hc77_52 hc83_53 ⊢) <;> omega
                      · refine A0.icmpYes (q := 86) d_prog_66_method_15_71 (feq hc71_51).2 (by decide) (by decide) ?_
                        refine A0.iconst (q := 87) (v := 1) d_prog_66_method_15_86 rfl rfl ?_
                        refine A0.goto (q := 91) d_prog_66_method_15_87 (by decide) (by decide) ?_
                        refine A0.retN (by simp) d_prog_66_method_15_91 (by decide) (by decide) ⟨(1 : Int32), rfl, rfl, ?_⟩
                        clear hw A0
                        (try simp only [true_and, and_true, false_and, and_false, true_or, or_true, false_or, or_false, not_true_eq_false, not_false_eq_true, Int32.lt_iff_toInt_lt, Int64.lt_iff_toInt_lt, Int32.le_iff_toInt_le, Int64.le_iff_toInt_le, ← Int32.toInt_inj, ← Int64.toInt_inj, Int32.toInt_add, Int32.toInt_sub, Int32.toInt_neg, Int64.toInt_add, Int64.toInt_sub, Int64.toInt_neg, Int64.toInt_mul, Int32.toInt_toInt64, bm32, bm64, l32_0, l32_1, l32_9, l32_10, l32_13, l32_32, l32_34, l32_37, l32_38, l32_39, l32_126, l32_127, l32_133, l32_159, l32_160, l32_8232, l32_55295, l32_57344, l32_65533, l32_65535] at hc3_1 hc9_2 hc15_3 hc21_4 hc27_14 hc33_24 hc39_34 hc45_44 hc58_45 hc64_48 hc71_51 ⊢) <;> omega
                · refine A0.icmpNo (q := 48) d_prog_66_method_15_45 (feq hc45_44).1 rfl ?_
                  refine A0.iloadN (q := 49) d_prog_66_method_15_48 rfl rfl ?_
                  refine A0.bipush (q := 51) (v := 39) d_prog_66_method_15_49 rfl rfl ?_
                  by_cases hc51_54 : z = (39 : Int32)
                  · refine A0.icmpNo (q := 54) d_prog_66_method_15_51 (teq hc51_54).2 rfl ?_
                    refine A0.iloadN (q := 55) d_prog_66_method_15_54 rfl rfl ?_
                    refine A0.sipush (q := 58) (v := 160) d_prog_66_method_15_55 rfl rfl ?_
                    by_cases hc58_55 : z < (160 : Int32)
                    · refine A0.icmpYes (q := 74) d_prog_66_method_15_58 (tlt hc58_55).1 (by decide) (by decide) ?_
                      refine A0.iloadN (q := 75) d_prog_66_method_15_74 rfl rfl ?_
                      refine A0.ldc (qn := 77) (v := 57344) (tw hw 10 rfl) d_prog_66_method_15_75 rfl ?_
                      by_cases hc77_56 : z < (57344 : Int32)
                      · refine A0.icmpYes (q := 90) d_prog_66_method_15_77 (tlt hc77_56).1 (by decide) (by decide) ?_
                        refine A0.iconst (q := 91) (v := 0) d_prog_66_method_15_90 rfl rfl ?_
                        refine A0.retN (by simp) d_prog_66_method_15_91 (by decide) (by decide) ⟨(0 : Int32), rfl, rfl, ?_⟩
                        clear hw A0
                        (try simp only [true_and, and_true, false_and, and_false, true_or, or_true, false_or, or_false, not_true_eq_false, not_false_eq_true, Int32.lt_iff_toInt_lt, Int64.lt_iff_toInt_lt, Int32.le_iff_toInt_le, Int64.le_iff_toInt_le, ← Int32.toInt_inj, ← Int64.toInt_inj, Int32.toInt_add, Int32.toInt_sub, Int32.toInt_neg, Int64.toInt_add, Int64.toInt_sub, Int64.toInt_neg, Int64.toInt_mul, Int32.toInt_toInt64, bm32, bm64, l32_0, l32_1, l32_9, l32_10, l32_13, l32_32, l32_34, l32_37, l32_38, l32_39, l32_126, l32_127, l32_133, l32_159, l32_160, l32_8232, l32_55295, l32_57344, l32_65533, l32_65535] at hc3_1 hc9_2 hc15_3 hc21_4 hc27_14 hc33_24 hc39_34 hc45_44 hc51_54 hc58_55 hc77_56 ⊢) <;> omega
                      · refine A0.icmpNo (q := 80) d_prog_66_method_15_77 (flt hc77_56).1 rfl ?_
                        refine A0.iloadN (q := 81) d_prog_66_method_15_80 rfl rfl ?_
                        refine A0.ldc (qn := 83) (v := 65533) (tw hw 23 rfl) d_prog_66_method_15_81 rfl ?_
                        by_cases hc83_57 : (65533 : Int32) < z
                        · refine A0.icmpYes (q := 90) d_prog_66_method_15_83 (tlt hc83_57).2.2.1 (by decide) (by decide) ?_
                          refine A0.iconst (q := 91) (v := 0) d_prog_66_method_15_90 rfl rfl ?_
                          refine A0.retN (by simp) d_prog_66_method_15_91 (by decide) (by decide) ⟨(0 : Int32), rfl, rfl, ?_⟩
                          clear hw A0
                          (try simp only [true_and, and_true, false_and, and_false, true_or, or_true, false_or, or_false, not_true_eq_false, not_false_eq_true, Int32.lt_iff_toInt_lt, Int64.lt_iff_toInt_lt, Int32.le_iff_toInt_le, Int64.le_iff_toInt_le, ← Int32.toInt_inj, ← Int64.toInt_inj, Int32.toInt_add, Int32.toInt_sub, Int32.toInt_neg, Int64.toInt_add, Int64.toInt_sub, Int64.toInt_neg, Int64.toInt_mul, Int32.toInt_toInt64, bm32, bm64, l32_0, l32_1, l32_9, l32_10, l32_13, l32_32, l32_34, l32_37, l32_38, l32_39, l32_126, l32_127, l32_133, l32_159, l32_160, l32_8232, l32_55295, l32_57344, l32_65533, l32_65535] at hc3_1 hc9_2 hc15_3 hc21_4 hc27_14 hc33_24 hc39_34 hc45_44 hc51_54 hc58_55 hc77_56 hc83_57 ⊢) <;> omega
                        · refine A0.icmpNo (q := 86) d_prog_66_method_15_83 (flt hc83_57).2.2.1 rfl ?_
                          refine A0.iconst (q := 87) (v := 1) d_prog_66_method_15_86 rfl rfl ?_
                          refine A0.goto (q := 91) d_prog_66_method_15_87 (by decide) (by decide) ?_
                          refine A0.retN (by simp) d_prog_66_method_15_91 (by decide) (by decide) ⟨(1 : Int32), rfl, rfl, ?_⟩
                          clear hw A0
                          (try simp only [true_and, and_true, false_and, and_false, true_or, or_true, false_or, or_false, not_true_eq_false, not_false_eq_true, Int32.lt_iff_toInt_lt, Int64.lt_iff_toInt_lt, Int32.le_iff_toInt_le, Int64.le_iff_toInt_le, ← Int32.toInt_inj, ← Int64.toInt_inj, Int32.toInt_add, Int32.toInt_sub, Int32.toInt_neg, Int64.toInt_add, Int64.toInt_sub, Int64.toInt_neg, Int64.toInt_mul, Int32.toInt_toInt64, bm32, bm64, l32_0, l32_1, l32_9, l32_10, l32_13, l32_32, l32_34, l32_37, l32_38, l32_39, l32_126, l32_127, l32_133, l32_159, l32_160, l32_8232, l32_55295, l32_57344, l32_65533, l32_65535] at hc3_1 hc9_2 hc15_3 hc21_4 hc27_14 hc33_24 hc39_34 hc45_44 hc51_54 hc58_55 hc77_56 hc83_57 ⊢) <;> omega
                    · refine A0.icmpNo (q := 61) d_prog_66_method_15_58 (flt hc58_55).1 rfl ?_
                      refine A0.iloadN (q := 62) d_prog_66_method_15_61 rfl rfl ?_
                      refine A0.ldc (qn := 64) (v := 55295) (tw hw 21 rfl) d_prog_66_method_15_62 rfl ?_
                      by_cases hc64_58 : (55295 : Int32) < z
                      · refine A0.icmpYes (q := 74) d_prog_66_method_15_64 (tlt hc64_58).2.2.1 (by decide) (by decide) ?_
                        refine A0.iloadN (q := 75) d_prog_66_method_15_74 rfl rfl ?_
                        refine A0.ldc (qn := 77) (v := 57344) (tw hw 10 rfl) d_prog_66_method_15_75 rfl ?_
                        by_cases hc77_59 : z < (57344 : Int32)
                        · refine A0.icmpYes (q := 90) d_prog_66_method_15_77 (tlt hc77_59).1 (by decide) (by decide) ?_
                          refine A0.iconst (q := 91) (v := 0) d_prog_66_method_15_90 rfl rfl ?_
                          refine A0.retN (by simp) d_prog_66_method_15_91 (by decide) (by decide) ⟨(0 : Int32), rfl, rfl, ?_⟩
                          clear hw A0
                          (try simp only [true_and, and_true, false_and, and_false, true_or, or_true, false_or, or_false, not_true_eq_false, not_false_eq_true, Int32.lt_iff_toInt_lt, Int64.lt_iff_toInt_lt, Int32.le_iff_toInt_le, Int64.le_iff_toInt_le, ← Int32.toInt_inj, ← Int64.toInt_inj, Int32.toInt_add, Int32.toInt_sub, Int32.toInt_neg, Int64.toInt_add, Int64.toInt_sub, Int64.toInt_neg, Int64.toInt_mul, Int32.toInt_toInt64, bm32, bm64, l32_0, l32_1, l32_9, l32_10, l32_13, l32_32, l32_34, l32_37, l32_38, l32_39, l32_126, l32_127, l32_133, l32_159, l32_160, l32_8232, l32_55295, l32_57344, l32_65533, l32_65535] at hc3_1 hc9_2 hc15_3 hc21_4 hc27_14 hc33_24 hc39_34 hc45_44 hc51_54 hc58_55 hc64_58 hc77_59 ⊢) <;> omega
                        · refine A0.icmpNo (q := 80) d_prog_66_method_15_77 (flt hc77_59).1 rfl ?_
                          refine A0.iloadN (q := 81) d_prog_66_method_15_80 rfl rfl ?_
                          refine A0.ldc (qn := 83) (v := 65533) (tw hw 23 rfl) d_prog_66_method_15_81 rfl ?_
                          by_cases hc83_60 : (65533 : Int32) < z
                          · refine A0.icmpYes (q := 90) d_prog_66_method_15_83 (tlt hc83_60).2.2.1 (by decide) (by decide) ?_
                            refine A0.iconst (q := 91) (v := 0) d_prog_66_method_15_90 rfl rfl ?_
                            refine A0.retN (by simp) d_prog_66_method_15_91 (by decide) (by decide) ⟨(0 : Int32), rfl, rfl, ?_⟩
                            clear hw A0
                            (try simp only [true_and, and_true, false_and, and_false, true_or, or_true, false_or, or_false, not_true_eq_false, not_false_eq_true, Int32.lt_iff_toInt_lt, Int64.lt_iff_toInt_lt, Int32.le_iff_toInt_le, Int64.le_iff_toInt_le, ← Int32.toInt_inj, ← Int64.toInt_inj, Int32.toInt_add, Int32.toInt_sub, Int32.toInt_neg, Int64.toInt_add, Int64.toInt_sub, Int64.toInt_neg, Int64.toInt_mul, Int32.toInt_toInt64, bm32, bm64, l32_0, l32_1, l32_9, l32_10, l32_13, l32_32, l32_34, l32_37, l32_38, l32_39, l32_126, l32_127, l32_133, l32_159, l32_160, l32_8232, l32_55295, l32_57344, l32_65533, l32_65535] at hc3_1 hc9_2 hc15_3 hc21_4 hc27_14 hc33_24 hc39_34 hc45_44 hc51_54 hc58_55 hc64_58 hc77_59 hc83_60 ⊢) <;> omega
                          · refine A0.icmpNo (q := 86) d_prog_66_method_15_83 (flt hc83_60).2.2.1 rfl ?_
                            refine A0.iconst (q := 87) (v := 1) d_prog_66_method_15_86 rfl rfl ?_
                            refine A0.goto (q := 91) d_prog_66_method_15_87 (by decide) (by decide) ?_
                            refine A0.retN (by simp) d_prog_66_method_15_91 (by decide) (by decide) ⟨(1 : Int32), rfl, rfl, ?_⟩
                            clear hw A0
                            (try simp only [true_and, and_true, false_and, and_false, true_or, or_true, false_or, or_false, not_true_eq_false, not_false_eq_true, Int32.lt_iff_toInt_lt, Int64.lt_iff_toInt_lt, Int32.le_iff_toInt_le, Int64.le_iff_toInt_le, ← Int32.toInt_inj, ← Int64.toInt_inj, Int32.toInt_add, Int32.toInt_sub, Int32.toInt_neg, Int64.toInt_add, Int64.toInt_sub, Int64.toInt_neg, Int64.toInt_mul, Int32.toInt_toInt64, bm32, bm64, l32_0, l32_1, l32_9, l32_10, l32_13, l32_32, l32_34, l32_37, l32_38, l32_39, l32_126, l32_127, l32_133, l32_159, l32_160, l32_8232, l32_55295, l32_57344, l32_65533, l32_65535] at hc3_1 hc9_2 hc15_3 hc21_4 hc27_14 hc33_24 hc39_34 hc45_44 hc51_54 hc58_55 hc64_58 hc77_59 hc83_60 ⊢) <;> omega
                      · refine A0.icmpNo (q := 67) d_prog_66_method_15_64 (flt hc64_58).2.2.1 rfl ?_
                        refine A0.iloadN (q := 68) d_prog_66_method_15_67 rfl rfl ?_
                        refine A0.sipush (q := 71) (v := 8232) d_prog_66_method_15_68 rfl rfl ?_
                        by_cases hc71_61 : z = (8232 : Int32)
                        · refine A0.icmpNo (q := 74) d_prog_66_method_15_71 (teq hc71_61).2 rfl ?_
                          refine A0.iloadN (q := 75) d_prog_66_method_15_74 rfl rfl ?_
                          refine A0.ldc (qn := 77) (v := 57344) (tw hw 10 rfl) d_prog_66_method_15_75 rfl ?_
                          by_cases hc77_62 : z < (57344 : Int32)
                          · refine A0.icmpYes (q := 90) d_prog_66_method_15_77 (tlt hc77_62).1 (by decide) (by decide) ?_
                            refine A0.iconst (q := 91) (v := 0) d_prog_66_method_15_90 rfl rfl ?_
                            refine A0.retN (by simp) d_prog_66_method_15_91 (by decide) (by decide) ⟨(0 : Int32), rfl, rfl, ?_⟩
                            clear hw A0
                            (try simp only [true_and, and_true, false_and, and_false, true_or, or_true, false_or, or_false, not_true_eq_false, not_false_eq_true, Int32.lt_iff_toInt_lt, Int64.lt_iff_toInt_lt, Int32.le_iff_toInt_le, Int64.le_iff_toInt_le, ← Int32.toInt_inj, ← Int64.toInt_inj, Int32.toInt_add, Int32.toInt_sub, Int32.toInt_neg, Int64.toInt_add, Int64.toInt_sub, Int64.toInt_neg, Int64.toInt_mul, Int32.toInt_toInt64, bm32, bm64, l32_0, l32_1, l32_9, l32_10, l32_13, l32_32, l32_34, l32_37, l32_38, l32_39, l32_126, l32_127, l32_133, l32_159, l32_160, l32_8232, l32_55295, l32_57344, l32_65533, l32_65535] at hc3_1 hc9_2 hc15_3 hc21_4 hc27_14 hc33_24 hc39_34 hc45_44 hc51_54 hc58_55 hc64_58 hc71_61 hc77_62 ⊢) <;> omega
                          · refine A0.icmpNo (q := 80) d_prog_66_method_15_77 (flt hc77_62).1 rfl ?_
                            refine A0.iloadN (q := 81) d_prog_66_method_15_80 rfl rfl ?_
                            refine A0.ldc (qn := 83) (v := 65533) (tw hw 23 rfl) d_prog_66_method_15_81 rfl ?_
                            by_cases hc83_63 : (65533 : Int32) < z
                            · refine A0.icmpYes (q := 90) d_prog_66_method_15_83 (tlt hc83_63).2.2.1 (by decide) (by decide) ?_
                              refine A0.iconst (q := 91) (v := 0) d_prog_66_method_15_90 rfl rfl ?_
                              refine A0.retN (by simp) d_prog_66_method_15_91 (by decide) (by decide) ⟨(0 : Int32), rfl, rfl, ?_⟩
                              clear hw A0
                              (try simp only [true_and, and_true, false_and, and_false, true_or, or_true, false_or, or_false, not_true_eq_false, not_false_eq_true, Int32.lt_iff_toInt_lt, Int64.lt_iff_toInt_lt, Int32.le_iff_toInt_le, Int64.le_iff_toInt_le, ← Int32.toInt_inj, ← Int64.toInt_inj, Int32.toInt_add, Int32.toInt_sub, Int32.toInt_neg, Int64.toInt_add, Int64.toInt_sub, Int64.toInt_neg, Int64.toInt_mul, Int32.toInt_toInt64, bm32, bm64, l32_0, l32_1, l32_9, l32_10, l32_13, l32_32, l32_34, l32_37, l32_38, l32_39, l32_126, l32_127, l32_133, l32_159, l32_160, l32_8232, l32_55295, l32_57344, l32_65533, l32_65535] at hc3_1 hc9_2 hc15_3 hc21_4 hc27_14 hc33_24 hc39_34 hc45_44 hc51_54 hc58_55 hc64_58 hc71_61 hc77_62 hc83_63 ⊢) <;> omega
                            · refine A0.icmpNo (q := 86) d_prog_66_method_15_83 (flt hc83_63).2.2.1 rfl ?_
                              refine A0.iconst (q := 87) (v := 1) d_prog_66_method_15_86 rfl rfl ?_
                              refine A0.goto (q := 91) d_prog_66_method_15_87 (by decide) (by decide) ?_
                              refine A0.retN (by simp) d_prog_66_method_15_91 (by decide) (by decide) ⟨(1 : Int32), rfl, rfl, ?_⟩
                              clear hw A0
                              (try simp only [true_and, and_true, false_and, and_false, true_or, or_true, false_or, or_false, not_true_eq_false, not_false_eq_true, Int32.lt_iff_toInt_lt, Int64.lt_iff_toInt_lt, Int32.le_iff_toInt_le, Int64.le_iff_toInt_le, ← Int32.toInt_inj, ← Int64.toInt_inj, Int32.toInt_add, Int32.toInt_sub, Int32.toInt_neg, Int64.toInt_add, Int64.toInt_sub, Int64.toInt_neg, Int64.toInt_mul, Int32.toInt_toInt64, bm32, bm64, l32_0, l32_1, l32_9, l32_10, l32_13, l32_32, l32_34, l32_37, l32_38, l32_39, l32_126, l32_127, l32_133, l32_159, l32_160, l32_8232, l32_55295, l32_57344, l32_65533, l32_65535] at hc3_1 hc9_2 hc15_3 hc21_4 hc27_14 hc33_24 hc39_34 hc45_44 hc51_54 hc58_55 hc64_58 hc71_61 hc77_62 hc83_63 ⊢) <;> omega
                        · refine A0.icmpYes (q := 86) d_prog_66_method_15_71 (feq hc71_61).2 (by decide) (by decide) ?_
                          refine A0.iconst (q := 87) (v := 1) d_prog_66_method_15_86 rfl rfl ?_
                          refine A0.goto (q := 91) d_prog_66_method_15_87 (by decide) (by decide) ?_
                          refine A0.retN (by simp) d_prog_66_method_15_91 (by decide) (by decide) ⟨(1 : Int32), rfl, rfl, ?_⟩
                          clear hw A0
                          (try simp only [true_and, and_true, false_and, and_false, true_or, or_true, false_or, or_false, not_true_eq_false, not_false_eq_true, Int32.lt_iff_toInt_lt, Int64.lt_iff_toInt_lt, Int32.le_iff_toInt_le, Int64.le_iff_toInt_le, ← Int32.toInt_inj, ← Int64.toInt_inj, Int32.toInt_add, Int32.toInt_sub, Int32.toInt_neg, Int64.toInt_add, Int64.toInt_sub, Int64.toInt_neg, Int64.toInt_mul, Int32.toInt_toInt64, bm32, bm64, l32_0, l32_1, l32_9, l32_10, l32_13, l32_32, l32_34, l32_37, l32_38, l32_39, l32_126, l32_127, l32_133, l32_159, l32_160, l32_8232, l32_55295, l32_57344, l32_65533, l32_65535] at hc3_1 hc9_2 hc15_3 hc21_4 hc27_14 hc33_24 hc39_34 hc45_44 hc51_54 hc58_55 hc64_58 hc71_61 ⊢) <;> omega
                  · refine A0.icmpYes (q := 86) d_prog_66_method_15_51 (feq hc51_54).2 (by decide) (by decide) ?_
                    refine A0.iconst (q := 87) (v := 1) d_prog_66_method_15_86 rfl rfl ?_
                    refine A0.goto (q := 91) d_prog_66_method_15_87 (by decide) (by decide) ?_
                    refine A0.retN (by simp) d_prog_66_method_15_91 (by decide) (by decide) ⟨(1 : Int32), rfl, rfl, ?_⟩
                    clear hw A0
                    (try simp only [true_and, and_true, false_and, and_false, true_or, or_true, false_or, or_false, not_true_eq_false, not_false_eq_true, Int32.lt_iff_toInt_lt, Int64.lt_iff_toInt_lt, Int32.le_iff_toInt_le, Int64.le_iff_toInt_le, ← Int32.toInt_inj, ← Int64.toInt_inj, Int32.toInt_add, Int32.toInt_sub, Int32.toInt_neg, Int64.toInt_add, Int64.toInt_sub, Int64.toInt_neg, Int64.toInt_mul, Int32.toInt_toInt64, bm32, bm64, l32_0, l32_1, l32_9, l32_10, l32_13, l32_32, l32_34, l32_37, l32_38, l32_39, l32_126, l32_127, l32_133, l32_159, l32_160, l32_8232, l32_55295, l32_57344, l32_65533, l32_65535] at hc3_1 hc9_2 hc15_3 hc21_4 hc27_14 hc33_24 hc39_34 hc45_44 hc51_54 ⊢) <;> omega
theorem pd_2 : parseMethodDescriptor "(C)Z" = some ⟨[.char], some .boolean⟩ := by decide +kernel
theorem pd_3 : parseMethodDescriptor "(I)Z" = some ⟨[.int], some .boolean⟩ := by decide +kernel
theorem ef_m_law (m : MethodId) (x0 : Int32) : entryFrame m #[(.int x0)] maxLocals = mkF m 0 #[.val (.int x0), .unset, .unset, .unset] [] := by first | (simp [entryFrame, mkF, argsToLocals, Value.category, maxLocals]; done) | rfl
set_option maxRecDepth 65536 in
set_option maxHeartbeats 40000000 in
theorem m_law (l : Launch) (Z : State) (a0 : Array Value) (hw : ∀ d ∈ tables_1, d.before a0 Z = true) (x0 : Int32) :
    Pays l Z a0 x code maxLocals ret room_1 #[(.int x0)] [] (([] : Hs).map (·.1)) (fun v os' => v = some (.int 1) ∧ True) := by
  refine Pays.of (Ls := #[.val (.int x0), .unset, .unset, .unset]) (plainFor_of_name pn_0) (fun m => ef_m_law m x0) ?_
  intro p e s m below meth c T0 A0
  refine A0.iloadN (q := 1) at_0 rfl rfl ?_
  refine A0.i2c (q := 2) at_1 rfl ?_
  generalize hcv : x0.toUInt32.toUInt16.toUInt32.toInt32 = cv
  refine A0.istoreN (q := 3) (l' := #[.val (.int x0), .val (.int cv), .unset, .unset]) at_2 rfl rfl ?_
  refine A0.iloadN (q := 4) at_3 rfl rfl ?_
  refine A0.ldc (qn := 6) (v := 65535) (tw hw 0 rfl) at_4 rfl ?_
  refine A0.iand (q := 7) at_6 rfl ?_
  generalize huu : (x0 &&& (65535 : Int32)) = uu
  have hcu : uu = cv := by rw [← hcv, ← huu]; exact (own_c16 x0).symm
  clear hcv huu
  refine A0.istoreN (q := 8) (l' := #[.val (.int x0), .val (.int cv), .val (.int uu), .unset]) at_7 rfl rfl ?_
  have J41 : ∀ (T1 : State) (w : Int32), Here p l e room_1 s m #[(.int x0)] below meth c Z a0 x code maxLocals ret (([] : Hs).map (·.1)) (([] : Hs).map (·.1)) T1 0 0 [] → (((w = 1 ∧ ((uu.toInt = 9 ∨ uu.toInt = 10 ∨ uu.toInt = 13 ∨ (32 ≤ uu.toInt ∧ uu.toInt ≤ 55295) ∨ (57344 ≤ uu.toInt ∧ uu.toInt ≤ 65533)) ∧ ¬ (127 ≤ uu.toInt ∧ uu.toInt ≤ 159) ∧ ¬ (uu.toInt = 38 ∨ uu.toInt = 37 ∨ uu.toInt = 34 ∨ uu.toInt = 39) ∧ ¬ (uu.toInt = 133 ∨ uu.toInt = 8232))) ∨ (w = 0 ∧ ¬ ((uu.toInt = 9 ∨ uu.toInt = 10 ∨ uu.toInt = 13 ∨ (32 ≤ uu.toInt ∧ uu.toInt ≤ 55295) ∨ (57344 ≤ uu.toInt ∧ uu.toInt ≤ 65533)) ∧ ¬ (127 ≤ uu.toInt ∧ uu.toInt ≤ 159) ∧ ¬ (uu.toInt = 38 ∨ uu.toInt = 37 ∨ uu.toInt = 34 ∨ uu.toInt = 39) ∧ ¬ (uu.toInt = 133 ∨ uu.toInt = 8232))))) → Wp p e below Z a0 (([] : Hs).map (·.1)) (([] : Hs).map (·.1)) room_1 s (fun v os' => v = some (.int 1) ∧ True) T1 (mkF m 41 #[.val (.int x0), .val (.int cv), .val (.int uu), .unset] [(.int w)]) := by
    intro T1 w A2 hJ41
    refine A2.istoreN (q := 42) (l' := #[.val (.int x0), .val (.int cv), .val (.int uu), .val (.int w)]) at_41 rfl rfl ?_
    refine A2.iloadN (q := 43) at_42 rfl rfl ?_
    refine Here.callS (qn := 46) (os1 := []) (os2 := []) (rest := []) (W := 0) (argsL := [(.int cv)]) A2 (m_sp l Z a0 hw cv) (Or.inl rfl) (tw hw 6 rfl) (tw hw 7 rfl) (tw hw 8 rfl) (tw hw 9 rfl) (by decide) at_43 rfl (lenOf pd_2 rfl) rfl (Nat.le_of_eq rfl) (by decide) (by decide) (by decide) (by decide) rfl (fun T3 v4 os5 A6 P7 => ?_)
    obtain ⟨r_43, rfl, rfl, hq_43⟩ := P7
    have A8 := A6.cast (k2 := 0) (n2 := 0) (os2 := []) rfl rfl rfl
    refine A8.iloadN (q := 47) at_46 rfl rfl ?_
    have hc47_9 : r_43 = w := by
      clear hw A0 A2 A6 A8
      (try simp only [true_and, and_true, false_and, and_false, true_or, or_true, false_or, or_false, not_true_eq_false, not_false_eq_true, Int32.lt_iff_toInt_lt, Int64.lt_iff_toInt_lt, Int32.le_iff_toInt_le, Int64.le_iff_toInt_le, ← Int32.toInt_inj, ← Int64.toInt_inj, Int32.toInt_add, Int32.toInt_sub, Int32.toInt_neg, Int64.toInt_add, Int64.toInt_sub, Int64.toInt_neg, Int64.toInt_mul, Int32.toInt_toInt64, bm32, bm64, l32_0, l32_1, l32_9, l32_10, l32_13, l32_32, l32_34, l32_37, l32_38, l32_39, l32_126, l32_127, l32_133, l32_159, l32_160, l32_8232, l32_55295, l32_57344, l32_65533, l32_65535] at hcu hJ41 hq_43 ⊢) <;> omega
    refine A8.icmpNo (q := 50) at_47 (teq hc47_9).2 rfl ?_
    refine A8.iconst (q := 51) (v := 1) at_50 rfl rfl ?_
    refine A8.goto (q := 55) at_51 (by decide) (by decide) ?_
    exact A8.retN (by simp) at_55 (by decide) (by decide) ⟨rfl, trivial⟩
  refine A0.iloadN (q := 9) at_8 rfl rfl ?_
  refine Here.callS (qn := 12) (os1 := []) (os2 := []) (rest := []) (W := 0) (argsL := [(.int uu)]) A0 (m_x10 l Z a0 hw uu) (Or.inl rfl) (tw hw 1 rfl) (tw hw 2 rfl) (tw hw 3 rfl) (tw hw 4 rfl) (by decide) at_9 rfl (lenOf pd_3 rfl) rfl (Nat.le_of_eq rfl) (by decide) (by decide) (by decide) (by decide) rfl (fun T10 v11 os12 A13 P14 => ?_)
  obtain ⟨r_9, rfl, rfl, hq_9⟩ := P14
  have A15 := A13.cast (k2 := 0) (n2 := 0) (os2 := []) rfl rfl rfl
  by_cases hc12_16 : r_9 = (0 : Int32)
  · refine A15.ifYes (q := 40) at_12 ((if0 _ _).trans (teq hc12_16).1) (by decide) (by decide) ?_
    refine A15.iconst (q := 41) (v := 0) at_40 rfl rfl ?_
    refine J41 T10 ((0 : Int32)) A15 ?_
    clear hw J41 A0 A13 A15
    (try simp only [true_and, and_true, false_and, and_false, true_or, or_true, false_or, or_false, not_true_eq_false, not_false_eq_true, Int32.lt_iff_toInt_lt, Int64.lt_iff_toInt_lt, Int32.le_iff_toInt_le, Int64.le_iff_toInt_le, ← Int32.toInt_inj, ← Int64.toInt_inj, Int32.toInt_add, Int32.toInt_sub, Int32.toInt_neg, Int64.toInt_add, Int64.toInt_sub, Int64.toInt_neg, Int64.toInt_mul, Int32.toInt_toInt64, bm32, bm64, l32_0, l32_1, l32_9, l32_10, l32_13, l32_32, l32_34, l32_37, l32_38, l32_39, l32_126, l32_127, l32_133, l32_159, l32_160, l32_8232, l32_55295, l32_57344, l32_65533, l32_65535] at hcu hq_9 hc12_16 ⊢) <;> omega
  · refine A15.ifNo (q := 15) at_12 ((if0 _ _).trans (feq hc12_16).1) rfl ?_
    refine A15.iloadN (q := 16) at_15 rfl rfl ?_
    refine Here.callS (qn := 19) (os1 := []) (os2 := []) (rest := []) (W := 0) (argsL := [(.int uu)]) A15 (m_rs l Z a0 hw uu) (Or.inl rfl) (tw hw 12 rfl) (tw hw 13 rfl) (tw hw 3 rfl) (tw hw 14 rfl) (by decide) at_16 rfl (lenOf pd_3 rfl) rfl (Nat.le_of_eq rfl) (by decide) (by decide) (by decide) (by decide) rfl (fun T17 v18 os19 A20 P21 => ?_)
    obtain ⟨r_16, rfl, rfl, hq_16⟩ := P21
    have A22 := A20.cast (k2 := 0) (n2 := 0) (os2 := []) rfl rfl rfl
    by_cases hc19_23 : r_16 = (0 : Int32)
    · refine A22.ifNo (q := 22) at_19 ((if0 _ _).trans (teq hc19_23).2) rfl ?_
      refine A22.iloadN (q := 23) at_22 rfl rfl ?_
      refine Here.callS (qn := 26) (os1 := []) (os2 := []) (rest := []) (W := 0) (argsL := [(.int uu)]) A22 (m_ls l Z a0 hw uu) (Or.inl rfl) (tw hw 15 rfl) (tw hw 16 rfl) (tw hw 3 rfl) (tw hw 17 rfl) (by decide) at_23 rfl (lenOf pd_3 rfl) rfl (Nat.le_of_eq rfl) (by decide) (by decide) (by decide) (by decide) rfl (fun T24 v25 os26 A27 P28 => ?_)
      obtain ⟨r_23, rfl, rfl, hq_23⟩ := P28
      have A29 := A27.cast (k2 := 0) (n2 := 0) (os2 := []) rfl rfl rfl
      by_cases hc26_30 : r_23 = (0 : Int32)
      · refine A29.ifNo (q := 29) at_26 ((if0 _ _).trans (teq hc26_30).2) rfl ?_
        refine A29.iloadN (q := 30) at_29 rfl rfl ?_
        refine Here.callS (qn := 33) (os1 := []) (os2 := []) (rest := []) (W := 0) (argsL := [(.int uu)]) A29 (m_le l Z a0 hw uu) (Or.inl rfl) (tw hw 18 rfl) (tw hw 19 rfl) (tw hw 3 rfl) (tw hw 20 rfl) (by decide) at_30 rfl (lenOf pd_3 rfl) rfl (Nat.le_of_eq rfl) (by decide) (by decide) (by decide) (by decide) rfl (fun T31 v32 os33 A34 P35 => ?_)
        obtain ⟨r_30, rfl, rfl, hq_30⟩ := P35
        have A36 := A34.cast (k2 := 0) (n2 := 0) (os2 := []) rfl rfl rfl
        by_cases hc33_37 : r_30 = (0 : Int32)
        · refine A36.ifNo (q := 36) at_33 ((if0 _ _).trans (teq hc33_37).2) rfl ?_
          refine A36.iconst (q := 37) (v := 1) at_36 rfl rfl ?_
          refine A36.goto (q := 41) at_37 (by decide) (by decide) ?_
          refine J41 T31 ((1 : Int32)) A36 ?_
          clear hw J41 A0 A13 A15 A20 A22 A27 A29 A34 A36
          (try simp only [true_and, and_true, false_and, and_false, true_or, or_true, false_or, or_false, not_true_eq_false, not_false_eq_true, Int32.lt_iff_toInt_lt, Int64.lt_iff_toInt_lt, Int32.le_iff_toInt_le, Int64.le_iff_toInt_le, ← Int32.toInt_inj, ← Int64.toInt_inj, Int32.toInt_add, Int32.toInt_sub, Int32.toInt_neg, Int64.toInt_add, Int64.toInt_sub, Int64.toInt_neg, Int64.toInt_mul, Int32.toInt_toInt64, bm32, bm64, l32_0, l32_1, l32_9, l32_10, l32_13, l32_32, l32_34, l32_37, l32_38, l32_39, l32_126, l32_127, l32_133, l32_159, l32_160, l32_8232, l32_55295, l32_57344, l32_65533, l32_65535] at hcu hq_9 hc12_16 hq_16 hc19_23 hq_23 hc26_30 hq_30 hc33_37 ⊢) <;> omega
        · refine A36.ifYes (q := 40) at_33 ((if0 _ _).trans (feq hc33_37).2) (by decide) (by decide) ?_
          refine A36.iconst (q := 41) (v := 0) at_40 rfl rfl ?_
          refine J41 T31 ((0 : Int32)) A36 ?_
          clear hw J41 A0 A13 A15 A20 A22 A27 A29 A34 A36
          (try simp only [true_and, and_true, false_and, and_false, true_or, or_true, false_or, or_false, not_true_eq_false, not_false_eq_true, Int32.lt_iff_toInt_lt, Int64.lt_iff_toInt_lt, Int32.le_iff_toInt_le, Int64.le_iff_toInt_le, ← Int32.toInt_inj, ← Int64.toInt_inj, Int32.toInt_add, Int32.toInt_sub, Int32.toInt_neg, Int64.toInt_add, Int64.toInt_sub, Int64.toInt_neg, Int64.toInt_mul, Int32.toInt_toInt64, bm32, bm64, l32_0, l32_1, l32_9, l32_10, l32_13, l32_32, l32_34, l32_37, l32_38, l32_39, l32_126, l32_127, l32_133, l32_159, l32_160, l32_8232, l32_55295, l32_57344, l32_65533, l32_65535] at hcu hq_9 hc12_16 hq_16 hc19_23 hq_23 hc26_30 hq_30 hc33_37 ⊢) <;> omega
      · refine A29.ifYes (q := 40) at_26 ((if0 _ _).trans (feq hc26_30).2) (by decide) (by decide) ?_
        refine A29.iconst (q := 41) (v := 0) at_40 rfl rfl ?_
        refine J41 T24 ((0 : Int32)) A29 ?_
        clear hw J41 A0 A13 A15 A20 A22 A27 A29
        (try simp only [true_and, and_true, false_and, and_false, true_or, or_true, false_or, or_false, not_true_eq_false, not_false_eq_true, Int32.lt_iff_toInt_lt, Int64.lt_iff_toInt_lt, Int32.le_iff_toInt_le, Int64.le_iff_toInt_le, ← Int32.toInt_inj, ← Int64.toInt_inj, Int32.toInt_add, Int32.toInt_sub, Int32.toInt_neg, Int64.toInt_add, Int64.toInt_sub, Int64.toInt_neg, Int64.toInt_mul, Int32.toInt_toInt64, bm32, bm64, l32_0, l32_1, l32_9, l32_10, l32_13, l32_32, l32_34, l32_37, l32_38, l32_39, l32_126, l32_127, l32_133, l32_159, l32_160, l32_8232, l32_55295, l32_57344, l32_65533, l32_65535] at hcu hq_9 hc12_16 hq_16 hc19_23 hq_23 hc26_30 ⊢) <;> omega
    · refine A22.ifYes (q := 40) at_19 ((if0 _ _).trans (feq hc19_23).2) (by decide) (by decide) ?_
      refine A22.iconst (q := 41) (v := 0) at_40 rfl rfl ?_
      refine J41 T17 ((0 : Int32)) A22 ?_
      clear hw J41 A0 A13 A15 A20 A22
      (try simp only [true_and, and_true, false_and, and_false, true_or, or_true, false_or, or_false, not_true_eq_false, not_false_eq_true, Int32.lt_iff_toInt_lt, Int64.lt_iff_toInt_lt, Int32.le_iff_toInt_le, Int64.le_iff_toInt_le, ← Int32.toInt_inj, ← Int64.toInt_inj, Int32.toInt_add, Int32.toInt_sub, Int32.toInt_neg, Int64.toInt_add, Int64.toInt_sub, Int64.toInt_neg, Int64.toInt_mul, Int32.toInt_toInt64, bm32, bm64, l32_0, l32_1, l32_9, l32_10, l32_13, l32_32, l32_34, l32_37, l32_38, l32_39, l32_126, l32_127, l32_133, l32_159, l32_160, l32_8232, l32_55295, l32_57344, l32_65533, l32_65535] at hcu hq_9 hc12_16 hq_16 hc19_23 ⊢) <;> omega
set_option maxRecDepth 65536 in
set_option maxHeartbeats 40000000 in
theorem comes_1 {Post : Tables → Env → Array Value → State → Outcome → State → Prop} (hpost : ∀ tb e args s v u, (limb_1_1.after args s (.returned v) u = true ∧ limb_1_2.after args s (.returned v) u = true ∧ True) → FrameEnd s (.returned v) u (Jvm.fieldLocs frame_1_writes args s ++ Jvm.arrayLocs frame_1_arrays args s ++ Jvm.staticLocs frame_1_statics s) 0 0 → Post tb e args s (.returned v) u) :
    ArmFor flags0 classFile x code maxLocals ret World_1 tables_1 room_1 Calls_1 rest_1 Pre_1 Post := by
  intro l hfl _ _ p e ha hc hk s m args below hf hA hF happ hP
  obtain ⟨hcalls, hrest, hpre⟩ := hP
  obtain ⟨-, -, -, hnamed, -, -, -, hat⟩ := (Spec.applies_iff hf).mp happ
  obtain ⟨hg, hn⟩ := and_e (Cond.before_iff.mp (show (Jvm.Cond.and given_1 narrow_1).before args s = true from hpre))
  obtain ⟨g11, g12⟩ := and_e hg
  obtain ⟨w0, rfl⟩ : ∃ w0 : Value, args = #[w0] := by
    have hs : args.size = 1 := by simpa [Cond.value, given_1] using g11
    obtain ⟨L⟩ := args
    match L, hs with
    | [w0], _ => exact ⟨w0, rfl⟩
  have hw := fun d (hd : d ∈ tables_1) => atoms_spec (ws := Jvm.Cond.code x code maxLocals ret :: tables_1) hat d (List.mem_cons_of_mem _ hd)
  obtain ⟨i0, ei0⟩ := is_v g12
  obtain rfl : w0 = (.int i0) := Option.some.inj ei0
  obtain ⟨n, o, h1, h2, h3, _, L, rfl, ⟨N, _, _, rfl, _⟩, hq⟩ := m_law l s _ hw i0 tables_1 s.heap ⟨List.nodup_nil, fun _ q => (nomatch q)⟩ p e ha hc hk s m _ below hf ((Spec.applies_iff_loose hf).mp happ).1 ⟨rfl, State.Warmed39.refl s, rfl⟩ trivial
  refine ⟨n, _, h1, h2, h3, hpost _ _ _ _ _ _ ⟨Cond.after_iff.mpr rfl, Cond.after_iff.mpr (eq_i res_at (Term.int_eval (1)) rfl), trivial⟩ ⟨hq.1, hq.2.1, (hq.2.2.sift fun y hy => Or.inr ((N y hy).elim (fun q => absurd q List.not_mem_nil) id)).mono (by decide) (by decide)⟩⟩
theorem main_1_1 : Claimed_1_1 := comes_1 fun _ _ _ _ _ _ h hF => ⟨h.1, hF⟩
theorem main_1_2 : Claimed_1_2 := comes_1 fun _ _ _ _ _ _ h hF => ⟨h.2.1, hF⟩
end Jvm.Pilot.@@N@@
namespace Jvm.Pilot.@@N@@
open Jvm Jvm.ClassFile Sem Op Lib Jvm.Free Jvm.Stand Jvm.Pilot.@@N@@.Jvm.D
/-! MADE BY PROGRAM (witnessworld.py) out of the Statement's table words and the real class files: 9 classes; the members and pool entries that the words name. The judged class is class 1, her method 5. -/
namespace start1
open Jvm.ClassFile
def u (s : String) : CpInfo := .utf8 (stringToUtf16 s)
/-- a pool by its gaps: so many unusable entries, then the entry; so many at the end -/
def gap : Nat → List CpInfo → List CpInfo
  | 0, r => r
  | n + 1, r => .unusable :: gap n r
def poolList (es : List (Nat × CpInfo)) (last : Nat) : List CpInfo := es.foldr (fun e r => gap e.1 (e.2 :: r)) (gap last [])
def pool (es : List (Nat × CpInfo)) (last : Nat) : Array CpInfo := ⟨poolList es last⟩
def fileOf (pool : Array CpInfo) (this : Nat) (attrs : Array Attribute := #[]) (ms : Array MethodInfo := #[]) (fl : Nat := 33) (sup : Nat := 0) (ifs : Array Nat := #[]) (fds : Array FieldInfo := #[]) : ClassFile where
  minorVersion := 0
  majorVersion := 65
  constantPool := pool
  accessFlags := fl
  thisClass := this
  superClass := sup
  interfaces := ifs
  fields := fds
  methods := ms
  attributes := attrs
def plain (name : String) (sup : Option ClassId) : Class where
  name := name
  kind := .ordinary
  loader := none
  accessFlags := 33
  super := sup
  interfaces := #[]
  cf := none
  fields := #[]
  methods := #[]
  instanceTypes := #[]
  staticTypes := #[]
  resolved := #[]
  callSites := []
  init := .initialized
  statics := none
  mirror := none

def pool0 : Array CpInfo := pool [(5, u "<init>"), (0, u "()V"), (1, .class_ 10), (1, u "java/lang/Object")] 113

def k0m0 : Method := { name := "<init>", desc := "()V", sig := { parameters := [], returnType := none }, accessFlags := 1, code := none }
/-- java/lang/Object -/
def k0 : Class := { plain "java/lang/Object" none with
  accessFlags := 33
  interfaces := #[]
  cf := some (fileOf pool0 8 #[] #[{ accessFlags := 1, nameIndex := 5, descriptorIndex := 6, attributes := #[] }] 33 0 #[] #[])
  fields := #[]
  methods := #[k0m0]
  instanceTypes := #[]
  staticTypes := #[]
  resolved := Array.replicate 124 none
  statics := none }

def pool1 : Array CpInfo := pool [(2, .class_ 4), (1, u "java/lang/Object"), (0, u "<init>"), (0, u "()V"), (0, .integer 55295), (0, .integer 57344), (0, .integer 65533), (0, .integer 65535), (0, .methodref 12 13), (0, .class_ 14), (0, .nameAndType 15 16), (0, u "com/example/fine_events/fineevents/ValueCountIsSparePinLaw"), (0, u "isXml10Char"), (0, u "(I)Z"), (0, .methodref 12 18), (0, .nameAndType 19 16), (0, u "isRestrictedInXml11"), (0, .methodref 12 21), (0, .nameAndType 22 16), (0, u "isLiteralSyntax"), (0, .methodref 12 24), (0, .nameAndType 25 16), (0, u "isXml11OnlyLineEnd"), (0, .methodref 27 28), (0, .class_ 29), (0, .nameAndType 30 31), (0, u "com/example/fine_events/fineevents/ValueCount"), (0, u "isSpare"), (0, u "(C)Z"), (3, u "law")] 2

def k1m0 : Method := { name := "<init>", desc := "()V", sig := { parameters := [], returnType := none }, accessFlags := 2, code := none }
def k1c1 : Code := { maxStack := 2, maxLocals := 1, code := method_2_code, exceptionTable := #[], attributes := #[] }
def k1m1 : Method := { name := "isXml10Char", desc := "(I)Z", sig := { parameters := [.int], returnType := some .boolean }, accessFlags := 10, code := some k1c1 }
def k1c2 : Code := { maxStack := 2, maxLocals := 1, code := method_3_code, exceptionTable := #[], attributes := #[] }
def k1m2 : Method := { name := "isRestrictedInXml11", desc := "(I)Z", sig := { parameters := [.int], returnType := some .boolean }, accessFlags := 10, code := some k1c2 }
def k1c3 : Code := { maxStack := 2, maxLocals := 1, code := method_4_code, exceptionTable := #[], attributes := #[] }
def k1m3 : Method := { name := "isLiteralSyntax", desc := "(I)Z", sig := { parameters := [.int], returnType := some .boolean }, accessFlags := 10, code := some k1c3 }
def k1c4 : Code := { maxStack := 2, maxLocals := 1, code := method_5_code, exceptionTable := #[], attributes := #[] }
def k1m4 : Method := { name := "isXml11OnlyLineEnd", desc := "(I)Z", sig := { parameters := [.int], returnType := some .boolean }, accessFlags := 10, code := some k1c4 }
def k1c5 : Code := { maxStack := 2, maxLocals := 4, code := code, exceptionTable := #[], attributes := #[] }
def k1m5 : Method := { name := "law", desc := "(I)Z", sig := { parameters := [.int], returnType := some .boolean }, accessFlags := 9, code := some k1c5 }
/-- com/example/fine_events/fineevents/ValueCountIsSparePinLaw -/
def k1 : Class := { plain "com/example/fine_events/fineevents/ValueCountIsSparePinLaw" (some 0) with
  accessFlags := 49
  interfaces := #[]
  cf := some (fileOf pool1 12 #[] #[{ accessFlags := 2, nameIndex := 5, descriptorIndex := 6, attributes := #[] }, { accessFlags := 10, nameIndex := 15, descriptorIndex := 16, attributes := #[] }, { accessFlags := 10, nameIndex := 19, descriptorIndex := 16, attributes := #[] }, { accessFlags := 10, nameIndex := 22, descriptorIndex := 16, attributes := #[] }, { accessFlags := 10, nameIndex := 25, descriptorIndex := 16, attributes := #[] }, { accessFlags := 9, nameIndex := 35, descriptorIndex := 16, attributes := #[] }] 49 2 #[] #[])
  fields := #[]
  methods := #[k1m0, k1m1, k1m2, k1m3, k1m4, k1m5]
  instanceTypes := #[]
  staticTypes := #[]
  resolved := Array.replicate 38 none
  statics := none }

def pool2 : Array CpInfo := pool [(2, .class_ 4), (1, u "java/lang/Object"), (6, .class_ 13), (1, u "com/example/fine_events/fineevents/ValueCount"), (0, u "characterReference"), (0, u "Ljava/lang/StringBuilder;"), (0, .class_ 17), (0, u "com/example/fine_events/fineevents/ValueCount$LeastGiven"), (3, u "leastGiven"), (0, u "Lcom/example/fine_events/fineevents/ValueCount$LeastGiven;"), (1, .class_ 26), (1, u "com/example/fine_events/fineevents/ValueCount$LeavingOut"), (1, u "Lcom/example/fine_events/fineevents/ValueCount$LeavingOut;"), (2, u "leavingOut"), (2, u "joinsLineEnds"), (0, u "Z"), (29, u "J"), (2, u "spareRun"), (2, u "spareRunCounted"), (2, u "referenceStart"), (0, u "C"), (2, u "isSpare"), (0, u "(C)Z"), (8, u "counted"), (2, u "standInCount"), (5, u "endsInPair"), (6, u "referenceLength"), (6, u "previous"), (12, .integer 55295), (0, .integer 57344), (0, .integer 65533)] 41

def k2c0 : Code := { maxStack := 2, maxLocals := 1, code := prog_66_method_15_code, exceptionTable := #[], attributes := #[] }
def k2m0 : Method := { name := "isSpare", desc := "(C)Z", sig := { parameters := [.char], returnType := some .boolean }, accessFlags := 8, code := some k2c0 }
/-- com/example/fine_events/fineevents/ValueCount -/
def k2 : Class := { plain "com/example/fine_events/fineevents/ValueCount" (some 0) with
  accessFlags := 48
  interfaces := #[]
  cf := some (fileOf pool2 11 #[.nestMembers #[16, 24]] #[{ accessFlags := 8, nameIndex := 78, descriptorIndex := 79, attributes := #[] }] 48 2 #[] #[{ accessFlags := 18, nameIndex := 34, descriptorIndex := 35, attributes := #[] }, { accessFlags := 2, nameIndex := 88, descriptorIndex := 65, attributes := #[] }, { accessFlags := 2, nameIndex := 111, descriptorIndex := 75, attributes := #[] }, { accessFlags := 2, nameIndex := 97, descriptorIndex := 35, attributes := #[] }, { accessFlags := 2, nameIndex := 74, descriptorIndex := 75, attributes := #[] }, { accessFlags := 2, nameIndex := 104, descriptorIndex := 65, attributes := #[] }, { accessFlags := 18, nameIndex := 14, descriptorIndex := 15, attributes := #[] }, { accessFlags := 2, nameIndex := 21, descriptorIndex := 22, attributes := #[] }, { accessFlags := 2, nameIndex := 68, descriptorIndex := 65, attributes := #[] }, { accessFlags := 2, nameIndex := 71, descriptorIndex := 65, attributes := #[] }, { accessFlags := 2, nameIndex := 31, descriptorIndex := 28, attributes := #[] }, { accessFlags := 2, nameIndex := 91, descriptorIndex := 65, attributes := #[] }])
  fields := #[{ name := "joinsLineEnds", type := .boolean, accessFlags := 18, slot := 0, constantValue := 0 }, { name := "counted", type := .long, accessFlags := 2, slot := 1, constantValue := 0 }, { name := "previous", type := .char, accessFlags := 2, slot := 2, constantValue := 0 }, { name := "endsInPair", type := .boolean, accessFlags := 2, slot := 3, constantValue := 0 }, { name := "referenceStart", type := .char, accessFlags := 2, slot := 4, constantValue := 0 }, { name := "referenceLength", type := .long, accessFlags := 2, slot := 5, constantValue := 0 }, { name := "characterReference", type := (.object "java/lang/StringBuilder"), accessFlags := 18, slot := 6, constantValue := 0 }, { name := "leastGiven", type := (.object "com/example/fine_events/fineevents/ValueCount$LeastGiven"), accessFlags := 2, slot := 7, constantValue := 0 }, { name := "spareRun", type := .long, accessFlags := 2, slot := 8, constantValue := 0 }, { name := "spareRunCounted", type := .long, accessFlags := 2, slot := 9, constantValue := 0 }, { name := "leavingOut", type := (.object "com/example/fine_events/fineevents/ValueCount$LeavingOut"), accessFlags := 2, slot := 10, constantValue := 0 }, { name := "standInCount", type := .long, accessFlags := 2, slot := 11, constantValue := 0 }]
  methods := #[k2m0]
  instanceTypes := #[.boolean, .long, .char, .boolean, .char, .long, (.object "java/lang/StringBuilder"), (.object "com/example/fine_events/fineevents/ValueCount$LeastGiven"), .long, .long, (.object "com/example/fine_events/fineevents/ValueCount$LeavingOut"), .long]
  staticTypes := #[]
  resolved := Array.replicate 168 none
  statics := none }

def pool3 : Array CpInfo := pool [(1, u "java/lang/Cloneable"), (0, .class_ 1), (0, u "java/lang/Object"), (0, .class_ 3)] 3

/-- java/lang/Cloneable -/
def k3 : Class := { plain "java/lang/Cloneable" (some 0) with
  accessFlags := 1537
  interfaces := #[]
  cf := some (fileOf pool3 2 #[] #[] 1537 4 #[] #[])
  fields := #[]
  methods := #[]
  instanceTypes := #[]
  staticTypes := #[]
  resolved := Array.replicate 8 none
  statics := none }

def pool4 : Array CpInfo := pool [(1, u "java/io/Serializable"), (0, .class_ 1), (0, u "java/lang/Object"), (0, .class_ 3)] 3

/-- java/io/Serializable -/
def k4 : Class := { plain "java/io/Serializable" (some 0) with
  accessFlags := 1537
  interfaces := #[]
  cf := some (fileOf pool4 2 #[] #[] 1537 4 #[] #[])
  fields := #[]
  methods := #[]
  instanceTypes := #[]
  staticTypes := #[]
  resolved := Array.replicate 8 none
  statics := none }

/-- the primitive byte -/
def k5 : Class := { plain "byte" none with kind := .primitive 'B', accessFlags := 0x411 }
/-- [B -/
def k6 : Class := { plain "[B" (some 0) with kind := .array 5 .byte, interfaces := #[3, 4], accessFlags := 1041 }

/-- the primitive int -/
def k7 : Class := { plain "int" none with kind := .primitive 'I', accessFlags := 0x411 }
/-- [I -/
def k8 : Class := { plain "[I" (some 0) with kind := .array 7 .int, interfaces := #[3, 4], accessFlags := 1041 }

def heap : Heap := #[]
def classes : Array Class := #[k0, k1, k2, k3, k4, k5, k6, k7, k8]
def interned : List (Array UInt16 × Addr) := []
def slotsUsed : Nat := 0
def theMethod : MethodId := ⟨1, 5⟩
def args0 : Array Value := #[.int 65]
def aboutOver (below : List Frame) : State where
  vm := { classes := classes, interned := interned.toArray }
  heap := heap
  slotsUsed := slotsUsed
  threads := #[{ frames := .invoking theMethod args0 :: below }]
def below0 : List Frame := [.native { method := ⟨0, 0⟩, args := #[] }]
def about1 : State := aboutOver below0
def p0 : Program := .bare "" "" ""
def e0 : Env := launch0.env 0 0 0
theorem w_frames : about1.frames = Frame.invoking theMethod args0 :: below0 := rfl
set_option maxRecDepth 65536 in
theorem w_args : argsFit about1.vm theMethod args0 = true := by decide +kernel
set_option maxRecDepth 65536 in
theorem w_heap : heapFits about1 = true := by decide +kernel
set_option maxRecDepth 65536 in
theorem w_runnable : about1.curStatus? = some .runnable := by decide +kernel
set_option maxRecDepth 65536 in
theorem w_alone : about1.alone = true := by decide +kernel
set_option maxRecDepth 65536 in
theorem w_named : about1.methodNamed? x = some theMethod := by decide +kernel
set_option maxRecDepth 65536 in
theorem w_hears : about1.hears theMethod below0 = true := by decide +kernel
set_option maxRecDepth 65536 in
theorem w_ripe : about1.ripe theMethod args0 below0 = true := by decide +kernel
theorem w_running : about1.status = .running := rfl
set_option maxRecDepth 65536 in
theorem w_room : about1.hasRoom e0.platform room_1 = true :=
  launch0.hasRoom_least _ room_1 (by decide +kernel) (by decide +kernel) (by decide +kernel) (by decide +kernel) (by decide +kernel) (by decide +kernel)
theorem allAtoms_all (ts : List Jvm.Cond) (a : Array Jvm.Value) (st : Jvm.State) : (allAtoms ts).before a st = ts.all (fun c => c.before a st) := by
  induction ts with
  | nil => rfl
  | cons c t ih =>
    show (Jvm.Cond.and c (allAtoms t)).before a st = _
    rw [Jvm.Cond.before_and, ih, List.all_cons]
def words1 : List Jvm.Cond := Jvm.Cond.code x code maxLocals ret :: tables_1
/-- a 'code' word, met by the world's own term for the bytes: nothing is compared byte by byte -/
theorem code_word {y : MethodName} {bytes : ByteArray} {mx : Nat} {rt : Option FieldType} {a : Array Value} {s : State} {m : MethodId} {meth : Method} {c : Code} (h1 : s.methodNamed? y = some m) (h2 : s.vm.method? m = some meth) (h3 : meth.code = some c) (h4 : c.code = bytes)
    (h5 : (c.maxLocals == mx && c.exceptionTable.isEmpty && decide (c.maxStack ≤ mostOperands) && decide (meth.sig.returnType = rt) && !meth.locks && decide (parseMethodDescriptor y.desc = some meth.sig)) = true) : (Jvm.Cond.code y bytes mx rt).before a s = true := by
  simp only [Bool.and_eq_true, beq_iff_eq, Bool.not_eq_true', decide_eq_true_eq] at h5
  obtain ⟨⟨⟨⟨⟨g1, g2⟩, g3⟩, g4⟩, g5⟩, g6⟩ := h5
  simp [Cond.before, Cond.holds, Cond.value, h1, h2, h3, h4, g1, g2, g3, g4, g5, g6]
def isCode : Jvm.Cond → Bool
  | .code _ _ _ _ => true
  | _ => false
theorem all_split {L : List Jvm.Cond} {P : Jvm.Cond → Bool} (h1 : L.all (fun c => isCode c || P c) = true) (h2 : ∀ c ∈ L.filter isCode, P c = true) : L.all P = true := by
  refine List.all_eq_true.mpr fun c hc => ?_
  have h := List.all_eq_true.mp h1 c hc
  rcases Bool.eq_false_or_eq_true (isCode c) with hi | hi
  · exact h2 c (List.mem_filter.mpr ⟨hc, hi⟩)
  · simpa [hi] using h
set_option maxRecDepth 65536 in
theorem w_c0 : (Jvm.Cond.code x code maxLocals ret).before args0 about1 = true := code_word (m := ⟨1, 5⟩) (meth := k1m5) (c := k1c5) (by decide +kernel) rfl rfl rfl (by decide +kernel)
set_option maxRecDepth 65536 in
theorem w_c1 : (Jvm.Cond.code ({ cls := "com/example/fine_events/fineevents/ValueCountIsSparePinLaw", name := "isXml10Char", desc := "(I)Z" } : Jvm.MethodName) method_2_code (1 : Nat) (Option.some Jvm.ClassFile.FieldType.boolean)).before args0 about1 = true := code_word (m := ⟨1, 1⟩) (meth := k1m1) (c := k1c1) (by decide +kernel) rfl rfl rfl (by decide +kernel)
set_option maxRecDepth 65536 in
theorem w_c2 : (Jvm.Cond.code ({ cls := "com/example/fine_events/fineevents/ValueCount", name := "isSpare", desc := "(C)Z" } : Jvm.MethodName) prog_66_method_15_code (1 : Nat) (Option.some Jvm.ClassFile.FieldType.boolean)).before args0 about1 = true := code_word (m := ⟨2, 0⟩) (meth := k2m0) (c := k2c0) (by decide +kernel) rfl rfl rfl (by decide +kernel)
set_option maxRecDepth 65536 in
theorem w_c3 : (Jvm.Cond.code ({ cls := "com/example/fine_events/fineevents/ValueCountIsSparePinLaw", name := "isRestrictedInXml11", desc := "(I)Z" } : Jvm.MethodName) method_3_code (1 : Nat) (Option.some Jvm.ClassFile.FieldType.boolean)).before args0 about1 = true := code_word (m := ⟨1, 2⟩) (meth := k1m2) (c := k1c2) (by decide +kernel) rfl rfl rfl (by decide +kernel)
set_option maxRecDepth 65536 in
theorem w_c4 : (Jvm.Cond.code ({ cls := "com/example/fine_events/fineevents/ValueCountIsSparePinLaw", name := "isLiteralSyntax", desc := "(I)Z" } : Jvm.MethodName) method_4_code (1 : Nat) (Option.some Jvm.ClassFile.FieldType.boolean)).before args0 about1 = true := code_word (m := ⟨1, 3⟩) (meth := k1m3) (c := k1c3) (by decide +kernel) rfl rfl rfl (by decide +kernel)
set_option maxRecDepth 65536 in
theorem w_c5 : (Jvm.Cond.code ({ cls := "com/example/fine_events/fineevents/ValueCountIsSparePinLaw", name := "isXml11OnlyLineEnd", desc := "(I)Z" } : Jvm.MethodName) method_5_code (1 : Nat) (Option.some Jvm.ClassFile.FieldType.boolean)).before args0 about1 = true := code_word (m := ⟨1, 4⟩) (meth := k1m4) (c := k1c4) (by decide +kernel) rfl rfl rfl (by decide +kernel)
def codes1 : List Jvm.Cond := [Jvm.Cond.code x code maxLocals ret, Jvm.Cond.code ({ cls := "com/example/fine_events/fineevents/ValueCountIsSparePinLaw", name := "isXml10Char", desc := "(I)Z" } : Jvm.MethodName) method_2_code (1 : Nat) (Option.some Jvm.ClassFile.FieldType.boolean), Jvm.Cond.code ({ cls := "com/example/fine_events/fineevents/ValueCount", name := "isSpare", desc := "(C)Z" } : Jvm.MethodName) prog_66_method_15_code (1 : Nat) (Option.some Jvm.ClassFile.FieldType.boolean), Jvm.Cond.code ({ cls := "com/example/fine_events/fineevents/ValueCountIsSparePinLaw", name := "isRestrictedInXml11", desc := "(I)Z" } : Jvm.MethodName) method_3_code (1 : Nat) (Option.some Jvm.ClassFile.FieldType.boolean), Jvm.Cond.code ({ cls := "com/example/fine_events/fineevents/ValueCountIsSparePinLaw", name := "isLiteralSyntax", desc := "(I)Z" } : Jvm.MethodName) method_4_code (1 : Nat) (Option.some Jvm.ClassFile.FieldType.boolean), Jvm.Cond.code ({ cls := "com/example/fine_events/fineevents/ValueCountIsSparePinLaw", name := "isXml11OnlyLineEnd", desc := "(I)Z" } : Jvm.MethodName) method_5_code (1 : Nat) (Option.some Jvm.ClassFile.FieldType.boolean)]
set_option maxRecDepth 65536 in
theorem codes_eq : words1.filter isCode = codes1 := rfl
theorem w_codes : ∀ c ∈ words1.filter isCode, c.before args0 about1 = true := by
  rw [codes_eq]
  intro c hc
  simp only [codes1, List.mem_cons, List.not_mem_nil, or_false] at hc
  rcases hc with rfl | rfl | rfl | rfl | rfl | rfl
  · exact w_c0
  · exact w_c1
  · exact w_c2
  · exact w_c3
  · exact w_c4
  · exact w_c5
set_option maxRecDepth 65536 in
theorem w_t1 : (words1.take 24).all (fun c => isCode c || c.before args0 about1) = true := by decide +kernel
set_option maxRecDepth 65536 in
theorem w_t2 : (words1.drop 24).all (fun c => isCode c || c.before args0 about1) = true := by decide +kernel
theorem w_tables : (allAtoms (Jvm.Cond.code x code maxLocals ret :: tables_1)).before args0 about1 = true := by
  rw [allAtoms_all]
  show words1.all (fun c => c.before args0 about1) = true
  refine all_split ?_ w_codes
  rw [← List.take_append_drop 24 words1, List.all_append, w_t1, w_t2]
  rfl
set_option maxRecDepth 65536 in
theorem w_case : (Jvm.Cond.and given_1 narrow_1).before args0 about1 = true := by decide +kernel
theorem w_applies : (headSpec (Jvm.Cond.code x code maxLocals ret :: tables_1) room_1).applies x e0.platform about1 = true :=
  (Spec.applies_iff w_frames).mpr ⟨w_running, w_runnable, w_alone, w_named, w_hears, w_ripe, w_room, w_tables⟩
theorem atStart : AtStart classFile x code maxLocals ret World_1 tables_1 room_1 Calls_1 rest_1 Pre_1 launch0 p0 e0 about1 theMethod args0 below0 :=
  ⟨lists_1, trivial, launch0.admits_env _ _ _, launch0.least_env, fairChoices_fair.cas, fairChoices_fair.clock, w_frames, w_args, w_heap, w_applies, trivial, trivial, w_case⟩
end start1
theorem witness_1 : WitnessClaimed_1 := ⟨start1.p0, start1.e0, start1.about1, start1.theMethod, start1.args0, start1.below0, start1.atStart⟩
end Jvm.Pilot.@@N@@
