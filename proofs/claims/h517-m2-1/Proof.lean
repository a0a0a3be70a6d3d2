import JvmDerived
import JvmDerived.Pilot.@@N@@Statement
import JvmDerived.Pilot.@@N@@Code
set_option linter.unusedVariables false
set_option linter.unusedSimpArgs false
@@BLOCK:NumsL.lean.txt@@
namespace Jvm.OwnWp
open Jvm Jvm.ClassFile Sem Op Lib Jvm.Free Jvm.Stand Jvm.LawKit Jvm.RoadKit
/-! The heap of a walk as a plain list of the objects that it may touch. -/
abbrev Fd := String × String × String × Value
abbrev Ob := (String × List Fd) ⊕ (FieldType × List Value)
abbrev Hs := List (Addr × Ob)
section Heaps
variable {Z : State} {a0 : Array Value} {h h' h0 : Heap} {a b : Addr} {sl : Nat} {v : Value} {o o' : Ob} {os os' rest : Hs} {dm fp fp2 : List Addr}
def ObAt (Z : State) (a0 : Array Value) (h : Heap) (a : Addr) : Ob → Prop
  | .inl x => Exa Z h a x.1 ∧ (x.2.map (·.2.1)).Nodup ∧ ∀ q ∈ x.2, Fld Z h a q.1 q.2.1 q.2.2.1 q.2.2.2 ∧ Laid Z a0 x.1 q.1 q.2.1 q.2.2.1 ∧ ∃ t, parseFieldDescriptor q.2.2.1 = some t
  | .inr x => ∃ c : Cell, Arr Z h a c x.1 ∧ c.slots.toList = x.2 ∧ Exa Z h a ("[" ++ x.1.toString) ∧ ∀ v ∈ x.2, fits x.1 v = true
theorem ObAt.lt (F : ObAt Z a0 h a o) : a < h.size := by
  cases o with
  | inl x => exact F.1.lt
  | inr x => obtain ⟨c, A, -⟩ := F; exact A.lt
theorem ObAt.move (hm : ∀ c, h[a]? = some c → h'[a]? = some c) (F : ObAt Z a0 h a o) : ObAt Z a0 h' a o := by
  cases o with
  | inl x =>
    obtain ⟨⟨cell, k, h1, r⟩, hn, hq⟩ := F
    refine ⟨⟨cell, k, hm _ h1, r⟩, hn, fun q hq' => ?_⟩
    obtain ⟨⟨cell, cf, k, i, f, h1, r⟩, L⟩ := hq q hq'
    exact ⟨⟨cell, cf, k, i, f, hm _ h1, r⟩, L⟩
  | inr x =>
    obtain ⟨c, A, e, ⟨cell, k, h1, r⟩, hf⟩ := F
    exact ⟨c, ⟨hm _ A.1, A.2⟩, e, ⟨cell, k, hm _ h1, r⟩, hf⟩
theorem ObAt.ext (E : Ext h h') (F : ObAt Z a0 h a o) : ObAt Z a0 h' a o := F.move fun c hc => E.2 _ _ hc
theorem wr_ne (W : Wr h h' a sl v) (hne : b ≠ a) {c : Cell} (hc : h[b]? = some c) : h'[b]? = some c := by
  obtain ⟨cb', h1, -, -, -, h5, -⟩ := wr_at W hc
  rw [h1, h5 hne]
/-- the cells that a walk may write: those of its footprint, and the new ones -/
def Dm (fp : List Addr) (n0 : Nat) (a : Addr) : Prop := a ∈ fp ∨ n0 ≤ a
def Hq (Z : State) (a0 : Array Value) (h : Heap) (os : Hs) : Prop := (os.map (·.1)).Nodup ∧ ∀ q ∈ os, ObAt Z a0 h q.1 q.2
def Hp (Z : State) (a0 : Array Value) (dm fp : List Addr) (h0 h : Heap) (os : Hs) : Prop :=
  Hq Z a0 h os ∧ (∀ q ∈ os, Dm dm h0.size q.1) ∧ h0.size ≤ h.size ∧ ∀ a c, h0[a]? = some c → a ∉ fp → h[a]? = some c
theorem Hp.start (H : Hq Z a0 h os) : Hp Z a0 (os.map (·.1)) fp h h os := ⟨H, fun q hq => Or.inl (List.mem_map.mpr ⟨q, hq, rfl⟩), Nat.le_refl _, fun _ _ q _ => q⟩
theorem Hp.ext (E : Ext h h') (H : Hp Z a0 dm fp h0 h os) : Hp Z a0 dm fp h0 h' os :=
  ⟨⟨H.1.1, fun q hq => (H.1.2 q hq).ext E⟩, H.2.1, Nat.le_trans H.2.2.1 E.1, fun a c q n => E.2 _ _ (H.2.2.2 a c q n)⟩
theorem Hp.push (E : Ext h h') (F : ObAt Z a0 h' h.size o) (H : Hp Z a0 dm fp h0 h os) : Hp Z a0 dm fp h0 h' (os ++ [(h.size, o)]) := by
  have H' := H.ext E
  refine ⟨⟨?_, fun q hq => ?_⟩, fun q hq => ?_, H'.2.2⟩
  · rw [List.map_append, List.nodup_append]
    refine ⟨H.1.1, by simp, fun x hx y hy => ?_⟩
    obtain ⟨q, hq, rfl⟩ := List.mem_map.mp hx
    have := (H.1.2 q hq).lt
    simp only [List.map_cons, List.map_nil, List.mem_singleton] at hy
    intro e
    rw [e, hy] at this
    exact Nat.lt_irrefl _ this
  · rcases List.mem_append.mp hq with hq | hq
    · exact H'.1.2 q hq
    · cases List.mem_singleton.mp hq; exact F
  · rcases List.mem_append.mp hq with hq | hq
    · exact H.2.1 q hq
    · cases List.mem_singleton.mp hq; exact Or.inr H.2.2.1
theorem mem_set {α : Type} {l : List α} {k : Nat} {x q : α} (hq : q ∈ l.set k x) : q = x ∨ ∃ i, i ≠ k ∧ l[i]? = some q := by
  obtain ⟨i, hi⟩ := List.mem_iff_getElem?.mp hq
  rw [List.getElem?_set] at hi
  by_cases e : k = i
  · rw [if_pos e] at hi
    split at hi
    · exact Or.inl (Option.some.inj hi).symm
    · cases hi
  · rw [if_neg e] at hi
    exact Or.inr ⟨i, fun z => e z.symm, hi⟩
theorem nodup_inj {α : Type} {l : List α} (hn : l.Nodup) {i j : Nat} {x : α} (hi : l[i]? = some x) (hj : l[j]? = some x) : i = j := by
  obtain ⟨h1, e1⟩ := List.getElem?_eq_some_iff.mp hi
  obtain ⟨h2, e2⟩ := List.getElem?_eq_some_iff.mp hj
  exact (List.getElem_inj hn).mp (e1.trans e2.symm)
theorem map_at {α β : Type} {l : List α} {f : α → β} {i : Nat} {x : α} (hi : l[i]? = some x) : (l.map f)[i]? = some (f x) := by rw [List.getElem?_map, hi]; rfl
theorem map_set_same {α β : Type} {l : List α} {f : α → β} {k : Nat} {x x' : α} (hk : l[k]? = some x) (e : f x' = f x) : (l.set k x').map f = l.map f := by
  apply List.ext_getElem?
  intro i
  rw [List.getElem?_map, List.getElem?_map, List.getElem?_set]
  by_cases z : k = i
  · subst z
    rw [if_pos rfl]
    have := (List.getElem?_eq_some_iff.mp hk).1
    rw [if_pos this, hk]
    exact congrArg some e
  · rw [if_neg z]
theorem Hp.wr {k : Nat} (hD : Dm fp h0.size a) (W : Wr h h' a sl v) (ho : os[k]? = some (a, o)) (F : ObAt Z a0 h' a o') (H : Hp Z a0 dm fp h0 h os) : Hp Z a0 dm fp h0 h' (os.set k (a, o')) := by
  have hM : Dm dm h0.size a := H.2.1 _ (List.mem_of_getElem? ho)
  refine ⟨⟨?_, fun q hq => ?_⟩, fun q hq => ?_, by rw [W.size]; exact H.2.2.1, fun x c hx hn => ?_⟩
  · rw [map_set_same (f := fun x : Addr × Ob => x.1) (x' := (a, o')) ho rfl]; exact H.1.1
  · rcases mem_set hq with rfl | ⟨i, hi, hq⟩
    · exact F
    · have hne : q.1 ≠ a := fun e => hi (nodup_inj H.1.1 (map_at hq) (by rw [map_at ho, e]))
      exact (H.1.2 q (List.mem_of_getElem? hq)).move fun c hc => wr_ne W hne hc
  · rcases mem_set hq with rfl | ⟨i, hi, hq⟩
    · exact hM
    · exact H.2.1 q (List.mem_of_getElem? hq)
  · refine wr_ne W (fun e => ?_) (H.2.2.2 x c hx hn)
    subst e
    rcases hD with hD | hD
    · exact hn hD
    · exact absurd (Array.getElem?_eq_some_iff.mp hx).1 (Nat.not_lt.mpr hD)
theorem Hp.fld {k : Nat} {C : String} {fs : List Fd} {j : Nat} {O n d : String} {w : Value} (ho : os[k]? = some (a, .inl (C, fs))) (hj : fs[j]? = some (O, n, d, w)) (H : Hp Z a0 dm fp h0 h os) : Fld Z h a O n d w :=
  ((H.1.2 _ (List.mem_of_getElem? ho)).2.2 _ (List.mem_of_getElem? hj)).1
theorem Hp.exa {k : Nat} {C : String} {fs : List Fd} (ho : os[k]? = some (a, .inl (C, fs))) (H : Hp Z a0 dm fp h0 h os) : Exa Z h a C := (H.1.2 _ (List.mem_of_getElem? ho)).1
theorem Hp.putf {k : Nat} {C : String} {fs : List Fd} {j : Nat} {O n d : String} {w : Value} (hD : Dm fp h0.size a) (ho : os[k]? = some (a, .inl (C, fs))) (hj : fs[j]? = some (O, n, d, w)) (W : Wr h h' a (RoadKit.slotOf Z O n d) v) (H : Hp Z a0 dm fp h0 h os) :
    Hp Z a0 dm fp h0 h' (os.set k (a, .inl (C, fs.set j (O, n, d, v)))) := by
  refine H.wr hD W ho ?_
  obtain ⟨hE, hN, hF⟩ := H.1.2 _ (List.mem_of_getElem? ho)
  dsimp only at hE hN hF
  obtain ⟨F, L, t, ht⟩ := hF _ (List.mem_of_getElem? hj)
  refine ⟨hE.wr W, ?_, fun q hq => ?_⟩
  · dsimp only
    rw [map_set_same (f := fun x : Fd => x.2.1) (x' := (O, n, d, v)) hj rfl]; exact hN
  · rcases mem_set hq with rfl | ⟨i, hi, hq⟩
    · exact ⟨F.same W, L, t, ht⟩
    · obtain ⟨F', L', t', ht'⟩ := hF _ (List.mem_of_getElem? hq)
      have hne : q.2.1 ≠ n := fun e => hi (nodup_inj hN (map_at hq) (by rw [map_at hj, e]))
      exact ⟨F'.other W (Or.inr (slot_ne L' L hne ht' ht)), L', t', ht'⟩
theorem Hp.arr {k : Nat} {ty : FieldType} {vs : List Value} (ho : os[k]? = some (a, .inr (ty, vs))) (H : Hp Z a0 dm fp h0 h os) : ∃ c : Cell, Arr Z h a c ty ∧ c.slots.toList = vs := by
  obtain ⟨c, A, e, -⟩ := H.1.2 _ (List.mem_of_getElem? ho)
  exact ⟨c, A, e⟩
theorem Hp.puta {k : Nat} {ty : FieldType} {vs : List Value} {j : Nat} (hD : Dm fp h0.size a) (hf : fits ty v = true) (ho : os[k]? = some (a, .inr (ty, vs))) (W : Wr h h' a j v) (H : Hp Z a0 dm fp h0 h os) : Hp Z a0 dm fp h0 h' (os.set k (a, .inr (ty, vs.set j v))) := by
  refine H.wr hD W ho ?_
  obtain ⟨c, A, e, E, F⟩ := H.1.2 _ (List.mem_of_getElem? ho)
  refine ⟨_, A.same W, ?_, E.wr W, fun q hq => ?_⟩
  · dsimp only at e ⊢
    rw [← e]
    simp [Cell.setSlot]
  · rcases mem_set hq with rfl | ⟨i, -, hq⟩
    · exact hf
    · exact F q (List.mem_of_getElem? hq)
theorem Hp.call (H : Hp Z a0 dm fp h0 h (rest ++ os)) (H' : Hp Z a0 (os.map (·.1)) fp2 h h' os') (hc : fp2 = [] ∨ (fp2 = os.map (·.1) ∧ dm = fp)) : Hp Z a0 dm fp h0 h' (rest ++ os') := by
  have hN := H.1.1
  rw [List.map_append, List.nodup_append] at hN
  have hsub : ∀ x ∈ fp2, x ∈ os.map (·.1) := fun x hx => by
    rcases hc with rfl | ⟨rfl, -⟩
    · exact absurd hx List.not_mem_nil
    · exact hx
  have hD : ∀ x, Dm (os.map (·.1)) h.size x → Dm dm h0.size x := fun x hx => by
    rcases hx with hx | hx
    · obtain ⟨q, hq, rfl⟩ := List.mem_map.mp hx
      exact H.2.1 q (List.mem_append.mpr (Or.inr hq))
    · exact Or.inr (Nat.le_trans H.2.2.1 hx)
  have hR : ∀ q ∈ rest, q.1 ∉ os.map (·.1) := fun q hq hm => hN.2.2 _ (List.mem_map.mpr ⟨q, hq, rfl⟩) _ hm rfl
  refine ⟨⟨?_, fun q hq => ?_⟩, fun q hq => ?_, Nat.le_trans H.2.2.1 H'.2.2.1, fun x c hx hn => ?_⟩
  · rw [List.map_append, List.nodup_append]
    refine ⟨hN.1, H'.1.1, fun x hx y hy e => ?_⟩
    subst e
    obtain ⟨q, hq, rfl⟩ := List.mem_map.mp hx
    obtain ⟨q', hq', e⟩ := List.mem_map.mp hy
    have := H'.2.1 q' hq'
    rw [e] at this
    rcases this with t | t
    · exact hR q hq t
    · exact absurd (H.1.2 q (List.mem_append.mpr (Or.inl hq))).lt (Nat.not_lt.mpr t)
  · rcases List.mem_append.mp hq with hq | hq
    · exact (H.1.2 q (List.mem_append.mpr (Or.inl hq))).move fun c hc => H'.2.2.2 _ _ hc (fun z => hR q hq (hsub _ z))
    · exact H'.1.2 q hq
  · rcases List.mem_append.mp hq with hq | hq
    · exact H.2.1 q (List.mem_append.mpr (Or.inl hq))
    · exact hD _ (H'.2.1 q hq)
  · refine H'.2.2.2 _ _ (H.2.2.2 x c hx hn) fun hm => ?_
    rcases hc with rfl | ⟨rfl, rfl⟩
    · exact absurd hm List.not_mem_nil
    · obtain ⟨q, hq, rfl⟩ := List.mem_map.mp hm
      rcases H.2.1 q (List.mem_append.mpr (Or.inr hq)) with t | t
      · exact hn t
      · exact absurd (Array.getElem?_eq_some_iff.mp hx).1 (Nat.not_lt.mpr t)
theorem pick_mem {is : List Nat} {os2 : Hs} (he : is.map (fun i => os[i]?) = os2.map some) {q : Addr × Ob} (hq : q ∈ os2) : ∃ i ∈ is, os[i]? = some q := by
  have : some q ∈ is.map (fun i => os[i]?) := by rw [he]; exact List.mem_map.mpr ⟨q, hq, rfl⟩
  obtain ⟨i, hi, e⟩ := List.mem_map.mp this
  exact ⟨i, hi, e⟩
theorem pick_nodup (hN : (os.map (·.1)).Nodup) : ∀ {is : List Nat} {os2 : Hs}, is.Nodup → is.map (fun i => os[i]?) = os2.map some → (os2.map (·.1)).Nodup
  | [], [], _, _ => List.nodup_nil
  | [], _ :: _, _, he => by cases he
  | _ :: _, [], _, he => by cases he
  | i :: is, q :: os2, hi, he => by
    simp only [List.map_cons, List.cons.injEq] at he
    rw [List.nodup_cons] at hi
    rw [List.map_cons, List.nodup_cons]
    refine ⟨fun hm => ?_, pick_nodup hN hi.2 he.2⟩
    obtain ⟨q', hq', e⟩ := List.mem_map.mp hm
    obtain ⟨i', hi', e'⟩ := pick_mem he.2 hq'
    have := nodup_inj hN (map_at he.1) (by rw [map_at e', e])
    exact hi.1 (this ▸ hi')
theorem Hp.pick {is : List Nat} {os2 : Hs} (H : Hp Z a0 dm fp h0 h os) (hn : is.Nodup) (he : is.map (fun i => os[i]?) = os2.map some) : Hp Z a0 dm fp h0 h os2 :=
  have hm : ∀ q ∈ os2, q ∈ os := fun q hq => by obtain ⟨i, -, e⟩ := pick_mem he hq; exact List.mem_of_getElem? e
  ⟨⟨pick_nodup H.1.1 hn he, fun q hq => H.1.2 q (hm q hq)⟩, fun q hq => H.2.1 q (hm q hq), H.2.2⟩
end Heaps
/-- what a walk holds at a point -/
def Here (p : Program) (l : Launch) (e : Env) (R : Room) (s : State) (m : MethodId) (args : Array Value) (below : List Frame) (meth : Method) (c : Code) (Z : State) (a0 : Array Value) (y : MethodName) (bytes : ByteArray) (ml : Nat) (ret : Option FieldType) (dm fp : List Addr) (T : State) (k n : Nat) (os : Hs) : Prop :=
  ∃ locs, Stand p l e R s m args below meth c T locs k n ∧ (∀ q ∈ locs, Dm fp s.heap.size q.base) ∧ Hp Z a0 dm fp s.heap T.heap os ∧ p.tables.exec = Jvm.exec ∧ Z.Warmed39 s.vm ∧ c.code = bytes ∧ c.maxLocals = ml ∧ s.vm.findClass y.cls = some m.cls ∧ meth.name = y.name ∧ meth.sig.returnType = ret ∧ meth.locks = false
/-- from here the body returns, and what it leaves is as Post says -/
def Wp (p : Program) (e : Env) (below : List Frame) (Z : State) (a0 : Array Value) (dm fp : List Addr) (R : Room) (s : State) (Post : Option Value → Hs → Prop) (T : State) (g : JFrame) : Prop :=
  ∃ s₂ o, Steps p.tables e below (T.setTop g) s₂ ∧ s₂.status = .running ∧ Ended s₂ below o ∧ ∃ v L, o = .returned v ∧ ((∀ q ∈ L, Dm fp s.heap.size q.base) ∧ ∃ os', Hp Z a0 dm fp s.heap s₂.heap os' ∧ Post v os') ∧ FrameEnd s o s₂ L R.cells R.slots
/-- a body's contract -/
def Pays (l : Launch) (Z : State) (a0 : Array Value) (y : MethodName) (bytes : ByteArray) (ml : Nat) (ret : Option FieldType) (R : Room) (args : Array Value) (os : Hs) (fp : List Addr) (Post : Option Value → Hs → Prop) : Prop :=
  ∀ (ws : List Jvm.Cond) (h0 : Heap), Hq Z a0 h0 os → MetFree l y (head1 (Jvm.Cond.code y bytes ml ret :: ws) R) (fun a U => a = args ∧ Z.Warmed39 U.vm ∧ U.heap = h0) (fun _ _ _ _ _ => True)
    (fun _ U o U' => ∃ v L, o = .returned v ∧ ((∀ q ∈ L, Dm fp h0.size q.base) ∧ ∃ os', Hp Z a0 (os.map (·.1)) fp h0 U'.heap os' ∧ Post v os') ∧ FrameEnd U o U' L R.cells R.slots)
section Walks
variable {p : Program} {l : Launch} {e : Env} {R : Room} {s : State} {m : MethodId} {args : Array Value} {below : List Frame} {meth : Method} {c : Code} {Z : State} {a0 : Array Value} {y : MethodName} {bytes : ByteArray} {ml : Nat} {ret : Option FieldType} {dm fp fp2 : List Addr} {T T' : State} {k n : Nat} {os : Hs} {Post : Option Value → Hs → Prop} {pc : Nat} {Ls : Array Slot} {st rest : List Value}
theorem Wp.go {g g' : JFrame} (hs : ∀ t, Steps p.tables e below (T'.setTop g') t → Steps p.tables e below (T.setTop g) t) (K : Wp p e below Z a0 dm fp R s Post T' g') : Wp p e below Z a0 dm fp R s Post T g := by
  obtain ⟨s₂, o, h1, r⟩ := K
  exact ⟨s₂, o, hs _ h1, r⟩
theorem Here.hr (A : Here p l e R s m args below meth c Z a0 y bytes ml ret dm fp T k n os) : At T m c below := by obtain ⟨_, X, -⟩ := A; exact X.here
theorem Here.hx (A : Here p l e R s m args below meth c Z a0 y bytes ml ret dm fp T k n os) : p.tables.exec = Jvm.exec := by obtain ⟨_, -, -, -, hx, -⟩ := A; exact hx
theorem Here.hb {r : Except DecodeError (Instr × Nat)} (A : Here p l e R s m args below meth c Z a0 y bytes ml ret dm fp T k n os) (hd : decode bytes pc = r) : decode c.code pc = r := by obtain ⟨_, -, -, -, -, -, hb, -⟩ := A; exact hb ▸ hd
theorem Here.pick {is : List Nat} {os2 : Hs} (A : Here p l e R s m args below meth c Z a0 y bytes ml ret dm fp T k n os) (hn : is.Nodup) (he : is.map (fun i => os[i]?) = os2.map some) : Here p l e R s m args below meth c Z a0 y bytes ml ret dm fp T k n os2 := by
  obtain ⟨locs, X, N, H, r⟩ := A
  exact ⟨locs, X, N, H.pick hn he, r⟩
theorem Here.cast {k2 n2 : Nat} {os2 : Hs} (A : Here p l e R s m args below meth c Z a0 y bytes ml ret dm fp T k n os) (h1 : k = k2) (h2 : n = n2) (h3 : os = os2) : Here p l e R s m args below meth c Z a0 y bytes ml ret dm fp T k2 n2 os2 := by
  subst h1 h2 h3
  exact A
theorem Here.more {k2 n2 : Nat} (A : Here p l e R s m args below meth c Z a0 y bytes ml ret dm fp T k n os) (h1 : k ≤ k2) (h2 : n ≤ n2) : Here p l e R s m args below meth c Z a0 y bytes ml ret dm fp T k2 n2 os := by
  obtain ⟨locs, X, r⟩ := A
  exact ⟨locs, X.more h1 h2, r⟩
theorem Here.irem {x z : Int32} (A : Here p l e R s m args below meth c Z a0 y bytes ml ret dm fp T k n os) (hd : decode bytes pc = .ok (.irem, 1)) (hz : z ≠ 0) {qn : Nat} (hq : pc + 1 = qn)
    (K : Wp p e below Z a0 dm fp R s Post T (mkF m qn Ls (.int (x % z) :: rest))) : Wp p e below Z a0 dm fp R s Post T (mkF m pc Ls (.int z :: .int x :: rest)) := by
  subst hq
  have q := irem_eq_mod x z
  exact Wp.go (fun t kt => XS.irem A.hr A.hx rfl (A.hb hd) rfl hz (by rw [q]; exact kt)) K
theorem lrem_eq (x z : Int64) : x - (x / z) * z = x % z := by
  apply Int64.toInt_inj.mp
  rw [Jvm.Kit.i64_rem, Int64.toInt_mod]
theorem Here.lrem {x z : Int64} (A : Here p l e R s m args below meth c Z a0 y bytes ml ret dm fp T k n os) (hd : decode bytes pc = .ok (.lrem, 1)) (hz : z ≠ 0) {qn : Nat} (hq : pc + 1 = qn)
    (K : Wp p e below Z a0 dm fp R s Post T (mkF m qn Ls (.long (x % z) :: rest))) : Wp p e below Z a0 dm fp R s Post T (mkF m pc Ls (.long z :: .long x :: rest)) := by
  subst hq
  have q := lrem_eq x z
  exact Wp.go (fun t kt => XS.lrem A.hr A.hx rfl (A.hb hd) rfl hz (by rw [q]; exact kt)) K
theorem Pays.of (hpl : plainFor y = true) (hef : ∀ m, entryFrame m args ml = mkF m 0 Ls [])
    (body : ∀ p e s m below meth c T, Here p l e R s m args below meth c Z a0 y bytes ml ret (os.map (·.1)) fp T 0 0 os → Wp p e below Z a0 (os.map (·.1)) fp R s Post T (mkF m 0 Ls [])) : Pays l Z a0 y bytes ml ret R args os fp Post := by
  intro ws h0 hq
  refine MetFree.of_bodySF hpl hisR ?_
  intro p e s m args' below meth c s₁ Bd hml0 hP hK
  obtain ⟨rfl, hZ, hh⟩ := hP
  have X0 : Stand p l e R s m args' below meth c s₁ [] 0 0 := Stand.of_body Bd
  have e0 : s₁.heap = s.heap := by rw [Bd.state]; rfl
  subst hh
  obtain ⟨s₂, o, h1, h2, h3, h4⟩ := body p e s m below meth c s₁ ⟨[], X0, fun _ q => (nomatch q), by rw [e0]; exact Hp.start hq, Bd.exec, hZ, Bd.bytes, hml0, findClass_of_methodNamed Bd.named, (name_of_methodNamed Bd.named Bd.method).1, Bd.returns, Bd.notSynchronized⟩
  exact ⟨s₂, o, castTop (hef m) h1, h2, h3, h4⟩
theorem Here.fin {v : Option Value} {g : JFrame} (A : Here p l e R s m args below meth c Z a0 y bytes ml ret dm fp T k n os) (hv : ret = none → v = none) (hk : k ≤ R.cells) (hn : n ≤ R.slots) (hP : Post v os)
    (hs : ∀ (locs : List Loc), Stand p l e R s m args below meth c T locs k n → meth.sig.returnType = ret → ∀ fs : List Frame, (∀ (f : JFrame) (acts : List Action), f.method = m → f.locked = none → f.entered = [] → (doReturn e (T.setTop f) acts v).1 = T.setFrames fs) → Steps p.tables e below (T.setTop g) (T.setFrames fs)) :
    Wp p e below Z a0 dm fp R s Post T g := by
  obtain ⟨locs, X, N, H, hx, hZ, hb, hml, hown, hnm, hret, hlk⟩ := A
  obtain ⟨fs, hr, hrun, hended, hW, hsame⟩ := X.leave (v := v) (fun h => hv (hret ▸ h)) hlk
  exact ⟨_, _, hs locs X hret fs hr, hrun, hended, v, locs, rfl, ⟨N, os, H, hP⟩, ⟨_, rfl⟩, hW, hsame.mono hk hn⟩
theorem Here.retV (A : Here p l e R s m args below meth c Z a0 y bytes ml none dm fp T k n os) (hd : decode bytes pc = .ok (.return_, 1)) (hk : k ≤ R.cells) (hn : n ≤ R.slots) (hP : Post none os) : Wp p e below Z a0 dm fp R s Post T (mkF m pc Ls []) :=
  A.fin (v := none) (fun _ => rfl) hk hn hP fun _ X hret _ hr => X.returnOut A.hx hret (A.hb hd) hr
theorem Here.retT {w : Value} {t : FieldType} {i : Instr} (A : Here p l e R s m args below meth c Z a0 y bytes ml (some t) dm fp T k n os) (hd : decode bytes pc = .ok (i, 1)) (hw : narrow t w = w)
    (hi : (i = .ireturn ∧ (t = .int ∨ t = .boolean ∨ t = .byte ∨ t = .char ∨ t = .short) ∧ ∃ z, w = .int z) ∨ (i = .lreturn ∧ t = .long ∧ ∃ z, w = .long z) ∨ (i = .dreturn ∧ t = .double ∧ ∃ z, w = .double z) ∨ (i = .freturn ∧ t = .float ∧ ∃ z, w = .float z) ∨ (i = .areturn ∧ t.isReference = true ∧ w.isRef = true))
    (hk : k ≤ R.cells) (hn : n ≤ R.slots) (hP : Post (some w) os) : Wp p e below Z a0 dm fp R s Post T (mkF m pc Ls (w :: rest)) :=
  A.fin (v := some w) (fun h => by cases h) hk hn hP fun _ X hret _ hr => retOut X A.hx hret hw hi (A.hb hd) hr
theorem Here.retI {z : Int32} (A : Here p l e R s m args below meth c Z a0 y bytes ml (some .int) dm fp T k n os) (hd : decode bytes pc = .ok (.ireturn, 1)) (hk : k ≤ R.cells) (hn : n ≤ R.slots) (hP : Post (some (.int z)) os) : Wp p e below Z a0 dm fp R s Post T (mkF m pc Ls (.int z :: rest)) :=
  A.retT hd rfl (Or.inl ⟨rfl, Or.inl rfl, z, rfl⟩) hk hn hP
theorem Here.retJ {z : Int64} (A : Here p l e R s m args below meth c Z a0 y bytes ml (some .long) dm fp T k n os) (hd : decode bytes pc = .ok (.lreturn, 1)) (hk : k ≤ R.cells) (hn : n ≤ R.slots) (hP : Post (some (.long z)) os) : Wp p e below Z a0 dm fp R s Post T (mkF m pc Ls (.long z :: rest)) :=
  A.retT hd rfl (Or.inr (Or.inl ⟨rfl, rfl, z, rfl⟩)) hk hn hP
theorem Here.retR {a : Addr} {t : FieldType} (A : Here p l e R s m args below meth c Z a0 y bytes ml (some t) dm fp T k n os) (hd : decode bytes pc = .ok (.areturn, 1)) (ht : t.isReference = true) (hk : k ≤ R.cells) (hn : n ≤ R.slots) (hP : Post (some (.ref a)) os) : Wp p e below Z a0 dm fp R s Post T (mkF m pc Ls (.ref a :: rest)) :=
  A.retT hd (by cases t <;> first | rfl | (cases ht)) (Or.inr (Or.inr (Or.inr (Or.inr ⟨rfl, ht, rfl⟩)))) hk hn hP
/-- of a boolean, byte, char, short: what comes out is narrowed -/
theorem Here.retN {z : Int32} {t : FieldType} (A : Here p l e R s m args below meth c Z a0 y bytes ml (some t) dm fp T k n os) (ht : t = .boolean ∨ t = .byte ∨ t = .char ∨ t = .short) (hd : decode bytes pc = .ok (.ireturn, 1)) (hk : k ≤ R.cells) (hn : n ≤ R.slots) (hP : Post (some (.int (nar t z))) os) : Wp p e below Z a0 dm fp R s Post T (mkF m pc Ls (.int z :: rest)) :=
  A.fin (v := some (.int (nar t z))) (fun h => by cases h) hk hn hP fun _ X hret _ hr => RoadKit.retN X A.hx hret ht (A.hb hd) hr
/-! single instructions (printed by mkops.py) -/
theorem Here.iloadN {j : Fin 4} {v : Int32} {q : Nat} (A : Here p l e R s m args below meth c Z a0 y bytes ml ret dm fp T k n os) (hd : decode bytes pc = .ok (.iload_n j, 1)) (hl : Ls[j.val]? = some (.val (.int v))) (hq : pc + 1 = q) (K : Wp p e below Z a0 dm fp R s Post T (mkF m q Ls (.int v :: st))) : Wp p e below Z a0 dm fp R s Post T (mkF m pc Ls st) := by
  subst hq
  exact Wp.go (fun t kt => XS.iloadN A.hr A.hx rfl (A.hb hd) hl kt) K
theorem Here.iload {j : Nat} {v : Int32} {q : Nat} (A : Here p l e R s m args below meth c Z a0 y bytes ml ret dm fp T k n os) (hd : decode bytes pc = .ok (.iload j, 2)) (hl : Ls[j]? = some (.val (.int v))) (hq : pc + 2 = q) (K : Wp p e below Z a0 dm fp R s Post T (mkF m q Ls (.int v :: st))) : Wp p e below Z a0 dm fp R s Post T (mkF m pc Ls st) := by
  subst hq
  exact Wp.go (fun t kt => XS.iload A.hr A.hx rfl (A.hb hd) hl kt) K
theorem Here.istoreN {j : Fin 4} {v : Int32} {l' : Array Slot} {q : Nat} (A : Here p l e R s m args below meth c Z a0 y bytes ml ret dm fp T k n os) (hd : decode bytes pc = .ok (.istore_n j, 1)) (hl : storeLocals Ls j.val (.int v) = some l') (hq : pc + 1 = q) (K : Wp p e below Z a0 dm fp R s Post T (mkF m q l' rest)) : Wp p e below Z a0 dm fp R s Post T (mkF m pc Ls (.int v :: rest)) := by
  subst hq
  exact Wp.go (fun t kt => XS.istoreN A.hr A.hx rfl (A.hb hd) rfl hl kt) K
theorem Here.istore {j : Nat} {v : Int32} {l' : Array Slot} {q : Nat} (A : Here p l e R s m args below meth c Z a0 y bytes ml ret dm fp T k n os) (hd : decode bytes pc = .ok (.istore j, 2)) (hl : storeLocals Ls j (.int v) = some l') (hq : pc + 2 = q) (K : Wp p e below Z a0 dm fp R s Post T (mkF m q l' rest)) : Wp p e below Z a0 dm fp R s Post T (mkF m pc Ls (.int v :: rest)) := by
  subst hq
  exact Wp.go (fun t kt => XS.istore A.hr A.hx rfl (A.hb hd) rfl hl kt) K
theorem Here.lloadN {j : Fin 4} {v : Int64} {q : Nat} (A : Here p l e R s m args below meth c Z a0 y bytes ml ret dm fp T k n os) (hd : decode bytes pc = .ok (.lload_n j, 1)) (hl : Ls[j.val]? = some (.val (.long v))) (hq : pc + 1 = q) (K : Wp p e below Z a0 dm fp R s Post T (mkF m q Ls (.long v :: st))) : Wp p e below Z a0 dm fp R s Post T (mkF m pc Ls st) := by
  subst hq
  exact Wp.go (fun t kt => XS.lloadN A.hr A.hx rfl (A.hb hd) hl kt) K
theorem Here.lload {j : Nat} {v : Int64} {q : Nat} (A : Here p l e R s m args below meth c Z a0 y bytes ml ret dm fp T k n os) (hd : decode bytes pc = .ok (.lload j, 2)) (hl : Ls[j]? = some (.val (.long v))) (hq : pc + 2 = q) (K : Wp p e below Z a0 dm fp R s Post T (mkF m q Ls (.long v :: st))) : Wp p e below Z a0 dm fp R s Post T (mkF m pc Ls st) := by
  subst hq
  exact Wp.go (fun t kt => XS.lload A.hr A.hx rfl (A.hb hd) hl kt) K
theorem Here.lstoreN {j : Fin 4} {v : Int64} {l' : Array Slot} {q : Nat} (A : Here p l e R s m args below meth c Z a0 y bytes ml ret dm fp T k n os) (hd : decode bytes pc = .ok (.lstore_n j, 1)) (hl : storeLocals Ls j.val (.long v) = some l') (hq : pc + 1 = q) (K : Wp p e below Z a0 dm fp R s Post T (mkF m q l' rest)) : Wp p e below Z a0 dm fp R s Post T (mkF m pc Ls (.long v :: rest)) := by
  subst hq
  exact Wp.go (fun t kt => XS.lstoreN A.hr A.hx rfl (A.hb hd) rfl hl kt) K
theorem Here.lstore {j : Nat} {v : Int64} {l' : Array Slot} {q : Nat} (A : Here p l e R s m args below meth c Z a0 y bytes ml ret dm fp T k n os) (hd : decode bytes pc = .ok (.lstore j, 2)) (hl : storeLocals Ls j (.long v) = some l') (hq : pc + 2 = q) (K : Wp p e below Z a0 dm fp R s Post T (mkF m q l' rest)) : Wp p e below Z a0 dm fp R s Post T (mkF m pc Ls (.long v :: rest)) := by
  subst hq
  exact Wp.go (fun t kt => XS.lstore A.hr A.hx rfl (A.hb hd) rfl hl kt) K
theorem Here.aloadN {j : Fin 4} {v : Value} {q : Nat} (A : Here p l e R s m args below meth c Z a0 y bytes ml ret dm fp T k n os) (hd : decode bytes pc = .ok (.aload_n j, 1)) (hl : Ls[j.val]? = some (.val v)) (hv : v.isRef = true) (hq : pc + 1 = q) (K : Wp p e below Z a0 dm fp R s Post T (mkF m q Ls (v :: st))) : Wp p e below Z a0 dm fp R s Post T (mkF m pc Ls st) := by
  subst hq
  exact Wp.go (fun t kt => XS.aloadN A.hr A.hx rfl (A.hb hd) hl hv kt) K
theorem Here.aload {j : Nat} {v : Value} {q : Nat} (A : Here p l e R s m args below meth c Z a0 y bytes ml ret dm fp T k n os) (hd : decode bytes pc = .ok (.aload j, 2)) (hl : Ls[j]? = some (.val v)) (hv : v.isRef = true) (hq : pc + 2 = q) (K : Wp p e below Z a0 dm fp R s Post T (mkF m q Ls (v :: st))) : Wp p e below Z a0 dm fp R s Post T (mkF m pc Ls st) := by
  subst hq
  exact Wp.go (fun t kt => XS.aload A.hr A.hx rfl (A.hb hd) hl hv kt) K
theorem Here.astoreN {j : Fin 4} {v : Value} {l' : Array Slot} {q : Nat} (A : Here p l e R s m args below meth c Z a0 y bytes ml ret dm fp T k n os) (hd : decode bytes pc = .ok (.astore_n j, 1)) (hv : v.isRef = true) (hl : storeLocals Ls j.val v = some l') (hq : pc + 1 = q) (K : Wp p e below Z a0 dm fp R s Post T (mkF m q l' rest)) : Wp p e below Z a0 dm fp R s Post T (mkF m pc Ls (v :: rest)) := by
  subst hq
  exact Wp.go (fun t kt => XS.astoreN A.hr A.hx rfl (A.hb hd) rfl hv hl kt) K
theorem Here.astore {j : Nat} {v : Value} {l' : Array Slot} {q : Nat} (A : Here p l e R s m args below meth c Z a0 y bytes ml ret dm fp T k n os) (hd : decode bytes pc = .ok (.astore j, 2)) (hv : v.isRef = true) (hl : storeLocals Ls j v = some l') (hq : pc + 2 = q) (K : Wp p e below Z a0 dm fp R s Post T (mkF m q l' rest)) : Wp p e below Z a0 dm fp R s Post T (mkF m pc Ls (v :: rest)) := by
  subst hq
  exact Wp.go (fun t kt => XS.astore A.hr A.hx rfl (A.hb hd) rfl hv hl kt) K
theorem Here.iconst {i : Int} {v : Int32} {q : Nat} (A : Here p l e R s m args below meth c Z a0 y bytes ml ret dm fp T k n os) (hd : decode bytes pc = .ok (.iconst i, 1)) (hv : Int32.ofInt i = v) (hq : pc + 1 = q) (K : Wp p e below Z a0 dm fp R s Post T (mkF m q Ls (.int v :: st))) : Wp p e below Z a0 dm fp R s Post T (mkF m pc Ls st) := by
  subst hq hv
  exact Wp.go (fun t kt => XS.iconst A.hr A.hx rfl (A.hb hd) kt) K
theorem Here.bipush {i : Int} {v : Int32} {q : Nat} (A : Here p l e R s m args below meth c Z a0 y bytes ml ret dm fp T k n os) (hd : decode bytes pc = .ok (.bipush i, 2)) (hv : (Int8.ofInt i).toInt32 = v) (hq : pc + 2 = q) (K : Wp p e below Z a0 dm fp R s Post T (mkF m q Ls (.int v :: st))) : Wp p e below Z a0 dm fp R s Post T (mkF m pc Ls st) := by
  subst hq hv
  exact Wp.go (fun t kt => XS.bipush A.hr A.hx rfl (A.hb hd) kt) K
theorem Here.sipush {i : Int} {v : Int32} {q : Nat} (A : Here p l e R s m args below meth c Z a0 y bytes ml ret dm fp T k n os) (hd : decode bytes pc = .ok (.sipush i, 3)) (hv : (Int16.ofInt i).toInt32 = v) (hq : pc + 3 = q) (K : Wp p e below Z a0 dm fp R s Post T (mkF m q Ls (.int v :: st))) : Wp p e below Z a0 dm fp R s Post T (mkF m pc Ls st) := by
  subst hq hv
  exact Wp.go (fun t kt => XS.sipush A.hr A.hx rfl (A.hb hd) kt) K
theorem Here.lconst {i : Fin 2} {v : Int64} {q : Nat} (A : Here p l e R s m args below meth c Z a0 y bytes ml ret dm fp T k n os) (hd : decode bytes pc = .ok (.lconst i, 1)) (hv : Int64.ofNat i.val = v) (hq : pc + 1 = q) (K : Wp p e below Z a0 dm fp R s Post T (mkF m q Ls (.long v :: st))) : Wp p e below Z a0 dm fp R s Post T (mkF m pc Ls st) := by
  subst hq hv
  exact Wp.go (fun t kt => XS.lconst A.hr A.hx rfl (A.hb hd) kt) K
theorem Here.aconstNull  {q : Nat} (A : Here p l e R s m args below meth c Z a0 y bytes ml ret dm fp T k n os) (hd : decode bytes pc = .ok (.aconst_null, 1)) (hq : pc + 1 = q) (K : Wp p e below Z a0 dm fp R s Post T (mkF m q Ls (.null :: st))) : Wp p e below Z a0 dm fp R s Post T (mkF m pc Ls st) := by
  subst hq
  exact Wp.go (fun t kt => XS.aconstNull A.hr A.hx rfl (A.hb hd)  kt) K
theorem Here.iadd {x z : Int32} {q : Nat} (A : Here p l e R s m args below meth c Z a0 y bytes ml ret dm fp T k n os) (hd : decode bytes pc = .ok (.iadd, 1)) (hq : pc + 1 = q) (K : Wp p e below Z a0 dm fp R s Post T (mkF m q Ls (.int (x + z) :: rest))) : Wp p e below Z a0 dm fp R s Post T (mkF m pc Ls (.int z :: .int x :: rest)) := by
  subst hq
  exact Wp.go (fun t kt => XS.iadd A.hr A.hx rfl (A.hb hd) rfl kt) K
theorem Here.ladd {x z : Int64} {q : Nat} (A : Here p l e R s m args below meth c Z a0 y bytes ml ret dm fp T k n os) (hd : decode bytes pc = .ok (.ladd, 1)) (hq : pc + 1 = q) (K : Wp p e below Z a0 dm fp R s Post T (mkF m q Ls (.long (x + z) :: rest))) : Wp p e below Z a0 dm fp R s Post T (mkF m pc Ls (.long z :: .long x :: rest)) := by
  subst hq
  exact Wp.go (fun t kt => XS.ladd A.hr A.hx rfl (A.hb hd) rfl kt) K
theorem Here.isub {x z : Int32} {q : Nat} (A : Here p l e R s m args below meth c Z a0 y bytes ml ret dm fp T k n os) (hd : decode bytes pc = .ok (.isub, 1)) (hq : pc + 1 = q) (K : Wp p e below Z a0 dm fp R s Post T (mkF m q Ls (.int (x - z) :: rest))) : Wp p e below Z a0 dm fp R s Post T (mkF m pc Ls (.int z :: .int x :: rest)) := by
  subst hq
  exact Wp.go (fun t kt => XS.isub A.hr A.hx rfl (A.hb hd) rfl kt) K
theorem Here.lsub {x z : Int64} {q : Nat} (A : Here p l e R s m args below meth c Z a0 y bytes ml ret dm fp T k n os) (hd : decode bytes pc = .ok (.lsub, 1)) (hq : pc + 1 = q) (K : Wp p e below Z a0 dm fp R s Post T (mkF m q Ls (.long (x - z) :: rest))) : Wp p e below Z a0 dm fp R s Post T (mkF m pc Ls (.long z :: .long x :: rest)) := by
  subst hq
  exact Wp.go (fun t kt => XS.lsub A.hr A.hx rfl (A.hb hd) rfl kt) K
theorem Here.imul {x z : Int32} {q : Nat} (A : Here p l e R s m args below meth c Z a0 y bytes ml ret dm fp T k n os) (hd : decode bytes pc = .ok (.imul, 1)) (hq : pc + 1 = q) (K : Wp p e below Z a0 dm fp R s Post T (mkF m q Ls (.int (x * z) :: rest))) : Wp p e below Z a0 dm fp R s Post T (mkF m pc Ls (.int z :: .int x :: rest)) := by
  subst hq
  exact Wp.go (fun t kt => XS.imul A.hr A.hx rfl (A.hb hd) rfl kt) K
theorem Here.lmul {x z : Int64} {q : Nat} (A : Here p l e R s m args below meth c Z a0 y bytes ml ret dm fp T k n os) (hd : decode bytes pc = .ok (.lmul, 1)) (hq : pc + 1 = q) (K : Wp p e below Z a0 dm fp R s Post T (mkF m q Ls (.long (x * z) :: rest))) : Wp p e below Z a0 dm fp R s Post T (mkF m pc Ls (.long z :: .long x :: rest)) := by
  subst hq
  exact Wp.go (fun t kt => XS.lmul A.hr A.hx rfl (A.hb hd) rfl kt) K
theorem Here.iand {x z : Int32} {q : Nat} (A : Here p l e R s m args below meth c Z a0 y bytes ml ret dm fp T k n os) (hd : decode bytes pc = .ok (.iand, 1)) (hq : pc + 1 = q) (K : Wp p e below Z a0 dm fp R s Post T (mkF m q Ls (.int (x &&& z) :: rest))) : Wp p e below Z a0 dm fp R s Post T (mkF m pc Ls (.int z :: .int x :: rest)) := by
  subst hq
  exact Wp.go (fun t kt => XS.iand A.hr A.hx rfl (A.hb hd) rfl kt) K
theorem Here.land {x z : Int64} {q : Nat} (A : Here p l e R s m args below meth c Z a0 y bytes ml ret dm fp T k n os) (hd : decode bytes pc = .ok (.land, 1)) (hq : pc + 1 = q) (K : Wp p e below Z a0 dm fp R s Post T (mkF m q Ls (.long (x &&& z) :: rest))) : Wp p e below Z a0 dm fp R s Post T (mkF m pc Ls (.long z :: .long x :: rest)) := by
  subst hq
  exact Wp.go (fun t kt => XS.land A.hr A.hx rfl (A.hb hd) rfl kt) K
theorem Here.ior {x z : Int32} {q : Nat} (A : Here p l e R s m args below meth c Z a0 y bytes ml ret dm fp T k n os) (hd : decode bytes pc = .ok (.ior, 1)) (hq : pc + 1 = q) (K : Wp p e below Z a0 dm fp R s Post T (mkF m q Ls (.int (x ||| z) :: rest))) : Wp p e below Z a0 dm fp R s Post T (mkF m pc Ls (.int z :: .int x :: rest)) := by
  subst hq
  exact Wp.go (fun t kt => XS.ior A.hr A.hx rfl (A.hb hd) rfl kt) K
theorem Here.lor {x z : Int64} {q : Nat} (A : Here p l e R s m args below meth c Z a0 y bytes ml ret dm fp T k n os) (hd : decode bytes pc = .ok (.lor, 1)) (hq : pc + 1 = q) (K : Wp p e below Z a0 dm fp R s Post T (mkF m q Ls (.long (x ||| z) :: rest))) : Wp p e below Z a0 dm fp R s Post T (mkF m pc Ls (.long z :: .long x :: rest)) := by
  subst hq
  exact Wp.go (fun t kt => XS.lor A.hr A.hx rfl (A.hb hd) rfl kt) K
theorem Here.ixor {x z : Int32} {q : Nat} (A : Here p l e R s m args below meth c Z a0 y bytes ml ret dm fp T k n os) (hd : decode bytes pc = .ok (.ixor, 1)) (hq : pc + 1 = q) (K : Wp p e below Z a0 dm fp R s Post T (mkF m q Ls (.int (x ^^^ z) :: rest))) : Wp p e below Z a0 dm fp R s Post T (mkF m pc Ls (.int z :: .int x :: rest)) := by
  subst hq
  exact Wp.go (fun t kt => XS.ixor A.hr A.hx rfl (A.hb hd) rfl kt) K
theorem Here.lxor {x z : Int64} {q : Nat} (A : Here p l e R s m args below meth c Z a0 y bytes ml ret dm fp T k n os) (hd : decode bytes pc = .ok (.lxor, 1)) (hq : pc + 1 = q) (K : Wp p e below Z a0 dm fp R s Post T (mkF m q Ls (.long (x ^^^ z) :: rest))) : Wp p e below Z a0 dm fp R s Post T (mkF m pc Ls (.long z :: .long x :: rest)) := by
  subst hq
  exact Wp.go (fun t kt => XS.lxor A.hr A.hx rfl (A.hb hd) rfl kt) K
theorem Here.idiv {x z : Int32} {q : Nat} (A : Here p l e R s m args below meth c Z a0 y bytes ml ret dm fp T k n os) (hd : decode bytes pc = .ok (.idiv, 1)) (hz : z ≠ 0) (hq : pc + 1 = q) (K : Wp p e below Z a0 dm fp R s Post T (mkF m q Ls (.int (x / z) :: rest))) : Wp p e below Z a0 dm fp R s Post T (mkF m pc Ls (.int z :: .int x :: rest)) := by
  subst hq
  exact Wp.go (fun t kt => XS.idiv A.hr A.hx rfl (A.hb hd) rfl hz kt) K
theorem Here.ineg {x : Int32} {q : Nat} (A : Here p l e R s m args below meth c Z a0 y bytes ml ret dm fp T k n os) (hd : decode bytes pc = .ok (.ineg, 1)) (hq : pc + 1 = q) (K : Wp p e below Z a0 dm fp R s Post T (mkF m q Ls (.int (-x) :: rest))) : Wp p e below Z a0 dm fp R s Post T (mkF m pc Ls (.int x :: rest)) := by
  subst hq
  exact Wp.go (fun t kt => XS.ineg A.hr A.hx rfl (A.hb hd) rfl kt) K
theorem Here.ldiv {x z : Int64} {q : Nat} (A : Here p l e R s m args below meth c Z a0 y bytes ml ret dm fp T k n os) (hd : decode bytes pc = .ok (.ldiv, 1)) (hz : z ≠ 0) (hq : pc + 1 = q) (K : Wp p e below Z a0 dm fp R s Post T (mkF m q Ls (.long (x / z) :: rest))) : Wp p e below Z a0 dm fp R s Post T (mkF m pc Ls (.long z :: .long x :: rest)) := by
  subst hq
  exact Wp.go (fun t kt => XS.ldiv A.hr A.hx rfl (A.hb hd) rfl hz kt) K
theorem Here.lneg {x : Int64} {q : Nat} (A : Here p l e R s m args below meth c Z a0 y bytes ml ret dm fp T k n os) (hd : decode bytes pc = .ok (.lneg, 1)) (hq : pc + 1 = q) (K : Wp p e below Z a0 dm fp R s Post T (mkF m q Ls (.long (-x) :: rest))) : Wp p e below Z a0 dm fp R s Post T (mkF m pc Ls (.long x :: rest)) := by
  subst hq
  exact Wp.go (fun t kt => XS.lneg A.hr A.hx rfl (A.hb hd) rfl kt) K
theorem Here.i2l {x : Int32} {q : Nat} (A : Here p l e R s m args below meth c Z a0 y bytes ml ret dm fp T k n os) (hd : decode bytes pc = .ok (.i2l, 1)) (hq : pc + 1 = q) (K : Wp p e below Z a0 dm fp R s Post T (mkF m q Ls (.long (x.toInt64) :: rest))) : Wp p e below Z a0 dm fp R s Post T (mkF m pc Ls (.int x :: rest)) := by
  subst hq
  exact Wp.go (fun t kt => XS.i2l A.hr A.hx rfl (A.hb hd) rfl kt) K
theorem Here.l2i {x : Int64} {q : Nat} (A : Here p l e R s m args below meth c Z a0 y bytes ml ret dm fp T k n os) (hd : decode bytes pc = .ok (.l2i, 1)) (hq : pc + 1 = q) (K : Wp p e below Z a0 dm fp R s Post T (mkF m q Ls (.int (x.toInt32) :: rest))) : Wp p e below Z a0 dm fp R s Post T (mkF m pc Ls (.long x :: rest)) := by
  subst hq
  exact Wp.go (fun t kt => XS.l2i A.hr A.hx rfl (A.hb hd) rfl kt) K
theorem Here.i2b {x : Int32} {q : Nat} (A : Here p l e R s m args below meth c Z a0 y bytes ml ret dm fp T k n os) (hd : decode bytes pc = .ok (.i2b, 1)) (hq : pc + 1 = q) (K : Wp p e below Z a0 dm fp R s Post T (mkF m q Ls (.int (x.toInt8.toInt32) :: rest))) : Wp p e below Z a0 dm fp R s Post T (mkF m pc Ls (.int x :: rest)) := by
  subst hq
  exact Wp.go (fun t kt => XS.i2b A.hr A.hx rfl (A.hb hd) rfl kt) K
theorem Here.i2s {x : Int32} {q : Nat} (A : Here p l e R s m args below meth c Z a0 y bytes ml ret dm fp T k n os) (hd : decode bytes pc = .ok (.i2s, 1)) (hq : pc + 1 = q) (K : Wp p e below Z a0 dm fp R s Post T (mkF m q Ls (.int (x.toInt16.toInt32) :: rest))) : Wp p e below Z a0 dm fp R s Post T (mkF m pc Ls (.int x :: rest)) := by
  subst hq
  exact Wp.go (fun t kt => XS.i2s A.hr A.hx rfl (A.hb hd) rfl kt) K
theorem Here.i2c {x : Int32} {q : Nat} (A : Here p l e R s m args below meth c Z a0 y bytes ml ret dm fp T k n os) (hd : decode bytes pc = .ok (.i2c, 1)) (hq : pc + 1 = q) (K : Wp p e below Z a0 dm fp R s Post T (mkF m q Ls (.int (x.toUInt32.toUInt16.toUInt32.toInt32) :: rest))) : Wp p e below Z a0 dm fp R s Post T (mkF m pc Ls (.int x :: rest)) := by
  subst hq
  exact Wp.go (fun t kt => XS.i2c A.hr A.hx rfl (A.hb hd) rfl kt) K
theorem Here.ishl {x : Int32} {z : Int32} {q : Nat} (A : Here p l e R s m args below meth c Z a0 y bytes ml ret dm fp T k n os) (hd : decode bytes pc = .ok (.ishl, 1)) (hq : pc + 1 = q) (K : Wp p e below Z a0 dm fp R s Post T (mkF m q Ls (.int (x <<< (z &&& 31)) :: rest))) : Wp p e below Z a0 dm fp R s Post T (mkF m pc Ls (.int z :: .int x :: rest)) := by
  subst hq
  exact Wp.go (fun t kt => XS.ishl A.hr A.hx rfl (A.hb hd) rfl kt) K
theorem Here.ishr {x : Int32} {z : Int32} {q : Nat} (A : Here p l e R s m args below meth c Z a0 y bytes ml ret dm fp T k n os) (hd : decode bytes pc = .ok (.ishr, 1)) (hq : pc + 1 = q) (K : Wp p e below Z a0 dm fp R s Post T (mkF m q Ls (.int (x >>> (z &&& 31)) :: rest))) : Wp p e below Z a0 dm fp R s Post T (mkF m pc Ls (.int z :: .int x :: rest)) := by
  subst hq
  exact Wp.go (fun t kt => XS.ishr A.hr A.hx rfl (A.hb hd) rfl kt) K
theorem Here.iushr {x : Int32} {z : Int32} {q : Nat} (A : Here p l e R s m args below meth c Z a0 y bytes ml ret dm fp T k n os) (hd : decode bytes pc = .ok (.iushr, 1)) (hq : pc + 1 = q) (K : Wp p e below Z a0 dm fp R s Post T (mkF m q Ls (.int ((x.toUInt32 >>> (z &&& 31).toUInt32).toInt32) :: rest))) : Wp p e below Z a0 dm fp R s Post T (mkF m pc Ls (.int z :: .int x :: rest)) := by
  subst hq
  exact Wp.go (fun t kt => XS.iushr A.hr A.hx rfl (A.hb hd) rfl kt) K
theorem Here.lshl {x : Int64} {z : Int32} {q : Nat} (A : Here p l e R s m args below meth c Z a0 y bytes ml ret dm fp T k n os) (hd : decode bytes pc = .ok (.lshl, 1)) (hq : pc + 1 = q) (K : Wp p e below Z a0 dm fp R s Post T (mkF m q Ls (.long (x <<< (z &&& 0x3f).toInt64) :: rest))) : Wp p e below Z a0 dm fp R s Post T (mkF m pc Ls (.int z :: .long x :: rest)) := by
  subst hq
  exact Wp.go (fun t kt => XS.lshl A.hr A.hx rfl (A.hb hd) rfl kt) K
theorem Here.lshr {x : Int64} {z : Int32} {q : Nat} (A : Here p l e R s m args below meth c Z a0 y bytes ml ret dm fp T k n os) (hd : decode bytes pc = .ok (.lshr, 1)) (hq : pc + 1 = q) (K : Wp p e below Z a0 dm fp R s Post T (mkF m q Ls (.long (x >>> (z &&& 0x3f).toInt64) :: rest))) : Wp p e below Z a0 dm fp R s Post T (mkF m pc Ls (.int z :: .long x :: rest)) := by
  subst hq
  exact Wp.go (fun t kt => XS.lshr A.hr A.hx rfl (A.hb hd) rfl kt) K
theorem Here.lushr {x : Int64} {z : Int32} {q : Nat} (A : Here p l e R s m args below meth c Z a0 y bytes ml ret dm fp T k n os) (hd : decode bytes pc = .ok (.lushr, 1)) (hq : pc + 1 = q) (K : Wp p e below Z a0 dm fp R s Post T (mkF m q Ls (.long ((x.toUInt64 >>> (z &&& 0x3f).toInt64.toUInt64).toInt64) :: rest))) : Wp p e below Z a0 dm fp R s Post T (mkF m pc Ls (.int z :: .long x :: rest)) := by
  subst hq
  exact Wp.go (fun t kt => XS.lushr A.hr A.hx rfl (A.hb hd) rfl kt) K
theorem Here.lcmp {x z : Int64} {q : Nat} (A : Here p l e R s m args below meth c Z a0 y bytes ml ret dm fp T k n os) (hd : decode bytes pc = .ok (.lcmp, 1)) (hq : pc + 1 = q) (K : Wp p e below Z a0 dm fp R s Post T (mkF m q Ls (.int (lcmpW x z) :: rest))) : Wp p e below Z a0 dm fp R s Post T (mkF m pc Ls (.long z :: .long x :: rest)) := by
  subst hq
  exact Wp.go (fun t kt => XS.lcmp A.hr A.hx rfl (A.hb hd) rfl kt) K
theorem Here.iinc {j : Nat} {i : Int} {x : Int32} {l' : Array Slot} {q : Nat} (A : Here p l e R s m args below meth c Z a0 y bytes ml ret dm fp T k n os) (hd : decode bytes pc = .ok (.iinc j i, 3)) (hl : Ls[j]? = some (.val (.int x))) (hl' : storeLocals Ls j (.int (x + Int32.ofInt i)) = some l') (hq : pc + 3 = q) (K : Wp p e below Z a0 dm fp R s Post T (mkF m q l' st)) : Wp p e below Z a0 dm fp R s Post T (mkF m pc Ls st) := by
  subst hq
  exact Wp.go (fun t kt => XS.iinc A.hr A.hx rfl (A.hb hd) hl hl' kt) K
theorem Here.dup {v : Value} {q : Nat} (A : Here p l e R s m args below meth c Z a0 y bytes ml ret dm fp T k n os) (hd : decode bytes pc = .ok (.dup, 1)) (hv : v.category = 1) (hq : pc + 1 = q) (K : Wp p e below Z a0 dm fp R s Post T (mkF m q Ls (v :: v :: rest))) : Wp p e below Z a0 dm fp R s Post T (mkF m pc Ls (v :: rest)) := by
  subst hq
  exact Wp.go (fun t kt => XS.dup A.hr A.hx rfl (A.hb hd) rfl hv kt) K
theorem Here.pop {v : Value} {q : Nat} (A : Here p l e R s m args below meth c Z a0 y bytes ml ret dm fp T k n os) (hd : decode bytes pc = .ok (.pop, 1)) (hv : v.category = 1) (hq : pc + 1 = q) (K : Wp p e below Z a0 dm fp R s Post T (mkF m q Ls rest)) : Wp p e below Z a0 dm fp R s Post T (mkF m pc Ls (v :: rest)) := by
  subst hq
  exact Wp.go (fun t kt => XS.pop A.hr A.hx rfl (A.hb hd) rfl hv kt) K
theorem Here.dup_x1 {v w : Value} {q : Nat} (A : Here p l e R s m args below meth c Z a0 y bytes ml ret dm fp T k n os) (hd : decode bytes pc = .ok (.dup_x1, 1)) (hv : v.category = 1) (hw : w.category = 1) (hq : pc + 1 = q) (K : Wp p e below Z a0 dm fp R s Post T (mkF m q Ls (v :: w :: v :: rest))) : Wp p e below Z a0 dm fp R s Post T (mkF m pc Ls (v :: w :: rest)) := by
  subst hq
  exact Wp.go (fun t kt => XS.dupX1 A.hr A.hx rfl (A.hb hd) rfl hv hw kt) K
theorem Here.dup2 {v w : Value} {q : Nat} (A : Here p l e R s m args below meth c Z a0 y bytes ml ret dm fp T k n os) (hd : decode bytes pc = .ok (.dup2, 1)) (hv : v.category = 1) (hw : w.category = 1) (hq : pc + 1 = q) (K : Wp p e below Z a0 dm fp R s Post T (mkF m q Ls (v :: w :: v :: w :: rest))) : Wp p e below Z a0 dm fp R s Post T (mkF m pc Ls (v :: w :: rest)) := by
  subst hq
  exact Wp.go (fun t kt => Jvm.Free.XT.dup2 A.hr A.hx rfl (A.hb hd) rfl hv hw kt) K
theorem Here.dup2L {x : Int64} {q : Nat} (A : Here p l e R s m args below meth c Z a0 y bytes ml ret dm fp T k n os) (hd : decode bytes pc = .ok (.dup2, 1)) (hq : pc + 1 = q) (K : Wp p e below Z a0 dm fp R s Post T (mkF m q Ls (.long x :: .long x :: rest))) : Wp p e below Z a0 dm fp R s Post T (mkF m pc Ls (.long x :: rest)) := by
  subst hq
  exact Wp.go (fun t kt => Jvm.Free.XT.dup2L A.hr A.hx rfl (A.hb hd) rfl kt) K
theorem Here.goto {o : Int} {q : Nat} (A : Here p l e R s m args below meth c Z a0 y bytes ml ret dm fp T k n os) (hd : decode bytes pc = .ok (.goto o, 3)) (ho : 0 ≤ (pc : Int) + o) (hq : ((pc : Int) + o).toNat = q) (K : Wp p e below Z a0 dm fp R s Post T (mkF m q Ls st)) : Wp p e below Z a0 dm fp R s Post T (mkF m pc Ls st) :=
  Wp.go (fun t kt => XS.goto A.hr A.hx rfl (pc0 := pc) (pc' := q) rfl (A.hb hd) ho hq kt) K
theorem Here.ifYes {cd : ClassFile.Cond} {o : Int} {x : Int32} {q : Nat} (A : Here p l e R s m args below meth c Z a0 y bytes ml ret dm fp T k n os) (hd : decode bytes pc = .ok (.ifCond cd o, 3)) (hc : ifCond.holds cd x = true) (ho : 0 ≤ (pc : Int) + o) (hq : ((pc : Int) + o).toNat = q) (K : Wp p e below Z a0 dm fp R s Post T (mkF m q Ls rest)) : Wp p e below Z a0 dm fp R s Post T (mkF m pc Ls (.int x :: rest)) :=
  Wp.go (fun t kt => XS.ifYes A.hr A.hx rfl (pc0 := pc) (pc' := q) rfl (A.hb hd) rfl hc ho hq kt) K
theorem Here.ifNo {cd : ClassFile.Cond} {o : Int} {x : Int32} {q : Nat} (A : Here p l e R s m args below meth c Z a0 y bytes ml ret dm fp T k n os) (hd : decode bytes pc = .ok (.ifCond cd o, 3)) (hc : ifCond.holds cd x = false) (hq : pc + 3 = q) (K : Wp p e below Z a0 dm fp R s Post T (mkF m q Ls rest)) : Wp p e below Z a0 dm fp R s Post T (mkF m pc Ls (.int x :: rest)) := by
  subst hq
  exact Wp.go (fun t kt => XS.ifNo A.hr A.hx rfl (A.hb hd) rfl hc kt) K
theorem Here.icmpYes {cd : ClassFile.Cond} {o : Int} {x z : Int32} {q : Nat} (A : Here p l e R s m args below meth c Z a0 y bytes ml ret dm fp T k n os) (hd : decode bytes pc = .ok (.if_icmp cd o, 3)) (hc : if_icmp.holds cd x z = true) (ho : 0 ≤ (pc : Int) + o) (hq : ((pc : Int) + o).toNat = q) (K : Wp p e below Z a0 dm fp R s Post T (mkF m q Ls rest)) : Wp p e below Z a0 dm fp R s Post T (mkF m pc Ls (.int z :: .int x :: rest)) :=
  Wp.go (fun t kt => XS.icmpYes A.hr A.hx rfl (pc0 := pc) (pc' := q) rfl (A.hb hd) rfl hc ho hq kt) K
theorem Here.icmpNo {cd : ClassFile.Cond} {o : Int} {x z : Int32} {q : Nat} (A : Here p l e R s m args below meth c Z a0 y bytes ml ret dm fp T k n os) (hd : decode bytes pc = .ok (.if_icmp cd o, 3)) (hc : if_icmp.holds cd x z = false) (hq : pc + 3 = q) (K : Wp p e below Z a0 dm fp R s Post T (mkF m q Ls rest)) : Wp p e below Z a0 dm fp R s Post T (mkF m pc Ls (.int z :: .int x :: rest)) := by
  subst hq
  exact Wp.go (fun t kt => XS.icmpNo A.hr A.hx rfl (A.hb hd) rfl hc kt) K
theorem Wp.top {v v' : Value} (h : v = v') (K : Wp p e below Z a0 dm fp R s Post T (mkF m pc Ls (v' :: st))) : Wp p e below Z a0 dm fp R s Post T (mkF m pc Ls (v :: st)) := by
  subst h
  exact K
/-! reads and writes -/
theorem Here.getF {O f d R0 : String} {idx i j : Nat} {a : Addr} {C : String} {fs : List Fd} {v : Value} (A : Here p l e R s m args below meth c Z a0 y bytes ml ret dm fp T k n os) (w : (Jvm.Cond.fieldLink y.cls idx R0 f d).before a0 Z = true) (via : Via Z R0 O f d) (hd : decode bytes pc = .ok (.getfield idx, 3)) (ho : os[i]? = some (a, .inl (C, fs))) (hj : fs[j]? = some (O, f, d, v)) {qn : Nat} (hq : pc + 3 = qn)
    (K : ∀ T', Here p l e R s m args below meth c Z a0 y bytes ml ret dm fp T' k n os → Wp p e below Z a0 dm fp R s Post T' (mkF m qn Ls (v :: rest))) : Wp p e below Z a0 dm fp R s Post T (mkF m pc Ls (.ref a :: rest)) := by
  subst hq
  have A' := A
  obtain ⟨locs, X, N, H, hx, hZ, hb, hml, hown, q⟩ := A
  obtain ⟨T1, X1, e1, st1⟩ := RoadKit.getF X hx hZ hown (host := "") (Or.inl w) via rfl (H.fld ho hj) (g := mkF m pc Ls (.ref a :: rest)) rfl rfl (A'.hb hd)
  exact Wp.go st1 (K T1 ⟨locs, X1, N, by rw [e1]; exact H, hx, hZ, hb, hml, hown, q⟩)
theorem Here.putF {O f d R0 : String} {idx i j kk : Nat} {a : Addr} {C : String} {fs : List Fd} {v old : Value} {ty : FieldType} (A : Here p l e R s m args below meth c Z a0 y bytes ml ret dm fp T k n os) (w : (Jvm.Cond.fieldLink y.cls idx R0 f d).before a0 Z = true) (via : Via Z R0 O f d)
    (hL : (Jvm.Cond.lays C O f d).before a0 Z = true ∨ ((Jvm.Cond.laysFinal C O f d).before a0 Z = true ∧ y.cls = O ∧ y.name = "<init>")) (wi : (Jvm.Cond.instantiable C kk).before a0 Z = true) (hty : parseFieldDescriptor d = some ty) (hnw : narrow ty v = v) (hf : fits ty v = true)
    (hd : decode bytes pc = .ok (.putfield idx, 3)) (ho : os[i]? = some (a, .inl (C, fs))) (hj : fs[j]? = some (O, f, d, old)) (hdf : dm = fp) {qn : Nat} (hq : pc + 3 = qn)
    (K : ∀ T', Here p l e R s m args below meth c Z a0 y bytes ml ret dm fp T' k n (os.set i (a, .inl (C, fs.set j (O, f, d, v)))) → Wp p e below Z a0 dm fp R s Post T' (mkF m qn Ls rest)) : Wp p e below Z a0 dm fp R s Post T (mkF m pc Ls (v :: .ref a :: rest)) := by
  subst hq
  have A' := A
  obtain ⟨locs, X, N, H, hx, hZ, hb, hml, hown, hnm, q⟩ := A
  have hD : Dm fp s.heap.size a := hdf ▸ H.2.1 _ (List.mem_of_getElem? ho)
  obtain ⟨T1, h1, X1, e1, W1, st1⟩ := RoadKit.putF X hx hZ hown (host := "") (Or.inl w) via rfl (H.fld ho hj) (H.exa ho) (hL.imp id fun z => ⟨z.1, z.2.1, hnm.trans z.2.2⟩) wi hty hnw hf (g := mkF m pc Ls (v :: .ref a :: rest)) rfl rfl (A'.hb hd)
  refine Wp.go st1 (K T1 ⟨_, X1, fun q hq => ?_, by rw [e1]; exact H.putf hD ho hj W1, hx, hZ, hb, hml, hown, hnm, q⟩)
  rcases List.mem_append.mp hq with hq | hq
  · exact N q hq
  · cases List.mem_singleton.mp hq; exact hD
theorem Here.putFN {O f d R0 : String} {idx i j kk : Nat} {a : Addr} {C : String} {fs : List Fd} {v v' old : Value} {ty : FieldType} (A : Here p l e R s m args below meth c Z a0 y bytes ml ret dm fp T k n os) (w : (Jvm.Cond.fieldLink y.cls idx R0 f d).before a0 Z = true) (via : Via Z R0 O f d)
    (hL : (Jvm.Cond.lays C O f d).before a0 Z = true ∨ ((Jvm.Cond.laysFinal C O f d).before a0 Z = true ∧ y.cls = O ∧ y.name = "<init>")) (wi : (Jvm.Cond.instantiable C kk).before a0 Z = true) (hty : parseFieldDescriptor d = some ty) (hnw : narrow ty v = v') (hf : fits ty v' = true)
    (hd : decode bytes pc = .ok (.putfield idx, 3)) (ho : os[i]? = some (a, .inl (C, fs))) (hj : fs[j]? = some (O, f, d, old)) (hdf : dm = fp) {qn : Nat} (hq : pc + 3 = qn)
    (K : ∀ T', Here p l e R s m args below meth c Z a0 y bytes ml ret dm fp T' k n (os.set i (a, .inl (C, fs.set j (O, f, d, v')))) → Wp p e below Z a0 dm fp R s Post T' (mkF m qn Ls rest)) : Wp p e below Z a0 dm fp R s Post T (mkF m pc Ls (v :: .ref a :: rest)) := by
  subst hq
  have A' := A
  obtain ⟨locs, X, N, H, hx, hZ, hb, hml, hown, hnm, q⟩ := A
  have hD : Dm fp s.heap.size a := hdf ▸ H.2.1 _ (List.mem_of_getElem? ho)
  obtain ⟨T1, h1, X1, e1, W1, st1⟩ := RoadKit.putFN X hx hZ hown w via rfl (H.fld ho hj) (H.exa ho) (hL.imp id fun z => ⟨z.1, z.2.1, hnm.trans z.2.2⟩) wi hty hnw hf (g := mkF m pc Ls (v :: .ref a :: rest)) rfl rfl (A'.hb hd)
  refine Wp.go st1 (K T1 ⟨_, X1, fun q hq => ?_, by rw [e1]; exact H.putf hD ho hj W1, hx, hZ, hb, hml, hown, hnm, q⟩)
  rcases List.mem_append.mp hq with hq | hq
  · exact N q hq
  · cases List.mem_singleton.mp hq; exact hD
theorem Here.newO {idx nn : Nat} {C : String} {fs : List Fd} (A : Here p l e R s m args below meth c Z a0 y bytes ml ret dm fp T k n os) (w : (Jvm.Cond.classLink y.cls idx C).before a0 Z = true) (wi : (Jvm.Cond.instantiable C nn).before a0 Z = true) (wz : (Jvm.Cond.initialized C).before a0 Z = true) (hd : decode bytes pc = .ok (.new idx, 3)) (hc : k + 1 ≤ R.cells) (hl : n + nn ≤ R.slots)
    (hnd : (fs.map (·.2.1)).Nodup) (hfs : ∀ q ∈ fs, Laid Z a0 C q.1 q.2.1 q.2.2.1 ∧ ∃ t, parseFieldDescriptor q.2.2.1 = some t ∧ q.2.2.2 = defaultValue t) {qn : Nat} (hq : pc + 3 = qn)
    (K : ∀ T' a, Here p l e R s m args below meth c Z a0 y bytes ml ret dm fp T' (k + 1) (n + nn) (os ++ [(a, .inl (C, fs))]) → Wp p e below Z a0 dm fp R s Post T' (mkF m qn Ls (.ref a :: st))) : Wp p e below Z a0 dm fp R s Post T (mkF m pc Ls st) := by
  subst hq
  have A' := A
  obtain ⟨locs, X, N, H, hx, hZ, hb, hml, hown, q⟩ := A
  obtain ⟨T1, h1, X1, e1, E1, A1, D1, -, st1⟩ := RoadKit.newO X hx hZ hown w wi wz rfl (g := mkF m pc Ls st) rfl (A'.hb hd) hc hl
  have F1 : ObAt Z a0 h1 T.heap.size (.inl (C, fs)) := ⟨A1, hnd, fun q hq => by
    obtain ⟨L, t, ht, hv⟩ := hfs q hq
    refine ⟨?_, L, t, ht⟩
    rw [hv]
    exact D1 L ht⟩
  exact Wp.go st1 (K T1 _ ⟨_, X1, N, by rw [e1]; exact H.push E1 F1, hx, hZ, hb, hml, hown, q⟩)
theorem Here.newP {aty : ArrayType} {z : Int32} {cap : Nat} (A : Here p l e R s m args below meth c Z a0 y bytes ml ret dm fp T k n os) (w : (Jvm.Cond.arrayClass (newarray.typeOf aty)).before a0 Z = true) (hd : decode bytes pc = .ok (.newarray aty, 2)) (hz : ¬ z < 0) (hcap : z.toNatClampNeg ≤ cap) (hb8 : cap * 8 ≤ 536870912) (hc : k + 1 ≤ R.cells) (hl : n + cap ≤ R.slots) {qn : Nat} (hq : pc + 2 = qn)
    (K : ∀ T' a, Here p l e R s m args below meth c Z a0 y bytes ml ret dm fp T' (k + 1) (n + cap) (os ++ [(a, .inr (newarray.typeOf aty, List.replicate z.toNatClampNeg (defaultValue (newarray.typeOf aty))))]) → Wp p e below Z a0 dm fp R s Post T' (mkF m qn Ls (.ref a :: st))) : Wp p e below Z a0 dm fp R s Post T (mkF m pc Ls (.int z :: st)) := by
  subst hq
  have A' := A
  obtain ⟨locs, X, N, H, hx, hZ, hb, hml, hown, q⟩ := A
  obtain ⟨T1, h1, cA, X1, e1, E1, A1, B1, st1⟩ := RoadKit.newPE X hx hZ w rfl (g := mkF m pc Ls (.int z :: st)) rfl (A'.hb hd) rfl hz hcap hb8 hc hl rfl
  have F1 : ObAt Z a0 h1 T.heap.size (.inr (newarray.typeOf aty, List.replicate z.toNatClampNeg (defaultValue (newarray.typeOf aty)))) := ⟨_, A1, by simp [newA], B1, fun v hv => by
    rw [(List.mem_replicate.mp hv).2]
    cases aty <;> rfl⟩
  exact Wp.go st1 (K T1 _ ⟨_, X1, N, by rw [e1]; exact H.push E1 F1, hx, hZ, hb, hml, hown, q⟩)
theorem inb {vs : List Value} {cl : Cell} {j : Int32} (e : cl.slots.toList = vs) (hj : ¬ j < 0) (hl : j.toNatClampNeg < vs.length) : ¬ (j < 0 ∨ cl.slots.size ≤ j.toNatClampNeg) := by
  subst e
  rw [Array.length_toList] at hl
  rintro (h | h)
  · exact hj h
  · exact absurd hl (Nat.not_lt.mpr h)
theorem Here.stOf {i : Nat} {a : Addr} {ty : FieldType} {vs : List Value} {j : Int32} {v : Value} {g : JFrame} (hf : fits ty v = true) (A : Here p l e R s m args below meth c Z a0 y bytes ml ret dm fp T k n os) (ho : os[i]? = some (a, .inr (ty, vs))) (hj : ¬ j < 0) (hl : j.toNatClampNeg < vs.length) (hdf : dm = fp)
    (S : ∀ (locs : List Loc) (cl : Cell), Stand p l e R s m args below meth c T locs k n → Arr Z T.heap a cl ty → ¬ (j < 0 ∨ cl.slots.size ≤ j.toNatClampNeg) → ∃ T' h', Stand p l e R s m args below meth c T' (locs ++ [⟨a, j.toNatClampNeg⟩]) k n ∧ T'.heap = h' ∧ Wr T.heap h' a j.toNatClampNeg v ∧ ∀ target, Steps p.tables e below (T'.setTop (mkF m (pc + 1) Ls rest)) target → Steps p.tables e below (T.setTop g) target)
    (K : ∀ T', Here p l e R s m args below meth c Z a0 y bytes ml ret dm fp T' k n (os.set i (a, .inr (ty, vs.set j.toNatClampNeg v))) → Wp p e below Z a0 dm fp R s Post T' (mkF m (pc + 1) Ls rest)) : Wp p e below Z a0 dm fp R s Post T g := by
  obtain ⟨locs, X, N, H, q⟩ := A
  obtain ⟨cl, Ar, ec⟩ := H.arr ho
  have hD : Dm fp s.heap.size a := hdf ▸ H.2.1 _ (List.mem_of_getElem? ho)
  obtain ⟨T1, h1, X1, e1, W1, st1⟩ := S locs cl X Ar (inb ec hj hl)
  refine Wp.go st1 (K T1 ⟨_, X1, fun q hq => ?_, by rw [e1]; exact H.puta hD hf ho W1, q⟩)
  rcases List.mem_append.mp hq with hq | hq
  · exact N q hq
  · cases List.mem_singleton.mp hq; exact hD
theorem Here.hz (A : Here p l e R s m args below meth c Z a0 y bytes ml ret dm fp T k n os) : Z.Warmed39 s.vm := by obtain ⟨_, -, -, -, -, hZ, -⟩ := A; exact hZ
theorem Here.stI {i : Nat} {a : Addr} {vs : List Value} {j x : Int32} (A : Here p l e R s m args below meth c Z a0 y bytes ml ret dm fp T k n os) (hd : decode bytes pc = .ok (.iastore, 1)) (ho : os[i]? = some (a, .inr (.int, vs))) (hj : ¬ j < 0) (hl : j.toNatClampNeg < vs.length) (hdf : dm = fp) {qn : Nat} (hq : pc + 1 = qn)
    (K : ∀ T', Here p l e R s m args below meth c Z a0 y bytes ml ret dm fp T' k n (os.set i (a, .inr (.int, vs.set j.toNatClampNeg (.int x)))) → Wp p e below Z a0 dm fp R s Post T' (mkF m qn Ls rest)) : Wp p e below Z a0 dm fp R s Post T (mkF m pc Ls (.int x :: .int j :: .ref a :: rest)) := by
  subst hq
  exact Here.stOf rfl A ho hj hl hdf (fun _ _ X Ar hin => RoadKit.stI X A.hx A.hz rfl Ar hin (g := mkF m pc Ls (.int x :: .int j :: .ref a :: rest)) rfl rfl (A.hb hd)) K
theorem Here.stJ {i : Nat} {a : Addr} {vs : List Value} {j : Int32} {x : Int64} (A : Here p l e R s m args below meth c Z a0 y bytes ml ret dm fp T k n os) (hd : decode bytes pc = .ok (.lastore, 1)) (ho : os[i]? = some (a, .inr (.long, vs))) (hj : ¬ j < 0) (hl : j.toNatClampNeg < vs.length) (hdf : dm = fp) {qn : Nat} (hq : pc + 1 = qn)
    (K : ∀ T', Here p l e R s m args below meth c Z a0 y bytes ml ret dm fp T' k n (os.set i (a, .inr (.long, vs.set j.toNatClampNeg (.long x)))) → Wp p e below Z a0 dm fp R s Post T' (mkF m qn Ls rest)) : Wp p e below Z a0 dm fp R s Post T (mkF m pc Ls (.long x :: .int j :: .ref a :: rest)) := by
  subst hq
  exact Here.stOf rfl A ho hj hl hdf (fun _ _ X Ar hin => RoadKit.stJ X A.hx A.hz rfl Ar hin (g := mkF m pc Ls (.long x :: .int j :: .ref a :: rest)) rfl rfl (A.hb hd)) K
theorem Here.stC {i : Nat} {a : Addr} {vs : List Value} {j x : Int32} (A : Here p l e R s m args below meth c Z a0 y bytes ml ret dm fp T k n os) (hd : decode bytes pc = .ok (.castore, 1)) (ho : os[i]? = some (a, .inr (.char, vs))) (hj : ¬ j < 0) (hl : j.toNatClampNeg < vs.length) (hdf : dm = fp) {qn : Nat} (hq : pc + 1 = qn)
    (K : ∀ T', Here p l e R s m args below meth c Z a0 y bytes ml ret dm fp T' k n (os.set i (a, .inr (.char, vs.set j.toNatClampNeg (.int (nar .char x))))) → Wp p e below Z a0 dm fp R s Post T' (mkF m qn Ls rest)) : Wp p e below Z a0 dm fp R s Post T (mkF m pc Ls (.int x :: .int j :: .ref a :: rest)) := by
  subst hq
  exact Here.stOf (fits_nar_char _) A ho hj hl hdf (fun _ _ X Ar hin => RoadKit.stC X A.hx A.hz rfl Ar hin (g := mkF m pc Ls (.int x :: .int j :: .ref a :: rest)) rfl rfl (A.hb hd)) K
theorem Here.stB {i : Nat} {a : Addr} {vs : List Value} {j x : Int32} (A : Here p l e R s m args below meth c Z a0 y bytes ml ret dm fp T k n os) (hd : decode bytes pc = .ok (.bastore, 1)) (ho : os[i]? = some (a, .inr (.byte, vs))) (hj : ¬ j < 0) (hl : j.toNatClampNeg < vs.length) (hdf : dm = fp) {qn : Nat} (hq : pc + 1 = qn)
    (K : ∀ T', Here p l e R s m args below meth c Z a0 y bytes ml ret dm fp T' k n (os.set i (a, .inr (.byte, vs.set j.toNatClampNeg (.int (nar .byte x))))) → Wp p e below Z a0 dm fp R s Post T' (mkF m qn Ls rest)) : Wp p e below Z a0 dm fp R s Post T (mkF m pc Ls (.int x :: .int j :: .ref a :: rest)) := by
  subst hq
  exact Here.stOf (fits_nar_byte _) A ho hj hl hdf (fun _ _ X Ar hin => RoadKit.stB X A.hx A.hz rfl Ar hin (g := mkF m pc Ls (.int x :: .int j :: .ref a :: rest)) rfl rfl (A.hb hd)) K
theorem Here.ldOf {i : Nat} {a : Addr} {ty : FieldType} {vs : List Value} {j : Int32} {v : Value} {g g' : JFrame} (A : Here p l e R s m args below meth c Z a0 y bytes ml ret dm fp T k n os) (ho : os[i]? = some (a, .inr (ty, vs))) (hj : ¬ j < 0) (hv : vs[j.toNatClampNeg]? = some v)
    (S : ∀ (locs : List Loc) (cl : Cell), Stand p l e R s m args below meth c T locs k n → T.heap[a]? = some cl → s.isArrayOf cl ty → cl.vm ≠ .unknown → ¬ (j < 0 ∨ cl.slots.size ≤ j.toNatClampNeg) → cl.slots[j.toNatClampNeg]? = some v → ∀ target, Steps p.tables e below (T.setTop g') target → Steps p.tables e below (T.setTop g) target)
    (K : Wp p e below Z a0 dm fp R s Post T g') : Wp p e below Z a0 dm fp R s Post T g := by
  have hz := A.hz
  obtain ⟨locs, X, N, H, q⟩ := A
  obtain ⟨cl, Ar, ec⟩ := H.arr ho
  refine Wp.go (S locs cl X Ar.1 (State.isArrayOf_alike hz.alike Ar.2.1) Ar.2.2 (inb ec hj (List.getElem?_eq_some_iff.mp hv).1) ?_) K
  rw [← ec, Array.getElem?_toList] at hv
  exact hv
theorem Here.ldI {i : Nat} {a : Addr} {vs : List Value} {j : Int32} {v : Value} (A : Here p l e R s m args below meth c Z a0 y bytes ml ret dm fp T k n os) (hd : decode bytes pc = .ok (.iaload, 1)) (ho : os[i]? = some (a, .inr (.int, vs))) (hj : ¬ j < 0) (hv : vs[j.toNatClampNeg]? = some v) {qn : Nat} (hq : pc + 1 = qn)
    (K : Wp p e below Z a0 dm fp R s Post T (mkF m qn Ls (v :: rest))) : Wp p e below Z a0 dm fp R s Post T (mkF m pc Ls (.int j :: .ref a :: rest)) := by
  subst hq
  exact A.ldOf ho hj hv (fun _ _ X h1 h2 h3 h4 h5 t kt => X.iaload A.hx h1 h2 h3 h4 h5 (g := mkF m pc Ls (.int j :: .ref a :: rest)) rfl rfl (A.hb hd) t kt) K
theorem Here.ldJ {i : Nat} {a : Addr} {vs : List Value} {j : Int32} {v : Value} (A : Here p l e R s m args below meth c Z a0 y bytes ml ret dm fp T k n os) (hd : decode bytes pc = .ok (.laload, 1)) (ho : os[i]? = some (a, .inr (.long, vs))) (hj : ¬ j < 0) (hv : vs[j.toNatClampNeg]? = some v) {qn : Nat} (hq : pc + 1 = qn)
    (K : Wp p e below Z a0 dm fp R s Post T (mkF m qn Ls (v :: rest))) : Wp p e below Z a0 dm fp R s Post T (mkF m pc Ls (.int j :: .ref a :: rest)) := by
  subst hq
  exact A.ldOf ho hj hv (fun _ _ X h1 h2 h3 h4 h5 t kt => X.laload A.hx h1 h2 h3 h4 h5 (g := mkF m pc Ls (.int j :: .ref a :: rest)) rfl rfl (A.hb hd) t kt) K
theorem Here.ldC {i : Nat} {a : Addr} {vs : List Value} {j : Int32} {v : Value} (A : Here p l e R s m args below meth c Z a0 y bytes ml ret dm fp T k n os) (hd : decode bytes pc = .ok (.caload, 1)) (ho : os[i]? = some (a, .inr (.char, vs))) (hj : ¬ j < 0) (hv : vs[j.toNatClampNeg]? = some v) {qn : Nat} (hq : pc + 1 = qn)
    (K : Wp p e below Z a0 dm fp R s Post T (mkF m qn Ls (v :: rest))) : Wp p e below Z a0 dm fp R s Post T (mkF m pc Ls (.int j :: .ref a :: rest)) := by
  subst hq
  exact A.ldOf ho hj hv (fun _ _ X h1 h2 h3 h4 h5 t kt => X.caload A.hx h1 h2 h3 h4 h5 (g := mkF m pc Ls (.int j :: .ref a :: rest)) rfl rfl (A.hb hd) t kt) K
theorem Here.ldB {i : Nat} {a : Addr} {vs : List Value} {j : Int32} {v : Value} (A : Here p l e R s m args below meth c Z a0 y bytes ml ret dm fp T k n os) (hd : decode bytes pc = .ok (.baload, 1)) (ho : os[i]? = some (a, .inr (.byte, vs))) (hj : ¬ j < 0) (hv : vs[j.toNatClampNeg]? = some v) {qn : Nat} (hq : pc + 1 = qn)
    (K : Wp p e below Z a0 dm fp R s Post T (mkF m qn Ls (v :: rest))) : Wp p e below Z a0 dm fp R s Post T (mkF m pc Ls (.int j :: .ref a :: rest)) := by
  subst hq
  exact A.ldOf ho hj hv (fun _ _ X h1 h2 h3 h4 h5 t kt => X.baloadBytes A.hx h1 h2 h3 h4 h5 (g := mkF m pc Ls (.int j :: .ref a :: rest)) rfl rfl (A.hb hd) t kt) K
theorem Here.len {i : Nat} {a : Addr} {ty : FieldType} {vs : List Value} {z : Int32} (A : Here p l e R s m args below meth c Z a0 y bytes ml ret dm fp T k n os) (hd : decode bytes pc = .ok (.arraylength, 1)) (ho : os[i]? = some (a, .inr (ty, vs))) (hz : vs.length.toInt32 = z) {qn : Nat} (hq : pc + 1 = qn)
    (K : Wp p e below Z a0 dm fp R s Post T (mkF m qn Ls (.int z :: rest))) : Wp p e below Z a0 dm fp R s Post T (mkF m pc Ls (.ref a :: rest)) := by
  subst hq
  have A' := A
  obtain ⟨locs, X, N, H, q⟩ := A
  obtain ⟨cl, Ar, ec⟩ := H.arr ho
  subst hz
  rw [← ec, Array.length_toList] at K
  exact Wp.go (fun t kt => X.arraylength A'.hx Ar.1 (State.isArrayOf_alike A'.hz.alike Ar.2.1) (g := mkF m pc Ls (.ref a :: rest)) rfl rfl (A'.hb hd) t kt) K
theorem Here.ldc {idx : Nat} {v : Int32} (A : Here p l e R s m args below meth c Z a0 y bytes ml ret dm fp T k n os) (w : (Jvm.Cond.constant y.cls idx v).before a0 Z = true) (hd : decode bytes pc = .ok (.ldc idx, 2)) {qn : Nat} (hq : pc + 2 = qn)
    (K : Wp p e below Z a0 dm fp R s Post T (mkF m qn Ls (.int v :: st))) : Wp p e below Z a0 dm fp R s Post T (mkF m pc Ls st) := by
  subst hq
  have A' := A
  obtain ⟨locs, X, N, H, hx, hZ, hb, hml, hown, q⟩ := A
  exact Wp.go (X.ldcInt hx hown (mvT hZ w) (g := mkF m pc Ls st) rfl (A'.hb hd)) K
theorem Here.ldcw {idx : Nat} {v : Int32} (A : Here p l e R s m args below meth c Z a0 y bytes ml ret dm fp T k n os) (w : (Jvm.Cond.constant y.cls idx v).before a0 Z = true) (hd : decode bytes pc = .ok (.ldc_w idx, 3)) {qn : Nat} (hq : pc + 3 = qn)
    (K : Wp p e below Z a0 dm fp R s Post T (mkF m qn Ls (.int v :: st))) : Wp p e below Z a0 dm fp R s Post T (mkF m pc Ls st) := by
  subst hq
  have A' := A
  obtain ⟨locs, X, N, H, hx, hZ, hb, hml, hown, q⟩ := A
  exact Wp.go (X.ldcwInt hx hown (mvT hZ w) (g := mkF m pc Ls st) rfl (A'.hb hd)) K
theorem Here.ldc2 {idx : Nat} {v : Int64} (A : Here p l e R s m args below meth c Z a0 y bytes ml ret dm fp T k n os) (w : (Jvm.Cond.constantLong y.cls idx v).before a0 Z = true) (hd : decode bytes pc = .ok (.ldc2_w idx, 3)) {qn : Nat} (hq : pc + 3 = qn)
    (K : Wp p e below Z a0 dm fp R s Post T (mkF m qn Ls (.long v :: st))) : Wp p e below Z a0 dm fp R s Post T (mkF m pc Ls st) := by
  subst hq
  have A' := A
  obtain ⟨locs, X, N, H, hx, hZ, hb, hml, hown, q⟩ := A
  exact Wp.go (X.ldc2Long hx hown (mvT hZ w) (g := mkF m pc Ls st) rfl (A'.hb hd)) K
/-- a primitive array's clone -/
theorem Here.clone {idx W i cap : Nat} {a : Addr} {ty : FieldType} {vs : List Value} {ad : String} (A : Here p l e R s m args below meth c Z a0 y bytes ml ret dm fp T k n os)
    (w1 : (Jvm.Cond.methodLink y.cls idx ⟨ad, "clone", "()Ljava/lang/Object;"⟩).before a0 Z = true) (w2 : (Jvm.Cond.sameMethod ad "java/lang/Object" "clone" "()Ljava/lang/Object;").before a0 Z = true) (w3 : (Jvm.Cond.native ⟨"java/lang/Object", "clone", "()Ljava/lang/Object;"⟩).before a0 Z = true)
    (w4 : (Jvm.Cond.instanceMethod ⟨"java/lang/Object", "clone", "()Ljava/lang/Object;"⟩).before a0 Z = true) (w5 : (Jvm.Cond.selects ad ⟨ad, "clone", "()Ljava/lang/Object;"⟩ ⟨"java/lang/Object", "clone", "()Ljava/lang/Object;"⟩).before a0 Z = true) (w6 : (Jvm.Cond.castable ad "java/lang/Cloneable").before a0 Z = true)
    (had : "[" ++ ty.toString = ad) (hd : decode bytes pc = .ok (.invokevirtual idx, 3)) (hsz : Ls.size = ml) (ho : os[i]? = some (a, .inr (ty, vs))) (hW : (rest.map fun v => v.category).sum ≤ W) (hf : 1 ≤ R.frames) (hl : W + 14 ≤ R.locals) (hcap : vs.length ≤ cap) (hc : k + 1 ≤ R.cells) (hs : n + cap ≤ R.slots) {qn : Nat} (hq : pc + 3 = qn)
    (K : ∀ T' b, Here p l e R s m args below meth c Z a0 y bytes ml ret dm fp T' (k + 1) (n + cap) (os ++ [(b, .inr (ty, vs))]) → Wp p e below Z a0 dm fp R s Post T' (mkF m qn Ls (.ref b :: rest))) : Wp p e below Z a0 dm fp R s Post T (mkF m pc Ls (.ref a :: rest)) := by
  subst hq
  have A' := A
  obtain ⟨locs, X, N, H, hx, hZ, hb, hml, hown, q⟩ := A
  obtain ⟨cl, Ar, ec, E, F⟩ := H.1.2 _ (List.mem_of_getElem? ho)
  dsimp only at ec E F Ar
  subst had
  have FC : FitC Z cl := fitC_of Ar fun j hj v hv => F v (by rw [← ec, Array.mem_toList_iff]; exact Array.mem_of_getElem? hv)
  obtain ⟨T1, h1, X1, e1, E1, A1, B1, st1⟩ := cloneA X hx hZ hown w1 w2 w3 w4 w5 w6 rfl Ar E FC (g := mkF m pc Ls (.ref a :: rest)) rfl (hsz.trans hml.symm) rfl (A'.hb hd) hf (W := W) (by show 2 * 0 + _ ≤ _; rw [Nat.mul_zero, Nat.zero_add]; exact hW) hl (cap := cap) (by rw [← Array.length_toList, ec]; exact hcap) hc hs
  exact Wp.go st1 (K T1 _ ⟨_, X1, N, by rw [e1]; exact H.push E1 ⟨_, A1, ec, B1, F⟩, hx, hZ, hb, hml, hown, q⟩)
theorem Here.ccast {idx i : Nat} {a : Addr} {ty : FieldType} {vs : List Value} {K0 : String} (A : Here p l e R s m args below meth c Z a0 y bytes ml ret dm fp T k n os) (w : (Jvm.Cond.classLink y.cls idx K0).before a0 Z = true) (had : "[" ++ ty.toString = K0) (hd : decode bytes pc = .ok (.checkcast idx, 3)) (ho : os[i]? = some (a, .inr (ty, vs))) {qn : Nat} (hq : pc + 3 = qn)
    (K : ∀ T', Here p l e R s m args below meth c Z a0 y bytes ml ret dm fp T' k n os → Wp p e below Z a0 dm fp R s Post T' (mkF m qn Ls (.ref a :: rest))) : Wp p e below Z a0 dm fp R s Post T (mkF m pc Ls (.ref a :: rest)) := by
  subst hq
  have A' := A
  obtain ⟨locs, X, N, H, hx, hZ, hb, hml, hown, q⟩ := A
  obtain ⟨cl, Ar, ec, E, F⟩ := H.1.2 _ (List.mem_of_getElem? ho)
  subst had
  obtain ⟨T1, X1, e1, st1⟩ := castY X hx hZ hown w rfl (Ins.self E) (g := mkF m pc Ls (.ref a :: rest)) rfl rfl (A'.hb hd)
  exact Wp.go st1 (K T1 ⟨locs, X1, N, by rw [e1]; exact H, hx, hZ, hb, hml, hown, q⟩)
/-! calls -/
theorem Here.initO {idx W : Nat} {a : Addr} (A : Here p l e R s m args below meth c Z a0 y bytes ml ret dm fp T k n os) (w1 : (Jvm.Cond.methodLink y.cls idx Lib.objectInit).before a0 Z = true) (w2 : (Jvm.Cond.instanceMethod Lib.objectInit).before a0 Z = true) (w3 : (Jvm.Cond.code Lib.objectInit Jvm.Example.Point.objCode 1 none).before a0 Z = true)
    (hd : decode bytes pc = .ok (.invokespecial idx, 3)) (hsz : Ls.size = ml) (hW : (rest.map fun v => v.category).sum ≤ W) (hf : 1 ≤ R.frames) (hl : W + 12 ≤ R.locals) {qn : Nat} (hq : pc + 3 = qn)
    (K : ∀ T', Here p l e R s m args below meth c Z a0 y bytes ml ret dm fp T' k n os → Wp p e below Z a0 dm fp R s Post T' (mkF m qn Ls rest)) : Wp p e below Z a0 dm fp R s Post T (mkF m pc Ls (.ref a :: rest)) := by
  subst hq
  have A' := A
  obtain ⟨locs, X, N, H, hx, hZ, hb, hml, hown, q⟩ := A
  obtain ⟨T1, X1, e1, st1⟩ := RoadKit.initO X hx hZ hown w1 w2 w3 rfl (g := mkF m pc Ls (.ref a :: rest)) rfl (hsz.trans hml.symm) rfl (A'.hb hd) hf (W := W) (by show 2 * 0 + _ ≤ _; rw [Nat.mul_zero, Nat.zero_add]; exact hW) hl
  exact Wp.go st1 (K T1 ⟨locs, X1, N, by rw [e1]; exact H, hx, hZ, hb, hml, hown, q⟩)
theorem dm_call {h0 h : Heap} {os1 os2 : Hs} (H : Hp Z a0 dm fp h0 h (os1 ++ os2)) (hc : fp2 = [] ∨ (fp2 = os2.map (·.1) ∧ dm = fp)) {x : Addr} (hx : Dm fp2 h.size x) : Dm fp h0.size x := by
  rcases hx with hx | hx
  · rcases hc with rfl | ⟨rfl, rfl⟩
    · exact absurd hx List.not_mem_nil
    · obtain ⟨q, hq, rfl⟩ := List.mem_map.mp hx
      exact H.2.1 q (List.mem_append.mpr (Or.inr hq))
  · exact Or.inr (Nat.le_trans H.2.2.1 hx)
theorem Here.callS {idx W : Nat} {y' : MethodName} {bytes' : ByteArray} {ml' : Nat} {ret' : Option FieldType} {R' : Room} {argsL : List Value} {os1 os2 : Hs} {Post' : Option Value → Hs → Prop}
    (A : Here p l e R s m args below meth c Z a0 y bytes ml ret dm fp T k n (os1 ++ os2)) (M : Pays l Z a0 y' bytes' ml' ret' R' argsL.toArray os2 fp2 Post') (hcc : fp2 = [] ∨ (fp2 = os2.map (·.1) ∧ dm = fp))
    (w1 : (Jvm.Cond.methodLink y.cls idx y').before a0 Z = true) (w2 : (Jvm.Cond.static y').before a0 Z = true) (w3 : (Jvm.Cond.initialized y'.cls).before a0 Z = true) (w4 : (Jvm.Cond.code y' bytes' ml' ret').before a0 Z = true) (hy : y'.cls ≠ "java/lang/invoke/MethodHandle" ∧ y'.cls ≠ "java/lang/invoke/VarHandle")
    (hd : decode bytes pc = .ok (.invokestatic idx, 3)) (hsz : Ls.size = ml) (hlen : ∀ sig, parseMethodDescriptor y'.desc = some sig → argsL.length = sig.parameters.length) (hst : st = argsL.reverse ++ rest) (hW : (rest.map fun v => v.category).sum ≤ W) (hf : R'.frames + 1 ≤ R.frames) (hl : W + (ml' + 11) + R'.locals ≤ R.locals) (hc : k + R'.cells ≤ R.cells) (hs : n + R'.slots ≤ R.slots) {qn : Nat} (hq : pc + 3 = qn)
    (K : ∀ T' v os', Here p l e R s m args below meth c Z a0 y bytes ml ret dm fp T' (k + R'.cells) (n + R'.slots) (os1 ++ os') → Post' v os' → Wp p e below Z a0 dm fp R s Post T' (mkF m qn Ls (v.toList ++ rest))) : Wp p e below Z a0 dm fp R s Post T (mkF m pc Ls st) := by
  subst hq
  have A' := A
  obtain ⟨locs, X, N, H, hx, hZ, hb, hml, hown, q⟩ := A
  have hq : Hq Z a0 T.heap os2 := ⟨by have := H.1.1; rw [List.map_append, List.nodup_append] at this; exact this.2.1, fun q hq => H.1.2 q (List.mem_append.mpr (Or.inr hq))⟩
  obtain ⟨v, _, ⟨T1, L1, k1, n1⟩, -, X1, ⟨Lc, hQ, l1, y1, z1⟩, st1⟩ := Jvm.LawKit.callS X hx (y := y') hown (mvT hZ w1) (mvT hZ w2) (mvT hZ w3) (mvT hZ w4) hy (backOf (W := W) (h := T.heap) (Q := fun v h L => (∀ q ∈ L, Dm fp2 T.heap.size q.base) ∧ ∃ os', Hp Z a0 (os2.map (·.1)) fp2 T.heap h os' ∧ Post' v os') (M [] T.heap hq) hZ w4 w3 hf hl) (g := mkF m pc Ls st) rfl (hsz.trans hml.symm) (argsL := argsL) (rest := rest) hlen hst (by show 2 * 0 + _ ≤ _; rw [Nat.mul_zero, Nat.zero_add]; exact hW) (A'.hb hd) (fun _ _ => ⟨rfl, rfl, hc, hs⟩)
  dsimp only [Pt.U, Pt.locs, Pt.cells, Pt.slots] at X1 l1 y1 z1 st1 hQ
  subst l1 y1 z1
  obtain ⟨N1, os', H1, hP⟩ := hQ
  refine Wp.go st1 (K T1 v os' ⟨_, X1, fun q hq => ?_, H.call H1 hcc, hx, hZ, hb, hml, hown, q⟩ hP)
  rcases List.mem_append.mp hq with hq | hq
  · exact N q hq
  · exact dm_call H hcc (N1 q hq)
theorem Here.callI {idx W : Nat} {y' : MethodName} {bytes' : ByteArray} {ml' : Nat} {R' : Room} {argsL : List Value} {a : Addr} {os1 os2 : Hs} {Post' : Option Value → Hs → Prop}
    (A : Here p l e R s m args below meth c Z a0 y bytes ml ret dm fp T k n (os1 ++ os2)) (M : Pays l Z a0 y' bytes' ml' none R' (.ref a :: argsL).toArray os2 fp2 Post') (hcc : fp2 = [] ∨ (fp2 = os2.map (·.1) ∧ dm = fp)) (hini : y'.name = "<init>")
    (w1 : (Jvm.Cond.methodLink y.cls idx y').before a0 Z = true) (w2 : (Jvm.Cond.instanceMethod y').before a0 Z = true) (w3 : (Jvm.Cond.initialized y'.cls).before a0 Z = true) (w4 : (Jvm.Cond.code y' bytes' ml' none).before a0 Z = true) (hy : y'.cls ≠ "java/lang/invoke/MethodHandle" ∧ y'.cls ≠ "java/lang/invoke/VarHandle")
    (hd : decode bytes pc = .ok (.invokespecial idx, 3)) (hsz : Ls.size = ml) (hlen : ∀ sig, parseMethodDescriptor y'.desc = some sig → argsL.length = sig.parameters.length) (hst : st = argsL.reverse ++ .ref a :: rest) (hW : (rest.map fun v => v.category).sum ≤ W) (hf : R'.frames + 1 ≤ R.frames) (hl : W + (ml' + 11) + R'.locals ≤ R.locals) (hc : k + R'.cells ≤ R.cells) (hs : n + R'.slots ≤ R.slots) {qn : Nat} (hq : pc + 3 = qn)
    (K : ∀ T' v os', Here p l e R s m args below meth c Z a0 y bytes ml ret dm fp T' (k + R'.cells) (n + R'.slots) (os1 ++ os') → Post' v os' → Wp p e below Z a0 dm fp R s Post T' (mkF m qn Ls (v.toList ++ rest))) : Wp p e below Z a0 dm fp R s Post T (mkF m pc Ls st) := by
  subst hq
  have A' := A
  obtain ⟨locs, X, N, H, hx, hZ, hb, hml, hown, q⟩ := A
  have hq : Hq Z a0 T.heap os2 := ⟨by have := H.1.1; rw [List.map_append, List.nodup_append] at this; exact this.2.1, fun q hq => H.1.2 q (List.mem_append.mpr (Or.inr hq))⟩
  obtain ⟨v, _, ⟨T1, L1, k1, n1⟩, -, X1, ⟨Lc, hQ, l1, y1, z1⟩, st1⟩ := X.specialBack hx (y := y') hini hown (mvT hZ w1) (mvT hZ w2) (mvT hZ w4) hy (backOf (W := W) (h := T.heap) (Q := fun v h L => (∀ q ∈ L, Dm fp2 T.heap.size q.base) ∧ ∃ os', Hp Z a0 (os2.map (·.1)) fp2 T.heap h os' ∧ Post' v os') (M [] T.heap hq) hZ w4 w3 hf hl) (g := mkF m pc Ls st) rfl (hsz.trans hml.symm) (Steps.refl _) (a := a) (argsL := argsL) (rest := rest) hlen hst (by show 2 * 0 + _ ≤ _; rw [Nat.mul_zero, Nat.zero_add]; exact hW) (A'.hb hd) (fun _ _ => ⟨rfl, rfl, hc, hs⟩)
  dsimp only [Pt.U, Pt.locs, Pt.cells, Pt.slots] at X1 l1 y1 z1 st1 hQ
  subst l1 y1 z1
  obtain ⟨N1, os', H1, hP⟩ := hQ
  refine Wp.go (fun t kt => st1.trans kt) (K T1 v os' ⟨_, X1, fun q hq => ?_, H.call H1 hcc, hx, hZ, hb, hml, hown, q⟩ hP)
  rcases List.mem_append.mp hq with hq | hq
  · exact N q hq
  · exact dm_call H hcc (N1 q hq)
theorem Here.callV {idx W i : Nat} {y' : MethodName} {bytes' : ByteArray} {ml' : Nat} {ret' : Option FieldType} {R' : Room} {argsL : List Value} {a : Addr} {C : String} {fs : List Fd} {os1 os2 : Hs} {Post' : Option Value → Hs → Prop}
    (A : Here p l e R s m args below meth c Z a0 y bytes ml ret dm fp T k n (os1 ++ os2)) (M : Pays l Z a0 y' bytes' ml' ret' R' (.ref a :: argsL).toArray os2 fp2 Post') (hcc : fp2 = [] ∨ (fp2 = os2.map (·.1) ∧ dm = fp)) (ho : (os1 ++ os2)[i]? = some (a, .inl (C, fs)))
    (w1 : (Jvm.Cond.methodLink y.cls idx y').before a0 Z = true) (wd : (Jvm.Cond.declares y').before a0 Z = true) (ws : (Jvm.Cond.selects C y' y').before a0 Z = true) (w2 : (Jvm.Cond.instanceMethod y').before a0 Z = true) (w3 : (Jvm.Cond.initialized y'.cls).before a0 Z = true) (w4 : (Jvm.Cond.code y' bytes' ml' ret').before a0 Z = true) (hy : y'.cls ≠ "java/lang/invoke/MethodHandle" ∧ y'.cls ≠ "java/lang/invoke/VarHandle")
    (hd : decode bytes pc = .ok (.invokevirtual idx, 3)) (hsz : Ls.size = ml) (hlen : ∀ sig, parseMethodDescriptor y'.desc = some sig → argsL.length = sig.parameters.length) (hst : st = argsL.reverse ++ .ref a :: rest) (hW : (rest.map fun v => v.category).sum ≤ W) (hf : R'.frames + 1 ≤ R.frames) (hl : W + (ml' + 11) + R'.locals ≤ R.locals) (hc : k + R'.cells ≤ R.cells) (hs : n + R'.slots ≤ R.slots) {qn : Nat} (hq : pc + 3 = qn)
    (K : ∀ T' v os', Here p l e R s m args below meth c Z a0 y bytes ml ret dm fp T' (k + R'.cells) (n + R'.slots) (os1 ++ os') → Post' v os' → Wp p e below Z a0 dm fp R s Post T' (mkF m qn Ls (v.toList ++ rest))) : Wp p e below Z a0 dm fp R s Post T (mkF m pc Ls st) := by
  subst hq
  have A' := A
  obtain ⟨locs, X, N, H, hx, hZ, hb, hml, hown, q⟩ := A
  have hq : Hq Z a0 T.heap os2 := ⟨by have := H.1.1; rw [List.map_append, List.nodup_append] at this; exact this.2.1, fun q hq => H.1.2 q (List.mem_append.mpr (Or.inr hq))⟩
  obtain ⟨cq, kq, qa, qb, qc⟩ := isOf (T := T) hZ rfl (H.exa ho)
  obtain ⟨v, _, ⟨T1, L1, k1, n1⟩, -, X1, ⟨Lc, hQ, l1, y1, z1⟩, st1⟩ := X.virtualBack hx (y := y') (z := y') hown (mvT hZ w1) (mvT hZ wd) (notFace_of_selects (args := #[]) (mvT hZ ws)) (mvT hZ ws) (mvT hZ w2) hy (backOf (W := W) (h := T.heap) (Q := fun v h L => (∀ q ∈ L, Dm fp2 T.heap.size q.base) ∧ ∃ os', Hp Z a0 (os2.map (·.1)) fp2 T.heap h os' ∧ Post' v os') (M [] T.heap hq) hZ w4 w3 hf hl) qa qc (g := mkF m pc Ls st) rfl (hsz.trans hml.symm) (Steps.refl _) (argsL := argsL) (rest := rest) hlen hst (by show 2 * 0 + _ ≤ _; rw [Nat.mul_zero, Nat.zero_add]; exact hW) (A'.hb hd) (fun _ _ => ⟨rfl, rfl, hc, hs⟩)
  dsimp only [Pt.U, Pt.locs, Pt.cells, Pt.slots] at X1 l1 y1 z1 st1 hQ
  subst l1 y1 z1
  obtain ⟨N1, os', H1, hP⟩ := hQ
  refine Wp.go (fun t kt => st1.trans kt) (K T1 v os' ⟨_, X1, fun q hq => ?_, H.call H1 hcc, hx, hZ, hb, hml, hown, q⟩ hP)
  rcases List.mem_append.mp hq with hq | hq
  · exact N q hq
  · exact dm_call H hcc (N1 q hq)
end Walks
end Jvm.OwnWp
namespace Jvm.Pilot.@@N@@
open Jvm Jvm.ClassFile Sem Op Lib Jvm.Free Jvm.Stand Jvm.LawKit Jvm.RoadKit Bundle Jvm.OwnWp Jvm.Pilot.@@N@@.Jvm.D
theorem tw {a0 : Array Value} {Z : State} (hw : ∀ d ∈ tables_1, d.before a0 Z = true) (k : Nat) {d : Jvm.Cond} (h : tables_1[k]? = some d) : d.before a0 Z = true := hw d (List.mem_of_getElem? h)
theorem bm32 (x : Int) : x.bmod (2 ^ 32) = (x + 2147483648) % 4294967296 - 2147483648 := by
  rw [Int.bmod_def]; split <;> omega
theorem bm64 (x : Int) : x.bmod (2 ^ 64) = (x + 9223372036854775808) % 18446744073709551616 - 9223372036854775808 := by
  rw [Int.bmod_def]; split <;> omega
theorem own_and31 (x : Int32) : 0 ≤ (x &&& 2147483647).toInt := by
  rw [Jvm.Kit.i32_mask x 2147483647 (k := 31) (by decide) (by decide)]
  omega
theorem own_r12b (x : Int32) : 0 ≤ ((x &&& 2147483647) % 12).toInt ∧ ((x &&& 2147483647) % 12).toInt < 12 := by
  have e : (12 : Int32).toInt = 12 := by decide
  rw [Jvm.Kit.i32_rem_nonneg (own_and31 x), e]
  have := own_and31 x
  omega
theorem own_get12 {f : List Int32} (hf : f.length = 12) (b : Int32) : ∃ w : Int32, (f.map Value.int)[((b &&& 2147483647) % 12).toNatClampNeg]? = some (.int w) := by
  have h := own_r12b b
  have hi : ((b &&& 2147483647) % 12).toNatClampNeg < f.length := by
    rw [hf]
    simp only [Int32.toNatClampNeg]
    omega
  exact ⟨f[((b &&& 2147483647) % 12).toNatClampNeg]'hi, by rw [List.getElem?_map, List.getElem?_eq_getElem hi]; rfl⟩
theorem own_nn12 (b : Int32) : ¬ ((b &&& 2147483647) % 12) < 0 := by
  have h := own_r12b b
  rw [Int32.lt_iff_toInt_lt, show (0 : Int32).toInt = 0 by decide]
  omega
theorem l32_m2147483648 : (-2147483648 : Int32).toInt = -2147483648 := by decide
theorem l32_0 : (0 : Int32).toInt = 0 := by decide
theorem l32_1 : (1 : Int32).toInt = 1 := by decide
theorem l32_6 : (6 : Int32).toInt = 6 := by decide
theorem l32_7 : (7 : Int32).toInt = 7 := by decide
theorem l32_8 : (8 : Int32).toInt = 8 := by decide
theorem l32_9 : (9 : Int32).toInt = 9 := by decide
theorem l32_10 : (10 : Int32).toInt = 10 := by decide
theorem l32_11 : (11 : Int32).toInt = 11 := by decide
theorem l32_12 : (12 : Int32).toInt = 12 := by decide
theorem l32_13 : (13 : Int32).toInt = 13 := by decide
theorem l32_32 : (32 : Int32).toInt = 32 := by decide
theorem l32_55295 : (55295 : Int32).toInt = 55295 := by decide
theorem l32_55296 : (55296 : Int32).toInt = 55296 := by decide
theorem l32_57343 : (57343 : Int32).toInt = 57343 := by decide
theorem l32_57344 : (57344 : Int32).toInt = 57344 := by decide
theorem l32_65533 : (65533 : Int32).toInt = 65533 := by decide
theorem l32_65534 : (65534 : Int32).toInt = 65534 := by decide
theorem l32_65535 : (65535 : Int32).toInt = 65535 := by decide
theorem l32_65536 : (65536 : Int32).toInt = 65536 := by decide
theorem l32_1114111 : (1114111 : Int32).toInt = 1114111 := by decide
theorem l32_2147483647 : (2147483647 : Int32).toInt = 2147483647 := by decide
theorem d_method_2_0 : decode method_2_code 0 = .ok (.bipush 12, 2) := by decide +kernel
theorem d_method_2_2 : decode method_2_code 2 = .ok (.newarray .int, 2) := by decide +kernel
theorem d_method_2_4 : decode method_2_code 4 = .ok (.dup, 1) := by decide +kernel
theorem d_method_2_5 : decode method_2_code 5 = .ok (.iconst 0, 1) := by decide +kernel
theorem d_method_2_6 : decode method_2_code 6 = .ok (.iconst 0, 1) := by decide +kernel
theorem d_method_2_7 : decode method_2_code 7 = .ok (.iastore, 1) := by decide +kernel
theorem d_method_2_8 : decode method_2_code 8 = .ok (.dup, 1) := by decide +kernel
theorem d_method_2_9 : decode method_2_code 9 = .ok (.iconst 1, 1) := by decide +kernel
theorem d_method_2_10 : decode method_2_code 10 = .ok (.bipush 9, 2) := by decide +kernel
theorem d_method_2_12 : decode method_2_code 12 = .ok (.iastore, 1) := by decide +kernel
theorem d_method_2_13 : decode method_2_code 13 = .ok (.dup, 1) := by decide +kernel
theorem d_method_2_14 : decode method_2_code 14 = .ok (.iconst 2, 1) := by decide +kernel
theorem d_method_2_15 : decode method_2_code 15 = .ok (.bipush 10, 2) := by decide +kernel
theorem d_method_2_17 : decode method_2_code 17 = .ok (.iastore, 1) := by decide +kernel
theorem d_method_2_18 : decode method_2_code 18 = .ok (.dup, 1) := by decide +kernel
theorem d_method_2_19 : decode method_2_code 19 = .ok (.iconst 3, 1) := by decide +kernel
theorem d_method_2_20 : decode method_2_code 20 = .ok (.bipush 13, 2) := by decide +kernel
theorem d_method_2_22 : decode method_2_code 22 = .ok (.iastore, 1) := by decide +kernel
theorem d_method_2_23 : decode method_2_code 23 = .ok (.dup, 1) := by decide +kernel
theorem d_method_2_24 : decode method_2_code 24 = .ok (.iconst 4, 1) := by decide +kernel
theorem d_method_2_25 : decode method_2_code 25 = .ok (.bipush 32, 2) := by decide +kernel
theorem d_method_2_27 : decode method_2_code 27 = .ok (.iastore, 1) := by decide +kernel
theorem d_method_2_28 : decode method_2_code 28 = .ok (.dup, 1) := by decide +kernel
theorem d_method_2_29 : decode method_2_code 29 = .ok (.iconst 5, 1) := by decide +kernel
theorem d_method_2_30 : decode method_2_code 30 = .ok (.ldc 7, 2) := by decide +kernel
theorem d_method_2_32 : decode method_2_code 32 = .ok (.iastore, 1) := by decide +kernel
theorem d_method_2_33 : decode method_2_code 33 = .ok (.dup, 1) := by decide +kernel
theorem d_method_2_34 : decode method_2_code 34 = .ok (.bipush 6, 2) := by decide +kernel
theorem d_method_2_36 : decode method_2_code 36 = .ok (.ldc 8, 2) := by decide +kernel
theorem d_method_2_38 : decode method_2_code 38 = .ok (.iastore, 1) := by decide +kernel
theorem d_method_2_39 : decode method_2_code 39 = .ok (.dup, 1) := by decide +kernel
theorem d_method_2_40 : decode method_2_code 40 = .ok (.bipush 7, 2) := by decide +kernel
theorem d_method_2_42 : decode method_2_code 42 = .ok (.ldc 9, 2) := by decide +kernel
theorem d_method_2_44 : decode method_2_code 44 = .ok (.iastore, 1) := by decide +kernel
theorem d_method_2_45 : decode method_2_code 45 = .ok (.dup, 1) := by decide +kernel
theorem d_method_2_46 : decode method_2_code 46 = .ok (.bipush 8, 2) := by decide +kernel
theorem d_method_2_48 : decode method_2_code 48 = .ok (.ldc 10, 2) := by decide +kernel
theorem d_method_2_50 : decode method_2_code 50 = .ok (.iastore, 1) := by decide +kernel
theorem d_method_2_51 : decode method_2_code 51 = .ok (.dup, 1) := by decide +kernel
theorem d_method_2_52 : decode method_2_code 52 = .ok (.bipush 9, 2) := by decide +kernel
theorem d_method_2_54 : decode method_2_code 54 = .ok (.ldc 11, 2) := by decide +kernel
theorem d_method_2_56 : decode method_2_code 56 = .ok (.iastore, 1) := by decide +kernel
theorem d_method_2_57 : decode method_2_code 57 = .ok (.dup, 1) := by decide +kernel
theorem d_method_2_58 : decode method_2_code 58 = .ok (.bipush 10, 2) := by decide +kernel
theorem d_method_2_60 : decode method_2_code 60 = .ok (.ldc 14, 2) := by decide +kernel
theorem d_method_2_62 : decode method_2_code 62 = .ok (.iastore, 1) := by decide +kernel
theorem d_method_2_63 : decode method_2_code 63 = .ok (.dup, 1) := by decide +kernel
theorem d_method_2_64 : decode method_2_code 64 = .ok (.bipush 11, 2) := by decide +kernel
theorem d_method_2_66 : decode method_2_code 66 = .ok (.ldc 15, 2) := by decide +kernel
theorem d_method_2_68 : decode method_2_code 68 = .ok (.iastore, 1) := by decide +kernel
theorem d_method_2_69 : decode method_2_code 69 = .ok (.astore_n 2, 1) := by decide +kernel
theorem d_method_2_70 : decode method_2_code 70 = .ok (.iload_n 1, 1) := by decide +kernel
theorem d_method_2_71 : decode method_2_code 71 = .ok (.ldc 14, 2) := by decide +kernel
theorem d_method_2_73 : decode method_2_code 73 = .ok (.iand, 1) := by decide +kernel
theorem d_method_2_74 : decode method_2_code 74 = .ok (.bipush 12, 2) := by decide +kernel
theorem d_method_2_76 : decode method_2_code 76 = .ok (.irem, 1) := by decide +kernel
theorem d_method_2_77 : decode method_2_code 77 = .ok (.istore_n 3, 1) := by decide +kernel
theorem d_method_2_78 : decode method_2_code 78 = .ok (.aload_n 2, 1) := by decide +kernel
theorem d_method_2_79 : decode method_2_code 79 = .ok (.iload_n 3, 1) := by decide +kernel
theorem d_method_2_80 : decode method_2_code 80 = .ok (.iaload, 1) := by decide +kernel
theorem d_method_2_81 : decode method_2_code 81 = .ok (.iload_n 0, 1) := by decide +kernel
theorem d_method_2_82 : decode method_2_code 82 = .ok (.iconst 5, 1) := by decide +kernel
theorem d_method_2_83 : decode method_2_code 83 = .ok (.irem, 1) := by decide +kernel
theorem d_method_2_84 : decode method_2_code 84 = .ok (.iadd, 1) := by decide +kernel
theorem d_method_2_85 : decode method_2_code 85 = .ok (.ireturn, 1) := by decide +kernel
theorem pn_0 : plainName "com/example/fine_events/fineevents/XmlCharactersIsCharacterPinLaw" = true := by first | (simp [plainName, overriddenIn]; done) | decide +kernel
theorem ef_m_near (m : MethodId) (x0 : Int32) (x1 : Int32) : entryFrame m #[(.int x0), (.int x1)] 4 = mkF m 0 #[.val (.int x0), .val (.int x1), .unset, .unset] [] := by first | (simp [entryFrame, mkF, argsToLocals, Value.category]; done) | rfl
set_option maxRecDepth 65536 in
set_option maxHeartbeats 40000000 in
theorem m_near (l : Launch) (Z : State) (a0 : Array Value) (hw : ∀ d ∈ tables_1, d.before a0 Z = true) (z0 : Int32) (z1 : Int32) :
    Pays l Z a0 (⟨"com/example/fine_events/fineevents/XmlCharactersIsCharacterPinLaw", "nearBoundary", "(II)I"⟩ : MethodName) method_2_code 4 (some .int) ({ frames := 0, cells := 1, slots := 12, locals := 0 } : Room) #[(.int z0), (.int z1)] [] (([] : Hs).map (·.1)) (fun v os' => ∃ (r : Int32), v = some (.int r) ∧ os' = []) := by
  refine Pays.of (Ls := #[.val (.int z0), .val (.int z1), .unset, .unset]) (plainFor_of_name pn_0) (fun m => ef_m_near m z0 z1) ?_
  intro p e s m below meth c T0 A0
  refine A0.bipush (q := 2) (v := 12) d_method_2_0 rfl rfl ?_
  refine A0.newP (qn := 4) (cap := 12) (tw hw 4 rfl) d_method_2_2 (by decide) (by decide) (by decide) (by decide) (by decide) rfl (fun T1 b3 A2 => ?_)
  have A4 := A2.cast (k2 := 1) (n2 := 12) (os2 := [(b3, .inr (.int, [(.int 0), (.int 0), (.int 0), (.int 0), (.int 0), (.int 0), (.int 0), (.int 0), (.int 0), (.int 0), (.int 0), (.int 0)]))]) rfl rfl rfl
  refine A4.dup (q := 5) d_method_2_4 rfl rfl ?_
  refine A4.iconst (q := 6) (v := 0) d_method_2_5 rfl rfl ?_
  refine A4.iconst (q := 7) (v := 0) d_method_2_6 rfl rfl ?_
  refine A4.stI (qn := 8) (i := 0) d_method_2_7 rfl (by decide) (show (0 : Int32).toNatClampNeg < 12 from by decide) rfl rfl (fun T5 A6 => ?_)
  have A7 := A6.cast (k2 := 1) (n2 := 12) (os2 := [(b3, .inr (.int, [(.int 0), (.int 0), (.int 0), (.int 0), (.int 0), (.int 0), (.int 0), (.int 0), (.int 0), (.int 0), (.int 0), (.int 0)]))]) rfl rfl rfl
  refine A7.dup (q := 9) d_method_2_8 rfl rfl ?_
  refine A7.iconst (q := 10) (v := 1) d_method_2_9 rfl rfl ?_
  refine A7.bipush (q := 12) (v := 9) d_method_2_10 rfl rfl ?_
  refine A7.stI (qn := 13) (i := 0) d_method_2_12 rfl (by decide) (show (1 : Int32).toNatClampNeg < 12 from by decide) rfl rfl (fun T8 A9 => ?_)
  have A10 := A9.cast (k2 := 1) (n2 := 12) (os2 := [(b3, .inr (.int, [(.int 0), (.int 9), (.int 0), (.int 0), (.int 0), (.int 0), (.int 0), (.int 0), (.int 0), (.int 0), (.int 0), (.int 0)]))]) rfl rfl rfl
  refine A10.dup (q := 14) d_method_2_13 rfl rfl ?_
  refine A10.iconst (q := 15) (v := 2) d_method_2_14 rfl rfl ?_
  refine A10.bipush (q := 17) (v := 10) d_method_2_15 rfl rfl ?_
  refine A10.stI (qn := 18) (i := 0) d_method_2_17 rfl (by decide) (show (2 : Int32).toNatClampNeg < 12 from by decide) rfl rfl (fun T11 A12 => ?_)
  have A13 := A12.cast (k2 := 1) (n2 := 12) (os2 := [(b3, .inr (.int, [(.int 0), (.int 9), (.int 10), (.int 0), (.int 0), (.int 0), (.int 0), (.int 0), (.int 0), (.int 0), (.int 0), (.int 0)]))]) rfl rfl rfl
  refine A13.dup (q := 19) d_method_2_18 rfl rfl ?_
  refine A13.iconst (q := 20) (v := 3) d_method_2_19 rfl rfl ?_
  refine A13.bipush (q := 22) (v := 13) d_method_2_20 rfl rfl ?_
  refine A13.stI (qn := 23) (i := 0) d_method_2_22 rfl (by decide) (show (3 : Int32).toNatClampNeg < 12 from by decide) rfl rfl (fun T14 A15 => ?_)
  have A16 := A15.cast (k2 := 1) (n2 := 12) (os2 := [(b3, .inr (.int, [(.int 0), (.int 9), (.int 10), (.int 13), (.int 0), (.int 0), (.int 0), (.int 0), (.int 0), (.int 0), (.int 0), (.int 0)]))]) rfl rfl rfl
  refine A16.dup (q := 24) d_method_2_23 rfl rfl ?_
  refine A16.iconst (q := 25) (v := 4) d_method_2_24 rfl rfl ?_
  refine A16.bipush (q := 27) (v := 32) d_method_2_25 rfl rfl ?_
  refine A16.stI (qn := 28) (i := 0) d_method_2_27 rfl (by decide) (show (4 : Int32).toNatClampNeg < 12 from by decide) rfl rfl (fun T17 A18 => ?_)
  have A19 := A18.cast (k2 := 1) (n2 := 12) (os2 := [(b3, .inr (.int, [(.int 0), (.int 9), (.int 10), (.int 13), (.int 32), (.int 0), (.int 0), (.int 0), (.int 0), (.int 0), (.int 0), (.int 0)]))]) rfl rfl rfl
  refine A19.dup (q := 29) d_method_2_28 rfl rfl ?_
  refine A19.iconst (q := 30) (v := 5) d_method_2_29 rfl rfl ?_
  refine A19.ldc (qn := 32) (v := 55295) (tw hw 5 rfl) d_method_2_30 rfl ?_
  refine A19.stI (qn := 33) (i := 0) d_method_2_32 rfl (by decide) (show (5 : Int32).toNatClampNeg < 12 from by decide) rfl rfl (fun T20 A21 => ?_)
  have A22 := A21.cast (k2 := 1) (n2 := 12) (os2 := [(b3, .inr (.int, [(.int 0), (.int 9), (.int 10), (.int 13), (.int 32), (.int 55295), (.int 0), (.int 0), (.int 0), (.int 0), (.int 0), (.int 0)]))]) rfl rfl rfl
  refine A22.dup (q := 34) d_method_2_33 rfl rfl ?_
  refine A22.bipush (q := 36) (v := 6) d_method_2_34 rfl rfl ?_
  refine A22.ldc (qn := 38) (v := 57344) (tw hw 6 rfl) d_method_2_36 rfl ?_
  refine A22.stI (qn := 39) (i := 0) d_method_2_38 rfl (by decide) (show (6 : Int32).toNatClampNeg < 12 from by decide) rfl rfl (fun T23 A24 => ?_)
  have A25 := A24.cast (k2 := 1) (n2 := 12) (os2 := [(b3, .inr (.int, [(.int 0), (.int 9), (.int 10), (.int 13), (.int 32), (.int 55295), (.int 57344), (.int 0), (.int 0), (.int 0), (.int 0), (.int 0)]))]) rfl rfl rfl
  refine A25.dup (q := 40) d_method_2_39 rfl rfl ?_
  refine A25.bipush (q := 42) (v := 7) d_method_2_40 rfl rfl ?_
  refine A25.ldc (qn := 44) (v := 65533) (tw hw 7 rfl) d_method_2_42 rfl ?_
  refine A25.stI (qn := 45) (i := 0) d_method_2_44 rfl (by decide) (show (7 : Int32).toNatClampNeg < 12 from by decide) rfl rfl (fun T26 A27 => ?_)
  have A28 := A27.cast (k2 := 1) (n2 := 12) (os2 := [(b3, .inr (.int, [(.int 0), (.int 9), (.int 10), (.int 13), (.int 32), (.int 55295), (.int 57344), (.int 65533), (.int 0), (.int 0), (.int 0), (.int 0)]))]) rfl rfl rfl
  refine A28.dup (q := 46) d_method_2_45 rfl rfl ?_
  refine A28.bipush (q := 48) (v := 8) d_method_2_46 rfl rfl ?_
  refine A28.ldc (qn := 50) (v := 65536) (tw hw 8 rfl) d_method_2_48 rfl ?_
  refine A28.stI (qn := 51) (i := 0) d_method_2_50 rfl (by decide) (show (8 : Int32).toNatClampNeg < 12 from by decide) rfl rfl (fun T29 A30 => ?_)
  have A31 := A30.cast (k2 := 1) (n2 := 12) (os2 := [(b3, .inr (.int, [(.int 0), (.int 9), (.int 10), (.int 13), (.int 32), (.int 55295), (.int 57344), (.int 65533), (.int 65536), (.int 0), (.int 0), (.int 0)]))]) rfl rfl rfl
  refine A31.dup (q := 52) d_method_2_51 rfl rfl ?_
  refine A31.bipush (q := 54) (v := 9) d_method_2_52 rfl rfl ?_
  refine A31.ldc (qn := 56) (v := 1114111) (tw hw 9 rfl) d_method_2_54 rfl ?_
  refine A31.stI (qn := 57) (i := 0) d_method_2_56 rfl (by decide) (show (9 : Int32).toNatClampNeg < 12 from by decide) rfl rfl (fun T32 A33 => ?_)
  have A34 := A33.cast (k2 := 1) (n2 := 12) (os2 := [(b3, .inr (.int, [(.int 0), (.int 9), (.int 10), (.int 13), (.int 32), (.int 55295), (.int 57344), (.int 65533), (.int 65536), (.int 1114111), (.int 0), (.int 0)]))]) rfl rfl rfl
  refine A34.dup (q := 58) d_method_2_57 rfl rfl ?_
  refine A34.bipush (q := 60) (v := 10) d_method_2_58 rfl rfl ?_
  refine A34.ldc (qn := 62) (v := 2147483647) (tw hw 10 rfl) d_method_2_60 rfl ?_
  refine A34.stI (qn := 63) (i := 0) d_method_2_62 rfl (by decide) (show (10 : Int32).toNatClampNeg < 12 from by decide) rfl rfl (fun T35 A36 => ?_)
  have A37 := A36.cast (k2 := 1) (n2 := 12) (os2 := [(b3, .inr (.int, [(.int 0), (.int 9), (.int 10), (.int 13), (.int 32), (.int 55295), (.int 57344), (.int 65533), (.int 65536), (.int 1114111), (.int 2147483647), (.int 0)]))]) rfl rfl rfl
  refine A37.dup (q := 64) d_method_2_63 rfl rfl ?_
  refine A37.bipush (q := 66) (v := 11) d_method_2_64 rfl rfl ?_
  refine A37.ldc (qn := 68) (v := -2147483648) (tw hw 11 rfl) d_method_2_66 rfl ?_
  refine A37.stI (qn := 69) (i := 0) d_method_2_68 rfl (by decide) (show (11 : Int32).toNatClampNeg < 12 from by decide) rfl rfl (fun T38 A39 => ?_)
  have A40 := A39.cast (k2 := 1) (n2 := 12) (os2 := [(b3, .inr (.int, [(.int 0), (.int 9), (.int 10), (.int 13), (.int 32), (.int 55295), (.int 57344), (.int 65533), (.int 65536), (.int 1114111), (.int 2147483647), (.int (-2147483648))]))]) rfl rfl rfl
  refine A40.astoreN (q := 70) (l' := #[.val (.int z0), .val (.int z1), .val (.ref b3), .unset]) d_method_2_69 rfl rfl rfl ?_
  refine A40.iloadN (q := 71) d_method_2_70 rfl rfl ?_
  refine A40.ldc (qn := 73) (v := 2147483647) (tw hw 10 rfl) d_method_2_71 rfl ?_
  refine A40.iand (q := 74) d_method_2_73 rfl ?_
  refine A40.bipush (q := 76) (v := 12) d_method_2_74 rfl rfl ?_
  refine A40.irem (qn := 77) d_method_2_76 (by decide) rfl ?_
  refine A40.istoreN (q := 78) (l' := #[.val (.int z0), .val (.int z1), .val (.ref b3), .val (.int ((z1 &&& (2147483647 : Int32)) % (12 : Int32)))]) d_method_2_77 rfl rfl ?_
  refine A40.aloadN (q := 79) d_method_2_78 rfl rfl rfl ?_
  refine A40.iloadN (q := 80) d_method_2_79 rfl rfl ?_
  obtain ⟨w1, hw1⟩ := own_get12 (f := [0, 9, 10, 13, 32, 55295, 57344, 65533, 65536, 1114111, 2147483647, -2147483648]) rfl z1
  refine A40.ldI (qn := 81) (i := 0) (v := (.int w1)) d_method_2_80 rfl (own_nn12 z1) (hw1) rfl ?_
  refine A40.iloadN (q := 82) d_method_2_81 rfl rfl ?_
  refine A40.iconst (q := 83) (v := 5) d_method_2_82 rfl rfl ?_
  refine A40.irem (qn := 84) d_method_2_83 (by decide) rfl ?_
  refine A40.iadd (q := 85) d_method_2_84 rfl ?_
  have A41 := A40.pick (is := []) (os2 := []) (by decide) rfl
  exact A41.retI d_method_2_85 (by decide) (by decide) ⟨(w1 + (z0 % (5 : Int32))), rfl, rfl⟩
theorem d_prog_69_method_3_0 : decode prog_69_method_3_code 0 = .ok (.iload_n 0, 1) := by decide +kernel
theorem d_prog_69_method_3_1 : decode prog_69_method_3_code 1 = .ok (.bipush 32, 2) := by decide +kernel
theorem d_prog_69_method_3_3 : decode prog_69_method_3_code 3 = .ok (.if_icmp .ge 35, 3) := by decide +kernel
theorem d_prog_69_method_3_6 : decode prog_69_method_3_code 6 = .ok (.iload_n 0, 1) := by decide +kernel
theorem d_prog_69_method_3_7 : decode prog_69_method_3_code 7 = .ok (.bipush 9, 2) := by decide +kernel
theorem d_prog_69_method_3_9 : decode prog_69_method_3_code 9 = .ok (.if_icmp .eq 23, 3) := by decide +kernel
theorem d_prog_69_method_3_32 : decode prog_69_method_3_code 32 = .ok (.iconst 1, 1) := by decide +kernel
theorem d_prog_69_method_3_33 : decode prog_69_method_3_code 33 = .ok (.goto 4, 3) := by decide +kernel
theorem d_prog_69_method_3_37 : decode prog_69_method_3_code 37 = .ok (.ireturn, 1) := by decide +kernel
theorem d_prog_69_method_3_12 : decode prog_69_method_3_code 12 = .ok (.iload_n 0, 1) := by decide +kernel
theorem d_prog_69_method_3_13 : decode prog_69_method_3_code 13 = .ok (.bipush 10, 2) := by decide +kernel
theorem d_prog_69_method_3_15 : decode prog_69_method_3_code 15 = .ok (.if_icmp .eq 17, 3) := by decide +kernel
theorem d_prog_69_method_3_18 : decode prog_69_method_3_code 18 = .ok (.iload_n 0, 1) := by decide +kernel
theorem d_prog_69_method_3_19 : decode prog_69_method_3_code 19 = .ok (.bipush 13, 2) := by decide +kernel
theorem d_prog_69_method_3_21 : decode prog_69_method_3_code 21 = .ok (.if_icmp .eq 11, 3) := by decide +kernel
theorem d_prog_69_method_3_24 : decode prog_69_method_3_code 24 = .ok (.iload_n 1, 1) := by decide +kernel
theorem d_prog_69_method_3_25 : decode prog_69_method_3_code 25 = .ok (.ifCond .eq 11, 3) := by decide +kernel
theorem d_prog_69_method_3_36 : decode prog_69_method_3_code 36 = .ok (.iconst 0, 1) := by decide +kernel
theorem d_prog_69_method_3_28 : decode prog_69_method_3_code 28 = .ok (.iload_n 0, 1) := by decide +kernel
theorem d_prog_69_method_3_29 : decode prog_69_method_3_code 29 = .ok (.ifCond .le 7, 3) := by decide +kernel
theorem d_prog_69_method_3_38 : decode prog_69_method_3_code 38 = .ok (.iload_n 0, 1) := by decide +kernel
theorem d_prog_69_method_3_39 : decode prog_69_method_3_code 39 = .ok (.ldc 13, 2) := by decide +kernel
theorem d_prog_69_method_3_41 : decode prog_69_method_3_code 41 = .ok (.if_icmp .le 27, 3) := by decide +kernel
theorem d_prog_69_method_3_44 : decode prog_69_method_3_code 44 = .ok (.iload_n 0, 1) := by decide +kernel
theorem d_prog_69_method_3_45 : decode prog_69_method_3_code 45 = .ok (.ldc 14, 2) := by decide +kernel
theorem d_prog_69_method_3_47 : decode prog_69_method_3_code 47 = .ok (.if_icmp .lt 9, 3) := by decide +kernel
theorem d_prog_69_method_3_56 : decode prog_69_method_3_code 56 = .ok (.iload_n 0, 1) := by decide +kernel
theorem d_prog_69_method_3_57 : decode prog_69_method_3_code 57 = .ok (.ldc 16, 2) := by decide +kernel
theorem d_prog_69_method_3_59 : decode prog_69_method_3_code 59 = .ok (.if_icmp .lt 13, 3) := by decide +kernel
theorem d_prog_69_method_3_72 : decode prog_69_method_3_code 72 = .ok (.iconst 0, 1) := by decide +kernel
theorem d_prog_69_method_3_73 : decode prog_69_method_3_code 73 = .ok (.ireturn, 1) := by decide +kernel
theorem d_prog_69_method_3_62 : decode prog_69_method_3_code 62 = .ok (.iload_n 0, 1) := by decide +kernel
theorem d_prog_69_method_3_63 : decode prog_69_method_3_code 63 = .ok (.ldc 19, 2) := by decide +kernel
theorem d_prog_69_method_3_65 : decode prog_69_method_3_code 65 = .ok (.if_icmp .gt 7, 3) := by decide +kernel
theorem d_prog_69_method_3_68 : decode prog_69_method_3_code 68 = .ok (.iconst 1, 1) := by decide +kernel
theorem d_prog_69_method_3_69 : decode prog_69_method_3_code 69 = .ok (.goto 4, 3) := by decide +kernel
theorem d_prog_69_method_3_50 : decode prog_69_method_3_code 50 = .ok (.iload_n 0, 1) := by decide +kernel
theorem d_prog_69_method_3_51 : decode prog_69_method_3_code 51 = .ok (.ldc 15, 2) := by decide +kernel
theorem d_prog_69_method_3_53 : decode prog_69_method_3_code 53 = .ok (.if_icmp .le 15, 3) := by decide +kernel
theorem pn_1 : plainName "com/example/fine_events/fineevents/XmlCharacters" = true := by first | (simp [plainName, overriddenIn]; done) | decide +kernel
theorem ef_m_isc (m : MethodId) (x0 : Int32) (x1 : Int32) : entryFrame m #[(.int x0), (.int x1)] 2 = mkF m 0 #[.val (.int x0), .val (.int x1)] [] := by first | (simp [entryFrame, mkF, argsToLocals, Value.category]; done) | rfl
set_option maxRecDepth 65536 in
set_option maxHeartbeats 40000000 in
theorem m_isc (l : Launch) (Z : State) (a0 : Array Value) (hw : ∀ d ∈ tables_1, d.before a0 Z = true) (z : Int32) (f : Int32) (hf : f = 0 ∨ f = 1) :
    Pays l Z a0 (⟨"com/example/fine_events/fineevents/XmlCharacters", "isCharacter", "(IZ)Z"⟩ : MethodName) prog_69_method_3_code 2 (some .boolean) ({ frames := 0, cells := 0, slots := 0, locals := 0 } : Room) #[(.int z), (.int f)] [] (([] : Hs).map (·.1)) (fun v os' => ∃ (r : Int32), v = some (.int r) ∧ os' = [] ∧ ((r = 1 ∧ ((1 ≤ z.toInt ∧ z.toInt ≤ 1114111) ∧ ¬ (55296 ≤ z.toInt ∧ z.toInt ≤ 57343) ∧ ¬ (z.toInt = 65534 ∨ z.toInt = 65535) ∧ ((z.toInt < 32 ∧ z.toInt ≠ 9 ∧ z.toInt ≠ 10 ∧ z.toInt ≠ 13) → f = 1))) ∨ (r = 0 ∧ ¬ ((1 ≤ z.toInt ∧ z.toInt ≤ 1114111) ∧ ¬ (55296 ≤ z.toInt ∧ z.toInt ≤ 57343) ∧ ¬ (z.toInt = 65534 ∨ z.toInt = 65535) ∧ ((z.toInt < 32 ∧ z.toInt ≠ 9 ∧ z.toInt ≠ 10 ∧ z.toInt ≠ 13) → f = 1))))) := by
  refine Pays.of (Ls := #[.val (.int z), .val (.int f)]) (plainFor_of_name pn_1) (fun m => ef_m_isc m z f) ?_
  intro p e s m below meth c T0 A0
  refine A0.iloadN (q := 1) d_prog_69_method_3_0 rfl rfl ?_
  refine A0.bipush (q := 3) (v := 32) d_prog_69_method_3_1 rfl rfl ?_
  by_cases hc3_1 : z < (32 : Int32)
  · refine A0.icmpNo (q := 6) d_prog_69_method_3_3 (tlt hc3_1).2.1 rfl ?_
    refine A0.iloadN (q := 7) d_prog_69_method_3_6 rfl rfl ?_
    refine A0.bipush (q := 9) (v := 9) d_prog_69_method_3_7 rfl rfl ?_
    by_cases hc9_2 : z = (9 : Int32)
    · refine A0.icmpYes (q := 32) d_prog_69_method_3_9 (teq hc9_2).1 (by decide) (by decide) ?_
      refine A0.iconst (q := 33) (v := 1) d_prog_69_method_3_32 rfl rfl ?_
      refine A0.goto (q := 37) d_prog_69_method_3_33 (by decide) (by decide) ?_
      refine A0.retN (by simp) d_prog_69_method_3_37 (by decide) (by decide) ⟨(1 : Int32), rfl, rfl, ?_⟩
      clear hw A0
      (try simp only [true_and, and_true, false_and, and_false, true_or, or_true, false_or, or_false, not_true_eq_false, not_false_eq_true, Int32.lt_iff_toInt_lt, Int64.lt_iff_toInt_lt, Int32.le_iff_toInt_le, Int64.le_iff_toInt_le, ← Int32.toInt_inj, ← Int64.toInt_inj, Int32.toInt_add, Int32.toInt_sub, Int32.toInt_neg, Int64.toInt_add, Int64.toInt_sub, Int64.toInt_neg, Int64.toInt_mul, Int32.toInt_toInt64, bm32, bm64, l32_m2147483648, l32_0, l32_1, l32_6, l32_7, l32_8, l32_9, l32_10, l32_11, l32_12, l32_13, l32_32, l32_55295, l32_55296, l32_57343, l32_57344, l32_65533, l32_65534, l32_65535, l32_65536, l32_1114111, l32_2147483647] at hc3_1 hc9_2 hf ⊢) <;> omega
    · refine A0.icmpNo (q := 12) d_prog_69_method_3_9 (feq hc9_2).1 rfl ?_
      refine A0.iloadN (q := 13) d_prog_69_method_3_12 rfl rfl ?_
      refine A0.bipush (q := 15) (v := 10) d_prog_69_method_3_13 rfl rfl ?_
      by_cases hc15_3 : z = (10 : Int32)
      · refine A0.icmpYes (q := 32) d_prog_69_method_3_15 (teq hc15_3).1 (by decide) (by decide) ?_
        refine A0.iconst (q := 33) (v := 1) d_prog_69_method_3_32 rfl rfl ?_
        refine A0.goto (q := 37) d_prog_69_method_3_33 (by decide) (by decide) ?_
        refine A0.retN (by simp) d_prog_69_method_3_37 (by decide) (by decide) ⟨(1 : Int32), rfl, rfl, ?_⟩
        clear hw A0
        (try simp only [true_and, and_true, false_and, and_false, true_or, or_true, false_or, or_false, not_true_eq_false, not_false_eq_true, Int32.lt_iff_toInt_lt, Int64.lt_iff_toInt_lt, Int32.le_iff_toInt_le, Int64.le_iff_toInt_le, ← Int32.toInt_inj, ← Int64.toInt_inj, Int32.toInt_add, Int32.toInt_sub, Int32.toInt_neg, Int64.toInt_add, Int64.toInt_sub, Int64.toInt_neg, Int64.toInt_mul, Int32.toInt_toInt64, bm32, bm64, l32_m2147483648, l32_0, l32_1, l32_6, l32_7, l32_8, l32_9, l32_10, l32_11, l32_12, l32_13, l32_32, l32_55295, l32_55296, l32_57343, l32_57344, l32_65533, l32_65534, l32_65535, l32_65536, l32_1114111, l32_2147483647] at hc3_1 hc9_2 hc15_3 hf ⊢) <;> omega
      · refine A0.icmpNo (q := 18) d_prog_69_method_3_15 (feq hc15_3).1 rfl ?_
        refine A0.iloadN (q := 19) d_prog_69_method_3_18 rfl rfl ?_
        refine A0.bipush (q := 21) (v := 13) d_prog_69_method_3_19 rfl rfl ?_
        by_cases hc21_4 : z = (13 : Int32)
        · refine A0.icmpYes (q := 32) d_prog_69_method_3_21 (teq hc21_4).1 (by decide) (by decide) ?_
          refine A0.iconst (q := 33) (v := 1) d_prog_69_method_3_32 rfl rfl ?_
          refine A0.goto (q := 37) d_prog_69_method_3_33 (by decide) (by decide) ?_
          refine A0.retN (by simp) d_prog_69_method_3_37 (by decide) (by decide) ⟨(1 : Int32), rfl, rfl, ?_⟩
          clear hw A0
          (try simp only [true_and, and_true, false_and, and_false, true_or, or_true, false_or, or_false, not_true_eq_false, not_false_eq_true, Int32.lt_iff_toInt_lt, Int64.lt_iff_toInt_lt, Int32.le_iff_toInt_le, Int64.le_iff_toInt_le, ← Int32.toInt_inj, ← Int64.toInt_inj, Int32.toInt_add, Int32.toInt_sub, Int32.toInt_neg, Int64.toInt_add, Int64.toInt_sub, Int64.toInt_neg, Int64.toInt_mul, Int32.toInt_toInt64, bm32, bm64, l32_m2147483648, l32_0, l32_1, l32_6, l32_7, l32_8, l32_9, l32_10, l32_11, l32_12, l32_13, l32_32, l32_55295, l32_55296, l32_57343, l32_57344, l32_65533, l32_65534, l32_65535, l32_65536, l32_1114111, l32_2147483647] at hc3_1 hc9_2 hc15_3 hc21_4 hf ⊢) <;> omega
        · refine A0.icmpNo (q := 24) d_prog_69_method_3_21 (feq hc21_4).1 rfl ?_
          refine A0.iloadN (q := 25) d_prog_69_method_3_24 rfl rfl ?_
          by_cases hc25_5 : f = (0 : Int32)
          · refine A0.ifYes (q := 36) d_prog_69_method_3_25 ((if0 _ _).trans (teq hc25_5).1) (by decide) (by decide) ?_
            refine A0.iconst (q := 37) (v := 0) d_prog_69_method_3_36 rfl rfl ?_
            refine A0.retN (by simp) d_prog_69_method_3_37 (by decide) (by decide) ⟨(0 : Int32), rfl, rfl, ?_⟩
            clear hw A0
            (try simp only [true_and, and_true, false_and, and_false, true_or, or_true, false_or, or_false, not_true_eq_false, not_false_eq_true, Int32.lt_iff_toInt_lt, Int64.lt_iff_toInt_lt, Int32.le_iff_toInt_le, Int64.le_iff_toInt_le, ← Int32.toInt_inj, ← Int64.toInt_inj, Int32.toInt_add, Int32.toInt_sub, Int32.toInt_neg, Int64.toInt_add, Int64.toInt_sub, Int64.toInt_neg, Int64.toInt_mul, Int32.toInt_toInt64, bm32, bm64, l32_m2147483648, l32_0, l32_1, l32_6, l32_7, l32_8, l32_9, l32_10, l32_11, l32_12, l32_13, l32_32, l32_55295, l32_55296, l32_57343, l32_57344, l32_65533, l32_65534, l32_65535, l32_65536, l32_1114111, l32_2147483647] at hc3_1 hc9_2 hc15_3 hc21_4 hc25_5 hf ⊢) <;> omega
          · refine A0.ifNo (q := 28) d_prog_69_method_3_25 ((if0 _ _).trans (feq hc25_5).1) rfl ?_
            refine A0.iloadN (q := 29) d_prog_69_method_3_28 rfl rfl ?_
            by_cases hc29_6 : (0 : Int32) < z
            · refine A0.ifNo (q := 32) d_prog_69_method_3_29 ((if0 _ _).trans (tlt hc29_6).2.2.2) rfl ?_
              refine A0.iconst (q := 33) (v := 1) d_prog_69_method_3_32 rfl rfl ?_
              refine A0.goto (q := 37) d_prog_69_method_3_33 (by decide) (by decide) ?_
              refine A0.retN (by simp) d_prog_69_method_3_37 (by decide) (by decide) ⟨(1 : Int32), rfl, rfl, ?_⟩
              clear hw A0
              (try simp only [true_and, and_true, false_and, and_false, true_or, or_true, false_or, or_false, not_true_eq_false, not_false_eq_true, Int32.lt_iff_toInt_lt, Int64.lt_iff_toInt_lt, Int32.le_iff_toInt_le, Int64.le_iff_toInt_le, ← Int32.toInt_inj, ← Int64.toInt_inj, Int32.toInt_add, Int32.toInt_sub, Int32.toInt_neg, Int64.toInt_add, Int64.toInt_sub, Int64.toInt_neg, Int64.toInt_mul, Int32.toInt_toInt64, bm32, bm64, l32_m2147483648, l32_0, l32_1, l32_6, l32_7, l32_8, l32_9, l32_10, l32_11, l32_12, l32_13, l32_32, l32_55295, l32_55296, l32_57343, l32_57344, l32_65533, l32_65534, l32_65535, l32_65536, l32_1114111, l32_2147483647] at hc3_1 hc9_2 hc15_3 hc21_4 hc25_5 hc29_6 hf ⊢) <;> omega
            · refine A0.ifYes (q := 36) d_prog_69_method_3_29 ((if0 _ _).trans (flt hc29_6).2.2.2) (by decide) (by decide) ?_
              refine A0.iconst (q := 37) (v := 0) d_prog_69_method_3_36 rfl rfl ?_
              refine A0.retN (by simp) d_prog_69_method_3_37 (by decide) (by decide) ⟨(0 : Int32), rfl, rfl, ?_⟩
              clear hw A0
              (try simp only [true_and, and_true, false_and, and_false, true_or, or_true, false_or, or_false, not_true_eq_false, not_false_eq_true, Int32.lt_iff_toInt_lt, Int64.lt_iff_toInt_lt, Int32.le_iff_toInt_le, Int64.le_iff_toInt_le, ← Int32.toInt_inj, ← Int64.toInt_inj, Int32.toInt_add, Int32.toInt_sub, Int32.toInt_neg, Int64.toInt_add, Int64.toInt_sub, Int64.toInt_neg, Int64.toInt_mul, Int32.toInt_toInt64, bm32, bm64, l32_m2147483648, l32_0, l32_1, l32_6, l32_7, l32_8, l32_9, l32_10, l32_11, l32_12, l32_13, l32_32, l32_55295, l32_55296, l32_57343, l32_57344, l32_65533, l32_65534, l32_65535, l32_65536, l32_1114111, l32_2147483647] at hc3_1 hc9_2 hc15_3 hc21_4 hc25_5 hc29_6 hf ⊢) <;> omega
  · refine A0.icmpYes (q := 38) d_prog_69_method_3_3 (flt hc3_1).2.1 (by decide) (by decide) ?_
    refine A0.iloadN (q := 39) d_prog_69_method_3_38 rfl rfl ?_
    refine A0.ldc (qn := 41) (v := 55295) (tw hw 22 rfl) d_prog_69_method_3_39 rfl ?_
    by_cases hc41_7 : (55295 : Int32) < z
    · refine A0.icmpNo (q := 44) d_prog_69_method_3_41 (tlt hc41_7).2.2.2 rfl ?_
      refine A0.iloadN (q := 45) d_prog_69_method_3_44 rfl rfl ?_
      refine A0.ldc (qn := 47) (v := 57344) (tw hw 23 rfl) d_prog_69_method_3_45 rfl ?_
      by_cases hc47_8 : z < (57344 : Int32)
      · refine A0.icmpYes (q := 56) d_prog_69_method_3_47 (tlt hc47_8).1 (by decide) (by decide) ?_
        refine A0.iloadN (q := 57) d_prog_69_method_3_56 rfl rfl ?_
        refine A0.ldc (qn := 59) (v := 65536) (tw hw 25 rfl) d_prog_69_method_3_57 rfl ?_
        by_cases hc59_9 : z < (65536 : Int32)
        · refine A0.icmpYes (q := 72) d_prog_69_method_3_59 (tlt hc59_9).1 (by decide) (by decide) ?_
          refine A0.iconst (q := 73) (v := 0) d_prog_69_method_3_72 rfl rfl ?_
          refine A0.retN (by simp) d_prog_69_method_3_73 (by decide) (by decide) ⟨(0 : Int32), rfl, rfl, ?_⟩
          clear hw A0
          (try simp only [true_and, and_true, false_and, and_false, true_or, or_true, false_or, or_false, not_true_eq_false, not_false_eq_true, Int32.lt_iff_toInt_lt, Int64.lt_iff_toInt_lt, Int32.le_iff_toInt_le, Int64.le_iff_toInt_le, ← Int32.toInt_inj, ← Int64.toInt_inj, Int32.toInt_add, Int32.toInt_sub, Int32.toInt_neg, Int64.toInt_add, Int64.toInt_sub, Int64.toInt_neg, Int64.toInt_mul, Int32.toInt_toInt64, bm32, bm64, l32_m2147483648, l32_0, l32_1, l32_6, l32_7, l32_8, l32_9, l32_10, l32_11, l32_12, l32_13, l32_32, l32_55295, l32_55296, l32_57343, l32_57344, l32_65533, l32_65534, l32_65535, l32_65536, l32_1114111, l32_2147483647] at hc3_1 hc41_7 hc47_8 hc59_9 hf ⊢) <;> omega
        · refine A0.icmpNo (q := 62) d_prog_69_method_3_59 (flt hc59_9).1 rfl ?_
          refine A0.iloadN (q := 63) d_prog_69_method_3_62 rfl rfl ?_
          refine A0.ldc (qn := 65) (v := 1114111) (tw hw 26 rfl) d_prog_69_method_3_63 rfl ?_
          by_cases hc65_10 : (1114111 : Int32) < z
          · refine A0.icmpYes (q := 72) d_prog_69_method_3_65 (tlt hc65_10).2.2.1 (by decide) (by decide) ?_
            refine A0.iconst (q := 73) (v := 0) d_prog_69_method_3_72 rfl rfl ?_
            refine A0.retN (by simp) d_prog_69_method_3_73 (by decide) (by decide) ⟨(0 : Int32), rfl, rfl, ?_⟩
            clear hw A0
            (try simp only [true_and, and_true, false_and, and_false, true_or, or_true, false_or, or_false, not_true_eq_false, not_false_eq_true, Int32.lt_iff_toInt_lt, Int64.lt_iff_toInt_lt, Int32.le_iff_toInt_le, Int64.le_iff_toInt_le, ← Int32.toInt_inj, ← Int64.toInt_inj, Int32.toInt_add, Int32.toInt_sub, Int32.toInt_neg, Int64.toInt_add, Int64.toInt_sub, Int64.toInt_neg, Int64.toInt_mul, Int32.toInt_toInt64, bm32, bm64, l32_m2147483648, l32_0, l32_1, l32_6, l32_7, l32_8, l32_9, l32_10, l32_11, l32_12, l32_13, l32_32, l32_55295, l32_55296, l32_57343, l32_57344, l32_65533, l32_65534, l32_65535, l32_65536, l32_1114111, l32_2147483647] at hc3_1 hc41_7 hc47_8 hc59_9 hc65_10 hf ⊢) <;> omega
          · refine A0.icmpNo (q := 68) d_prog_69_method_3_65 (flt hc65_10).2.2.1 rfl ?_
            refine A0.iconst (q := 69) (v := 1) d_prog_69_method_3_68 rfl rfl ?_
            refine A0.goto (q := 73) d_prog_69_method_3_69 (by decide) (by decide) ?_
            refine A0.retN (by simp) d_prog_69_method_3_73 (by decide) (by decide) ⟨(1 : Int32), rfl, rfl, ?_⟩
            clear hw A0
            (try simp only [true_and, and_true, false_and, and_false, true_or, or_true, false_or, or_false, not_true_eq_false, not_false_eq_true, Int32.lt_iff_toInt_lt, Int64.lt_iff_toInt_lt, Int32.le_iff_toInt_le, Int64.le_iff_toInt_le, ← Int32.toInt_inj, ← Int64.toInt_inj, Int32.toInt_add, Int32.toInt_sub, Int32.toInt_neg, Int64.toInt_add, Int64.toInt_sub, Int64.toInt_neg, Int64.toInt_mul, Int32.toInt_toInt64, bm32, bm64, l32_m2147483648, l32_0, l32_1, l32_6, l32_7, l32_8, l32_9, l32_10, l32_11, l32_12, l32_13, l32_32, l32_55295, l32_55296, l32_57343, l32_57344, l32_65533, l32_65534, l32_65535, l32_65536, l32_1114111, l32_2147483647] at hc3_1 hc41_7 hc47_8 hc59_9 hc65_10 hf ⊢) <;> omega
      · refine A0.icmpNo (q := 50) d_prog_69_method_3_47 (flt hc47_8).1 rfl ?_
        refine A0.iloadN (q := 51) d_prog_69_method_3_50 rfl rfl ?_
        refine A0.ldc (qn := 53) (v := 65533) (tw hw 24 rfl) d_prog_69_method_3_51 rfl ?_
        by_cases hc53_11 : (65533 : Int32) < z
        · refine A0.icmpNo (q := 56) d_prog_69_method_3_53 (tlt hc53_11).2.2.2 rfl ?_
          refine A0.iloadN (q := 57) d_prog_69_method_3_56 rfl rfl ?_
          refine A0.ldc (qn := 59) (v := 65536) (tw hw 25 rfl) d_prog_69_method_3_57 rfl ?_
          by_cases hc59_12 : z < (65536 : Int32)
          · refine A0.icmpYes (q := 72) d_prog_69_method_3_59 (tlt hc59_12).1 (by decide) (by decide) ?_
            refine A0.iconst (q := 73) (v := 0) d_prog_69_method_3_72 rfl rfl ?_
            refine A0.retN (by simp) d_prog_69_method_3_73 (by decide) (by decide) ⟨(0 : Int32), rfl, rfl, ?_⟩
            clear hw A0
            (try simp only [true_and, and_true, false_and, and_false, true_or, or_true, false_or, or_false, not_true_eq_false, not_false_eq_true, Int32.lt_iff_toInt_lt, Int64.lt_iff_toInt_lt, Int32.le_iff_toInt_le, Int64.le_iff_toInt_le, ← Int32.toInt_inj, ← Int64.toInt_inj, Int32.toInt_add, Int32.toInt_sub, Int32.toInt_neg, Int64.toInt_add, Int64.toInt_sub, Int64.toInt_neg, Int64.toInt_mul, Int32.toInt_toInt64, bm32, bm64, l32_m2147483648, l32_0, l32_1, l32_6, l32_7, l32_8, l32_9, l32_10, l32_11, l32_12, l32_13, l32_32, l32_55295, l32_55296, l32_57343, l32_57344, l32_65533, l32_65534, l32_65535, l32_65536, l32_1114111, l32_2147483647] at hc3_1 hc41_7 hc47_8 hc53_11 hc59_12 hf ⊢) <;> omega
          · refine A0.icmpNo (q := 62) d_prog_69_method_3_59 (flt hc59_12).1 rfl ?_
            refine A0.iloadN (q := 63) d_prog_69_method_3_62 rfl rfl ?_
            refine A0.ldc (qn := 65) (v := 1114111) (tw hw 26 rfl) d_prog_69_method_3_63 rfl ?_
            by_cases hc65_13 : (1114111 : Int32) < z
            · refine A0.icmpYes (q := 72) d_prog_69_method_3_65 (tlt hc65_13).2.2.1 (by decide) (by decide) ?_
              refine A0.iconst (q := 73) (v := 0) d_prog_69_method_3_72 rfl rfl ?_
              refine A0.retN (by simp) d_prog_69_method_3_73 (by decide) (by decide) ⟨(0 : Int32), rfl, rfl, ?_⟩
              clear hw A0
              (try simp only [true_and, and_true, false_and, and_false, true_or, or_true, false_or, or_false, not_true_eq_false, not_false_eq_true, Int32.lt_iff_toInt_lt, Int64.lt_iff_toInt_lt, Int32.le_iff_toInt_le, Int64.le_iff_toInt_le, ← Int32.toInt_inj, ← Int64.toInt_inj, Int32.toInt_add, Int32.toInt_sub, Int32.toInt_neg, Int64.toInt_add, Int64.toInt_sub, Int64.toInt_neg, Int64.toInt_mul, Int32.toInt_toInt64, bm32, bm64, l32_m2147483648, l32_0, l32_1, l32_6, l32_7, l32_8, l32_9, l32_10, l32_11, l32_12, l32_13, l32_32, l32_55295, l32_55296, l32_57343, l32_57344, l32_65533, l32_65534, l32_65535, l32_65536, l32_1114111, l32_2147483647] at hc3_1 hc41_7 hc47_8 hc53_11 hc59_12 hc65_13 hf ⊢) <;> omega
            · refine A0.icmpNo (q := 68) d_prog_69_method_3_65 (flt hc65_13).2.2.1 rfl ?_
              refine A0.iconst (q := 69) (v := 1) d_prog_69_method_3_68 rfl rfl ?_
              refine A0.goto (q := 73) d_prog_69_method_3_69 (by decide) (by decide) ?_
              refine A0.retN (by simp) d_prog_69_method_3_73 (by decide) (by decide) ⟨(1 : Int32), rfl, rfl, ?_⟩
              clear hw A0
              (try simp only [true_and, and_true, false_and, and_false, true_or, or_true, false_or, or_false, not_true_eq_false, not_false_eq_true, Int32.lt_iff_toInt_lt, Int64.lt_iff_toInt_lt, Int32.le_iff_toInt_le, Int64.le_iff_toInt_le, ← Int32.toInt_inj, ← Int64.toInt_inj, Int32.toInt_add, Int32.toInt_sub, Int32.toInt_neg, Int64.toInt_add, Int64.toInt_sub, Int64.toInt_neg, Int64.toInt_mul, Int32.toInt_toInt64, bm32, bm64, l32_m2147483648, l32_0, l32_1, l32_6, l32_7, l32_8, l32_9, l32_10, l32_11, l32_12, l32_13, l32_32, l32_55295, l32_55296, l32_57343, l32_57344, l32_65533, l32_65534, l32_65535, l32_65536, l32_1114111, l32_2147483647] at hc3_1 hc41_7 hc47_8 hc53_11 hc59_12 hc65_13 hf ⊢) <;> omega
        · refine A0.icmpYes (q := 68) d_prog_69_method_3_53 (flt hc53_11).2.2.2 (by decide) (by decide) ?_
          refine A0.iconst (q := 69) (v := 1) d_prog_69_method_3_68 rfl rfl ?_
          refine A0.goto (q := 73) d_prog_69_method_3_69 (by decide) (by decide) ?_
          refine A0.retN (by simp) d_prog_69_method_3_73 (by decide) (by decide) ⟨(1 : Int32), rfl, rfl, ?_⟩
          clear hw A0
          (try simp only [true_and, and_true, false_and, and_false, true_or, or_true, false_or, or_false, not_true_eq_false, not_false_eq_true, Int32.lt_iff_toInt_lt, Int64.lt_iff_toInt_lt, Int32.le_iff_toInt_le, Int64.le_iff_toInt_le, ← Int32.toInt_inj, ← Int64.toInt_inj, Int32.toInt_add, Int32.toInt_sub, Int32.toInt_neg, Int64.toInt_add, Int64.toInt_sub, Int64.toInt_neg, Int64.toInt_mul, Int32.toInt_toInt64, bm32, bm64, l32_m2147483648, l32_0, l32_1, l32_6, l32_7, l32_8, l32_9, l32_10, l32_11, l32_12, l32_13, l32_32, l32_55295, l32_55296, l32_57343, l32_57344, l32_65533, l32_65534, l32_65535, l32_65536, l32_1114111, l32_2147483647] at hc3_1 hc41_7 hc47_8 hc53_11 hf ⊢) <;> omega
    · refine A0.icmpYes (q := 68) d_prog_69_method_3_41 (flt hc41_7).2.2.2 (by decide) (by decide) ?_
      refine A0.iconst (q := 69) (v := 1) d_prog_69_method_3_68 rfl rfl ?_
      refine A0.goto (q := 73) d_prog_69_method_3_69 (by decide) (by decide) ?_
      refine A0.retN (by simp) d_prog_69_method_3_73 (by decide) (by decide) ⟨(1 : Int32), rfl, rfl, ?_⟩
      clear hw A0
      (try simp only [true_and, and_true, false_and, and_false, true_or, or_true, false_or, or_false, not_true_eq_false, not_false_eq_true, Int32.lt_iff_toInt_lt, Int64.lt_iff_toInt_lt, Int32.le_iff_toInt_le, Int64.le_iff_toInt_le, ← Int32.toInt_inj, ← Int64.toInt_inj, Int32.toInt_add, Int32.toInt_sub, Int32.toInt_neg, Int64.toInt_add, Int64.toInt_sub, Int64.toInt_neg, Int64.toInt_mul, Int32.toInt_toInt64, bm32, bm64, l32_m2147483648, l32_0, l32_1, l32_6, l32_7, l32_8, l32_9, l32_10, l32_11, l32_12, l32_13, l32_32, l32_55295, l32_55296, l32_57343, l32_57344, l32_65533, l32_65534, l32_65535, l32_65536, l32_1114111, l32_2147483647] at hc3_1 hc41_7 hf ⊢) <;> omega
theorem d_method_3_16 : decode method_3_code 16 = .ok (.istore_n 2, 1) := by decide +kernel
theorem d_method_3_34 : decode method_3_code 34 = .ok (.istore_n 3, 1) := by decide +kernel
theorem d_method_3_52 : decode method_3_code 52 = .ok (.istore 4, 2) := by decide +kernel
theorem d_method_3_83 : decode method_3_code 83 = .ok (.istore 5, 2) := by decide +kernel
theorem d_method_3_85 : decode method_3_code 85 = .ok (.iload_n 2, 1) := by decide +kernel
theorem d_method_3_86 : decode method_3_code 86 = .ok (.ifCond .ne 5, 3) := by decide +kernel
theorem d_method_3_89 : decode method_3_code 89 = .ok (.iconst 0, 1) := by decide +kernel
theorem d_method_3_90 : decode method_3_code 90 = .ok (.ireturn, 1) := by decide +kernel
theorem d_method_3_91 : decode method_3_code 91 = .ok (.iload_n 3, 1) := by decide +kernel
theorem d_method_3_92 : decode method_3_code 92 = .ok (.ifCond .ne 8, 3) := by decide +kernel
theorem d_method_3_95 : decode method_3_code 95 = .ok (.iload 4, 2) := by decide +kernel
theorem d_method_3_97 : decode method_3_code 97 = .ok (.ifCond .eq 5, 3) := by decide +kernel
theorem d_method_3_102 : decode method_3_code 102 = .ok (.iload 5, 2) := by decide +kernel
theorem d_method_3_104 : decode method_3_code 104 = .ok (.ifCond .eq 5, 3) := by decide +kernel
theorem d_method_3_109 : decode method_3_code 109 = .ok (.iconst 1, 1) := by decide +kernel
theorem d_method_3_110 : decode method_3_code 110 = .ok (.ireturn, 1) := by decide +kernel
theorem d_method_3_107 : decode method_3_code 107 = .ok (.iload_n 1, 1) := by decide +kernel
theorem d_method_3_108 : decode method_3_code 108 = .ok (.ireturn, 1) := by decide +kernel
theorem d_method_3_100 : decode method_3_code 100 = .ok (.iconst 0, 1) := by decide +kernel
theorem d_method_3_101 : decode method_3_code 101 = .ok (.ireturn, 1) := by decide +kernel
theorem d_method_3_54 : decode method_3_code 54 = .ok (.iload_n 0, 1) := by decide +kernel
theorem d_method_3_55 : decode method_3_code 55 = .ok (.bipush 32, 2) := by decide +kernel
theorem d_method_3_57 : decode method_3_code 57 = .ok (.if_icmp .ge 25, 3) := by decide +kernel
theorem d_method_3_60 : decode method_3_code 60 = .ok (.iload_n 0, 1) := by decide +kernel
theorem d_method_3_61 : decode method_3_code 61 = .ok (.bipush 9, 2) := by decide +kernel
theorem d_method_3_63 : decode method_3_code 63 = .ok (.if_icmp .eq 19, 3) := by decide +kernel
theorem d_method_3_82 : decode method_3_code 82 = .ok (.iconst 0, 1) := by decide +kernel
theorem d_method_3_66 : decode method_3_code 66 = .ok (.iload_n 0, 1) := by decide +kernel
theorem d_method_3_67 : decode method_3_code 67 = .ok (.bipush 10, 2) := by decide +kernel
theorem d_method_3_69 : decode method_3_code 69 = .ok (.if_icmp .eq 13, 3) := by decide +kernel
theorem d_method_3_72 : decode method_3_code 72 = .ok (.iload_n 0, 1) := by decide +kernel
theorem d_method_3_73 : decode method_3_code 73 = .ok (.bipush 13, 2) := by decide +kernel
theorem d_method_3_75 : decode method_3_code 75 = .ok (.if_icmp .eq 7, 3) := by decide +kernel
theorem d_method_3_78 : decode method_3_code 78 = .ok (.iconst 1, 1) := by decide +kernel
theorem d_method_3_79 : decode method_3_code 79 = .ok (.goto 4, 3) := by decide +kernel
theorem d_method_3_35 : decode method_3_code 35 = .ok (.iload_n 0, 1) := by decide +kernel
theorem d_method_3_36 : decode method_3_code 36 = .ok (.ldc 18, 2) := by decide +kernel
theorem d_method_3_38 : decode method_3_code 38 = .ok (.if_icmp .eq 9, 3) := by decide +kernel
theorem d_method_3_47 : decode method_3_code 47 = .ok (.iconst 1, 1) := by decide +kernel
theorem d_method_3_48 : decode method_3_code 48 = .ok (.goto 4, 3) := by decide +kernel
theorem d_method_3_41 : decode method_3_code 41 = .ok (.iload_n 0, 1) := by decide +kernel
theorem d_method_3_42 : decode method_3_code 42 = .ok (.ldc 19, 2) := by decide +kernel
theorem d_method_3_44 : decode method_3_code 44 = .ok (.if_icmp .ne 7, 3) := by decide +kernel
theorem d_method_3_51 : decode method_3_code 51 = .ok (.iconst 0, 1) := by decide +kernel
theorem d_method_3_17 : decode method_3_code 17 = .ok (.iload_n 0, 1) := by decide +kernel
theorem d_method_3_18 : decode method_3_code 18 = .ok (.ldc 16, 2) := by decide +kernel
theorem d_method_3_20 : decode method_3_code 20 = .ok (.if_icmp .lt 13, 3) := by decide +kernel
theorem d_method_3_33 : decode method_3_code 33 = .ok (.iconst 0, 1) := by decide +kernel
theorem d_method_3_23 : decode method_3_code 23 = .ok (.iload_n 0, 1) := by decide +kernel
theorem d_method_3_24 : decode method_3_code 24 = .ok (.ldc 17, 2) := by decide +kernel
theorem d_method_3_26 : decode method_3_code 26 = .ok (.if_icmp .gt 7, 3) := by decide +kernel
theorem d_method_3_29 : decode method_3_code 29 = .ok (.iconst 1, 1) := by decide +kernel
theorem d_method_3_30 : decode method_3_code 30 = .ok (.goto 4, 3) := by decide +kernel
theorem d_method_3_0 : decode method_3_code 0 = .ok (.iload_n 0, 1) := by decide +kernel
theorem d_method_3_1 : decode method_3_code 1 = .ok (.iconst 1, 1) := by decide +kernel
theorem d_method_3_2 : decode method_3_code 2 = .ok (.if_icmp .lt 13, 3) := by decide +kernel
theorem d_method_3_15 : decode method_3_code 15 = .ok (.iconst 0, 1) := by decide +kernel
theorem d_method_3_5 : decode method_3_code 5 = .ok (.iload_n 0, 1) := by decide +kernel
theorem d_method_3_6 : decode method_3_code 6 = .ok (.ldc 11, 2) := by decide +kernel
theorem d_method_3_8 : decode method_3_code 8 = .ok (.if_icmp .gt 7, 3) := by decide +kernel
theorem d_method_3_11 : decode method_3_code 11 = .ok (.iconst 1, 1) := by decide +kernel
theorem d_method_3_12 : decode method_3_code 12 = .ok (.goto 4, 3) := by decide +kernel
theorem ef_m_exp (m : MethodId) (x0 : Int32) (x1 : Int32) : entryFrame m #[(.int x0), (.int x1)] 6 = mkF m 0 #[.val (.int x0), .val (.int x1), .unset, .unset, .unset, .unset] [] := by first | (simp [entryFrame, mkF, argsToLocals, Value.category]; done) | rfl
set_option maxRecDepth 65536 in
set_option maxHeartbeats 40000000 in
theorem m_exp (l : Launch) (Z : State) (a0 : Array Value) (hw : ∀ d ∈ tables_1, d.before a0 Z = true) (z : Int32) (f : Int32) (hf : f = 0 ∨ f = 1) :
    Pays l Z a0 (⟨"com/example/fine_events/fineevents/XmlCharactersIsCharacterPinLaw", "expected", "(IZ)Z"⟩ : MethodName) method_3_code 6 (some .boolean) ({ frames := 0, cells := 0, slots := 0, locals := 0 } : Room) #[(.int z), (.int f)] [] (([] : Hs).map (·.1)) (fun v os' => ∃ (r : Int32), v = some (.int r) ∧ os' = [] ∧ ((r = 1 ∧ ((1 ≤ z.toInt ∧ z.toInt ≤ 1114111) ∧ ¬ (55296 ≤ z.toInt ∧ z.toInt ≤ 57343) ∧ ¬ (z.toInt = 65534 ∨ z.toInt = 65535) ∧ ((z.toInt < 32 ∧ z.toInt ≠ 9 ∧ z.toInt ≠ 10 ∧ z.toInt ≠ 13) → f = 1))) ∨ (r = 0 ∧ ¬ ((1 ≤ z.toInt ∧ z.toInt ≤ 1114111) ∧ ¬ (55296 ≤ z.toInt ∧ z.toInt ≤ 57343) ∧ ¬ (z.toInt = 65534 ∨ z.toInt = 65535) ∧ ((z.toInt < 32 ∧ z.toInt ≠ 9 ∧ z.toInt ≠ 10 ∧ z.toInt ≠ 13) → f = 1))))) := by
  refine Pays.of (Ls := #[.val (.int z), .val (.int f), .unset, .unset, .unset, .unset]) (plainFor_of_name pn_0) (fun m => ef_m_exp m z f) ?_
  intro p e s m below meth c T0 A0
  have J16 : ∀ (T1 : State) (w0 : Int32), Here p l e ({ frames := 0, cells := 0, slots := 0, locals := 0 } : Room) s m #[(.int z), (.int f)] below meth c Z a0 (⟨"com/example/fine_events/fineevents/XmlCharactersIsCharacterPinLaw", "expected", "(IZ)Z"⟩ : MethodName) method_3_code 6 (some .boolean) (([] : Hs).map (·.1)) (([] : Hs).map (·.1)) T1 0 0 [] → (((w0 = 1 ∧ (1 ≤ z.toInt ∧ z.toInt ≤ 1114111)) ∨ (w0 = 0 ∧ ¬ (1 ≤ z.toInt ∧ z.toInt ≤ 1114111)))) → Wp p e below Z a0 (([] : Hs).map (·.1)) (([] : Hs).map (·.1)) ({ frames := 0, cells := 0, slots := 0, locals := 0 } : Room) s (fun v os' => ∃ (r : Int32), v = some (.int r) ∧ os' = [] ∧ ((r = 1 ∧ ((1 ≤ z.toInt ∧ z.toInt ≤ 1114111) ∧ ¬ (55296 ≤ z.toInt ∧ z.toInt ≤ 57343) ∧ ¬ (z.toInt = 65534 ∨ z.toInt = 65535) ∧ ((z.toInt < 32 ∧ z.toInt ≠ 9 ∧ z.toInt ≠ 10 ∧ z.toInt ≠ 13) → f = 1))) ∨ (r = 0 ∧ ¬ ((1 ≤ z.toInt ∧ z.toInt ≤ 1114111) ∧ ¬ (55296 ≤ z.toInt ∧ z.toInt ≤ 57343) ∧ ¬ (z.toInt = 65534 ∨ z.toInt = 65535) ∧ ((z.toInt < 32 ∧ z.toInt ≠ 9 ∧ z.toInt ≠ 10 ∧ z.toInt ≠ 13) → f = 1))))) T1 (mkF m 16 #[.val (.int z), .val (.int f), .unset, .unset, .unset, .unset] [(.int w0)]) := by
    intro T1 w0 A2 hJ16
    refine A2.istoreN (q := 17) (l' := #[.val (.int z), .val (.int f), .val (.int w0), .unset, .unset, .unset]) d_method_3_16 rfl rfl ?_
    have J34 : ∀ (T3 : State) (w1 : Int32), Here p l e ({ frames := 0, cells := 0, slots := 0, locals := 0 } : Room) s m #[(.int z), (.int f)] below meth c Z a0 (⟨"com/example/fine_events/fineevents/XmlCharactersIsCharacterPinLaw", "expected", "(IZ)Z"⟩ : MethodName) method_3_code 6 (some .boolean) (([] : Hs).map (·.1)) (([] : Hs).map (·.1)) T3 0 0 [] → (((w1 = 1 ∧ (55296 ≤ z.toInt ∧ z.toInt ≤ 57343)) ∨ (w1 = 0 ∧ ¬ (55296 ≤ z.toInt ∧ z.toInt ≤ 57343)))) → Wp p e below Z a0 (([] : Hs).map (·.1)) (([] : Hs).map (·.1)) ({ frames := 0, cells := 0, slots := 0, locals := 0 } : Room) s (fun v os' => ∃ (r : Int32), v = some (.int r) ∧ os' = [] ∧ ((r = 1 ∧ ((1 ≤ z.toInt ∧ z.toInt ≤ 1114111) ∧ ¬ (55296 ≤ z.toInt ∧ z.toInt ≤ 57343) ∧ ¬ (z.toInt = 65534 ∨ z.toInt = 65535) ∧ ((z.toInt < 32 ∧ z.toInt ≠ 9 ∧ z.toInt ≠ 10 ∧ z.toInt ≠ 13) → f = 1))) ∨ (r = 0 ∧ ¬ ((1 ≤ z.toInt ∧ z.toInt ≤ 1114111) ∧ ¬ (55296 ≤ z.toInt ∧ z.toInt ≤ 57343) ∧ ¬ (z.toInt = 65534 ∨ z.toInt = 65535) ∧ ((z.toInt < 32 ∧ z.toInt ≠ 9 ∧ z.toInt ≠ 10 ∧ z.toInt ≠ 13) → f = 1))))) T3 (mkF m 34 #[.val (.int z), .val (.int f), .val (.int w0), .unset, .unset, .unset] [(.int w1)]) := by
      intro T3 w1 A4 hJ34
      refine A4.istoreN (q := 35) (l' := #[.val (.int z), .val (.int f), .val (.int w0), .val (.int w1), .unset, .unset]) d_method_3_34 rfl rfl ?_
      have J52 : ∀ (T5 : State) (w2 : Int32), Here p l e ({ frames := 0, cells := 0, slots := 0, locals := 0 } : Room) s m #[(.int z), (.int f)] below meth c Z a0 (⟨"com/example/fine_events/fineevents/XmlCharactersIsCharacterPinLaw", "expected", "(IZ)Z"⟩ : MethodName) method_3_code 6 (some .boolean) (([] : Hs).map (·.1)) (([] : Hs).map (·.1)) T5 0 0 [] → (((w2 = 1 ∧ (z.toInt = 65534 ∨ z.toInt = 65535)) ∨ (w2 = 0 ∧ ¬ (z.toInt = 65534 ∨ z.toInt = 65535)))) → Wp p e below Z a0 (([] : Hs).map (·.1)) (([] : Hs).map (·.1)) ({ frames := 0, cells := 0, slots := 0, locals := 0 } : Room) s (fun v os' => ∃ (r : Int32), v = some (.int r) ∧ os' = [] ∧ ((r = 1 ∧ ((1 ≤ z.toInt ∧ z.toInt ≤ 1114111) ∧ ¬ (55296 ≤ z.toInt ∧ z.toInt ≤ 57343) ∧ ¬ (z.toInt = 65534 ∨ z.toInt = 65535) ∧ ((z.toInt < 32 ∧ z.toInt ≠ 9 ∧ z.toInt ≠ 10 ∧ z.toInt ≠ 13) → f = 1))) ∨ (r = 0 ∧ ¬ ((1 ≤ z.toInt ∧ z.toInt ≤ 1114111) ∧ ¬ (55296 ≤ z.toInt ∧ z.toInt ≤ 57343) ∧ ¬ (z.toInt = 65534 ∨ z.toInt = 65535) ∧ ((z.toInt < 32 ∧ z.toInt ≠ 9 ∧ z.toInt ≠ 10 ∧ z.toInt ≠ 13) → f = 1))))) T5 (mkF m 52 #[.val (.int z), .val (.int f), .val (.int w0), .val (.int w1), .unset, .unset] [(.int w2)]) := by
        intro T5 w2 A6 hJ52
        refine A6.istore (q := 54) (l' := #[.val (.int z), .val (.int f), .val (.int w0), .val (.int w1), .val (.int w2), .unset]) d_method_3_52 rfl rfl ?_
        have J83 : ∀ (T7 : State) (w3 : Int32), Here p l e ({ frames := 0, cells := 0, slots := 0, locals := 0 } : Room) s m #[(.int z), (.int f)] below meth c Z a0 (⟨"com/example/fine_events/fineevents/XmlCharactersIsCharacterPinLaw", "expected", "(IZ)Z"⟩ : MethodName) method_3_code 6 (some .boolean) (([] : Hs).map (·.1)) (([] : Hs).map (·.1)) T7 0 0 [] → (((w3 = 1 ∧ (z.toInt < 32 ∧ z.toInt ≠ 9 ∧ z.toInt ≠ 10 ∧ z.toInt ≠ 13)) ∨ (w3 = 0 ∧ ¬ (z.toInt < 32 ∧ z.toInt ≠ 9 ∧ z.toInt ≠ 10 ∧ z.toInt ≠ 13)))) → Wp p e below Z a0 (([] : Hs).map (·.1)) (([] : Hs).map (·.1)) ({ frames := 0, cells := 0, slots := 0, locals := 0 } : Room) s (fun v os' => ∃ (r : Int32), v = some (.int r) ∧ os' = [] ∧ ((r = 1 ∧ ((1 ≤ z.toInt ∧ z.toInt ≤ 1114111) ∧ ¬ (55296 ≤ z.toInt ∧ z.toInt ≤ 57343) ∧ ¬ (z.toInt = 65534 ∨ z.toInt = 65535) ∧ ((z.toInt < 32 ∧ z.toInt ≠ 9 ∧ z.toInt ≠ 10 ∧ z.toInt ≠ 13) → f = 1))) ∨ (r = 0 ∧ ¬ ((1 ≤ z.toInt ∧ z.toInt ≤ 1114111) ∧ ¬ (55296 ≤ z.toInt ∧ z.toInt ≤ 57343) ∧ ¬ (z.toInt = 65534 ∨ z.toInt = 65535) ∧ ((z.toInt < 32 ∧ z.toInt ≠ 9 ∧ z.toInt ≠ 10 ∧ z.toInt ≠ 13) → f = 1))))) T7 (mkF m 83 #[.val (.int z), .val (.int f), .val (.int w0), .val (.int w1), .val (.int w2), .unset] [(.int w3)]) := by
          intro T7 w3 A8 hJ83
          refine A8.istore (q := 85) (l' := #[.val (.int z), .val (.int f), .val (.int w0), .val (.int w1), .val (.int w2), .val (.int w3)]) d_method_3_83 rfl rfl ?_
          refine A8.iloadN (q := 86) d_method_3_85 rfl rfl ?_
          by_cases hc86_9 : w0 = (0 : Int32)
          · refine A8.ifNo (q := 89) d_method_3_86 ((if0 _ _).trans (teq hc86_9).2) rfl ?_
            refine A8.iconst (q := 90) (v := 0) d_method_3_89 rfl rfl ?_
            refine A8.retN (by simp) d_method_3_90 (by decide) (by decide) ⟨(0 : Int32), rfl, rfl, ?_⟩
            clear hw A0 A2 A4 A6 A8
            (try simp only [true_and, and_true, false_and, and_false, true_or, or_true, false_or, or_false, not_true_eq_false, not_false_eq_true, Int32.lt_iff_toInt_lt, Int64.lt_iff_toInt_lt, Int32.le_iff_toInt_le, Int64.le_iff_toInt_le, ← Int32.toInt_inj, ← Int64.toInt_inj, Int32.toInt_add, Int32.toInt_sub, Int32.toInt_neg, Int64.toInt_add, Int64.toInt_sub, Int64.toInt_neg, Int64.toInt_mul, Int32.toInt_toInt64, bm32, bm64, l32_m2147483648, l32_0, l32_1, l32_6, l32_7, l32_8, l32_9, l32_10, l32_11, l32_12, l32_13, l32_32, l32_55295, l32_55296, l32_57343, l32_57344, l32_65533, l32_65534, l32_65535, l32_65536, l32_1114111, l32_2147483647] at hJ16 hJ34 hJ52 hJ83 hc86_9 hf ⊢) <;> omega
          · refine A8.ifYes (q := 91) d_method_3_86 ((if0 _ _).trans (feq hc86_9).2) (by decide) (by decide) ?_
            refine A8.iloadN (q := 92) d_method_3_91 rfl rfl ?_
            by_cases hc92_10 : w1 = (0 : Int32)
            · refine A8.ifNo (q := 95) d_method_3_92 ((if0 _ _).trans (teq hc92_10).2) rfl ?_
              refine A8.iload (q := 97) d_method_3_95 rfl rfl ?_
              by_cases hc97_11 : w2 = (0 : Int32)
              · refine A8.ifYes (q := 102) d_method_3_97 ((if0 _ _).trans (teq hc97_11).1) (by decide) (by decide) ?_
                refine A8.iload (q := 104) d_method_3_102 rfl rfl ?_
                by_cases hc104_12 : w3 = (0 : Int32)
                · refine A8.ifYes (q := 109) d_method_3_104 ((if0 _ _).trans (teq hc104_12).1) (by decide) (by decide) ?_
                  refine A8.iconst (q := 110) (v := 1) d_method_3_109 rfl rfl ?_
                  refine A8.retN (by simp) d_method_3_110 (by decide) (by decide) ⟨(1 : Int32), rfl, rfl, ?_⟩
                  clear hw A0 A2 A4 A6 A8
                  (try simp only [true_and, and_true, false_and, and_false, true_or, or_true, false_or, or_false, not_true_eq_false, not_false_eq_true, Int32.lt_iff_toInt_lt, Int64.lt_iff_toInt_lt, Int32.le_iff_toInt_le, Int64.le_iff_toInt_le, ← Int32.toInt_inj, ← Int64.toInt_inj, Int32.toInt_add, Int32.toInt_sub, Int32.toInt_neg, Int64.toInt_add, Int64.toInt_sub, Int64.toInt_neg, Int64.toInt_mul, Int32.toInt_toInt64, bm32, bm64, l32_m2147483648, l32_0, l32_1, l32_6, l32_7, l32_8, l32_9, l32_10, l32_11, l32_12, l32_13, l32_32, l32_55295, l32_55296, l32_57343, l32_57344, l32_65533, l32_65534, l32_65535, l32_65536, l32_1114111, l32_2147483647] at hJ16 hJ34 hJ52 hJ83 hc86_9 hc92_10 hc97_11 hc104_12 hf ⊢) <;> omega
                · refine A8.ifNo (q := 107) d_method_3_104 ((if0 _ _).trans (feq hc104_12).1) rfl ?_
                  refine A8.iloadN (q := 108) d_method_3_107 rfl rfl ?_
                  refine A8.retN (by simp) d_method_3_108 (by decide) (by decide) ⟨(nar .boolean f), rfl, rfl, ?_⟩
                  clear hw A0 A2 A4 A6 A8
                  have hnb : nar .boolean f = f := by rcases hf with rfl | rfl <;> rfl
                  rw [hnb]
                  (try simp only [true_and, and_true, false_and, and_false, true_or, or_true, false_or, or_false, not_true_eq_false, not_false_eq_true, Int32.lt_iff_toInt_lt, Int64.lt_iff_toInt_lt, Int32.le_iff_toInt_le, Int64.le_iff_toInt_le, ← Int32.toInt_inj, ← Int64.toInt_inj, Int32.toInt_add, Int32.toInt_sub, Int32.toInt_neg, Int64.toInt_add, Int64.toInt_sub, Int64.toInt_neg, Int64.toInt_mul, Int32.toInt_toInt64, bm32, bm64, l32_m2147483648, l32_0, l32_1, l32_6, l32_7, l32_8, l32_9, l32_10, l32_11, l32_12, l32_13, l32_32, l32_55295, l32_55296, l32_57343, l32_57344, l32_65533, l32_65534, l32_65535, l32_65536, l32_1114111, l32_2147483647] at hJ16 hJ34 hJ52 hJ83 hc86_9 hc92_10 hc97_11 hc104_12 hf ⊢) <;> omega
              · refine A8.ifNo (q := 100) d_method_3_97 ((if0 _ _).trans (feq hc97_11).1) rfl ?_
                refine A8.iconst (q := 101) (v := 0) d_method_3_100 rfl rfl ?_
                refine A8.retN (by simp) d_method_3_101 (by decide) (by decide) ⟨(0 : Int32), rfl, rfl, ?_⟩
                clear hw A0 A2 A4 A6 A8
                (try simp only [true_and, and_true, false_and, and_false, true_or, or_true, false_or, or_false, not_true_eq_false, not_false_eq_true, Int32.lt_iff_toInt_lt, Int64.lt_iff_toInt_lt, Int32.le_iff_toInt_le, Int64.le_iff_toInt_le, ← Int32.toInt_inj, ← Int64.toInt_inj, Int32.toInt_add, Int32.toInt_sub, Int32.toInt_neg, Int64.toInt_add, Int64.toInt_sub, Int64.toInt_neg, Int64.toInt_mul, Int32.toInt_toInt64, bm32, bm64, l32_m2147483648, l32_0, l32_1, l32_6, l32_7, l32_8, l32_9, l32_10, l32_11, l32_12, l32_13, l32_32, l32_55295, l32_55296, l32_57343, l32_57344, l32_65533, l32_65534, l32_65535, l32_65536, l32_1114111, l32_2147483647] at hJ16 hJ34 hJ52 hJ83 hc86_9 hc92_10 hc97_11 hf ⊢) <;> omega
            · refine A8.ifYes (q := 100) d_method_3_92 ((if0 _ _).trans (feq hc92_10).2) (by decide) (by decide) ?_
              refine A8.iconst (q := 101) (v := 0) d_method_3_100 rfl rfl ?_
              refine A8.retN (by simp) d_method_3_101 (by decide) (by decide) ⟨(0 : Int32), rfl, rfl, ?_⟩
              clear hw A0 A2 A4 A6 A8
              (try simp only [true_and, and_true, false_and, and_false, true_or, or_true, false_or, or_false, not_true_eq_false, not_false_eq_true, Int32.lt_iff_toInt_lt, Int64.lt_iff_toInt_lt, Int32.le_iff_toInt_le, Int64.le_iff_toInt_le, ← Int32.toInt_inj, ← Int64.toInt_inj, Int32.toInt_add, Int32.toInt_sub, Int32.toInt_neg, Int64.toInt_add, Int64.toInt_sub, Int64.toInt_neg, Int64.toInt_mul, Int32.toInt_toInt64, bm32, bm64, l32_m2147483648, l32_0, l32_1, l32_6, l32_7, l32_8, l32_9, l32_10, l32_11, l32_12, l32_13, l32_32, l32_55295, l32_55296, l32_57343, l32_57344, l32_65533, l32_65534, l32_65535, l32_65536, l32_1114111, l32_2147483647] at hJ16 hJ34 hJ52 hJ83 hc86_9 hc92_10 hf ⊢) <;> omega
        refine A6.iloadN (q := 55) d_method_3_54 rfl rfl ?_
        refine A6.bipush (q := 57) (v := 32) d_method_3_55 rfl rfl ?_
        by_cases hc57_13 : z < (32 : Int32)
        · refine A6.icmpNo (q := 60) d_method_3_57 (tlt hc57_13).2.1 rfl ?_
          refine A6.iloadN (q := 61) d_method_3_60 rfl rfl ?_
          refine A6.bipush (q := 63) (v := 9) d_method_3_61 rfl rfl ?_
          by_cases hc63_14 : z = (9 : Int32)
          · refine A6.icmpYes (q := 82) d_method_3_63 (teq hc63_14).1 (by decide) (by decide) ?_
            refine A6.iconst (q := 83) (v := 0) d_method_3_82 rfl rfl ?_
            refine J83 T5 ((0 : Int32)) A6 ?_
            clear hw J83 A0 A2 A4 A6
            (try simp only [true_and, and_true, false_and, and_false, true_or, or_true, false_or, or_false, not_true_eq_false, not_false_eq_true, Int32.lt_iff_toInt_lt, Int64.lt_iff_toInt_lt, Int32.le_iff_toInt_le, Int64.le_iff_toInt_le, ← Int32.toInt_inj, ← Int64.toInt_inj, Int32.toInt_add, Int32.toInt_sub, Int32.toInt_neg, Int64.toInt_add, Int64.toInt_sub, Int64.toInt_neg, Int64.toInt_mul, Int32.toInt_toInt64, bm32, bm64, l32_m2147483648, l32_0, l32_1, l32_6, l32_7, l32_8, l32_9, l32_10, l32_11, l32_12, l32_13, l32_32, l32_55295, l32_55296, l32_57343, l32_57344, l32_65533, l32_65534, l32_65535, l32_65536, l32_1114111, l32_2147483647] at hJ16 hJ34 hJ52 hc57_13 hc63_14 hf ⊢) <;> omega
          · refine A6.icmpNo (q := 66) d_method_3_63 (feq hc63_14).1 rfl ?_
            refine A6.iloadN (q := 67) d_method_3_66 rfl rfl ?_
            refine A6.bipush (q := 69) (v := 10) d_method_3_67 rfl rfl ?_
            by_cases hc69_15 : z = (10 : Int32)
            · refine A6.icmpYes (q := 82) d_method_3_69 (teq hc69_15).1 (by decide) (by decide) ?_
              refine A6.iconst (q := 83) (v := 0) d_method_3_82 rfl rfl ?_
              refine J83 T5 ((0 : Int32)) A6 ?_
              clear hw J83 A0 A2 A4 A6
              (try simp only [true_and, and_true, false_and, and_false, true_or, or_true, false_or, or_false, not_true_eq_false, not_false_eq_true, Int32.lt_iff_toInt_lt, Int64.lt_iff_toInt_lt, Int32.le_iff_toInt_le, Int64.le_iff_toInt_le, ← Int32.toInt_inj, ← Int64.toInt_inj, Int32.toInt_add, Int32.toInt_sub, Int32.toInt_neg, Int64.toInt_add, Int64.toInt_sub, Int64.toInt_neg, Int64.toInt_mul, Int32.toInt_toInt64, bm32, bm64, l32_m2147483648, l32_0, l32_1, l32_6, l32_7, l32_8, l32_9, l32_10, l32_11, l32_12, l32_13, l32_32, l32_55295, l32_55296, l32_57343, l32_57344, l32_65533, l32_65534, l32_65535, l32_65536, l32_1114111, l32_2147483647] at hJ16 hJ34 hJ52 hc57_13 hc63_14 hc69_15 hf ⊢) <;> omega
            · refine A6.icmpNo (q := 72) d_method_3_69 (feq hc69_15).1 rfl ?_
              refine A6.iloadN (q := 73) d_method_3_72 rfl rfl ?_
              refine A6.bipush (q := 75) (v := 13) d_method_3_73 rfl rfl ?_
              by_cases hc75_16 : z = (13 : Int32)
              · refine A6.icmpYes (q := 82) d_method_3_75 (teq hc75_16).1 (by decide) (by decide) ?_
                refine A6.iconst (q := 83) (v := 0) d_method_3_82 rfl rfl ?_
                refine J83 T5 ((0 : Int32)) A6 ?_
                clear hw J83 A0 A2 A4 A6
                (try simp only [true_and, and_true, false_and, and_false, true_or, or_true, false_or, or_false, not_true_eq_false, not_false_eq_true, Int32.lt_iff_toInt_lt, Int64.lt_iff_toInt_lt, Int32.le_iff_toInt_le, Int64.le_iff_toInt_le, ← Int32.toInt_inj, ← Int64.toInt_inj, Int32.toInt_add, Int32.toInt_sub, Int32.toInt_neg, Int64.toInt_add, Int64.toInt_sub, Int64.toInt_neg, Int64.toInt_mul, Int32.toInt_toInt64, bm32, bm64, l32_m2147483648, l32_0, l32_1, l32_6, l32_7, l32_8, l32_9, l32_10, l32_11, l32_12, l32_13, l32_32, l32_55295, l32_55296, l32_57343, l32_57344, l32_65533, l32_65534, l32_65535, l32_65536, l32_1114111, l32_2147483647] at hJ16 hJ34 hJ52 hc57_13 hc63_14 hc69_15 hc75_16 hf ⊢) <;> omega
              · refine A6.icmpNo (q := 78) d_method_3_75 (feq hc75_16).1 rfl ?_
                refine A6.iconst (q := 79) (v := 1) d_method_3_78 rfl rfl ?_
                refine A6.goto (q := 83) d_method_3_79 (by decide) (by decide) ?_
                refine J83 T5 ((1 : Int32)) A6 ?_
                clear hw J83 A0 A2 A4 A6
                (try simp only [true_and, and_true, false_and, and_false, true_or, or_true, false_or, or_false, not_true_eq_false, not_false_eq_true, Int32.lt_iff_toInt_lt, Int64.lt_iff_toInt_lt, Int32.le_iff_toInt_le, Int64.le_iff_toInt_le, ← Int32.toInt_inj, ← Int64.toInt_inj, Int32.toInt_add, Int32.toInt_sub, Int32.toInt_neg, Int64.toInt_add, Int64.toInt_sub, Int64.toInt_neg, Int64.toInt_mul, Int32.toInt_toInt64, bm32, bm64, l32_m2147483648, l32_0, l32_1, l32_6, l32_7, l32_8, l32_9, l32_10, l32_11, l32_12, l32_13, l32_32, l32_55295, l32_55296, l32_57343, l32_57344, l32_65533, l32_65534, l32_65535, l32_65536, l32_1114111, l32_2147483647] at hJ16 hJ34 hJ52 hc57_13 hc63_14 hc69_15 hc75_16 hf ⊢) <;> omega
        · refine A6.icmpYes (q := 82) d_method_3_57 (flt hc57_13).2.1 (by decide) (by decide) ?_
          refine A6.iconst (q := 83) (v := 0) d_method_3_82 rfl rfl ?_
          refine J83 T5 ((0 : Int32)) A6 ?_
          clear hw J83 A0 A2 A4 A6
          (try simp only [true_and, and_true, false_and, and_false, true_or, or_true, false_or, or_false, not_true_eq_false, not_false_eq_true, Int32.lt_iff_toInt_lt, Int64.lt_iff_toInt_lt, Int32.le_iff_toInt_le, Int64.le_iff_toInt_le, ← Int32.toInt_inj, ← Int64.toInt_inj, Int32.toInt_add, Int32.toInt_sub, Int32.toInt_neg, Int64.toInt_add, Int64.toInt_sub, Int64.toInt_neg, Int64.toInt_mul, Int32.toInt_toInt64, bm32, bm64, l32_m2147483648, l32_0, l32_1, l32_6, l32_7, l32_8, l32_9, l32_10, l32_11, l32_12, l32_13, l32_32, l32_55295, l32_55296, l32_57343, l32_57344, l32_65533, l32_65534, l32_65535, l32_65536, l32_1114111, l32_2147483647] at hJ16 hJ34 hJ52 hc57_13 hf ⊢) <;> omega
      refine A4.iloadN (q := 36) d_method_3_35 rfl rfl ?_
      refine A4.ldc (qn := 38) (v := 65534) (tw hw 20 rfl) d_method_3_36 rfl ?_
      by_cases hc38_17 : z = (65534 : Int32)
      · refine A4.icmpYes (q := 47) d_method_3_38 (teq hc38_17).1 (by decide) (by decide) ?_
        refine A4.iconst (q := 48) (v := 1) d_method_3_47 rfl rfl ?_
        refine A4.goto (q := 52) d_method_3_48 (by decide) (by decide) ?_
        refine J52 T3 ((1 : Int32)) A4 ?_
        clear hw J52 A0 A2 A4
        (try simp only [true_and, and_true, false_and, and_false, true_or, or_true, false_or, or_false, not_true_eq_false, not_false_eq_true, Int32.lt_iff_toInt_lt, Int64.lt_iff_toInt_lt, Int32.le_iff_toInt_le, Int64.le_iff_toInt_le, ← Int32.toInt_inj, ← Int64.toInt_inj, Int32.toInt_add, Int32.toInt_sub, Int32.toInt_neg, Int64.toInt_add, Int64.toInt_sub, Int64.toInt_neg, Int64.toInt_mul, Int32.toInt_toInt64, bm32, bm64, l32_m2147483648, l32_0, l32_1, l32_6, l32_7, l32_8, l32_9, l32_10, l32_11, l32_12, l32_13, l32_32, l32_55295, l32_55296, l32_57343, l32_57344, l32_65533, l32_65534, l32_65535, l32_65536, l32_1114111, l32_2147483647] at hJ16 hJ34 hc38_17 hf ⊢) <;> omega
      · refine A4.icmpNo (q := 41) d_method_3_38 (feq hc38_17).1 rfl ?_
        refine A4.iloadN (q := 42) d_method_3_41 rfl rfl ?_
        refine A4.ldc (qn := 44) (v := 65535) (tw hw 21 rfl) d_method_3_42 rfl ?_
        by_cases hc44_18 : z = (65535 : Int32)
        · refine A4.icmpNo (q := 47) d_method_3_44 (teq hc44_18).2 rfl ?_
          refine A4.iconst (q := 48) (v := 1) d_method_3_47 rfl rfl ?_
          refine A4.goto (q := 52) d_method_3_48 (by decide) (by decide) ?_
          refine J52 T3 ((1 : Int32)) A4 ?_
          clear hw J52 A0 A2 A4
          (try simp only [true_and, and_true, false_and, and_false, true_or, or_true, false_or, or_false, not_true_eq_false, not_false_eq_true, Int32.lt_iff_toInt_lt, Int64.lt_iff_toInt_lt, Int32.le_iff_toInt_le, Int64.le_iff_toInt_le, ← Int32.toInt_inj, ← Int64.toInt_inj, Int32.toInt_add, Int32.toInt_sub, Int32.toInt_neg, Int64.toInt_add, Int64.toInt_sub, Int64.toInt_neg, Int64.toInt_mul, Int32.toInt_toInt64, bm32, bm64, l32_m2147483648, l32_0, l32_1, l32_6, l32_7, l32_8, l32_9, l32_10, l32_11, l32_12, l32_13, l32_32, l32_55295, l32_55296, l32_57343, l32_57344, l32_65533, l32_65534, l32_65535, l32_65536, l32_1114111, l32_2147483647] at hJ16 hJ34 hc38_17 hc44_18 hf ⊢) <;> omega
        · refine A4.icmpYes (q := 51) d_method_3_44 (feq hc44_18).2 (by decide) (by decide) ?_
          refine A4.iconst (q := 52) (v := 0) d_method_3_51 rfl rfl ?_
          refine J52 T3 ((0 : Int32)) A4 ?_
          clear hw J52 A0 A2 A4
          (try simp only [true_and, and_true, false_and, and_false, true_or, or_true, false_or, or_false, not_true_eq_false, not_false_eq_true, Int32.lt_iff_toInt_lt, Int64.lt_iff_toInt_lt, Int32.le_iff_toInt_le, Int64.le_iff_toInt_le, ← Int32.toInt_inj, ← Int64.toInt_inj, Int32.toInt_add, Int32.toInt_sub, Int32.toInt_neg, Int64.toInt_add, Int64.toInt_sub, Int64.toInt_neg, Int64.toInt_mul, Int32.toInt_toInt64, bm32, bm64, l32_m2147483648, l32_0, l32_1, l32_6, l32_7, l32_8, l32_9, l32_10, l32_11, l32_12, l32_13, l32_32, l32_55295, l32_55296, l32_57343, l32_57344, l32_65533, l32_65534, l32_65535, l32_65536, l32_1114111, l32_2147483647] at hJ16 hJ34 hc38_17 hc44_18 hf ⊢) <;> omega
    refine A2.iloadN (q := 18) d_method_3_17 rfl rfl ?_
    refine A2.ldc (qn := 20) (v := 55296) (tw hw 19 rfl) d_method_3_18 rfl ?_
    by_cases hc20_19 : z < (55296 : Int32)
    · refine A2.icmpYes (q := 33) d_method_3_20 (tlt hc20_19).1 (by decide) (by decide) ?_
      refine A2.iconst (q := 34) (v := 0) d_method_3_33 rfl rfl ?_
      refine J34 T1 ((0 : Int32)) A2 ?_
      clear hw J34 A0 A2
      (try simp only [true_and, and_true, false_and, and_false, true_or, or_true, false_or, or_false, not_true_eq_false, not_false_eq_true, Int32.lt_iff_toInt_lt, Int64.lt_iff_toInt_lt, Int32.le_iff_toInt_le, Int64.le_iff_toInt_le, ← Int32.toInt_inj, ← Int64.toInt_inj, Int32.toInt_add, Int32.toInt_sub, Int32.toInt_neg, Int64.toInt_add, Int64.toInt_sub, Int64.toInt_neg, Int64.toInt_mul, Int32.toInt_toInt64, bm32, bm64, l32_m2147483648, l32_0, l32_1, l32_6, l32_7, l32_8, l32_9, l32_10, l32_11, l32_12, l32_13, l32_32, l32_55295, l32_55296, l32_57343, l32_57344, l32_65533, l32_65534, l32_65535, l32_65536, l32_1114111, l32_2147483647] at hJ16 hc20_19 hf ⊢) <;> omega
    · refine A2.icmpNo (q := 23) d_method_3_20 (flt hc20_19).1 rfl ?_
      refine A2.iloadN (q := 24) d_method_3_23 rfl rfl ?_
      refine A2.ldc (qn := 26) (v := 57343) (tw hw 27 rfl) d_method_3_24 rfl ?_
      by_cases hc26_20 : (57343 : Int32) < z
      · refine A2.icmpYes (q := 33) d_method_3_26 (tlt hc26_20).2.2.1 (by decide) (by decide) ?_
        refine A2.iconst (q := 34) (v := 0) d_method_3_33 rfl rfl ?_
        refine J34 T1 ((0 : Int32)) A2 ?_
        clear hw J34 A0 A2
        (try simp only [true_and, and_true, false_and, and_false, true_or, or_true, false_or, or_false, not_true_eq_false, not_false_eq_true, Int32.lt_iff_toInt_lt, Int64.lt_iff_toInt_lt, Int32.le_iff_toInt_le, Int64.le_iff_toInt_le, ← Int32.toInt_inj, ← Int64.toInt_inj, Int32.toInt_add, Int32.toInt_sub, Int32.toInt_neg, Int64.toInt_add, Int64.toInt_sub, Int64.toInt_neg, Int64.toInt_mul, Int32.toInt_toInt64, bm32, bm64, l32_m2147483648, l32_0, l32_1, l32_6, l32_7, l32_8, l32_9, l32_10, l32_11, l32_12, l32_13, l32_32, l32_55295, l32_55296, l32_57343, l32_57344, l32_65533, l32_65534, l32_65535, l32_65536, l32_1114111, l32_2147483647] at hJ16 hc20_19 hc26_20 hf ⊢) <;> omega
      · refine A2.icmpNo (q := 29) d_method_3_26 (flt hc26_20).2.2.1 rfl ?_
        refine A2.iconst (q := 30) (v := 1) d_method_3_29 rfl rfl ?_
        refine A2.goto (q := 34) d_method_3_30 (by decide) (by decide) ?_
        refine J34 T1 ((1 : Int32)) A2 ?_
        clear hw J34 A0 A2
        (try simp only [true_and, and_true, false_and, and_false, true_or, or_true, false_or, or_false, not_true_eq_false, not_false_eq_true, Int32.lt_iff_toInt_lt, Int64.lt_iff_toInt_lt, Int32.le_iff_toInt_le, Int64.le_iff_toInt_le, ← Int32.toInt_inj, ← Int64.toInt_inj, Int32.toInt_add, Int32.toInt_sub, Int32.toInt_neg, Int64.toInt_add, Int64.toInt_sub, Int64.toInt_neg, Int64.toInt_mul, Int32.toInt_toInt64, bm32, bm64, l32_m2147483648, l32_0, l32_1, l32_6, l32_7, l32_8, l32_9, l32_10, l32_11, l32_12, l32_13, l32_32, l32_55295, l32_55296, l32_57343, l32_57344, l32_65533, l32_65534, l32_65535, l32_65536, l32_1114111, l32_2147483647] at hJ16 hc20_19 hc26_20 hf ⊢) <;> omega
  refine A0.iloadN (q := 1) d_method_3_0 rfl rfl ?_
  refine A0.iconst (q := 2) (v := 1) d_method_3_1 rfl rfl ?_
  by_cases hc2_21 : z < (1 : Int32)
  · refine A0.icmpYes (q := 15) d_method_3_2 (tlt hc2_21).1 (by decide) (by decide) ?_
    refine A0.iconst (q := 16) (v := 0) d_method_3_15 rfl rfl ?_
    refine J16 T0 ((0 : Int32)) A0 ?_
    clear hw J16 A0
    (try simp only [true_and, and_true, false_and, and_false, true_or, or_true, false_or, or_false, not_true_eq_false, not_false_eq_true, Int32.lt_iff_toInt_lt, Int64.lt_iff_toInt_lt, Int32.le_iff_toInt_le, Int64.le_iff_toInt_le, ← Int32.toInt_inj, ← Int64.toInt_inj, Int32.toInt_add, Int32.toInt_sub, Int32.toInt_neg, Int64.toInt_add, Int64.toInt_sub, Int64.toInt_neg, Int64.toInt_mul, Int32.toInt_toInt64, bm32, bm64, l32_m2147483648, l32_0, l32_1, l32_6, l32_7, l32_8, l32_9, l32_10, l32_11, l32_12, l32_13, l32_32, l32_55295, l32_55296, l32_57343, l32_57344, l32_65533, l32_65534, l32_65535, l32_65536, l32_1114111, l32_2147483647] at hc2_21 hf ⊢) <;> omega
  · refine A0.icmpNo (q := 5) d_method_3_2 (flt hc2_21).1 rfl ?_
    refine A0.iloadN (q := 6) d_method_3_5 rfl rfl ?_
    refine A0.ldc (qn := 8) (v := 1114111) (tw hw 9 rfl) d_method_3_6 rfl ?_
    by_cases hc8_22 : (1114111 : Int32) < z
    · refine A0.icmpYes (q := 15) d_method_3_8 (tlt hc8_22).2.2.1 (by decide) (by decide) ?_
      refine A0.iconst (q := 16) (v := 0) d_method_3_15 rfl rfl ?_
      refine J16 T0 ((0 : Int32)) A0 ?_
      clear hw J16 A0
      (try simp only [true_and, and_true, false_and, and_false, true_or, or_true, false_or, or_false, not_true_eq_false, not_false_eq_true, Int32.lt_iff_toInt_lt, Int64.lt_iff_toInt_lt, Int32.le_iff_toInt_le, Int64.le_iff_toInt_le, ← Int32.toInt_inj, ← Int64.toInt_inj, Int32.toInt_add, Int32.toInt_sub, Int32.toInt_neg, Int64.toInt_add, Int64.toInt_sub, Int64.toInt_neg, Int64.toInt_mul, Int32.toInt_toInt64, bm32, bm64, l32_m2147483648, l32_0, l32_1, l32_6, l32_7, l32_8, l32_9, l32_10, l32_11, l32_12, l32_13, l32_32, l32_55295, l32_55296, l32_57343, l32_57344, l32_65533, l32_65534, l32_65535, l32_65536, l32_1114111, l32_2147483647] at hc2_21 hc8_22 hf ⊢) <;> omega
    · refine A0.icmpNo (q := 11) d_method_3_8 (flt hc8_22).2.2.1 rfl ?_
      refine A0.iconst (q := 12) (v := 1) d_method_3_11 rfl rfl ?_
      refine A0.goto (q := 16) d_method_3_12 (by decide) (by decide) ?_
      refine J16 T0 ((1 : Int32)) A0 ?_
      clear hw J16 A0
      (try simp only [true_and, and_true, false_and, and_false, true_or, or_true, false_or, or_false, not_true_eq_false, not_false_eq_true, Int32.lt_iff_toInt_lt, Int64.lt_iff_toInt_lt, Int32.le_iff_toInt_le, Int64.le_iff_toInt_le, ← Int32.toInt_inj, ← Int64.toInt_inj, Int32.toInt_add, Int32.toInt_sub, Int32.toInt_neg, Int64.toInt_add, Int64.toInt_sub, Int64.toInt_neg, Int64.toInt_mul, Int32.toInt_toInt64, bm32, bm64, l32_m2147483648, l32_0, l32_1, l32_6, l32_7, l32_8, l32_9, l32_10, l32_11, l32_12, l32_13, l32_32, l32_55295, l32_55296, l32_57343, l32_57344, l32_65533, l32_65534, l32_65535, l32_65536, l32_1114111, l32_2147483647] at hc2_21 hc8_22 hf ⊢) <;> omega
theorem pd_2 : parseMethodDescriptor "(IZ)Z" = some ⟨[.int, .boolean], some .boolean⟩ := by decide +kernel
theorem pd_3 : parseMethodDescriptor "(II)I" = some ⟨[.int, .int], some .int⟩ := by decide +kernel
theorem ef_m_law (m : MethodId) (x0 : Int32) (x1 : Int32) (x2 : Int32) : entryFrame m #[(.int x0), (.int x1), (.int x2)] maxLocals = mkF m 0 #[.val (.int x0), .val (.int x1), .val (.int x2), .unset, .unset, .unset] [] := by first | (simp [entryFrame, mkF, argsToLocals, Value.category, maxLocals]; done) | rfl
set_option maxRecDepth 65536 in
set_option maxHeartbeats 40000000 in
theorem m_law (l : Launch) (Z : State) (a0 : Array Value) (hw : ∀ d ∈ tables_1, d.before a0 Z = true) (x0 : Int32) (x1 : Int32) (x2 : Int32) :
    Pays l Z a0 x code maxLocals ret room_1 #[(.int x0), (.int x1), (.int x2)] [] (([] : Hs).map (·.1)) (fun v os' => v = some (.int 1) ∧ True) := by
  refine Pays.of (Ls := #[.val (.int x0), .val (.int x1), .val (.int x2), .unset, .unset, .unset]) (plainFor_of_name pn_0) (fun m => ef_m_law m x0 x1 x2) ?_
  intro p e s m below meth c T0 A0
  have J11 : ∀ (T1 : State) (w : Int32), Here p l e room_1 s m #[(.int x0), (.int x1), (.int x2)] below meth c Z a0 x code maxLocals ret (([] : Hs).map (·.1)) (([] : Hs).map (·.1)) T1 0 0 [] → (w = 0 ∨ w = 1) → Wp p e below Z a0 (([] : Hs).map (·.1)) (([] : Hs).map (·.1)) room_1 s (fun v os' => v = some (.int 1) ∧ True) T1 (mkF m 11 #[.val (.int x0), .val (.int x1), .val (.int x2), .unset, .unset, .unset] [(.int w)]) := by
    intro T1 w A2 hJ11
    refine A2.istoreN (q := 12) (l' := #[.val (.int x0), .val (.int x1), .val (.int x2), .val (.int w), .unset, .unset]) at_11 rfl rfl ?_
    have J39 : ∀ (T3 : State) (g : Int32) (h4 : Slot), Here p l e room_1 s m #[(.int x0), (.int x1), (.int x2)] below meth c Z a0 x code maxLocals ret (([] : Hs).map (·.1)) (([] : Hs).map (·.1)) T3 1 12 [] → Wp p e below Z a0 (([] : Hs).map (·.1)) (([] : Hs).map (·.1)) room_1 s (fun v os' => v = some (.int 1) ∧ True) T3 (mkF m 39 #[.val (.int x0), .val (.int x1), .val (.int x2), .val (.int w), h4, .unset] [(.int g)]) := by
      intro T3 g h4 A4 
      refine A4.istore (q := 41) (l' := #[.val (.int x0), .val (.int x1), .val (.int x2), .val (.int w), h4, .val (.int g)]) at_39 rfl rfl ?_
      refine A4.iload (q := 43) at_41 rfl rfl ?_
      refine A4.iloadN (q := 44) at_43 rfl rfl ?_
      refine Here.callS (qn := 47) (os1 := []) (os2 := []) (rest := []) (W := 0) (argsL := [(.int g), (.int w)]) A4 (m_isc l Z a0 hw g w (hJ11)) (Or.inl rfl) (tw hw 12 rfl) (tw hw 13 rfl) (tw hw 14 rfl) (tw hw 15 rfl) (by decide) at_44 rfl (lenOf pd_2 rfl) rfl (Nat.le_of_eq rfl) (by decide) (by decide) (by decide) (by decide) rfl (fun T5 v6 os7 A8 P9 => ?_)
      obtain ⟨r_44, rfl, rfl, hq_44⟩ := P9
      have A10 := A8.cast (k2 := 1) (n2 := 12) (os2 := []) rfl rfl rfl
      refine A10.iload (q := 49) at_47 rfl rfl ?_
      refine A10.iloadN (q := 50) at_49 rfl rfl ?_
      refine Here.callS (qn := 53) (os1 := []) (os2 := []) (rest := [(.int r_44)]) (W := 1) (argsL := [(.int g), (.int w)]) A10 (m_exp l Z a0 hw g w (hJ11)) (Or.inl rfl) (tw hw 16 rfl) (tw hw 17 rfl) (tw hw 2 rfl) (tw hw 18 rfl) (by decide) at_50 rfl (lenOf pd_2 rfl) rfl (Nat.le_of_eq rfl) (by decide) (by decide) (by decide) (by decide) rfl (fun T11 v12 os13 A14 P15 => ?_)
      obtain ⟨r_50, rfl, rfl, hq_50⟩ := P15
      have A16 := A14.cast (k2 := 1) (n2 := 12) (os2 := []) rfl rfl rfl
      have hc53_17 : r_44 = r_50 := by
        clear hw A0 A2 A4 A8 A10 A14 A16
        (try simp only [true_and, and_true, false_and, and_false, true_or, or_true, false_or, or_false, not_true_eq_false, not_false_eq_true, Int32.lt_iff_toInt_lt, Int64.lt_iff_toInt_lt, Int32.le_iff_toInt_le, Int64.le_iff_toInt_le, ← Int32.toInt_inj, ← Int64.toInt_inj, Int32.toInt_add, Int32.toInt_sub, Int32.toInt_neg, Int64.toInt_add, Int64.toInt_sub, Int64.toInt_neg, Int64.toInt_mul, Int32.toInt_toInt64, bm32, bm64, l32_m2147483648, l32_0, l32_1, l32_6, l32_7, l32_8, l32_9, l32_10, l32_11, l32_12, l32_13, l32_32, l32_55295, l32_55296, l32_57343, l32_57344, l32_65533, l32_65534, l32_65535, l32_65536, l32_1114111, l32_2147483647] at hJ11 hq_44 hq_50 ⊢) <;> omega
      refine A16.icmpNo (q := 56) at_53 (teq hc53_17).2 rfl ?_
      refine A16.iconst (q := 57) (v := 1) at_56 rfl rfl ?_
      refine A16.goto (q := 61) at_57 (by decide) (by decide) ?_
      exact A16.retN (by simp) at_61 (by decide) (by decide) ⟨rfl, trivial⟩
    refine A2.iloadN (q := 13) at_12 rfl rfl ?_
    refine A2.iconst (q := 14) (v := 2) at_13 rfl rfl ?_
    refine A2.iand (q := 15) at_14 rfl ?_
    by_cases hc15_18 : (x2 &&& (2 : Int32)) = (0 : Int32)
    · refine A2.ifYes (q := 22) at_15 ((if0 _ _).trans (teq hc15_18).1) (by decide) (by decide) ?_
      refine A2.iconst (q := 23) (v := 0) at_22 rfl rfl ?_
      refine A2.istore (q := 25) (l' := #[.val (.int x0), .val (.int x1), .val (.int x2), .val (.int w), .val (.int 0), .unset]) at_23 rfl rfl ?_
      refine A2.iload (q := 27) at_25 rfl rfl ?_
      refine A2.ifYes (q := 38) at_27 (by decide) (by decide) (by decide) ?_
      refine A2.iloadN (q := 39) at_38 rfl rfl ?_
      have A19 := A2.more (k2 := 1) (n2 := 12) (by decide) (by decide)
      exact J39 T1 (x0) ((.val (.int 0))) A19
    · refine A2.ifNo (q := 18) at_15 ((if0 _ _).trans (feq hc15_18).1) rfl ?_
      refine A2.iconst (q := 19) (v := 1) at_18 rfl rfl ?_
      refine A2.goto (q := 23) at_19 (by decide) (by decide) ?_
      refine A2.istore (q := 25) (l' := #[.val (.int x0), .val (.int x1), .val (.int x2), .val (.int w), .val (.int 1), .unset]) at_23 rfl rfl ?_
      refine A2.iload (q := 27) at_25 rfl rfl ?_
      refine A2.ifNo (q := 30) at_27 (by decide) rfl ?_
      refine A2.iloadN (q := 31) at_30 rfl rfl ?_
      refine A2.iloadN (q := 32) at_31 rfl rfl ?_
      refine Here.callS (qn := 35) (os1 := []) (os2 := []) (rest := []) (W := 0) (argsL := [(.int x0), (.int x1)]) A2 (m_near l Z a0 hw x0 x1) (Or.inl rfl) (tw hw 0 rfl) (tw hw 1 rfl) (tw hw 2 rfl) (tw hw 3 rfl) (by decide) at_32 rfl (lenOf pd_3 rfl) rfl (Nat.le_of_eq rfl) (by decide) (by decide) (by decide) (by decide) rfl (fun T20 v21 os22 A23 P24 => ?_)
      obtain ⟨r_32, rfl, rfl⟩ := P24
      have A25 := A23.cast (k2 := 1) (n2 := 12) (os2 := []) rfl rfl rfl
      refine A25.goto (q := 39) at_35 (by decide) (by decide) ?_
      exact J39 T20 (r_32) ((.val (.int 1))) A25
  refine A0.iloadN (q := 1) at_0 rfl rfl ?_
  refine A0.iconst (q := 2) (v := 1) at_1 rfl rfl ?_
  refine A0.iand (q := 3) at_2 rfl ?_
  by_cases hc3_26 : (x2 &&& (1 : Int32)) = (0 : Int32)
  · refine A0.ifYes (q := 10) at_3 ((if0 _ _).trans (teq hc3_26).1) (by decide) (by decide) ?_
    refine A0.iconst (q := 11) (v := 0) at_10 rfl rfl ?_
    refine J11 T0 ((0 : Int32)) A0 ?_
    clear hw J11 A0
    simp
  · refine A0.ifNo (q := 6) at_3 ((if0 _ _).trans (feq hc3_26).1) rfl ?_
    refine A0.iconst (q := 7) (v := 1) at_6 rfl rfl ?_
    refine A0.goto (q := 11) at_7 (by decide) (by decide) ?_
    refine J11 T0 ((1 : Int32)) A0 ?_
    clear hw J11 A0
    simp
set_option maxRecDepth 65536 in
set_option maxHeartbeats 40000000 in
theorem comes_1 {Post : Tables → Env → Array Value → State → Outcome → State → Prop} (hpost : ∀ tb e args s v u, (limb_1_1.after args s (.returned v) u = true ∧ limb_1_2.after args s (.returned v) u = true ∧ True) → FrameEnd s (.returned v) u (Jvm.fieldLocs frame_1_writes args s ++ Jvm.arrayLocs frame_1_arrays args s ++ Jvm.staticLocs frame_1_statics s) 16 128 → Post tb e args s (.returned v) u) :
    ArmFor flags0 classFile x code maxLocals ret World_1 tables_1 room_1 Calls_1 rest_1 Pre_1 Post := by
  intro l hfl _ _ p e ha hc hk s m args below hf hA hF happ hP
  obtain ⟨hcalls, hrest, hpre⟩ := hP
  obtain ⟨-, -, -, hnamed, -, -, -, hat⟩ := (Spec.applies_iff hf).mp happ
  obtain ⟨hg, hn⟩ := and_e (Cond.before_iff.mp (show (Jvm.Cond.and given_1 narrow_1).before args s = true from hpre))
  obtain ⟨g11, g12⟩ := and_e hg
  obtain ⟨g13, g14⟩ := and_e g12
  obtain ⟨g15, g16⟩ := and_e g14
  obtain ⟨w0, w1, w2, rfl⟩ : ∃ w0 w1 w2 : Value, args = #[w0, w1, w2] := by
    have hs : args.size = 3 := by simpa [Cond.value, given_1] using g11
    obtain ⟨L⟩ := args
    match L, hs with
    | [w0, w1, w2], _ => exact ⟨w0, w1, w2, rfl⟩
  have hw := fun d (hd : d ∈ tables_1) => atoms_spec (ws := Jvm.Cond.code x code maxLocals ret :: tables_1) hat d (List.mem_cons_of_mem _ hd)
  obtain ⟨i0, ei0⟩ := is_v g13
  obtain rfl : w0 = (.int i0) := Option.some.inj ei0
  obtain ⟨i1, ei1⟩ := is_v g15
  obtain rfl : w1 = (.int i1) := Option.some.inj ei1
  obtain ⟨i2, ei2⟩ := is_v g16
  obtain rfl : w2 = (.int i2) := Option.some.inj ei2
  obtain ⟨n, o, h1, h2, h3, _, L, rfl, ⟨N, _, _, rfl, _⟩, hq⟩ := m_law l s _ hw i0 i1 i2 tables_1 s.heap ⟨List.nodup_nil, fun _ q => (nomatch q)⟩ p e ha hc hk s m _ below hf ((Spec.applies_iff_loose hf).mp happ).1 ⟨rfl, State.Warmed39.refl s, rfl⟩ trivial
  refine ⟨n, _, h1, h2, h3, hpost _ _ _ _ _ _ ⟨Cond.after_iff.mpr rfl, Cond.after_iff.mpr (eq_i res_at (Term.int_eval (1)) rfl), trivial⟩ ⟨hq.1, hq.2.1, (hq.2.2.sift fun y hy => Or.inr ((N y hy).elim (fun q => absurd q List.not_mem_nil) id)).mono (by decide) (by decide)⟩⟩
theorem main_1_1 : Claimed_1_1 := comes_1 fun _ _ _ _ _ _ h hF => ⟨h.1, hF⟩
theorem main_1_2 : Claimed_1_2 := comes_1 fun _ _ _ _ _ _ h hF => ⟨h.2.1, hF⟩
end Jvm.Pilot.@@N@@
namespace Jvm.Pilot.@@N@@
open Jvm Jvm.ClassFile Sem Op Lib Jvm.Free Jvm.Stand Jvm.Pilot.@@N@@.Jvm.D
/-! MADE BY PROGRAM (witnessworld.py) out of the Statement's table words and the real class files: 9 classes; the members and pool entries that the words name. The judged class is class 1, her method 3. -/
namespace start1
open Jvm.ClassFile
def u (s : String) : CpInfo := .utf8 (stringToUtf16 s)
/-- a pool by its gaps: so many unusable entries, then the entry; so many at the end -/
def gap : Nat → List CpInfo → List CpInfo
  | 0, r => r
  | n + 1, r => .unusable :: gap n r
def poolList (es : List (Nat × CpInfo)) (last : Nat) : List CpInfo := es.foldr (fun e r => gap e.1 (e.2 :: r)) (gap last [])
def pool (es : List (Nat × CpInfo)) (last : Nat) : Array CpInfo := ⟨poolList es last⟩
def fileOf (pool : Array CpInfo) (this : Nat) (attrs : Array Attribute := #[]) (ms : Array MethodInfo := #[]) (fl : Nat := 33) (sup : Nat := 0) (ifs : Array Nat := #[]) (fds : Array FieldInfo := #[]) : ClassFile where
  minorVersion := 0
  majorVersion := 65
  constantPool := pool
  accessFlags := fl
  thisClass := this
  superClass := sup
  interfaces := ifs
  fields := fds
  methods := ms
  attributes := attrs
def plain (name : String) (sup : Option ClassId) : Class where
  name := name
  kind := .ordinary
  loader := none
  accessFlags := 33
  super := sup
  interfaces := #[]
  cf := none
  fields := #[]
  methods := #[]
  instanceTypes := #[]
  staticTypes := #[]
  resolved := #[]
  callSites := []
  init := .initialized
  statics := none
  mirror := none

def pool0 : Array CpInfo := pool [(5, u "<init>"), (0, u "()V"), (1, .class_ 10), (1, u "java/lang/Object")] 113

def k0m0 : Method := { name := "<init>", desc := "()V", sig := { parameters := [], returnType := none }, accessFlags := 1, code := none }
/-- java/lang/Object -/
def k0 : Class := { plain "java/lang/Object" none with
  accessFlags := 33
  interfaces := #[]
  cf := some (fileOf pool0 8 #[] #[{ accessFlags := 1, nameIndex := 5, descriptorIndex := 6, attributes := #[] }] 33 0 #[] #[])
  fields := #[]
  methods := #[k0m0]
  instanceTypes := #[]
  staticTypes := #[]
  resolved := Array.replicate 124 none
  statics := none }

def pool1 : Array CpInfo := pool [(2, .class_ 4), (1, u "java/lang/Object"), (0, u "<init>"), (0, u "()V"), (0, .integer 55295), (0, .integer 57344), (0, .integer 65533), (0, .integer 65536), (0, .integer 1114111), (2, .integer 2147483647), (0, .integer 2147483648), (0, .integer 55296), (0, .integer 57343), (0, .integer 65534), (0, .integer 65535), (0, .methodref 21 22), (0, .class_ 23), (0, .nameAndType 24 25), (0, u "com/example/fine_events/fineevents/XmlCharactersIsCharacterPinLaw"), (0, u "nearBoundary"), (0, u "(II)I"), (0, .methodref 27 28), (0, .class_ 29), (0, .nameAndType 30 31), (0, u "com/example/fine_events/fineevents/XmlCharacters"), (0, u "isCharacter"), (0, u "(IZ)Z"), (0, .methodref 21 33), (0, .nameAndType 34 31), (0, u "expected"), (3, u "law"), (0, u "(III)Z")] 2

def k1m0 : Method := { name := "<init>", desc := "()V", sig := { parameters := [], returnType := none }, accessFlags := 2, code := none }
def k1c1 : Code := { maxStack := 4, maxLocals := 4, code := method_2_code, exceptionTable := #[], attributes := #[] }
def k1m1 : Method := { name := "nearBoundary", desc := "(II)I", sig := { parameters := [.int, .int], returnType := some .int }, accessFlags := 10, code := some k1c1 }
def k1c2 : Code := { maxStack := 2, maxLocals := 6, code := method_3_code, exceptionTable := #[], attributes := #[] }
def k1m2 : Method := { name := "expected", desc := "(IZ)Z", sig := { parameters := [.int, .boolean], returnType := some .boolean }, accessFlags := 10, code := some k1c2 }
def k1c3 : Code := { maxStack := 3, maxLocals := 6, code := code, exceptionTable := #[], attributes := #[] }
def k1m3 : Method := { name := "law", desc := "(III)Z", sig := { parameters := [.int, .int, .int], returnType := some .boolean }, accessFlags := 9, code := some k1c3 }
/-- com/example/fine_events/fineevents/XmlCharactersIsCharacterPinLaw -/
def k1 : Class := { plain "com/example/fine_events/fineevents/XmlCharactersIsCharacterPinLaw" (some 0) with
  accessFlags := 49
  interfaces := #[]
  cf := some (fileOf pool1 21 #[] #[{ accessFlags := 2, nameIndex := 5, descriptorIndex := 6, attributes := #[] }, { accessFlags := 10, nameIndex := 24, descriptorIndex := 25, attributes := #[] }, { accessFlags := 10, nameIndex := 34, descriptorIndex := 31, attributes := #[] }, { accessFlags := 9, nameIndex := 38, descriptorIndex := 39, attributes := #[] }] 49 2 #[] #[])
  fields := #[]
  methods := #[k1m0, k1m1, k1m2, k1m3]
  instanceTypes := #[]
  staticTypes := #[]
  resolved := Array.replicate 42 none
  statics := none }

def pool2 : Array CpInfo := pool [(2, .class_ 4), (1, u "java/lang/Object"), (0, u "<init>"), (0, u "()V"), (1, .class_ 10), (1, u "com/example/fine_events/fineevents/XmlCharacters"), (0, u "KINDS"), (0, u "[C"), (0, .integer 55295), (0, .integer 57344), (0, .integer 65533), (0, .integer 65536), (2, .integer 1114111), (11, u "isCharacter"), (0, u "(IZ)Z"), (19, u "INVALID"), (0, u "I"), (2, u "SURROGATE"), (1, u "LINE_END"), (1, u "TAB"), (1, u "LESS_THAN"), (1, u "AMPERSAND"), (1, u "RIGHT_BRACKET"), (1, u "QUOTE"), (1, u "GREATER_THAN"), (1, u "QUESTION_MARK"), (1, u "HYPHEN"), (1, u "PERCENT"), (1, u "NAME_START"), (1, u "NAME"), (1, u "SPACE"), (1, u "XML_11")] 12

def k2m0 : Method := { name := "<init>", desc := "()V", sig := { parameters := [], returnType := none }, accessFlags := 2, code := none }
def k2c1 : Code := { maxStack := 2, maxLocals := 2, code := prog_69_method_3_code, exceptionTable := #[], attributes := #[] }
def k2m1 : Method := { name := "isCharacter", desc := "(IZ)Z", sig := { parameters := [.int, .boolean], returnType := some .boolean }, accessFlags := 8, code := some k2c1 }
/-- com/example/fine_events/fineevents/XmlCharacters -/
def k2 : Class := { plain "com/example/fine_events/fineevents/XmlCharacters" (some 0) with
  accessFlags := 48
  interfaces := #[]
  cf := some (fileOf pool2 8 #[] #[{ accessFlags := 2, nameIndex := 5, descriptorIndex := 6, attributes := #[] }, { accessFlags := 8, nameIndex := 31, descriptorIndex := 32, attributes := #[] }] 48 2 #[] #[{ accessFlags := 24, nameIndex := 52, descriptorIndex := 53, attributes := #[] }, { accessFlags := 24, nameIndex := 56, descriptorIndex := 53, attributes := #[] }, { accessFlags := 24, nameIndex := 58, descriptorIndex := 53, attributes := #[] }, { accessFlags := 24, nameIndex := 60, descriptorIndex := 53, attributes := #[] }, { accessFlags := 24, nameIndex := 62, descriptorIndex := 53, attributes := #[] }, { accessFlags := 24, nameIndex := 64, descriptorIndex := 53, attributes := #[] }, { accessFlags := 24, nameIndex := 66, descriptorIndex := 53, attributes := #[] }, { accessFlags := 24, nameIndex := 68, descriptorIndex := 53, attributes := #[] }, { accessFlags := 24, nameIndex := 70, descriptorIndex := 53, attributes := #[] }, { accessFlags := 24, nameIndex := 72, descriptorIndex := 53, attributes := #[] }, { accessFlags := 24, nameIndex := 74, descriptorIndex := 53, attributes := #[] }, { accessFlags := 24, nameIndex := 76, descriptorIndex := 53, attributes := #[] }, { accessFlags := 24, nameIndex := 78, descriptorIndex := 53, attributes := #[] }, { accessFlags := 24, nameIndex := 80, descriptorIndex := 53, attributes := #[] }, { accessFlags := 24, nameIndex := 82, descriptorIndex := 53, attributes := #[] }, { accessFlags := 24, nameIndex := 84, descriptorIndex := 53, attributes := #[] }, { accessFlags := 24, nameIndex := 11, descriptorIndex := 12, attributes := #[] }])
  fields := #[{ name := "INVALID", type := .int, accessFlags := 24, slot := 0, constantValue := 0 }, { name := "SURROGATE", type := .int, accessFlags := 24, slot := 1, constantValue := 0 }, { name := "LINE_END", type := .int, accessFlags := 24, slot := 2, constantValue := 0 }, { name := "TAB", type := .int, accessFlags := 24, slot := 3, constantValue := 0 }, { name := "LESS_THAN", type := .int, accessFlags := 24, slot := 4, constantValue := 0 }, { name := "AMPERSAND", type := .int, accessFlags := 24, slot := 5, constantValue := 0 }, { name := "RIGHT_BRACKET", type := .int, accessFlags := 24, slot := 6, constantValue := 0 }, { name := "QUOTE", type := .int, accessFlags := 24, slot := 7, constantValue := 0 }, { name := "GREATER_THAN", type := .int, accessFlags := 24, slot := 8, constantValue := 0 }, { name := "QUESTION_MARK", type := .int, accessFlags := 24, slot := 9, constantValue := 0 }, { name := "HYPHEN", type := .int, accessFlags := 24, slot := 10, constantValue := 0 }, { name := "PERCENT", type := .int, accessFlags := 24, slot := 11, constantValue := 0 }, { name := "NAME_START", type := .int, accessFlags := 24, slot := 12, constantValue := 0 }, { name := "NAME", type := .int, accessFlags := 24, slot := 13, constantValue := 0 }, { name := "SPACE", type := .int, accessFlags := 24, slot := 14, constantValue := 0 }, { name := "XML_11", type := .int, accessFlags := 24, slot := 15, constantValue := 0 }, { name := "KINDS", type := (.array .char), accessFlags := 24, slot := 16, constantValue := 0 }]
  methods := #[k2m0, k2m1]
  instanceTypes := #[]
  staticTypes := #[.int, .int, .int, .int, .int, .int, .int, .int, .int, .int, .int, .int, .int, .int, .int, .int, (.array .char)]
  resolved := Array.replicate 97 none
  statics := none }

def pool3 : Array CpInfo := pool [(1, u "java/lang/Cloneable"), (0, .class_ 1), (0, u "java/lang/Object"), (0, .class_ 3)] 3

/-- java/lang/Cloneable -/
def k3 : Class := { plain "java/lang/Cloneable" (some 0) with
  accessFlags := 1537
  interfaces := #[]
  cf := some (fileOf pool3 2 #[] #[] 1537 4 #[] #[])
  fields := #[]
  methods := #[]
  instanceTypes := #[]
  staticTypes := #[]
  resolved := Array.replicate 8 none
  statics := none }

def pool4 : Array CpInfo := pool [(1, u "java/io/Serializable"), (0, .class_ 1), (0, u "java/lang/Object"), (0, .class_ 3)] 3

/-- java/io/Serializable -/
def k4 : Class := { plain "java/io/Serializable" (some 0) with
  accessFlags := 1537
  interfaces := #[]
  cf := some (fileOf pool4 2 #[] #[] 1537 4 #[] #[])
  fields := #[]
  methods := #[]
  instanceTypes := #[]
  staticTypes := #[]
  resolved := Array.replicate 8 none
  statics := none }

/-- the primitive byte -/
def k5 : Class := { plain "byte" none with kind := .primitive 'B', accessFlags := 0x411 }
/-- [B -/
def k6 : Class := { plain "[B" (some 0) with kind := .array 5 .byte, interfaces := #[3, 4], accessFlags := 1041 }

/-- the primitive int -/
def k7 : Class := { plain "int" none with kind := .primitive 'I', accessFlags := 0x411 }
/-- [I -/
def k8 : Class := { plain "[I" (some 0) with kind := .array 7 .int, interfaces := #[3, 4], accessFlags := 1041 }

def heap : Heap := #[]
def classes : Array Class := #[k0, k1, k2, k3, k4, k5, k6, k7, k8]
def interned : List (Array UInt16 × Addr) := []
def slotsUsed : Nat := 0
def theMethod : MethodId := ⟨1, 3⟩
def args0 : Array Value := #[.int 65, .int 3, .int 1]
def aboutOver (below : List Frame) : State where
  vm := { classes := classes, interned := interned.toArray }
  heap := heap
  slotsUsed := slotsUsed
  threads := #[{ frames := .invoking theMethod args0 :: below }]
def below0 : List Frame := [.native { method := ⟨0, 0⟩, args := #[] }]
def about1 : State := aboutOver below0
def p0 : Program := .bare "" "" ""
def e0 : Env := launch0.env 0 0 0
theorem w_frames : about1.frames = Frame.invoking theMethod args0 :: below0 := rfl
set_option maxRecDepth 65536 in
theorem w_args : argsFit about1.vm theMethod args0 = true := by decide +kernel
set_option maxRecDepth 65536 in
theorem w_heap : heapFits about1 = true := by decide +kernel
set_option maxRecDepth 65536 in
theorem w_runnable : about1.curStatus? = some .runnable := by decide +kernel
set_option maxRecDepth 65536 in
theorem w_alone : about1.alone = true := by decide +kernel
set_option maxRecDepth 65536 in
theorem w_named : about1.methodNamed? x = some theMethod := by decide +kernel
set_option maxRecDepth 65536 in
theorem w_hears : about1.hears theMethod below0 = true := by decide +kernel
set_option maxRecDepth 65536 in
theorem w_ripe : about1.ripe theMethod args0 below0 = true := by decide +kernel
theorem w_running : about1.status = .running := rfl
set_option maxRecDepth 65536 in
theorem w_room : about1.hasRoom e0.platform room_1 = true :=
  launch0.hasRoom_least _ room_1 (by decide +kernel) (by decide +kernel) (by decide +kernel) (by decide +kernel) (by decide +kernel) (by decide +kernel)
theorem allAtoms_all (ts : List Jvm.Cond) (a : Array Jvm.Value) (st : Jvm.State) : (allAtoms ts).before a st = ts.all (fun c => c.before a st) := by
  induction ts with
  | nil => rfl
  | cons c t ih =>
    show (Jvm.Cond.and c (allAtoms t)).before a st = _
    rw [Jvm.Cond.before_and, ih, List.all_cons]
def words1 : List Jvm.Cond := Jvm.Cond.code x code maxLocals ret :: tables_1
/-- a 'code' word, met by the world's own term for the bytes: nothing is compared byte by byte -/
theorem code_word {y : MethodName} {bytes : ByteArray} {mx : Nat} {rt : Option FieldType} {a : Array Value} {s : State} {m : MethodId} {meth : Method} {c : Code} (h1 : s.methodNamed? y = some m) (h2 : s.vm.method? m = some meth) (h3 : meth.code = some c) (h4 : c.code = bytes)
    (h5 : (c.maxLocals == mx && c.exceptionTable.isEmpty && decide (c.maxStack ≤ mostOperands) && decide (meth.sig.returnType = rt) && !meth.locks && decide (parseMethodDescriptor y.desc = some meth.sig)) = true) : (Jvm.Cond.code y bytes mx rt).before a s = true := by
  simp only [Bool.and_eq_true, beq_iff_eq, Bool.not_eq_true', decide_eq_true_eq] at h5
  obtain ⟨⟨⟨⟨⟨g1, g2⟩, g3⟩, g4⟩, g5⟩, g6⟩ := h5
  simp [Cond.before, Cond.holds, Cond.value, h1, h2, h3, h4, g1, g2, g3, g4, g5, g6]
def isCode : Jvm.Cond → Bool
  | .code _ _ _ _ => true
  | _ => false
theorem all_split {L : List Jvm.Cond} {P : Jvm.Cond → Bool} (h1 : L.all (fun c => isCode c || P c) = true) (h2 : ∀ c ∈ L.filter isCode, P c = true) : L.all P = true := by
  refine List.all_eq_true.mpr fun c hc => ?_
  have h := List.all_eq_true.mp h1 c hc
  rcases Bool.eq_false_or_eq_true (isCode c) with hi | hi
  · exact h2 c (List.mem_filter.mpr ⟨hc, hi⟩)
  · simpa [hi] using h
set_option maxRecDepth 65536 in
theorem w_c0 : (Jvm.Cond.code x code maxLocals ret).before args0 about1 = true := code_word (m := ⟨1, 3⟩) (meth := k1m3) (c := k1c3) (by decide +kernel) rfl rfl rfl (by decide +kernel)
set_option maxRecDepth 65536 in
theorem w_c1 : (Jvm.Cond.code ({ cls := "com/example/fine_events/fineevents/XmlCharactersIsCharacterPinLaw", name := "nearBoundary", desc := "(II)I" } : Jvm.MethodName) method_2_code (4 : Nat) (Option.some Jvm.ClassFile.FieldType.int)).before args0 about1 = true := code_word (m := ⟨1, 1⟩) (meth := k1m1) (c := k1c1) (by decide +kernel) rfl rfl rfl (by decide +kernel)
set_option maxRecDepth 65536 in
theorem w_c2 : (Jvm.Cond.code ({ cls := "com/example/fine_events/fineevents/XmlCharacters", name := "isCharacter", desc := "(IZ)Z" } : Jvm.MethodName) prog_69_method_3_code (2 : Nat) (Option.some Jvm.ClassFile.FieldType.boolean)).before args0 about1 = true := code_word (m := ⟨2, 1⟩) (meth := k2m1) (c := k2c1) (by decide +kernel) rfl rfl rfl (by decide +kernel)
set_option maxRecDepth 65536 in
theorem w_c3 : (Jvm.Cond.code ({ cls := "com/example/fine_events/fineevents/XmlCharactersIsCharacterPinLaw", name := "expected", desc := "(IZ)Z" } : Jvm.MethodName) method_3_code (6 : Nat) (Option.some Jvm.ClassFile.FieldType.boolean)).before args0 about1 = true := code_word (m := ⟨1, 2⟩) (meth := k1m2) (c := k1c2) (by decide +kernel) rfl rfl rfl (by decide +kernel)
def codes1 : List Jvm.Cond := [Jvm.Cond.code x code maxLocals ret, Jvm.Cond.code ({ cls := "com/example/fine_events/fineevents/XmlCharactersIsCharacterPinLaw", name := "nearBoundary", desc := "(II)I" } : Jvm.MethodName) method_2_code (4 : Nat) (Option.some Jvm.ClassFile.FieldType.int), Jvm.Cond.code ({ cls := "com/example/fine_events/fineevents/XmlCharacters", name := "isCharacter", desc := "(IZ)Z" } : Jvm.MethodName) prog_69_method_3_code (2 : Nat) (Option.some Jvm.ClassFile.FieldType.boolean), Jvm.Cond.code ({ cls := "com/example/fine_events/fineevents/XmlCharactersIsCharacterPinLaw", name := "expected", desc := "(IZ)Z" } : Jvm.MethodName) method_3_code (6 : Nat) (Option.some Jvm.ClassFile.FieldType.boolean)]
set_option maxRecDepth 65536 in
theorem codes_eq : words1.filter isCode = codes1 := rfl
theorem w_codes : ∀ c ∈ words1.filter isCode, c.before args0 about1 = true := by
  rw [codes_eq]
  intro c hc
  simp only [codes1, List.mem_cons, List.not_mem_nil, or_false] at hc
  rcases hc with rfl | rfl | rfl | rfl
  · exact w_c0
  · exact w_c1
  · exact w_c2
  · exact w_c3
set_option maxRecDepth 65536 in
theorem w_t1 : (words1.take 24).all (fun c => isCode c || c.before args0 about1) = true := by decide +kernel
set_option maxRecDepth 65536 in
theorem w_t2 : (words1.drop 24).all (fun c => isCode c || c.before args0 about1) = true := by decide +kernel
theorem w_tables : (allAtoms (Jvm.Cond.code x code maxLocals ret :: tables_1)).before args0 about1 = true := by
  rw [allAtoms_all]
  show words1.all (fun c => c.before args0 about1) = true
  refine all_split ?_ w_codes
  rw [← List.take_append_drop 24 words1, List.all_append, w_t1, w_t2]
  rfl
set_option maxRecDepth 65536 in
theorem w_case : (Jvm.Cond.and given_1 narrow_1).before args0 about1 = true := by decide +kernel
theorem w_applies : (headSpec (Jvm.Cond.code x code maxLocals ret :: tables_1) room_1).applies x e0.platform about1 = true :=
  (Spec.applies_iff w_frames).mpr ⟨w_running, w_runnable, w_alone, w_named, w_hears, w_ripe, w_room, w_tables⟩
theorem atStart : AtStart classFile x code maxLocals ret World_1 tables_1 room_1 Calls_1 rest_1 Pre_1 launch0 p0 e0 about1 theMethod args0 below0 :=
  ⟨lists_1, trivial, launch0.admits_env _ _ _, launch0.least_env, fairChoices_fair.cas, fairChoices_fair.clock, w_frames, w_args, w_heap, w_applies, trivial, trivial, w_case⟩
end start1
theorem witness_1 : WitnessClaimed_1 := ⟨start1.p0, start1.e0, start1.about1, start1.theMethod, start1.args0, start1.below0, start1.atStart⟩
end Jvm.Pilot.@@N@@
