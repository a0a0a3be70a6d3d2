import JvmDerived
import JvmDerived.Pilot.@@N@@Statement
import JvmDerived.Pilot.@@N@@Code
set_option linter.unusedVariables false
set_option linter.unusedSimpArgs false
@@BLOCK:NumsL.lean.txt@@
namespace Jvm.OwnWp
open Jvm Jvm.ClassFile Sem Op Lib Jvm.Free Jvm.Stand Jvm.LawKit Jvm.RoadKit
/-! The heap of a walk as a plain list of the objects that it may touch. -/
abbrev Fd := String × String × String × Value
abbrev Ob := (String × List Fd) ⊕ (FieldType × List Value)
abbrev Hs := List (Addr × Ob)
section Heaps
variable {Z : State} {a0 : Array Value} {h h' h0 : Heap} {a b : Addr} {sl : Nat} {v : Value} {o o' : Ob} {os os' rest : Hs} {dm fp fp2 : List Addr}
def ObAt (Z : State) (a0 : Array Value) (h : Heap) (a : Addr) : Ob → Prop
  | .inl x => Exa Z h a x.1 ∧ (x.2.map (·.2.1)).Nodup ∧ ∀ q ∈ x.2, Fld Z h a q.1 q.2.1 q.2.2.1 q.2.2.2 ∧ Laid Z a0 x.1 q.1 q.2.1 q.2.2.1 ∧ ∃ t, parseFieldDescriptor q.2.2.1 = some t
  | .inr x => ∃ c : Cell, Arr Z h a c x.1 ∧ c.slots.toList = x.2 ∧ Exa Z h a ("[" ++ x.1.toString) ∧ ∀ v ∈ x.2, fits x.1 v = true
theorem ObAt.lt (F : ObAt Z a0 h a o) : a < h.size := by
  cases o with
  | inl x => exact F.1.lt
  | inr x => obtain ⟨c, A, -⟩ := F; exact A.lt
theorem ObAt.move (hm : ∀ c, h[a]? = some c → h'[a]? = some c) (F : ObAt Z a0 h a o) : ObAt Z a0 h' a o := by
  cases o with
  | inl x =>
    obtain ⟨⟨cell, k, h1, r⟩, hn, hq⟩ := F
    refine ⟨⟨cell, k, hm _ h1, r⟩, hn, fun q hq' => ?_⟩
    obtain ⟨⟨cell, cf, k, i, f, h1, r⟩, L⟩ := hq q hq'
    exact ⟨⟨cell, cf, k, i, f, hm _ h1, r⟩, L⟩
  | inr x =>
    obtain ⟨c, A, e, ⟨cell, k, h1, r⟩, hf⟩ := F
    exact ⟨c, ⟨hm _ A.1, A.2⟩, e, ⟨cell, k, hm _ h1, r⟩, hf⟩
theorem ObAt.ext (E : Ext h h') (F : ObAt Z a0 h a o) : ObAt Z a0 h' a o := F.move fun c hc => E.2 _ _ hc
theorem wr_ne (W : Wr h h' a sl v) (hne : b ≠ a) {c : Cell} (hc : h[b]? = some c) : h'[b]? = some c := by
  obtain ⟨cb', h1, -, -, -, h5, -⟩ := wr_at W hc
  rw [h1, h5 hne]
/-- the cells that a walk may write: those of its footprint, and the new ones -/
def Dm (fp : List Addr) (n0 : Nat) (a : Addr) : Prop := a ∈ fp ∨ n0 ≤ a
def Hq (Z : State) (a0 : Array Value) (h : Heap) (os : Hs) : Prop := (os.map (·.1)).Nodup ∧ ∀ q ∈ os, ObAt Z a0 h q.1 q.2
def Hp (Z : State) (a0 : Array Value) (dm fp : List Addr) (h0 h : Heap) (os : Hs) : Prop :=
  Hq Z a0 h os ∧ (∀ q ∈ os, Dm dm h0.size q.1) ∧ h0.size ≤ h.size ∧ ∀ a c, h0[a]? = some c → a ∉ fp → h[a]? = some c
theorem Hp.start (H : Hq Z a0 h os) : Hp Z a0 (os.map (·.1)) fp h h os := ⟨H, fun q hq => Or.inl (List.mem_map.mpr ⟨q, hq, rfl⟩), Nat.le_refl _, fun _ _ q _ => q⟩
theorem Hp.ext (E : Ext h h') (H : Hp Z a0 dm fp h0 h os) : Hp Z a0 dm fp h0 h' os :=
  ⟨⟨H.1.1, fun q hq => (H.1.2 q hq).ext E⟩, H.2.1, Nat.le_trans H.2.2.1 E.1, fun a c q n => E.2 _ _ (H.2.2.2 a c q n)⟩
theorem Hp.push (E : Ext h h') (F : ObAt Z a0 h' h.size o) (H : Hp Z a0 dm fp h0 h os) : Hp Z a0 dm fp h0 h' (os ++ [(h.size, o)]) := by
  have H' := H.ext E
  refine ⟨⟨?_, fun q hq => ?_⟩, fun q hq => ?_, H'.2.2⟩
  · rw [List.map_append, List.nodup_append]
    refine ⟨H.1.1, by simp, fun x hx y hy => ?_⟩
    obtain ⟨q, hq, rfl⟩ := List.mem_map.mp hx
    have := (H.1.2 q hq).lt
    simp only [List.map_cons, List.map_nil, List.mem_singleton] at hy
    intro e
    rw [e, hy] at this
    exact Nat.lt_irrefl _ this
  · rcases List.mem_append.mp hq with hq | hq
    · exact H'.1.2 q hq
    · cases List.mem_singleton.mp hq; exact F
  · rcases List.mem_append.mp hq with hq | hq
    · exact H.2.1 q hq
    · cases List.mem_singleton.mp hq; exact Or.inr H.2.2.1
theorem mem_set {α : Type} {l : List α} {k : Nat} {x q : α} (hq : q ∈ l.set k x) : q = x ∨ ∃ i, i ≠ k ∧ l[i]? = some q := by
  obtain ⟨i, hi⟩ := List.mem_iff_getElem?.mp hq
  rw [List.getElem?_set] at hi
  by_cases e : k = i
  · rw [if_pos e] at hi
    split at hi
    · exact Or.inl (Option.some.inj hi).symm
    · cases hi
  · rw [if_neg e] at hi
    exact Or.inr ⟨i, fun z => e z.symm, hi⟩
theorem nodup_inj {α : Type} {l : List α} (hn : l.Nodup) {i j : Nat} {x : α} (hi : l[i]? = some x) (hj : l[j]? = some x) : i = j := by
  obtain ⟨h1, e1⟩ := List.getElem?_eq_some_iff.mp hi
  obtain ⟨h2, e2⟩ := List.getElem?_eq_some_iff.mp hj
  exact (List.getElem_inj hn).mp (e1.trans e2.symm)
theorem map_at {α β : Type} {l : List α} {f : α → β} {i : Nat} {x : α} (hi : l[i]? = some x) : (l.map f)[i]? = some (f x) := by rw [List.getElem?_map, hi]; rfl
theorem map_set_same {α β : Type} {l : List α} {f : α → β} {k : Nat} {x x' : α} (hk : l[k]? = some x) (e : f x' = f x) : (l.set k x').map f = l.map f := by
  apply List.ext_getElem?
  intro i
  rw [List.getElem?_map, List.getElem?_map, List.getElem?_set]
  by_cases z : k = i
  · subst z
    rw [if_pos rfl]
    have := (List.getElem?_eq_some_iff.mp hk).1
    rw [if_pos this, hk]
    exact congrArg some e
  · rw [if_neg z]
theorem Hp.wr {k : Nat} (hD : Dm fp h0.size a) (W : Wr h h' a sl v) (ho : os[k]? = some (a, o)) (F : ObAt Z a0 h' a o') (H : Hp Z a0 dm fp h0 h os) : Hp Z a0 dm fp h0 h' (os.set k (a, o')) := by
  have hM : Dm dm h0.size a := H.2.1 _ (List.mem_of_getElem? ho)
  refine ⟨⟨?_, fun q hq => ?_⟩, fun q hq => ?_, by rw [W.size]; exact H.2.2.1, fun x c hx hn => ?_⟩
  · rw [map_set_same (f := fun x : Addr × Ob => x.1) (x' := (a, o')) ho rfl]; exact H.1.1
  · rcases mem_set hq with rfl | ⟨i, hi, hq⟩
    · exact F
    · have hne : q.1 ≠ a := fun e => hi (nodup_inj H.1.1 (map_at hq) (by rw [map_at ho, e]))
      exact (H.1.2 q (List.mem_of_getElem? hq)).move fun c hc => wr_ne W hne hc
  · rcases mem_set hq with rfl | ⟨i, hi, hq⟩
    · exact hM
    · exact H.2.1 q (List.mem_of_getElem? hq)
  · refine wr_ne W (fun e => ?_) (H.2.2.2 x c hx hn)
    subst e
    rcases hD with hD | hD
    · exact hn hD
    · exact absurd (Array.getElem?_eq_some_iff.mp hx).1 (Nat.not_lt.mpr hD)
theorem Hp.fld {k : Nat} {C : String} {fs : List Fd} {j : Nat} {O n d : String} {w : Value} (ho : os[k]? = some (a, .inl (C, fs))) (hj : fs[j]? = some (O, n, d, w)) (H : Hp Z a0 dm fp h0 h os) : Fld Z h a O n d w :=
  ((H.1.2 _ (List.mem_of_getElem? ho)).2.2 _ (List.mem_of_getElem? hj)).1
theorem Hp.exa {k : Nat} {C : String} {fs : List Fd} (ho : os[k]? = some (a, .inl (C, fs))) (H : Hp Z a0 dm fp h0 h os) : Exa Z h a C := (H.1.2 _ (List.mem_of_getElem? ho)).1
theorem Hp.putf {k : Nat} {C : String} {fs : List Fd} {j : Nat} {O n d : String} {w : Value} (hD : Dm fp h0.size a) (ho : os[k]? = some (a, .inl (C, fs))) (hj : fs[j]? = some (O, n, d, w)) (W : Wr h h' a (RoadKit.slotOf Z O n d) v) (H : Hp Z a0 dm fp h0 h os) :
    Hp Z a0 dm fp h0 h' (os.set k (a, .inl (C, fs.set j (O, n, d, v)))) := by
  refine H.wr hD W ho ?_
  obtain ⟨hE, hN, hF⟩ := H.1.2 _ (List.mem_of_getElem? ho)
  dsimp only at hE hN hF
  obtain ⟨F, L, t, ht⟩ := hF _ (List.mem_of_getElem? hj)
  refine ⟨hE.wr W, ?_, fun q hq => ?_⟩
  · dsimp only
    rw [map_set_same (f := fun x : Fd => x.2.1) (x' := (O, n, d, v)) hj rfl]; exact hN
  · rcases mem_set hq with rfl | ⟨i, hi, hq⟩
    · exact ⟨F.same W, L, t, ht⟩
    · obtain ⟨F', L', t', ht'⟩ := hF _ (List.mem_of_getElem? hq)
      have hne : q.2.1 ≠ n := fun e => hi (nodup_inj hN (map_at hq) (by rw [map_at hj, e]))
      exact ⟨F'.other W (Or.inr (slot_ne L' L hne ht' ht)), L', t', ht'⟩
theorem Hp.arr {k : Nat} {ty : FieldType} {vs : List Value} (ho : os[k]? = some (a, .inr (ty, vs))) (H : Hp Z a0 dm fp h0 h os) : ∃ c : Cell, Arr Z h a c ty ∧ c.slots.toList = vs := by
  obtain ⟨c, A, e, -⟩ := H.1.2 _ (List.mem_of_getElem? ho)
  exact ⟨c, A, e⟩
theorem Hp.puta {k : Nat} {ty : FieldType} {vs : List Value} {j : Nat} (hD : Dm fp h0.size a) (hf : fits ty v = true) (ho : os[k]? = some (a, .inr (ty, vs))) (W : Wr h h' a j v) (H : Hp Z a0 dm fp h0 h os) : Hp Z a0 dm fp h0 h' (os.set k (a, .inr (ty, vs.set j v))) := by
  refine H.wr hD W ho ?_
  obtain ⟨c, A, e, E, F⟩ := H.1.2 _ (List.mem_of_getElem? ho)
  refine ⟨_, A.same W, ?_, E.wr W, fun q hq => ?_⟩
  · dsimp only at e ⊢
    rw [← e]
    simp [Cell.setSlot]
  · rcases mem_set hq with rfl | ⟨i, -, hq⟩
    · exact hf
    · exact F q (List.mem_of_getElem? hq)
theorem Hp.call (H : Hp Z a0 dm fp h0 h (rest ++ os)) (H' : Hp Z a0 (os.map (·.1)) fp2 h h' os') (hc : fp2 = [] ∨ (fp2 = os.map (·.1) ∧ dm = fp)) : Hp Z a0 dm fp h0 h' (rest ++ os') := by
  have hN := H.1.1
  rw [List.map_append, List.nodup_append] at hN
  have hsub : ∀ x ∈ fp2, x ∈ os.map (·.1) := fun x hx => by
    rcases hc with rfl | ⟨rfl, -⟩
    · exact absurd hx List.not_mem_nil
    · exact hx
  have hD : ∀ x, Dm (os.map (·.1)) h.size x → Dm dm h0.size x := fun x hx => by
    rcases hx with hx | hx
    · obtain ⟨q, hq, rfl⟩ := List.mem_map.mp hx
      exact H.2.1 q (List.mem_append.mpr (Or.inr hq))
    · exact Or.inr (Nat.le_trans H.2.2.1 hx)
  have hR : ∀ q ∈ rest, q.1 ∉ os.map (·.1) := fun q hq hm => hN.2.2 _ (List.mem_map.mpr ⟨q, hq, rfl⟩) _ hm rfl
  refine ⟨⟨?_, fun q hq => ?_⟩, fun q hq => ?_, Nat.le_trans H.2.2.1 H'.2.2.1, fun x c hx hn => ?_⟩
  · rw [List.map_append, List.nodup_append]
    refine ⟨hN.1, H'.1.1, fun x hx y hy e => ?_⟩
    subst e
    obtain ⟨q, hq, rfl⟩ := List.mem_map.mp hx
    obtain ⟨q', hq', e⟩ := List.mem_map.mp hy
    have := H'.2.1 q' hq'
    rw [e] at this
    rcases this with t | t
    · exact hR q hq t
    · exact absurd (H.1.2 q (List.mem_append.mpr (Or.inl hq))).lt (Nat.not_lt.mpr t)
  · rcases List.mem_append.mp hq with hq | hq
    · exact (H.1.2 q (List.mem_append.mpr (Or.inl hq))).move fun c hc => H'.2.2.2 _ _ hc (fun z => hR q hq (hsub _ z))
    · exact H'.1.2 q hq
  · rcases List.mem_append.mp hq with hq | hq
    · exact H.2.1 q (List.mem_append.mpr (Or.inl hq))
    · exact hD _ (H'.2.1 q hq)
  · refine H'.2.2.2 _ _ (H.2.2.2 x c hx hn) fun hm => ?_
    rcases hc with rfl | ⟨rfl, rfl⟩
    · exact absurd hm List.not_mem_nil
    · obtain ⟨q, hq, rfl⟩ := List.mem_map.mp hm
      rcases H.2.1 q (List.mem_append.mpr (Or.inr hq)) with t | t
      · exact hn t
      · exact absurd (Array.getElem?_eq_some_iff.mp hx).1 (Nat.not_lt.mpr t)
theorem pick_mem {is : List Nat} {os2 : Hs} (he : is.map (fun i => os[i]?) = os2.map some) {q : Addr × Ob} (hq : q ∈ os2) : ∃ i ∈ is, os[i]? = some q := by
  have : some q ∈ is.map (fun i => os[i]?) := by rw [he]; exact List.mem_map.mpr ⟨q, hq, rfl⟩
  obtain ⟨i, hi, e⟩ := List.mem_map.mp this
  exact ⟨i, hi, e⟩
theorem pick_nodup (hN : (os.map (·.1)).Nodup) : ∀ {is : List Nat} {os2 : Hs}, is.Nodup → is.map (fun i => os[i]?) = os2.map some → (os2.map (·.1)).Nodup
  | [], [], _, _ => List.nodup_nil
  | [], _ :: _, _, he => by cases he
  | _ :: _, [], _, he => by cases he
  | i :: is, q :: os2, hi, he => by
    simp only [List.map_cons, List.cons.injEq] at he
    rw [List.nodup_cons] at hi
    rw [List.map_cons, List.nodup_cons]
    refine ⟨fun hm => ?_, pick_nodup hN hi.2 he.2⟩
    obtain ⟨q', hq', e⟩ := List.mem_map.mp hm
    obtain ⟨i', hi', e'⟩ := pick_mem he.2 hq'
    have := nodup_inj hN (map_at he.1) (by rw [map_at e', e])
    exact hi.1 (this ▸ hi')
theorem Hp.pick {is : List Nat} {os2 : Hs} (H : Hp Z a0 dm fp h0 h os) (hn : is.Nodup) (he : is.map (fun i => os[i]?) = os2.map some) : Hp Z a0 dm fp h0 h os2 :=
  have hm : ∀ q ∈ os2, q ∈ os := fun q hq => by obtain ⟨i, -, e⟩ := pick_mem he hq; exact List.mem_of_getElem? e
  ⟨⟨pick_nodup H.1.1 hn he, fun q hq => H.1.2 q (hm q hq)⟩, fun q hq => H.2.1 q (hm q hq), H.2.2⟩
end Heaps
/-- what a walk holds at a point -/
def Here (p : Program) (l : Launch) (e : Env) (R : Room) (s : State) (m : MethodId) (args : Array Value) (below : List Frame) (meth : Method) (c : Code) (Z : State) (a0 : Array Value) (y : MethodName) (bytes : ByteArray) (ml : Nat) (ret : Option FieldType) (dm fp : List Addr) (T : State) (k n : Nat) (os : Hs) : Prop :=
  ∃ locs, Stand p l e R s m args below meth c T locs k n ∧ (∀ q ∈ locs, Dm fp s.heap.size q.base) ∧ Hp Z a0 dm fp s.heap T.heap os ∧ p.tables.exec = Jvm.exec ∧ Z.Warmed39 s.vm ∧ c.code = bytes ∧ c.maxLocals = ml ∧ s.vm.findClass y.cls = some m.cls ∧ meth.name = y.name ∧ meth.sig.returnType = ret ∧ meth.locks = false
/-- from here the body returns, and what it leaves is as Post says -/
def Wp (p : Program) (e : Env) (below : List Frame) (Z : State) (a0 : Array Value) (dm fp : List Addr) (R : Room) (s : State) (Post : Option Value → Hs → Prop) (T : State) (g : JFrame) : Prop :=
  ∃ s₂ o, Steps p.tables e below (T.setTop g) s₂ ∧ s₂.status = .running ∧ Ended s₂ below o ∧ ∃ v L, o = .returned v ∧ ((∀ q ∈ L, Dm fp s.heap.size q.base) ∧ ∃ os', Hp Z a0 dm fp s.heap s₂.heap os' ∧ Post v os') ∧ FrameEnd s o s₂ L R.cells R.slots
/-- a body's contract -/
def Pays (l : Launch) (Z : State) (a0 : Array Value) (y : MethodName) (bytes : ByteArray) (ml : Nat) (ret : Option FieldType) (R : Room) (args : Array Value) (os : Hs) (fp : List Addr) (Post : Option Value → Hs → Prop) : Prop :=
  ∀ (ws : List Jvm.Cond) (h0 : Heap), Hq Z a0 h0 os → MetFree l y (head1 (Jvm.Cond.code y bytes ml ret :: ws) R) (fun a U => a = args ∧ Z.Warmed39 U.vm ∧ U.heap = h0) (fun _ _ _ _ _ => True)
    (fun _ U o U' => ∃ v L, o = .returned v ∧ ((∀ q ∈ L, Dm fp h0.size q.base) ∧ ∃ os', Hp Z a0 (os.map (·.1)) fp h0 U'.heap os' ∧ Post v os') ∧ FrameEnd U o U' L R.cells R.slots)
section Walks
variable {p : Program} {l : Launch} {e : Env} {R : Room} {s : State} {m : MethodId} {args : Array Value} {below : List Frame} {meth : Method} {c : Code} {Z : State} {a0 : Array Value} {y : MethodName} {bytes : ByteArray} {ml : Nat} {ret : Option FieldType} {dm fp fp2 : List Addr} {T T' : State} {k n : Nat} {os : Hs} {Post : Option Value → Hs → Prop} {pc : Nat} {Ls : Array Slot} {st rest : List Value}
theorem Wp.go {g g' : JFrame} (hs : ∀ t, Steps p.tables e below (T'.setTop g') t → Steps p.tables e below (T.setTop g) t) (K : Wp p e below Z a0 dm fp R s Post T' g') : Wp p e below Z a0 dm fp R s Post T g := by
  obtain ⟨s₂, o, h1, r⟩ := K
  exact ⟨s₂, o, hs _ h1, r⟩
theorem Here.hr (A : Here p l e R s m args below meth c Z a0 y bytes ml ret dm fp T k n os) : At T m c below := by obtain ⟨_, X, -⟩ := A; exact X.here
theorem Here.hx (A : Here p l e R s m args below meth c Z a0 y bytes ml ret dm fp T k n os) : p.tables.exec = Jvm.exec := by obtain ⟨_, -, -, -, hx, -⟩ := A; exact hx
theorem Here.hb {r : Except DecodeError (Instr × Nat)} (A : Here p l e R s m args below meth c Z a0 y bytes ml ret dm fp T k n os) (hd : decode bytes pc = r) : decode c.code pc = r := by obtain ⟨_, -, -, -, -, -, hb, -⟩ := A; exact hb ▸ hd
theorem Here.pick {is : List Nat} {os2 : Hs} (A : Here p l e R s m args below meth c Z a0 y bytes ml ret dm fp T k n os) (hn : is.Nodup) (he : is.map (fun i => os[i]?) = os2.map some) : Here p l e R s m args below meth c Z a0 y bytes ml ret dm fp T k n os2 := by
  obtain ⟨locs, X, N, H, r⟩ := A
  exact ⟨locs, X, N, H.pick hn he, r⟩
theorem Here.cast {k2 n2 : Nat} {os2 : Hs} (A : Here p l e R s m args below meth c Z a0 y bytes ml ret dm fp T k n os) (h1 : k = k2) (h2 : n = n2) (h3 : os = os2) : Here p l e R s m args below meth c Z a0 y bytes ml ret dm fp T k2 n2 os2 := by
  subst h1 h2 h3
  exact A
theorem Here.more {k2 n2 : Nat} (A : Here p l e R s m args below meth c Z a0 y bytes ml ret dm fp T k n os) (h1 : k ≤ k2) (h2 : n ≤ n2) : Here p l e R s m args below meth c Z a0 y bytes ml ret dm fp T k2 n2 os := by
  obtain ⟨locs, X, r⟩ := A
  exact ⟨locs, X.more h1 h2, r⟩
theorem Here.irem {x z : Int32} (A : Here p l e R s m args below meth c Z a0 y bytes ml ret dm fp T k n os) (hd : decode bytes pc = .ok (.irem, 1)) (hz : z ≠ 0) {qn : Nat} (hq : pc + 1 = qn)
    (K : Wp p e below Z a0 dm fp R s Post T (mkF m qn Ls (.int (x % z) :: rest))) : Wp p e below Z a0 dm fp R s Post T (mkF m pc Ls (.int z :: .int x :: rest)) := by
  subst hq
  have q := irem_eq_mod x z
  exact Wp.go (fun t kt => XS.irem A.hr A.hx rfl (A.hb hd) rfl hz (by rw [q]; exact kt)) K
theorem lrem_eq (x z : Int64) : x - (x / z) * z = x % z := by
  apply Int64.toInt_inj.mp
  rw [Jvm.Kit.i64_rem, Int64.toInt_mod]
theorem Here.lrem {x z : Int64} (A : Here p l e R s m args below meth c Z a0 y bytes ml ret dm fp T k n os) (hd : decode bytes pc = .ok (.lrem, 1)) (hz : z ≠ 0) {qn : Nat} (hq : pc + 1 = qn)
    (K : Wp p e below Z a0 dm fp R s Post T (mkF m qn Ls (.long (x % z) :: rest))) : Wp p e below Z a0 dm fp R s Post T (mkF m pc Ls (.long z :: .long x :: rest)) := by
  subst hq
  have q := lrem_eq x z
  exact Wp.go (fun t kt => XS.lrem A.hr A.hx rfl (A.hb hd) rfl hz (by rw [q]; exact kt)) K
theorem Pays.of (hpl : plainFor y = true) (hef : ∀ m, entryFrame m args ml = mkF m 0 Ls [])
    (body : ∀ p e s m below meth c T, Here p l e R s m args below meth c Z a0 y bytes ml ret (os.map (·.1)) fp T 0 0 os → Wp p e below Z a0 (os.map (·.1)) fp R s Post T (mkF m 0 Ls [])) : Pays l Z a0 y bytes ml ret R args os fp Post := by
  intro ws h0 hq
  refine MetFree.of_bodySF hpl hisR ?_
  intro p e s m args' below meth c s₁ Bd hml0 hP hK
  obtain ⟨rfl, hZ, hh⟩ := hP
  have X0 : Stand p l e R s m args' below meth c s₁ [] 0 0 := Stand.of_body Bd
  have e0 : s₁.heap = s.heap := by rw [Bd.state]; rfl
  subst hh
  obtain ⟨s₂, o, h1, h2, h3, h4⟩ := body p e s m below meth c s₁ ⟨[], X0, fun _ q => (nomatch q), by rw [e0]; exact Hp.start hq, Bd.exec, hZ, Bd.bytes, hml0, findClass_of_methodNamed Bd.named, (name_of_methodNamed Bd.named Bd.method).1, Bd.returns, Bd.notSynchronized⟩
  exact ⟨s₂, o, castTop (hef m) h1, h2, h3, h4⟩
theorem Here.fin {v : Option Value} {g : JFrame} (A : Here p l e R s m args below meth c Z a0 y bytes ml ret dm fp T k n os) (hv : ret = none → v = none) (hk : k ≤ R.cells) (hn : n ≤ R.slots) (hP : Post v os)
    (hs : ∀ (locs : List Loc), Stand p l e R s m args below meth c T locs k n → meth.sig.returnType = ret → ∀ fs : List Frame, (∀ (f : JFrame) (acts : List Action), f.method = m → f.locked = none → f.entered = [] → (doReturn e (T.setTop f) acts v).1 = T.setFrames fs) → Steps p.tables e below (T.setTop g) (T.setFrames fs)) :
    Wp p e below Z a0 dm fp R s Post T g := by
  obtain ⟨locs, X, N, H, hx, hZ, hb, hml, hown, hnm, hret, hlk⟩ := A
  obtain ⟨fs, hr, hrun, hended, hW, hsame⟩ := X.leave (v := v) (fun h => hv (hret ▸ h)) hlk
  exact ⟨_, _, hs locs X hret fs hr, hrun, hended, v, locs, rfl, ⟨N, os, H, hP⟩, ⟨_, rfl⟩, hW, hsame.mono hk hn⟩
theorem Here.retV (A : Here p l e R s m args below meth c Z a0 y bytes ml none dm fp T k n os) (hd : decode bytes pc = .ok (.return_, 1)) (hk : k ≤ R.cells) (hn : n ≤ R.slots) (hP : Post none os) : Wp p e below Z a0 dm fp R s Post T (mkF m pc Ls []) :=
  A.fin (v := none) (fun _ => rfl) hk hn hP fun _ X hret _ hr => X.returnOut A.hx hret (A.hb hd) hr
theorem Here.retT {w : Value} {t : FieldType} {i : Instr} (A : Here p l e R s m args below meth c Z a0 y bytes ml (some t) dm fp T k n os) (hd : decode bytes pc = .ok (i, 1)) (hw : narrow t w = w)
    (hi : (i = .ireturn ∧ (t = .int ∨ t = .boolean ∨ t = .byte ∨ t = .char ∨ t = .short) ∧ ∃ z, w = .int z) ∨ (i = .lreturn ∧ t = .long ∧ ∃ z, w = .long z) ∨ (i = .dreturn ∧ t = .double ∧ ∃ z, w = .double z) ∨ (i = .freturn ∧ t = .float ∧ ∃ z, w = .float z) ∨ (i = .areturn ∧ t.isReference = true ∧ w.isRef = true))
    (hk : k ≤ R.cells) (hn : n ≤ R.slots) (hP : Post (some w) os) : Wp p e below Z a0 dm fp R s Post T (mkF m pc Ls (w :: rest)) :=
  A.fin (v := some w) (fun h => by cases h) hk hn hP fun _ X hret _ hr => retOut X A.hx hret hw hi (A.hb hd) hr
theorem Here.retI {z : Int32} (A : Here p l e R s m args below meth c Z a0 y bytes ml (some .int) dm fp T k n os) (hd : decode bytes pc = .ok (.ireturn, 1)) (hk : k ≤ R.cells) (hn : n ≤ R.slots) (hP : Post (some (.int z)) os) : Wp p e below Z a0 dm fp R s Post T (mkF m pc Ls (.int z :: rest)) :=
  A.retT hd rfl (Or.inl ⟨rfl, Or.inl rfl, z, rfl⟩) hk hn hP
theorem Here.retJ {z : Int64} (A : Here p l e R s m args below meth c Z a0 y bytes ml (some .long) dm fp T k n os) (hd : decode bytes pc = .ok (.lreturn, 1)) (hk : k ≤ R.cells) (hn : n ≤ R.slots) (hP : Post (some (.long z)) os) : Wp p e below Z a0 dm fp R s Post T (mkF m pc Ls (.long z :: rest)) :=
  A.retT hd rfl (Or.inr (Or.inl ⟨rfl, rfl, z, rfl⟩)) hk hn hP
theorem Here.retR {a : Addr} {t : FieldType} (A : Here p l e R s m args below meth c Z a0 y bytes ml (some t) dm fp T k n os) (hd : decode bytes pc = .ok (.areturn, 1)) (ht : t.isReference = true) (hk : k ≤ R.cells) (hn : n ≤ R.slots) (hP : Post (some (.ref a)) os) : Wp p e below Z a0 dm fp R s Post T (mkF m pc Ls (.ref a :: rest)) :=
  A.retT hd (by cases t <;> first | rfl | (cases ht)) (Or.inr (Or.inr (Or.inr (Or.inr ⟨rfl, ht, rfl⟩)))) hk hn hP
/-- of a boolean, byte, char, short: what comes out is narrowed -/
theorem Here.retN {z : Int32} {t : FieldType} (A : Here p l e R s m args below meth c Z a0 y bytes ml (some t) dm fp T k n os) (ht : t = .boolean ∨ t = .byte ∨ t = .char ∨ t = .short) (hd : decode bytes pc = .ok (.ireturn, 1)) (hk : k ≤ R.cells) (hn : n ≤ R.slots) (hP : Post (some (.int (nar t z))) os) : Wp p e below Z a0 dm fp R s Post T (mkF m pc Ls (.int z :: rest)) :=
  A.fin (v := some (.int (nar t z))) (fun h => by cases h) hk hn hP fun _ X hret _ hr => RoadKit.retN X A.hx hret ht (A.hb hd) hr
/-! single instructions (printed by mkops.py) -/
theorem Here.iloadN {j : Fin 4} {v : Int32} {q : Nat} (A : Here p l e R s m args below meth c Z a0 y bytes ml ret dm fp T k n os) (hd : decode bytes pc = .ok (.iload_n j, 1)) (hl : Ls[j.val]? = some (.val (.int v))) (hq : pc + 1 = q) (K : Wp p e below Z a0 dm fp R s Post T (mkF m q Ls (.int v :: st))) : Wp p e below Z a0 dm fp R s Post T (mkF m pc Ls st) := by
  subst hq
  exact Wp.go (fun t kt => XS.iloadN A.hr A.hx rfl (A.hb hd) hl kt) K
theorem Here.iload {j : Nat} {v : Int32} {q : Nat} (A : Here p l e R s m args below meth c Z a0 y bytes ml ret dm fp T k n os) (hd : decode bytes pc = .ok (.iload j, 2)) (hl : Ls[j]? = some (.val (.int v))) (hq : pc + 2 = q) (K : Wp p e below Z a0 dm fp R s Post T (mkF m q Ls (.int v :: st))) : Wp p e below Z a0 dm fp R s Post T (mkF m pc Ls st) := by
  subst hq
  exact Wp.go (fun t kt => XS.iload A.hr A.hx rfl (A.hb hd) hl kt) K
theorem Here.istoreN {j : Fin 4} {v : Int32} {l' : Array Slot} {q : Nat} (A : Here p l e R s m args below meth c Z a0 y bytes ml ret dm fp T k n os) (hd : decode bytes pc = .ok (.istore_n j, 1)) (hl : storeLocals Ls j.val (.int v) = some l') (hq : pc + 1 = q) (K : Wp p e below Z a0 dm fp R s Post T (mkF m q l' rest)) : Wp p e below Z a0 dm fp R s Post T (mkF m pc Ls (.int v :: rest)) := by
  subst hq
  exact Wp.go (fun t kt => XS.istoreN A.hr A.hx rfl (A.hb hd) rfl hl kt) K
theorem Here.istore {j : Nat} {v : Int32} {l' : Array Slot} {q : Nat} (A : Here p l e R s m args below meth c Z a0 y bytes ml ret dm fp T k n os) (hd : decode bytes pc = .ok (.istore j, 2)) (hl : storeLocals Ls j (.int v) = some l') (hq : pc + 2 = q) (K : Wp p e below Z a0 dm fp R s Post T (mkF m q l' rest)) : Wp p e below Z a0 dm fp R s Post T (mkF m pc Ls (.int v :: rest)) := by
  subst hq
  exact Wp.go (fun t kt => XS.istore A.hr A.hx rfl (A.hb hd) rfl hl kt) K
theorem Here.lloadN {j : Fin 4} {v : Int64} {q : Nat} (A : Here p l e R s m args below meth c Z a0 y bytes ml ret dm fp T k n os) (hd : decode bytes pc = .ok (.lload_n j, 1)) (hl : Ls[j.val]? = some (.val (.long v))) (hq : pc + 1 = q) (K : Wp p e below Z a0 dm fp R s Post T (mkF m q Ls (.long v :: st))) : Wp p e below Z a0 dm fp R s Post T (mkF m pc Ls st) := by
  subst hq
  exact Wp.go (fun t kt => XS.lloadN A.hr A.hx rfl (A.hb hd) hl kt) K
theorem Here.lload {j : Nat} {v : Int64} {q : Nat} (A : Here p l e R s m args below meth c Z a0 y bytes ml ret dm fp T k n os) (hd : decode bytes pc = .ok (.lload j, 2)) (hl : Ls[j]? = some (.val (.long v))) (hq : pc + 2 = q) (K : Wp p e below Z a0 dm fp R s Post T (mkF m q Ls (.long v :: st))) : Wp p e below Z a0 dm fp R s Post T (mkF m pc Ls st) := by
  subst hq
  exact Wp.go (fun t kt => XS.lload A.hr A.hx rfl (A.hb hd) hl kt) K
theorem Here.lstoreN {j : Fin 4} {v : Int64} {l' : Array Slot} {q : Nat} (A : Here p l e R s m args below meth c Z a0 y bytes ml ret dm fp T k n os) (hd : decode bytes pc = .ok (.lstore_n j, 1)) (hl : storeLocals Ls j.val (.long v) = some l') (hq : pc + 1 = q) (K : Wp p e below Z a0 dm fp R s Post T (mkF m q l' rest)) : Wp p e below Z a0 dm fp R s Post T (mkF m pc Ls (.long v :: rest)) := by
  subst hq
  exact Wp.go (fun t kt => XS.lstoreN A.hr A.hx rfl (A.hb hd) rfl hl kt) K
theorem Here.lstore {j : Nat} {v : Int64} {l' : Array Slot} {q : Nat} (A : Here p l e R s m args below meth c Z a0 y bytes ml ret dm fp T k n os) (hd : decode bytes pc = .ok (.lstore j, 2)) (hl : storeLocals Ls j (.long v) = some l') (hq : pc + 2 = q) (K : Wp p e below Z a0 dm fp R s Post T (mkF m q l' rest)) : Wp p e below Z a0 dm fp R s Post T (mkF m pc Ls (.long v :: rest)) := by
  subst hq
  exact Wp.go (fun t kt => XS.lstore A.hr A.hx rfl (A.hb hd) rfl hl kt) K
theorem Here.aloadN {j : Fin 4} {v : Value} {q : Nat} (A : Here p l e R s m args below meth c Z a0 y bytes ml ret dm fp T k n os) (hd : decode bytes pc = .ok (.aload_n j, 1)) (hl : Ls[j.val]? = some (.val v)) (hv : v.isRef = true) (hq : pc + 1 = q) (K : Wp p e below Z a0 dm fp R s Post T (mkF m q Ls (v :: st))) : Wp p e below Z a0 dm fp R s Post T (mkF m pc Ls st) := by
  subst hq
  exact Wp.go (fun t kt => XS.aloadN A.hr A.hx rfl (A.hb hd) hl hv kt) K
theorem Here.aload {j : Nat} {v : Value} {q : Nat} (A : Here p l e R s m args below meth c Z a0 y bytes ml ret dm fp T k n os) (hd : decode bytes pc = .ok (.aload j, 2)) (hl : Ls[j]? = some (.val v)) (hv : v.isRef = true) (hq : pc + 2 = q) (K : Wp p e below Z a0 dm fp R s Post T (mkF m q Ls (v :: st))) : Wp p e below Z a0 dm fp R s Post T (mkF m pc Ls st) := by
  subst hq
  exact Wp.go (fun t kt => XS.aload A.hr A.hx rfl (A.hb hd) hl hv kt) K
theorem Here.astoreN {j : Fin 4} {v : Value} {l' : Array Slot} {q : Nat} (A : Here p l e R s m args below meth c Z a0 y bytes ml ret dm fp T k n os) (hd : decode bytes pc = .ok (.astore_n j, 1)) (hv : v.isRef = true) (hl : storeLocals Ls j.val v = some l') (hq : pc + 1 = q) (K : Wp p e below Z a0 dm fp R s Post T (mkF m q l' rest)) : Wp p e below Z a0 dm fp R s Post T (mkF m pc Ls (v :: rest)) := by
  subst hq
  exact Wp.go (fun t kt => XS.astoreN A.hr A.hx rfl (A.hb hd) rfl hv hl kt) K
theorem Here.astore {j : Nat} {v : Value} {l' : Array Slot} {q : Nat} (A : Here p l e R s m args below meth c Z a0 y bytes ml ret dm fp T k n os) (hd : decode bytes pc = .ok (.astore j, 2)) (hv : v.isRef = true) (hl : storeLocals Ls j v = some l') (hq : pc + 2 = q) (K : Wp p e below Z a0 dm fp R s Post T (mkF m q l' rest)) : Wp p e below Z a0 dm fp R s Post T (mkF m pc Ls (v :: rest)) := by
  subst hq
  exact Wp.go (fun t kt => XS.astore A.hr A.hx rfl (A.hb hd) rfl hv hl kt) K
theorem Here.iconst {i : Int} {v : Int32} {q : Nat} (A : Here p l e R s m args below meth c Z a0 y bytes ml ret dm fp T k n os) (hd : decode bytes pc = .ok (.iconst i, 1)) (hv : Int32.ofInt i = v) (hq : pc + 1 = q) (K : Wp p e below Z a0 dm fp R s Post T (mkF m q Ls (.int v :: st))) : Wp p e below Z a0 dm fp R s Post T (mkF m pc Ls st) := by
  subst hq hv
  exact Wp.go (fun t kt => XS.iconst A.hr A.hx rfl (A.hb hd) kt) K
theorem Here.bipush {i : Int} {v : Int32} {q : Nat} (A : Here p l e R s m args below meth c Z a0 y bytes ml ret dm fp T k n os) (hd : decode bytes pc = .ok (.bipush i, 2)) (hv : (Int8.ofInt i).toInt32 = v) (hq : pc + 2 = q) (K : Wp p e below Z a0 dm fp R s Post T (mkF m q Ls (.int v :: st))) : Wp p e below Z a0 dm fp R s Post T (mkF m pc Ls st) := by
  subst hq hv
  exact Wp.go (fun t kt => XS.bipush A.hr A.hx rfl (A.hb hd) kt) K
theorem Here.sipush {i : Int} {v : Int32} {q : Nat} (A : Here p l e R s m args below meth c Z a0 y bytes ml ret dm fp T k n os) (hd : decode bytes pc = .ok (.sipush i, 3)) (hv : (Int16.ofInt i).toInt32 = v) (hq : pc + 3 = q) (K : Wp p e below Z a0 dm fp R s Post T (mkF m q Ls (.int v :: st))) : Wp p e below Z a0 dm fp R s Post T (mkF m pc Ls st) := by
  subst hq hv
  exact Wp.go (fun t kt => XS.sipush A.hr A.hx rfl (A.hb hd) kt) K
theorem Here.lconst {i : Fin 2} {v : Int64} {q : Nat} (A : Here p l e R s m args below meth c Z a0 y bytes ml ret dm fp T k n os) (hd : decode bytes pc = .ok (.lconst i, 1)) (hv : Int64.ofNat i.val = v) (hq : pc + 1 = q) (K : Wp p e below Z a0 dm fp R s Post T (mkF m q Ls (.long v :: st))) : Wp p e below Z a0 dm fp R s Post T (mkF m pc Ls st) := by
  subst hq hv
  exact Wp.go (fun t kt => XS.lconst A.hr A.hx rfl (A.hb hd) kt) K
theorem Here.aconstNull  {q : Nat} (A : Here p l e R s m args below meth c Z a0 y bytes ml ret dm fp T k n os) (hd : decode bytes pc = .ok (.aconst_null, 1)) (hq : pc + 1 = q) (K : Wp p e below Z a0 dm fp R s Post T (mkF m q Ls (.null :: st))) : Wp p e below Z a0 dm fp R s Post T (mkF m pc Ls st) := by
  subst hq
  exact Wp.go (fun t kt => XS.aconstNull A.hr A.hx rfl (A.hb hd)  kt) K
theorem Here.iadd {x z : Int32} {q : Nat} (A : Here p l e R s m args below meth c Z a0 y bytes ml ret dm fp T k n os) (hd : decode bytes pc = .ok (.iadd, 1)) (hq : pc + 1 = q) (K : Wp p e below Z a0 dm fp R s Post T (mkF m q Ls (.int (x + z) :: rest))) : Wp p e below Z a0 dm fp R s Post T (mkF m pc Ls (.int z :: .int x :: rest)) := by
  subst hq
  exact Wp.go (fun t kt => XS.iadd A.hr A.hx rfl (A.hb hd) rfl kt) K
theorem Here.ladd {x z : Int64} {q : Nat} (A : Here p l e R s m args below meth c Z a0 y bytes ml ret dm fp T k n os) (hd : decode bytes pc = .ok (.ladd, 1)) (hq : pc + 1 = q) (K : Wp p e below Z a0 dm fp R s Post T (mkF m q Ls (.long (x + z) :: rest))) : Wp p e below Z a0 dm fp R s Post T (mkF m pc Ls (.long z :: .long x :: rest)) := by
  subst hq
  exact Wp.go (fun t kt => XS.ladd A.hr A.hx rfl (A.hb hd) rfl kt) K
theorem Here.isub {x z : Int32} {q : Nat} (A : Here p l e R s m args below meth c Z a0 y bytes ml ret dm fp T k n os) (hd : decode bytes pc = .ok (.isub, 1)) (hq : pc + 1 = q) (K : Wp p e below Z a0 dm fp R s Post T (mkF m q Ls (.int (x - z) :: rest))) : Wp p e below Z a0 dm fp R s Post T (mkF m pc Ls (.int z :: .int x :: rest)) := by
  subst hq
  exact Wp.go (fun t kt => XS.isub A.hr A.hx rfl (A.hb hd) rfl kt) K
theorem Here.lsub {x z : Int64} {q : Nat} (A : Here p l e R s m args below meth c Z a0 y bytes ml ret dm fp T k n os) (hd : decode bytes pc = .ok (.lsub, 1)) (hq : pc + 1 = q) (K : Wp p e below Z a0 dm fp R s Post T (mkF m q Ls (.long (x - z) :: rest))) : Wp p e below Z a0 dm fp R s Post T (mkF m pc Ls (.long z :: .long x :: rest)) := by
  subst hq
  exact Wp.go (fun t kt => XS.lsub A.hr A.hx rfl (A.hb hd) rfl kt) K
theorem Here.imul {x z : Int32} {q : Nat} (A : Here p l e R s m args below meth c Z a0 y bytes ml ret dm fp T k n os) (hd : decode bytes pc = .ok (.imul, 1)) (hq : pc + 1 = q) (K : Wp p e below Z a0 dm fp R s Post T (mkF m q Ls (.int (x * z) :: rest))) : Wp p e below Z a0 dm fp R s Post T (mkF m pc Ls (.int z :: .int x :: rest)) := by
  subst hq
  exact Wp.go (fun t kt => XS.imul A.hr A.hx rfl (A.hb hd) rfl kt) K
theorem Here.lmul {x z : Int64} {q : Nat} (A : Here p l e R s m args below meth c Z a0 y bytes ml ret dm fp T k n os) (hd : decode bytes pc = .ok (.lmul, 1)) (hq : pc + 1 = q) (K : Wp p e below Z a0 dm fp R s Post T (mkF m q Ls (.long (x * z) :: rest))) : Wp p e below Z a0 dm fp R s Post T (mkF m pc Ls (.long z :: .long x :: rest)) := by
  subst hq
  exact Wp.go (fun t kt => XS.lmul A.hr A.hx rfl (A.hb hd) rfl kt) K
theorem Here.iand {x z : Int32} {q : Nat} (A : Here p l e R s m args below meth c Z a0 y bytes ml ret dm fp T k n os) (hd : decode bytes pc = .ok (.iand, 1)) (hq : pc + 1 = q) (K : Wp p e below Z a0 dm fp R s Post T (mkF m q Ls (.int (x &&& z) :: rest))) : Wp p e below Z a0 dm fp R s Post T (mkF m pc Ls (.int z :: .int x :: rest)) := by
  subst hq
  exact Wp.go (fun t kt => XS.iand A.hr A.hx rfl (A.hb hd) rfl kt) K
theorem Here.land {x z : Int64} {q : Nat} (A : Here p l e R s m args below meth c Z a0 y bytes ml ret dm fp T k n os) (hd : decode bytes pc = .ok (.land, 1)) (hq : pc + 1 = q) (K : Wp p e below Z a0 dm fp R s Post T (mkF m q Ls (.long (x &&& z) :: rest))) : Wp p e below Z a0 dm fp R s Post T (mkF m pc Ls (.long z :: .long x :: rest)) := by
  subst hq
  exact Wp.go (fun t kt => XS.land A.hr A.hx rfl (A.hb hd) rfl kt) K
theorem Here.ior {x z : Int32} {q : Nat} (A : Here p l e R s m args below meth c Z a0 y bytes ml ret dm fp T k n os) (hd : decode bytes pc = .ok (.ior, 1)) (hq : pc + 1 = q) (K : Wp p e below Z a0 dm fp R s Post T (mkF m q Ls (.int (x ||| z) :: rest))) : Wp p e below Z a0 dm fp R s Post T (mkF m pc Ls (.int z :: .int x :: rest)) := by
  subst hq
  exact Wp.go (fun t kt => XS.ior A.hr A.hx rfl (A.hb hd) rfl kt) K
theorem Here.lor {x z : Int64} {q : Nat} (A : Here p l e R s m args below meth c Z a0 y bytes ml ret dm fp T k n os) (hd : decode bytes pc = .ok (.lor, 1)) (hq : pc + 1 = q) (K : Wp p e below Z a0 dm fp R s Post T (mkF m q Ls (.long (x ||| z) :: rest))) : Wp p e below Z a0 dm fp R s Post T (mkF m pc Ls (.long z :: .long x :: rest)) := by
  subst hq
  exact Wp.go (fun t kt => XS.lor A.hr A.hx rfl (A.hb hd) rfl kt) K
theorem Here.ixor {x z : Int32} {q : Nat} (A : Here p l e R s m args below meth c Z a0 y bytes ml ret dm fp T k n os) (hd : decode bytes pc = .ok (.ixor, 1)) (hq : pc + 1 = q) (K : Wp p e below Z a0 dm fp R s Post T (mkF m q Ls (.int (x ^^^ z) :: rest))) : Wp p e below Z a0 dm fp R s Post T (mkF m pc Ls (.int z :: .int x :: rest)) := by
  subst hq
  exact Wp.go (fun t kt => XS.ixor A.hr A.hx rfl (A.hb hd) rfl kt) K
theorem Here.lxor {x z : Int64} {q : Nat} (A : Here p l e R s m args below meth c Z a0 y bytes ml ret dm fp T k n os) (hd : decode bytes pc = .ok (.lxor, 1)) (hq : pc + 1 = q) (K : Wp p e below Z a0 dm fp R s Post T (mkF m q Ls (.long (x ^^^ z) :: rest))) : Wp p e below Z a0 dm fp R s Post T (mkF m pc Ls (.long z :: .long x :: rest)) := by
  subst hq
  exact Wp.go (fun t kt => XS.lxor A.hr A.hx rfl (A.hb hd) rfl kt) K
theorem Here.idiv {x z : Int32} {q : Nat} (A : Here p l e R s m args below meth c Z a0 y bytes ml ret dm fp T k n os) (hd : decode bytes pc = .ok (.idiv, 1)) (hz : z ≠ 0) (hq : pc + 1 = q) (K : Wp p e below Z a0 dm fp R s Post T (mkF m q Ls (.int (x / z) :: rest))) : Wp p e below Z a0 dm fp R s Post T (mkF m pc Ls (.int z :: .int x :: rest)) := by
  subst hq
  exact Wp.go (fun t kt => XS.idiv A.hr A.hx rfl (A.hb hd) rfl hz kt) K
theorem Here.ineg {x : Int32} {q : Nat} (A : Here p l e R s m args below meth c Z a0 y bytes ml ret dm fp T k n os) (hd : decode bytes pc = .ok (.ineg, 1)) (hq : pc + 1 = q) (K : Wp p e below Z a0 dm fp R s Post T (mkF m q Ls (.int (-x) :: rest))) : Wp p e below Z a0 dm fp R s Post T (mkF m pc Ls (.int x :: rest)) := by
  subst hq
  exact Wp.go (fun t kt => XS.ineg A.hr A.hx rfl (A.hb hd) rfl kt) K
theorem Here.ldiv {x z : Int64} {q : Nat} (A : Here p l e R s m args below meth c Z a0 y bytes ml ret dm fp T k n os) (hd : decode bytes pc = .ok (.ldiv, 1)) (hz : z ≠ 0) (hq : pc + 1 = q) (K : Wp p e below Z a0 dm fp R s Post T (mkF m q Ls (.long (x / z) :: rest))) : Wp p e below Z a0 dm fp R s Post T (mkF m pc Ls (.long z :: .long x :: rest)) := by
  subst hq
  exact Wp.go (fun t kt => XS.ldiv A.hr A.hx rfl (A.hb hd) rfl hz kt) K
theorem Here.lneg {x : Int64} {q : Nat} (A : Here p l e R s m args below meth c Z a0 y bytes ml ret dm fp T k n os) (hd : decode bytes pc = .ok (.lneg, 1)) (hq : pc + 1 = q) (K : Wp p e below Z a0 dm fp R s Post T (mkF m q Ls (.long (-x) :: rest))) : Wp p e below Z a0 dm fp R s Post T (mkF m pc Ls (.long x :: rest)) := by
  subst hq
  exact Wp.go (fun t kt => XS.lneg A.hr A.hx rfl (A.hb hd) rfl kt) K
theorem Here.i2l {x : Int32} {q : Nat} (A : Here p l e R s m args below meth c Z a0 y bytes ml ret dm fp T k n os) (hd : decode bytes pc = .ok (.i2l, 1)) (hq : pc + 1 = q) (K : Wp p e below Z a0 dm fp R s Post T (mkF m q Ls (.long (x.toInt64) :: rest))) : Wp p e below Z a0 dm fp R s Post T (mkF m pc Ls (.int x :: rest)) := by
  subst hq
  exact Wp.go (fun t kt => XS.i2l A.hr A.hx rfl (A.hb hd) rfl kt) K
theorem Here.l2i {x : Int64} {q : Nat} (A : Here p l e R s m args below meth c Z a0 y bytes ml ret dm fp T k n os) (hd : decode bytes pc = .ok (.l2i, 1)) (hq : pc + 1 = q) (K : Wp p e below Z a0 dm fp R s Post T (mkF m q Ls (.int (x.toInt32) :: rest))) : Wp p e below Z a0 dm fp R s Post T (mkF m pc Ls (.long x :: rest)) := by
  subst hq
  exact Wp.go (fun t kt => XS.l2i A.hr A.hx rfl (A.hb hd) rfl kt) K
theorem Here.i2b {x : Int32} {q : Nat} (A : Here p l e R s m args below meth c Z a0 y bytes ml ret dm fp T k n os) (hd : decode bytes pc = .ok (.i2b, 1)) (hq : pc + 1 = q) (K : Wp p e below Z a0 dm fp R s Post T (mkF m q Ls (.int (x.toInt8.toInt32) :: rest))) : Wp p e below Z a0 dm fp R s Post T (mkF m pc Ls (.int x :: rest)) := by
  subst hq
  exact Wp.go (fun t kt => XS.i2b A.hr A.hx rfl (A.hb hd) rfl kt) K
theorem Here.i2s {x : Int32} {q : Nat} (A : Here p l e R s m args below meth c Z a0 y bytes ml ret dm fp T k n os) (hd : decode bytes pc = .ok (.i2s, 1)) (hq : pc + 1 = q) (K : Wp p e below Z a0 dm fp R s Post T (mkF m q Ls (.int (x.toInt16.toInt32) :: rest))) : Wp p e below Z a0 dm fp R s Post T (mkF m pc Ls (.int x :: rest)) := by
  subst hq
  exact Wp.go (fun t kt => XS.i2s A.hr A.hx rfl (A.hb hd) rfl kt) K
theorem Here.i2c {x : Int32} {q : Nat} (A : Here p l e R s m args below meth c Z a0 y bytes ml ret dm fp T k n os) (hd : decode bytes pc = .ok (.i2c, 1)) (hq : pc + 1 = q) (K : Wp p e below Z a0 dm fp R s Post T (mkF m q Ls (.int (x.toUInt32.toUInt16.toUInt32.toInt32) :: rest))) : Wp p e below Z a0 dm fp R s Post T (mkF m pc Ls (.int x :: rest)) := by
  subst hq
  exact Wp.go (fun t kt => XS.i2c A.hr A.hx rfl (A.hb hd) rfl kt) K
theorem Here.ishl {x : Int32} {z : Int32} {q : Nat} (A : Here p l e R s m args below meth c Z a0 y bytes ml ret dm fp T k n os) (hd : decode bytes pc = .ok (.ishl, 1)) (hq : pc + 1 = q) (K : Wp p e below Z a0 dm fp R s Post T (mkF m q Ls (.int (x <<< (z &&& 31)) :: rest))) : Wp p e below Z a0 dm fp R s Post T (mkF m pc Ls (.int z :: .int x :: rest)) := by
  subst hq
  exact Wp.go (fun t kt => XS.ishl A.hr A.hx rfl (A.hb hd) rfl kt) K
theorem Here.ishr {x : Int32} {z : Int32} {q : Nat} (A : Here p l e R s m args below meth c Z a0 y bytes ml ret dm fp T k n os) (hd : decode bytes pc = .ok (.ishr, 1)) (hq : pc + 1 = q) (K : Wp p e below Z a0 dm fp R s Post T (mkF m q Ls (.int (x >>> (z &&& 31)) :: rest))) : Wp p e below Z a0 dm fp R s Post T (mkF m pc Ls (.int z :: .int x :: rest)) := by
  subst hq
  exact Wp.go (fun t kt => XS.ishr A.hr A.hx rfl (A.hb hd) rfl kt) K
theorem Here.iushr {x : Int32} {z : Int32} {q : Nat} (A : Here p l e R s m args below meth c Z a0 y bytes ml ret dm fp T k n os) (hd : decode bytes pc = .ok (.iushr, 1)) (hq : pc + 1 = q) (K : Wp p e below Z a0 dm fp R s Post T (mkF m q Ls (.int ((x.toUInt32 >>> (z &&& 31).toUInt32).toInt32) :: rest))) : Wp p e below Z a0 dm fp R s Post T (mkF m pc Ls (.int z :: .int x :: rest)) := by
  subst hq
  exact Wp.go (fun t kt => XS.iushr A.hr A.hx rfl (A.hb hd) rfl kt) K
theorem Here.lshl {x : Int64} {z : Int32} {q : Nat} (A : Here p l e R s m args below meth c Z a0 y bytes ml ret dm fp T k n os) (hd : decode bytes pc = .ok (.lshl, 1)) (hq : pc + 1 = q) (K : Wp p e below Z a0 dm fp R s Post T (mkF m q Ls (.long (x <<< (z &&& 0x3f).toInt64) :: rest))) : Wp p e below Z a0 dm fp R s Post T (mkF m pc Ls (.int z :: .long x :: rest)) := by
  subst hq
  exact Wp.go (fun t kt => XS.lshl A.hr A.hx rfl (A.hb hd) rfl kt) K
theorem Here.lshr {x : Int64} {z : Int32} {q : Nat} (A : Here p l e R s m args below meth c Z a0 y bytes ml ret dm fp T k n os) (hd : decode bytes pc = .ok (.lshr, 1)) (hq : pc + 1 = q) (K : Wp p e below Z a0 dm fp R s Post T (mkF m q Ls (.long (x >>> (z &&& 0x3f).toInt64) :: rest))) : Wp p e below Z a0 dm fp R s Post T (mkF m pc Ls (.int z :: .long x :: rest)) := by
  subst hq
  exact Wp.go (fun t kt => XS.lshr A.hr A.hx rfl (A.hb hd) rfl kt) K
theorem Here.lushr {x : Int64} {z : Int32} {q : Nat} (A : Here p l e R s m args below meth c Z a0 y bytes ml ret dm fp T k n os) (hd : decode bytes pc = .ok (.lushr, 1)) (hq : pc + 1 = q) (K : Wp p e below Z a0 dm fp R s Post T (mkF m q Ls (.long ((x.toUInt64 >>> (z &&& 0x3f).toInt64.toUInt64).toInt64) :: rest))) : Wp p e below Z a0 dm fp R s Post T (mkF m pc Ls (.int z :: .long x :: rest)) := by
  subst hq
  exact Wp.go (fun t kt => XS.lushr A.hr A.hx rfl (A.hb hd) rfl kt) K
theorem Here.lcmp {x z : Int64} {q : Nat} (A : Here p l e R s m args below meth c Z a0 y bytes ml ret dm fp T k n os) (hd : decode bytes pc = .ok (.lcmp, 1)) (hq : pc + 1 = q) (K : Wp p e below Z a0 dm fp R s Post T (mkF m q Ls (.int (lcmpW x z) :: rest))) : Wp p e below Z a0 dm fp R s Post T (mkF m pc Ls (.long z :: .long x :: rest)) := by
  subst hq
  exact Wp.go (fun t kt => XS.lcmp A.hr A.hx rfl (A.hb hd) rfl kt) K
theorem Here.iinc {j : Nat} {i : Int} {x : Int32} {l' : Array Slot} {q : Nat} (A : Here p l e R s m args below meth c Z a0 y bytes ml ret dm fp T k n os) (hd : decode bytes pc = .ok (.iinc j i, 3)) (hl : Ls[j]? = some (.val (.int x))) (hl' : storeLocals Ls j (.int (x + Int32.ofInt i)) = some l') (hq : pc + 3 = q) (K : Wp p e below Z a0 dm fp R s Post T (mkF m q l' st)) : Wp p e below Z a0 dm fp R s Post T (mkF m pc Ls st) := by
  subst hq
  exact Wp.go (fun t kt => XS.iinc A.hr A.hx rfl (A.hb hd) hl hl' kt) K
theorem Here.dup {v : Value} {q : Nat} (A : Here p l e R s m args below meth c Z a0 y bytes ml ret dm fp T k n os) (hd : decode bytes pc = .ok (.dup, 1)) (hv : v.category = 1) (hq : pc + 1 = q) (K : Wp p e below Z a0 dm fp R s Post T (mkF m q Ls (v :: v :: rest))) : Wp p e below Z a0 dm fp R s Post T (mkF m pc Ls (v :: rest)) := by
  subst hq
  exact Wp.go (fun t kt => XS.dup A.hr A.hx rfl (A.hb hd) rfl hv kt) K
theorem Here.pop {v : Value} {q : Nat} (A : Here p l e R s m args below meth c Z a0 y bytes ml ret dm fp T k n os) (hd : decode bytes pc = .ok (.pop, 1)) (hv : v.category = 1) (hq : pc + 1 = q) (K : Wp p e below Z a0 dm fp R s Post T (mkF m q Ls rest)) : Wp p e below Z a0 dm fp R s Post T (mkF m pc Ls (v :: rest)) := by
  subst hq
  exact Wp.go (fun t kt => XS.pop A.hr A.hx rfl (A.hb hd) rfl hv kt) K
theorem Here.dup_x1 {v w : Value} {q : Nat} (A : Here p l e R s m args below meth c Z a0 y bytes ml ret dm fp T k n os) (hd : decode bytes pc = .ok (.dup_x1, 1)) (hv : v.category = 1) (hw : w.category = 1) (hq : pc + 1 = q) (K : Wp p e below Z a0 dm fp R s Post T (mkF m q Ls (v :: w :: v :: rest))) : Wp p e below Z a0 dm fp R s Post T (mkF m pc Ls (v :: w :: rest)) := by
  subst hq
  exact Wp.go (fun t kt => XS.dupX1 A.hr A.hx rfl (A.hb hd) rfl hv hw kt) K
theorem Here.dup2 {v w : Value} {q : Nat} (A : Here p l e R s m args below meth c Z a0 y bytes ml ret dm fp T k n os) (hd : decode bytes pc = .ok (.dup2, 1)) (hv : v.category = 1) (hw : w.category = 1) (hq : pc + 1 = q) (K : Wp p e below Z a0 dm fp R s Post T (mkF m q Ls (v :: w :: v :: w :: rest))) : Wp p e below Z a0 dm fp R s Post T (mkF m pc Ls (v :: w :: rest)) := by
  subst hq
  exact Wp.go (fun t kt => Jvm.Free.XT.dup2 A.hr A.hx rfl (A.hb hd) rfl hv hw kt) K
theorem Here.dup2L {x : Int64} {q : Nat} (A : Here p l e R s m args below meth c Z a0 y bytes ml ret dm fp T k n os) (hd : decode bytes pc = .ok (.dup2, 1)) (hq : pc + 1 = q) (K : Wp p e below Z a0 dm fp R s Post T (mkF m q Ls (.long x :: .long x :: rest))) : Wp p e below Z a0 dm fp R s Post T (mkF m pc Ls (.long x :: rest)) := by
  subst hq
  exact Wp.go (fun t kt => Jvm.Free.XT.dup2L A.hr A.hx rfl (A.hb hd) rfl kt) K
theorem Here.goto {o : Int} {q : Nat} (A : Here p l e R s m args below meth c Z a0 y bytes ml ret dm fp T k n os) (hd : decode bytes pc = .ok (.goto o, 3)) (ho : 0 ≤ (pc : Int) + o) (hq : ((pc : Int) + o).toNat = q) (K : Wp p e below Z a0 dm fp R s Post T (mkF m q Ls st)) : Wp p e below Z a0 dm fp R s Post T (mkF m pc Ls st) :=
  Wp.go (fun t kt => XS.goto A.hr A.hx rfl (pc0 := pc) (pc' := q) rfl (A.hb hd) ho hq kt) K
theorem Here.ifYes {cd : ClassFile.Cond} {o : Int} {x : Int32} {q : Nat} (A : Here p l e R s m args below meth c Z a0 y bytes ml ret dm fp T k n os) (hd : decode bytes pc = .ok (.ifCond cd o, 3)) (hc : ifCond.holds cd x = true) (ho : 0 ≤ (pc : Int) + o) (hq : ((pc : Int) + o).toNat = q) (K : Wp p e below Z a0 dm fp R s Post T (mkF m q Ls rest)) : Wp p e below Z a0 dm fp R s Post T (mkF m pc Ls (.int x :: rest)) :=
  Wp.go (fun t kt => XS.ifYes A.hr A.hx rfl (pc0 := pc) (pc' := q) rfl (A.hb hd) rfl hc ho hq kt) K
theorem Here.ifNo {cd : ClassFile.Cond} {o : Int} {x : Int32} {q : Nat} (A : Here p l e R s m args below meth c Z a0 y bytes ml ret dm fp T k n os) (hd : decode bytes pc = .ok (.ifCond cd o, 3)) (hc : ifCond.holds cd x = false) (hq : pc + 3 = q) (K : Wp p e below Z a0 dm fp R s Post T (mkF m q Ls rest)) : Wp p e below Z a0 dm fp R s Post T (mkF m pc Ls (.int x :: rest)) := by
  subst hq
  exact Wp.go (fun t kt => XS.ifNo A.hr A.hx rfl (A.hb hd) rfl hc kt) K
theorem Here.icmpYes {cd : ClassFile.Cond} {o : Int} {x z : Int32} {q : Nat} (A : Here p l e R s m args below meth c Z a0 y bytes ml ret dm fp T k n os) (hd : decode bytes pc = .ok (.if_icmp cd o, 3)) (hc : if_icmp.holds cd x z = true) (ho : 0 ≤ (pc : Int) + o) (hq : ((pc : Int) + o).toNat = q) (K : Wp p e below Z a0 dm fp R s Post T (mkF m q Ls rest)) : Wp p e below Z a0 dm fp R s Post T (mkF m pc Ls (.int z :: .int x :: rest)) :=
  Wp.go (fun t kt => XS.icmpYes A.hr A.hx rfl (pc0 := pc) (pc' := q) rfl (A.hb hd) rfl hc ho hq kt) K
theorem Here.icmpNo {cd : ClassFile.Cond} {o : Int} {x z : Int32} {q : Nat} (A : Here p l e R s m args below meth c Z a0 y bytes ml ret dm fp T k n os) (hd : decode bytes pc = .ok (.if_icmp cd o, 3)) (hc : if_icmp.holds cd x z = false) (hq : pc + 3 = q) (K : Wp p e below Z a0 dm fp R s Post T (mkF m q Ls rest)) : Wp p e below Z a0 dm fp R s Post T (mkF m pc Ls (.int z :: .int x :: rest)) := by
  subst hq
  exact Wp.go (fun t kt => XS.icmpNo A.hr A.hx rfl (A.hb hd) rfl hc kt) K
theorem Wp.top {v v' : Value} (h : v = v') (K : Wp p e below Z a0 dm fp R s Post T (mkF m pc Ls (v' :: st))) : Wp p e below Z a0 dm fp R s Post T (mkF m pc Ls (v :: st)) := by
  subst h
  exact K
/-! reads and writes -/
theorem Here.getF {O f d R0 : String} {idx i j : Nat} {a : Addr} {C : String} {fs : List Fd} {v : Value} (A : Here p l e R s m args below meth c Z a0 y bytes ml ret dm fp T k n os) (w : (Jvm.Cond.fieldLink y.cls idx R0 f d).before a0 Z = true) (via : Via Z R0 O f d) (hd : decode bytes pc = .ok (.getfield idx, 3)) (ho : os[i]? = some (a, .inl (C, fs))) (hj : fs[j]? = some (O, f, d, v)) {qn : Nat} (hq : pc + 3 = qn)
    (K : ∀ T', Here p l e R s m args below meth c Z a0 y bytes ml ret dm fp T' k n os → Wp p e below Z a0 dm fp R s Post T' (mkF m qn Ls (v :: rest))) : Wp p e below Z a0 dm fp R s Post T (mkF m pc Ls (.ref a :: rest)) := by
  subst hq
  have A' := A
  obtain ⟨locs, X, N, H, hx, hZ, hb, hml, hown, q⟩ := A
  obtain ⟨T1, X1, e1, st1⟩ := RoadKit.getF X hx hZ hown (host := "") (Or.inl w) via rfl (H.fld ho hj) (g := mkF m pc Ls (.ref a :: rest)) rfl rfl (A'.hb hd)
  exact Wp.go st1 (K T1 ⟨locs, X1, N, by rw [e1]; exact H, hx, hZ, hb, hml, hown, q⟩)
theorem Here.putF {O f d R0 : String} {idx i j kk : Nat} {a : Addr} {C : String} {fs : List Fd} {v old : Value} {ty : FieldType} (A : Here p l e R s m args below meth c Z a0 y bytes ml ret dm fp T k n os) (w : (Jvm.Cond.fieldLink y.cls idx R0 f d).before a0 Z = true) (via : Via Z R0 O f d)
    (hL : (Jvm.Cond.lays C O f d).before a0 Z = true ∨ ((Jvm.Cond.laysFinal C O f d).before a0 Z = true ∧ y.cls = O ∧ y.name = "<init>")) (wi : (Jvm.Cond.instantiable C kk).before a0 Z = true) (hty : parseFieldDescriptor d = some ty) (hnw : narrow ty v = v) (hf : fits ty v = true)
    (hd : decode bytes pc = .ok (.putfield idx, 3)) (ho : os[i]? = some (a, .inl (C, fs))) (hj : fs[j]? = some (O, f, d, old)) (hdf : dm = fp) {qn : Nat} (hq : pc + 3 = qn)
    (K : ∀ T', Here p l e R s m args below meth c Z a0 y bytes ml ret dm fp T' k n (os.set i (a, .inl (C, fs.set j (O, f, d, v)))) → Wp p e below Z a0 dm fp R s Post T' (mkF m qn Ls rest)) : Wp p e below Z a0 dm fp R s Post T (mkF m pc Ls (v :: .ref a :: rest)) := by
  subst hq
  have A' := A
  obtain ⟨locs, X, N, H, hx, hZ, hb, hml, hown, hnm, q⟩ := A
  have hD : Dm fp s.heap.size a := hdf ▸ H.2.1 _ (List.mem_of_getElem? ho)
  obtain ⟨T1, h1, X1, e1, W1, st1⟩ := RoadKit.putF X hx hZ hown (host := "") (Or.inl w) via rfl (H.fld ho hj) (H.exa ho) (hL.imp id fun z => ⟨z.1, z.2.1, hnm.trans z.2.2⟩) wi hty hnw hf (g := mkF m pc Ls (v :: .ref a :: rest)) rfl rfl (A'.hb hd)
  refine Wp.go st1 (K T1 ⟨_, X1, fun q hq => ?_, by rw [e1]; exact H.putf hD ho hj W1, hx, hZ, hb, hml, hown, hnm, q⟩)
  rcases List.mem_append.mp hq with hq | hq
  · exact N q hq
  · cases List.mem_singleton.mp hq; exact hD
theorem Here.putFN {O f d R0 : String} {idx i j kk : Nat} {a : Addr} {C : String} {fs : List Fd} {v v' old : Value} {ty : FieldType} (A : Here p l e R s m args below meth c Z a0 y bytes ml ret dm fp T k n os) (w : (Jvm.Cond.fieldLink y.cls idx R0 f d).before a0 Z = true) (via : Via Z R0 O f d)
    (hL : (Jvm.Cond.lays C O f d).before a0 Z = true ∨ ((Jvm.Cond.laysFinal C O f d).before a0 Z = true ∧ y.cls = O ∧ y.name = "<init>")) (wi : (Jvm.Cond.instantiable C kk).before a0 Z = true) (hty : parseFieldDescriptor d = some ty) (hnw : narrow ty v = v') (hf : fits ty v' = true)
    (hd : decode bytes pc = .ok (.putfield idx, 3)) (ho : os[i]? = some (a, .inl (C, fs))) (hj : fs[j]? = some (O, f, d, old)) (hdf : dm = fp) {qn : Nat} (hq : pc + 3 = qn)
    (K : ∀ T', Here p l e R s m args below meth c Z a0 y bytes ml ret dm fp T' k n (os.set i (a, .inl (C, fs.set j (O, f, d, v')))) → Wp p e below Z a0 dm fp R s Post T' (mkF m qn Ls rest)) : Wp p e below Z a0 dm fp R s Post T (mkF m pc Ls (v :: .ref a :: rest)) := by
  subst hq
  have A' := A
  obtain ⟨locs, X, N, H, hx, hZ, hb, hml, hown, hnm, q⟩ := A
  have hD : Dm fp s.heap.size a := hdf ▸ H.2.1 _ (List.mem_of_getElem? ho)
  obtain ⟨T1, h1, X1, e1, W1, st1⟩ := RoadKit.putFN X hx hZ hown w via rfl (H.fld ho hj) (H.exa ho) (hL.imp id fun z => ⟨z.1, z.2.1, hnm.trans z.2.2⟩) wi hty hnw hf (g := mkF m pc Ls (v :: .ref a :: rest)) rfl rfl (A'.hb hd)
  refine Wp.go st1 (K T1 ⟨_, X1, fun q hq => ?_, by rw [e1]; exact H.putf hD ho hj W1, hx, hZ, hb, hml, hown, hnm, q⟩)
  rcases List.mem_append.mp hq with hq | hq
  · exact N q hq
  · cases List.mem_singleton.mp hq; exact hD
theorem Here.newO {idx nn : Nat} {C : String} {fs : List Fd} (A : Here p l e R s m args below meth c Z a0 y bytes ml ret dm fp T k n os) (w : (Jvm.Cond.classLink y.cls idx C).before a0 Z = true) (wi : (Jvm.Cond.instantiable C nn).before a0 Z = true) (wz : (Jvm.Cond.initialized C).before a0 Z = true) (hd : decode bytes pc = .ok (.new idx, 3)) (hc : k + 1 ≤ R.cells) (hl : n + nn ≤ R.slots)
    (hnd : (fs.map (·.2.1)).Nodup) (hfs : ∀ q ∈ fs, Laid Z a0 C q.1 q.2.1 q.2.2.1 ∧ ∃ t, parseFieldDescriptor q.2.2.1 = some t ∧ q.2.2.2 = defaultValue t) {qn : Nat} (hq : pc + 3 = qn)
    (K : ∀ T' a, Here p l e R s m args below meth c Z a0 y bytes ml ret dm fp T' (k + 1) (n + nn) (os ++ [(a, .inl (C, fs))]) → Wp p e below Z a0 dm fp R s Post T' (mkF m qn Ls (.ref a :: st))) : Wp p e below Z a0 dm fp R s Post T (mkF m pc Ls st) := by
  subst hq
  have A' := A
  obtain ⟨locs, X, N, H, hx, hZ, hb, hml, hown, q⟩ := A
  obtain ⟨T1, h1, X1, e1, E1, A1, D1, -, st1⟩ := RoadKit.newO X hx hZ hown w wi wz rfl (g := mkF m pc Ls st) rfl (A'.hb hd) hc hl
  have F1 : ObAt Z a0 h1 T.heap.size (.inl (C, fs)) := ⟨A1, hnd, fun q hq => by
    obtain ⟨L, t, ht, hv⟩ := hfs q hq
    refine ⟨?_, L, t, ht⟩
    rw [hv]
    exact D1 L ht⟩
  exact Wp.go st1 (K T1 _ ⟨_, X1, N, by rw [e1]; exact H.push E1 F1, hx, hZ, hb, hml, hown, q⟩)
theorem Here.newP {aty : ArrayType} {z : Int32} {cap : Nat} (A : Here p l e R s m args below meth c Z a0 y bytes ml ret dm fp T k n os) (w : (Jvm.Cond.arrayClass (newarray.typeOf aty)).before a0 Z = true) (hd : decode bytes pc = .ok (.newarray aty, 2)) (hz : ¬ z < 0) (hcap : z.toNatClampNeg ≤ cap) (hb8 : cap * 8 ≤ 536870912) (hc : k + 1 ≤ R.cells) (hl : n + cap ≤ R.slots) {qn : Nat} (hq : pc + 2 = qn)
    (K : ∀ T' a, Here p l e R s m args below meth c Z a0 y bytes ml ret dm fp T' (k + 1) (n + cap) (os ++ [(a, .inr (newarray.typeOf aty, List.replicate z.toNatClampNeg (defaultValue (newarray.typeOf aty))))]) → Wp p e below Z a0 dm fp R s Post T' (mkF m qn Ls (.ref a :: st))) : Wp p e below Z a0 dm fp R s Post T (mkF m pc Ls (.int z :: st)) := by
  subst hq
  have A' := A
  obtain ⟨locs, X, N, H, hx, hZ, hb, hml, hown, q⟩ := A
  obtain ⟨T1, h1, cA, X1, e1, E1, A1, B1, st1⟩ := RoadKit.newPE X hx hZ w rfl (g := mkF m pc Ls (.int z :: st)) rfl (A'.hb hd) rfl hz hcap hb8 hc hl rfl
  have F1 : ObAt Z a0 h1 T.heap.size (.inr (newarray.typeOf aty, List.replicate z.toNatClampNeg (defaultValue (newarray.typeOf aty)))) := ⟨_, A1, by simp [newA], B1, fun v hv => by
    rw [(List.mem_replicate.mp hv).2]
    cases aty <;> rfl⟩
  exact Wp.go st1 (K T1 _ ⟨_, X1, N, by rw [e1]; exact H.push E1 F1, hx, hZ, hb, hml, hown, q⟩)
theorem inb {vs : List Value} {cl : Cell} {j : Int32} (e : cl.slots.toList = vs) (hj : ¬ j < 0) (hl : j.toNatClampNeg < vs.length) : ¬ (j < 0 ∨ cl.slots.size ≤ j.toNatClampNeg) := by
  subst e
  rw [Array.length_toList] at hl
  rintro (h | h)
  · exact hj h
  · exact absurd hl (Nat.not_lt.mpr h)
theorem Here.stOf {i : Nat} {a : Addr} {ty : FieldType} {vs : List Value} {j : Int32} {v : Value} {g : JFrame} (hf : fits ty v = true) (A : Here p l e R s m args below meth c Z a0 y bytes ml ret dm fp T k n os) (ho : os[i]? = some (a, .inr (ty, vs))) (hj : ¬ j < 0) (hl : j.toNatClampNeg < vs.length) (hdf : dm = fp)
    (S : ∀ (locs : List Loc) (cl : Cell), Stand p l e R s m args below meth c T locs k n → Arr Z T.heap a cl ty → ¬ (j < 0 ∨ cl.slots.size ≤ j.toNatClampNeg) → ∃ T' h', Stand p l e R s m args below meth c T' (locs ++ [⟨a, j.toNatClampNeg⟩]) k n ∧ T'.heap = h' ∧ Wr T.heap h' a j.toNatClampNeg v ∧ ∀ target, Steps p.tables e below (T'.setTop (mkF m (pc + 1) Ls rest)) target → Steps p.tables e below (T.setTop g) target)
    (K : ∀ T', Here p l e R s m args below meth c Z a0 y bytes ml ret dm fp T' k n (os.set i (a, .inr (ty, vs.set j.toNatClampNeg v))) → Wp p e below Z a0 dm fp R s Post T' (mkF m (pc + 1) Ls rest)) : Wp p e below Z a0 dm fp R s Post T g := by
  obtain ⟨locs, X, N, H, q⟩ := A
  obtain ⟨cl, Ar, ec⟩ := H.arr ho
  have hD : Dm fp s.heap.size a := hdf ▸ H.2.1 _ (List.mem_of_getElem? ho)
  obtain ⟨T1, h1, X1, e1, W1, st1⟩ := S locs cl X Ar (inb ec hj hl)
  refine Wp.go st1 (K T1 ⟨_, X1, fun q hq => ?_, by rw [e1]; exact H.puta hD hf ho W1, q⟩)
  rcases List.mem_append.mp hq with hq | hq
  · exact N q hq
  · cases List.mem_singleton.mp hq; exact hD
theorem Here.hz (A : Here p l e R s m args below meth c Z a0 y bytes ml ret dm fp T k n os) : Z.Warmed39 s.vm := by obtain ⟨_, -, -, -, -, hZ, -⟩ := A; exact hZ
theorem Here.stI {i : Nat} {a : Addr} {vs : List Value} {j x : Int32} (A : Here p l e R s m args below meth c Z a0 y bytes ml ret dm fp T k n os) (hd : decode bytes pc = .ok (.iastore, 1)) (ho : os[i]? = some (a, .inr (.int, vs))) (hj : ¬ j < 0) (hl : j.toNatClampNeg < vs.length) (hdf : dm = fp) {qn : Nat} (hq : pc + 1 = qn)
    (K : ∀ T', Here p l e R s m args below meth c Z a0 y bytes ml ret dm fp T' k n (os.set i (a, .inr (.int, vs.set j.toNatClampNeg (.int x)))) → Wp p e below Z a0 dm fp R s Post T' (mkF m qn Ls rest)) : Wp p e below Z a0 dm fp R s Post T (mkF m pc Ls (.int x :: .int j :: .ref a :: rest)) := by
  subst hq
  exact Here.stOf rfl A ho hj hl hdf (fun _ _ X Ar hin => RoadKit.stI X A.hx A.hz rfl Ar hin (g := mkF m pc Ls (.int x :: .int j :: .ref a :: rest)) rfl rfl (A.hb hd)) K
theorem Here.stJ {i : Nat} {a : Addr} {vs : List Value} {j : Int32} {x : Int64} (A : Here p l e R s m args below meth c Z a0 y bytes ml ret dm fp T k n os) (hd : decode bytes pc = .ok (.lastore, 1)) (ho : os[i]? = some (a, .inr (.long, vs))) (hj : ¬ j < 0) (hl : j.toNatClampNeg < vs.length) (hdf : dm = fp) {qn : Nat} (hq : pc + 1 = qn)
    (K : ∀ T', Here p l e R s m args below meth c Z a0 y bytes ml ret dm fp T' k n (os.set i (a, .inr (.long, vs.set j.toNatClampNeg (.long x)))) → Wp p e below Z a0 dm fp R s Post T' (mkF m qn Ls rest)) : Wp p e below Z a0 dm fp R s Post T (mkF m pc Ls (.long x :: .int j :: .ref a :: rest)) := by
  subst hq
  exact Here.stOf rfl A ho hj hl hdf (fun _ _ X Ar hin => RoadKit.stJ X A.hx A.hz rfl Ar hin (g := mkF m pc Ls (.long x :: .int j :: .ref a :: rest)) rfl rfl (A.hb hd)) K
theorem Here.stC {i : Nat} {a : Addr} {vs : List Value} {j x : Int32} (A : Here p l e R s m args below meth c Z a0 y bytes ml ret dm fp T k n os) (hd : decode bytes pc = .ok (.castore, 1)) (ho : os[i]? = some (a, .inr (.char, vs))) (hj : ¬ j < 0) (hl : j.toNatClampNeg < vs.length) (hdf : dm = fp) {qn : Nat} (hq : pc + 1 = qn)
    (K : ∀ T', Here p l e R s m args below meth c Z a0 y bytes ml ret dm fp T' k n (os.set i (a, .inr (.char, vs.set j.toNatClampNeg (.int (nar .char x))))) → Wp p e below Z a0 dm fp R s Post T' (mkF m qn Ls rest)) : Wp p e below Z a0 dm fp R s Post T (mkF m pc Ls (.int x :: .int j :: .ref a :: rest)) := by
  subst hq
  exact Here.stOf (fits_nar_char _) A ho hj hl hdf (fun _ _ X Ar hin => RoadKit.stC X A.hx A.hz rfl Ar hin (g := mkF m pc Ls (.int x :: .int j :: .ref a :: rest)) rfl rfl (A.hb hd)) K
theorem Here.stB {i : Nat} {a : Addr} {vs : List Value} {j x : Int32} (A : Here p l e R s m args below meth c Z a0 y bytes ml ret dm fp T k n os) (hd : decode bytes pc = .ok (.bastore, 1)) (ho : os[i]? = some (a, .inr (.byte, vs))) (hj : ¬ j < 0) (hl : j.toNatClampNeg < vs.length) (hdf : dm = fp) {qn : Nat} (hq : pc + 1 = qn)
    (K : ∀ T', Here p l e R s m args below meth c Z a0 y bytes ml ret dm fp T' k n (os.set i (a, .inr (.byte, vs.set j.toNatClampNeg (.int (nar .byte x))))) → Wp p e below Z a0 dm fp R s Post T' (mkF m qn Ls rest)) : Wp p e below Z a0 dm fp R s Post T (mkF m pc Ls (.int x :: .int j :: .ref a :: rest)) := by
  subst hq
  exact Here.stOf (fits_nar_byte _) A ho hj hl hdf (fun _ _ X Ar hin => RoadKit.stB X A.hx A.hz rfl Ar hin (g := mkF m pc Ls (.int x :: .int j :: .ref a :: rest)) rfl rfl (A.hb hd)) K
theorem Here.ldOf {i : Nat} {a : Addr} {ty : FieldType} {vs : List Value} {j : Int32} {v : Value} {g g' : JFrame} (A : Here p l e R s m args below meth c Z a0 y bytes ml ret dm fp T k n os) (ho : os[i]? = some (a, .inr (ty, vs))) (hj : ¬ j < 0) (hv : vs[j.toNatClampNeg]? = some v)
    (S : ∀ (locs : List Loc) (cl : Cell), Stand p l e R s m args below meth c T locs k n → T.heap[a]? = some cl → s.isArrayOf cl ty → cl.vm ≠ .unknown → ¬ (j < 0 ∨ cl.slots.size ≤ j.toNatClampNeg) → cl.slots[j.toNatClampNeg]? = some v → ∀ target, Steps p.tables e below (T.setTop g') target → Steps p.tables e below (T.setTop g) target)
    (K : Wp p e below Z a0 dm fp R s Post T g') : Wp p e below Z a0 dm fp R s Post T g := by
  have hz := A.hz
  obtain ⟨locs, X, N, H, q⟩ := A
  obtain ⟨cl, Ar, ec⟩ := H.arr ho
  refine Wp.go (S locs cl X Ar.1 (State.isArrayOf_alike hz.alike Ar.2.1) Ar.2.2 (inb ec hj (List.getElem?_eq_some_iff.mp hv).1) ?_) K
  rw [← ec, Array.getElem?_toList] at hv
  exact hv
theorem Here.ldI {i : Nat} {a : Addr} {vs : List Value} {j : Int32} {v : Value} (A : Here p l e R s m args below meth c Z a0 y bytes ml ret dm fp T k n os) (hd : decode bytes pc = .ok (.iaload, 1)) (ho : os[i]? = some (a, .inr (.int, vs))) (hj : ¬ j < 0) (hv : vs[j.toNatClampNeg]? = some v) {qn : Nat} (hq : pc + 1 = qn)
    (K : Wp p e below Z a0 dm fp R s Post T (mkF m qn Ls (v :: rest))) : Wp p e below Z a0 dm fp R s Post T (mkF m pc Ls (.int j :: .ref a :: rest)) := by
  subst hq
  exact A.ldOf ho hj hv (fun _ _ X h1 h2 h3 h4 h5 t kt => X.iaload A.hx h1 h2 h3 h4 h5 (g := mkF m pc Ls (.int j :: .ref a :: rest)) rfl rfl (A.hb hd) t kt) K
theorem Here.ldJ {i : Nat} {a : Addr} {vs : List Value} {j : Int32} {v : Value} (A : Here p l e R s m args below meth c Z a0 y bytes ml ret dm fp T k n os) (hd : decode bytes pc = .ok (.laload, 1)) (ho : os[i]? = some (a, .inr (.long, vs))) (hj : ¬ j < 0) (hv : vs[j.toNatClampNeg]? = some v) {qn : Nat} (hq : pc + 1 = qn)
    (K : Wp p e below Z a0 dm fp R s Post T (mkF m qn Ls (v :: rest))) : Wp p e below Z a0 dm fp R s Post T (mkF m pc Ls (.int j :: .ref a :: rest)) := by
  subst hq
  exact A.ldOf ho hj hv (fun _ _ X h1 h2 h3 h4 h5 t kt => X.laload A.hx h1 h2 h3 h4 h5 (g := mkF m pc Ls (.int j :: .ref a :: rest)) rfl rfl (A.hb hd) t kt) K
theorem Here.ldC {i : Nat} {a : Addr} {vs : List Value} {j : Int32} {v : Value} (A : Here p l e R s m args below meth c Z a0 y bytes ml ret dm fp T k n os) (hd : decode bytes pc = .ok (.caload, 1)) (ho : os[i]? = some (a, .inr (.char, vs))) (hj : ¬ j < 0) (hv : vs[j.toNatClampNeg]? = some v) {qn : Nat} (hq : pc + 1 = qn)
    (K : Wp p e below Z a0 dm fp R s Post T (mkF m qn Ls (v :: rest))) : Wp p e below Z a0 dm fp R s Post T (mkF m pc Ls (.int j :: .ref a :: rest)) := by
  subst hq
  exact A.ldOf ho hj hv (fun _ _ X h1 h2 h3 h4 h5 t kt => X.caload A.hx h1 h2 h3 h4 h5 (g := mkF m pc Ls (.int j :: .ref a :: rest)) rfl rfl (A.hb hd) t kt) K
theorem Here.ldB {i : Nat} {a : Addr} {vs : List Value} {j : Int32} {v : Value} (A : Here p l e R s m args below meth c Z a0 y bytes ml ret dm fp T k n os) (hd : decode bytes pc = .ok (.baload, 1)) (ho : os[i]? = some (a, .inr (.byte, vs))) (hj : ¬ j < 0) (hv : vs[j.toNatClampNeg]? = some v) {qn : Nat} (hq : pc + 1 = qn)
    (K : Wp p e below Z a0 dm fp R s Post T (mkF m qn Ls (v :: rest))) : Wp p e below Z a0 dm fp R s Post T (mkF m pc Ls (.int j :: .ref a :: rest)) := by
  subst hq
  exact A.ldOf ho hj hv (fun _ _ X h1 h2 h3 h4 h5 t kt => X.baloadBytes A.hx h1 h2 h3 h4 h5 (g := mkF m pc Ls (.int j :: .ref a :: rest)) rfl rfl (A.hb hd) t kt) K
theorem Here.len {i : Nat} {a : Addr} {ty : FieldType} {vs : List Value} {z : Int32} (A : Here p l e R s m args below meth c Z a0 y bytes ml ret dm fp T k n os) (hd : decode bytes pc = .ok (.arraylength, 1)) (ho : os[i]? = some (a, .inr (ty, vs))) (hz : vs.length.toInt32 = z) {qn : Nat} (hq : pc + 1 = qn)
    (K : Wp p e below Z a0 dm fp R s Post T (mkF m qn Ls (.int z :: rest))) : Wp p e below Z a0 dm fp R s Post T (mkF m pc Ls (.ref a :: rest)) := by
  subst hq
  have A' := A
  obtain ⟨locs, X, N, H, q⟩ := A
  obtain ⟨cl, Ar, ec⟩ := H.arr ho
  subst hz
  rw [← ec, Array.length_toList] at K
  exact Wp.go (fun t kt => X.arraylength A'.hx Ar.1 (State.isArrayOf_alike A'.hz.alike Ar.2.1) (g := mkF m pc Ls (.ref a :: rest)) rfl rfl (A'.hb hd) t kt) K
theorem Here.ldc {idx : Nat} {v : Int32} (A : Here p l e R s m args below meth c Z a0 y bytes ml ret dm fp T k n os) (w : (Jvm.Cond.constant y.cls idx v).before a0 Z = true) (hd : decode bytes pc = .ok (.ldc idx, 2)) {qn : Nat} (hq : pc + 2 = qn)
    (K : Wp p e below Z a0 dm fp R s Post T (mkF m qn Ls (.int v :: st))) : Wp p e below Z a0 dm fp R s Post T (mkF m pc Ls st) := by
  subst hq
  have A' := A
  obtain ⟨locs, X, N, H, hx, hZ, hb, hml, hown, q⟩ := A
  exact Wp.go (X.ldcInt hx hown (mvT hZ w) (g := mkF m pc Ls st) rfl (A'.hb hd)) K
theorem Here.ldcw {idx : Nat} {v : Int32} (A : Here p l e R s m args below meth c Z a0 y bytes ml ret dm fp T k n os) (w : (Jvm.Cond.constant y.cls idx v).before a0 Z = true) (hd : decode bytes pc = .ok (.ldc_w idx, 3)) {qn : Nat} (hq : pc + 3 = qn)
    (K : Wp p e below Z a0 dm fp R s Post T (mkF m qn Ls (.int v :: st))) : Wp p e below Z a0 dm fp R s Post T (mkF m pc Ls st) := by
  subst hq
  have A' := A
  obtain ⟨locs, X, N, H, hx, hZ, hb, hml, hown, q⟩ := A
  exact Wp.go (X.ldcwInt hx hown (mvT hZ w) (g := mkF m pc Ls st) rfl (A'.hb hd)) K
theorem Here.ldc2 {idx : Nat} {v : Int64} (A : Here p l e R s m args below meth c Z a0 y bytes ml ret dm fp T k n os) (w : (Jvm.Cond.constantLong y.cls idx v).before a0 Z = true) (hd : decode bytes pc = .ok (.ldc2_w idx, 3)) {qn : Nat} (hq : pc + 3 = qn)
    (K : Wp p e below Z a0 dm fp R s Post T (mkF m qn Ls (.long v :: st))) : Wp p e below Z a0 dm fp R s Post T (mkF m pc Ls st) := by
  subst hq
  have A' := A
  obtain ⟨locs, X, N, H, hx, hZ, hb, hml, hown, q⟩ := A
  exact Wp.go (X.ldc2Long hx hown (mvT hZ w) (g := mkF m pc Ls st) rfl (A'.hb hd)) K
/-- a primitive array's clone -/
theorem Here.clone {idx W i cap : Nat} {a : Addr} {ty : FieldType} {vs : List Value} {ad : String} (A : Here p l e R s m args below meth c Z a0 y bytes ml ret dm fp T k n os)
    (w1 : (Jvm.Cond.methodLink y.cls idx ⟨ad, "clone", "()Ljava/lang/Object;"⟩).before a0 Z = true) (w2 : (Jvm.Cond.sameMethod ad "java/lang/Object" "clone" "()Ljava/lang/Object;").before a0 Z = true) (w3 : (Jvm.Cond.native ⟨"java/lang/Object", "clone", "()Ljava/lang/Object;"⟩).before a0 Z = true)
    (w4 : (Jvm.Cond.instanceMethod ⟨"java/lang/Object", "clone", "()Ljava/lang/Object;"⟩).before a0 Z = true) (w5 : (Jvm.Cond.selects ad ⟨ad, "clone", "()Ljava/lang/Object;"⟩ ⟨"java/lang/Object", "clone", "()Ljava/lang/Object;"⟩).before a0 Z = true) (w6 : (Jvm.Cond.castable ad "java/lang/Cloneable").before a0 Z = true)
    (had : "[" ++ ty.toString = ad) (hd : decode bytes pc = .ok (.invokevirtual idx, 3)) (hsz : Ls.size = ml) (ho : os[i]? = some (a, .inr (ty, vs))) (hW : (rest.map fun v => v.category).sum ≤ W) (hf : 1 ≤ R.frames) (hl : W + 14 ≤ R.locals) (hcap : vs.length ≤ cap) (hc : k + 1 ≤ R.cells) (hs : n + cap ≤ R.slots) {qn : Nat} (hq : pc + 3 = qn)
    (K : ∀ T' b, Here p l e R s m args below meth c Z a0 y bytes ml ret dm fp T' (k + 1) (n + cap) (os ++ [(b, .inr (ty, vs))]) → Wp p e below Z a0 dm fp R s Post T' (mkF m qn Ls (.ref b :: rest))) : Wp p e below Z a0 dm fp R s Post T (mkF m pc Ls (.ref a :: rest)) := by
  subst hq
  have A' := A
  obtain ⟨locs, X, N, H, hx, hZ, hb, hml, hown, q⟩ := A
  obtain ⟨cl, Ar, ec, E, F⟩ := H.1.2 _ (List.mem_of_getElem? ho)
  dsimp only at ec E F Ar
  subst had
  have FC : FitC Z cl := fitC_of Ar fun j hj v hv => F v (by rw [← ec, Array.mem_toList_iff]; exact Array.mem_of_getElem? hv)
  obtain ⟨T1, h1, X1, e1, E1, A1, B1, st1⟩ := cloneA X hx hZ hown w1 w2 w3 w4 w5 w6 rfl Ar E FC (g := mkF m pc Ls (.ref a :: rest)) rfl (hsz.trans hml.symm) rfl (A'.hb hd) hf (W := W) (by show 2 * 0 + _ ≤ _; rw [Nat.mul_zero, Nat.zero_add]; exact hW) hl (cap := cap) (by rw [← Array.length_toList, ec]; exact hcap) hc hs
  exact Wp.go st1 (K T1 _ ⟨_, X1, N, by rw [e1]; exact H.push E1 ⟨_, A1, ec, B1, F⟩, hx, hZ, hb, hml, hown, q⟩)
theorem Here.ccast {idx i : Nat} {a : Addr} {ty : FieldType} {vs : List Value} {K0 : String} (A : Here p l e R s m args below meth c Z a0 y bytes ml ret dm fp T k n os) (w : (Jvm.Cond.classLink y.cls idx K0).before a0 Z = true) (had : "[" ++ ty.toString = K0) (hd : decode bytes pc = .ok (.checkcast idx, 3)) (ho : os[i]? = some (a, .inr (ty, vs))) {qn : Nat} (hq : pc + 3 = qn)
    (K : ∀ T', Here p l e R s m args below meth c Z a0 y bytes ml ret dm fp T' k n os → Wp p e below Z a0 dm fp R s Post T' (mkF m qn Ls (.ref a :: rest))) : Wp p e below Z a0 dm fp R s Post T (mkF m pc Ls (.ref a :: rest)) := by
  subst hq
  have A' := A
  obtain ⟨locs, X, N, H, hx, hZ, hb, hml, hown, q⟩ := A
  obtain ⟨cl, Ar, ec, E, F⟩ := H.1.2 _ (List.mem_of_getElem? ho)
  subst had
  obtain ⟨T1, X1, e1, st1⟩ := castY X hx hZ hown w rfl (Ins.self E) (g := mkF m pc Ls (.ref a :: rest)) rfl rfl (A'.hb hd)
  exact Wp.go st1 (K T1 ⟨locs, X1, N, by rw [e1]; exact H, hx, hZ, hb, hml, hown, q⟩)
/-! calls -/
theorem Here.initO {idx W : Nat} {a : Addr} (A : Here p l e R s m args below meth c Z a0 y bytes ml ret dm fp T k n os) (w1 : (Jvm.Cond.methodLink y.cls idx Lib.objectInit).before a0 Z = true) (w2 : (Jvm.Cond.instanceMethod Lib.objectInit).before a0 Z = true) (w3 : (Jvm.Cond.code Lib.objectInit Jvm.Example.Point.objCode 1 none).before a0 Z = true)
    (hd : decode bytes pc = .ok (.invokespecial idx, 3)) (hsz : Ls.size = ml) (hW : (rest.map fun v => v.category).sum ≤ W) (hf : 1 ≤ R.frames) (hl : W + 12 ≤ R.locals) {qn : Nat} (hq : pc + 3 = qn)
    (K : ∀ T', Here p l e R s m args below meth c Z a0 y bytes ml ret dm fp T' k n os → Wp p e below Z a0 dm fp R s Post T' (mkF m qn Ls rest)) : Wp p e below Z a0 dm fp R s Post T (mkF m pc Ls (.ref a :: rest)) := by
  subst hq
  have A' := A
  obtain ⟨locs, X, N, H, hx, hZ, hb, hml, hown, q⟩ := A
  obtain ⟨T1, X1, e1, st1⟩ := RoadKit.initO X hx hZ hown w1 w2 w3 rfl (g := mkF m pc Ls (.ref a :: rest)) rfl (hsz.trans hml.symm) rfl (A'.hb hd) hf (W := W) (by show 2 * 0 + _ ≤ _; rw [Nat.mul_zero, Nat.zero_add]; exact hW) hl
  exact Wp.go st1 (K T1 ⟨locs, X1, N, by rw [e1]; exact H, hx, hZ, hb, hml, hown, q⟩)
theorem dm_call {h0 h : Heap} {os1 os2 : Hs} (H : Hp Z a0 dm fp h0 h (os1 ++ os2)) (hc : fp2 = [] ∨ (fp2 = os2.map (·.1) ∧ dm = fp)) {x : Addr} (hx : Dm fp2 h.size x) : Dm fp h0.size x := by
  rcases hx with hx | hx
  · rcases hc with rfl | ⟨rfl, rfl⟩
    · exact absurd hx List.not_mem_nil
    · obtain ⟨q, hq, rfl⟩ := List.mem_map.mp hx
      exact H.2.1 q (List.mem_append.mpr (Or.inr hq))
  · exact Or.inr (Nat.le_trans H.2.2.1 hx)
theorem Here.callS {idx W : Nat} {y' : MethodName} {bytes' : ByteArray} {ml' : Nat} {ret' : Option FieldType} {R' : Room} {argsL : List Value} {os1 os2 : Hs} {Post' : Option Value → Hs → Prop}
    (A : Here p l e R s m args below meth c Z a0 y bytes ml ret dm fp T k n (os1 ++ os2)) (M : Pays l Z a0 y' bytes' ml' ret' R' argsL.toArray os2 fp2 Post') (hcc : fp2 = [] ∨ (fp2 = os2.map (·.1) ∧ dm = fp))
    (w1 : (Jvm.Cond.methodLink y.cls idx y').before a0 Z = true) (w2 : (Jvm.Cond.static y').before a0 Z = true) (w3 : (Jvm.Cond.initialized y'.cls).before a0 Z = true) (w4 : (Jvm.Cond.code y' bytes' ml' ret').before a0 Z = true) (hy : y'.cls ≠ "java/lang/invoke/MethodHandle" ∧ y'.cls ≠ "java/lang/invoke/VarHandle")
    (hd : decode bytes pc = .ok (.invokestatic idx, 3)) (hsz : Ls.size = ml) (hlen : ∀ sig, parseMethodDescriptor y'.desc = some sig → argsL.length = sig.parameters.length) (hst : st = argsL.reverse ++ rest) (hW : (rest.map fun v => v.category).sum ≤ W) (hf : R'.frames + 1 ≤ R.frames) (hl : W + (ml' + 11) + R'.locals ≤ R.locals) (hc : k + R'.cells ≤ R.cells) (hs : n + R'.slots ≤ R.slots) {qn : Nat} (hq : pc + 3 = qn)
    (K : ∀ T' v os', Here p l e R s m args below meth c Z a0 y bytes ml ret dm fp T' (k + R'.cells) (n + R'.slots) (os1 ++ os') → Post' v os' → Wp p e below Z a0 dm fp R s Post T' (mkF m qn Ls (v.toList ++ rest))) : Wp p e below Z a0 dm fp R s Post T (mkF m pc Ls st) := by
  subst hq
  have A' := A
  obtain ⟨locs, X, N, H, hx, hZ, hb, hml, hown, q⟩ := A
  have hq : Hq Z a0 T.heap os2 := ⟨by have := H.1.1; rw [List.map_append, List.nodup_append] at this; exact this.2.1, fun q hq => H.1.2 q (List.mem_append.mpr (Or.inr hq))⟩
  obtain ⟨v, _, ⟨T1, L1, k1, n1⟩, -, X1, ⟨Lc, hQ, l1, y1, z1⟩, st1⟩ := Jvm.LawKit.callS X hx (y := y') hown (mvT hZ w1) (mvT hZ w2) (mvT hZ w3) (mvT hZ w4) hy (backOf (W := W) (h := T.heap) (Q := fun v h L => (∀ q ∈ L, Dm fp2 T.heap.size q.base) ∧ ∃ os', Hp Z a0 (os2.map (·.1)) fp2 T.heap h os' ∧ Post' v os') (M [] T.heap hq) hZ w4 w3 hf hl) (g := mkF m pc Ls st) rfl (hsz.trans hml.symm) (argsL := argsL) (rest := rest) hlen hst (by show 2 * 0 + _ ≤ _; rw [Nat.mul_zero, Nat.zero_add]; exact hW) (A'.hb hd) (fun _ _ => ⟨rfl, rfl, hc, hs⟩)
  dsimp only [Pt.U, Pt.locs, Pt.cells, Pt.slots] at X1 l1 y1 z1 st1 hQ
  subst l1 y1 z1
  obtain ⟨N1, os', H1, hP⟩ := hQ
  refine Wp.go st1 (K T1 v os' ⟨_, X1, fun q hq => ?_, H.call H1 hcc, hx, hZ, hb, hml, hown, q⟩ hP)
  rcases List.mem_append.mp hq with hq | hq
  · exact N q hq
  · exact dm_call H hcc (N1 q hq)
theorem Here.callI {idx W : Nat} {y' : MethodName} {bytes' : ByteArray} {ml' : Nat} {R' : Room} {argsL : List Value} {a : Addr} {os1 os2 : Hs} {Post' : Option Value → Hs → Prop}
    (A : Here p l e R s m args below meth c Z a0 y bytes ml ret dm fp T k n (os1 ++ os2)) (M : Pays l Z a0 y' bytes' ml' none R' (.ref a :: argsL).toArray os2 fp2 Post') (hcc : fp2 = [] ∨ (fp2 = os2.map (·.1) ∧ dm = fp)) (hini : y'.name = "<init>")
    (w1 : (Jvm.Cond.methodLink y.cls idx y').before a0 Z = true) (w2 : (Jvm.Cond.instanceMethod y').before a0 Z = true) (w3 : (Jvm.Cond.initialized y'.cls).before a0 Z = true) (w4 : (Jvm.Cond.code y' bytes' ml' none).before a0 Z = true) (hy : y'.cls ≠ "java/lang/invoke/MethodHandle" ∧ y'.cls ≠ "java/lang/invoke/VarHandle")
    (hd : decode bytes pc = .ok (.invokespecial idx, 3)) (hsz : Ls.size = ml) (hlen : ∀ sig, parseMethodDescriptor y'.desc = some sig → argsL.length = sig.parameters.length) (hst : st = argsL.reverse ++ .ref a :: rest) (hW : (rest.map fun v => v.category).sum ≤ W) (hf : R'.frames + 1 ≤ R.frames) (hl : W + (ml' + 11) + R'.locals ≤ R.locals) (hc : k + R'.cells ≤ R.cells) (hs : n + R'.slots ≤ R.slots) {qn : Nat} (hq : pc + 3 = qn)
    (K : ∀ T' v os', Here p l e R s m args below meth c Z a0 y bytes ml ret dm fp T' (k + R'.cells) (n + R'.slots) (os1 ++ os') → Post' v os' → Wp p e below Z a0 dm fp R s Post T' (mkF m qn Ls (v.toList ++ rest))) : Wp p e below Z a0 dm fp R s Post T (mkF m pc Ls st) := by
  subst hq
  have A' := A
  obtain ⟨locs, X, N, H, hx, hZ, hb, hml, hown, q⟩ := A
  have hq : Hq Z a0 T.heap os2 := ⟨by have := H.1.1; rw [List.map_append, List.nodup_append] at this; exact this.2.1, fun q hq => H.1.2 q (List.mem_append.mpr (Or.inr hq))⟩
  obtain ⟨v, _, ⟨T1, L1, k1, n1⟩, -, X1, ⟨Lc, hQ, l1, y1, z1⟩, st1⟩ := X.specialBack hx (y := y') hini hown (mvT hZ w1) (mvT hZ w2) (mvT hZ w4) hy (backOf (W := W) (h := T.heap) (Q := fun v h L => (∀ q ∈ L, Dm fp2 T.heap.size q.base) ∧ ∃ os', Hp Z a0 (os2.map (·.1)) fp2 T.heap h os' ∧ Post' v os') (M [] T.heap hq) hZ w4 w3 hf hl) (g := mkF m pc Ls st) rfl (hsz.trans hml.symm) (Steps.refl _) (a := a) (argsL := argsL) (rest := rest) hlen hst (by show 2 * 0 + _ ≤ _; rw [Nat.mul_zero, Nat.zero_add]; exact hW) (A'.hb hd) (fun _ _ => ⟨rfl, rfl, hc, hs⟩)
  dsimp only [Pt.U, Pt.locs, Pt.cells, Pt.slots] at X1 l1 y1 z1 st1 hQ
  subst l1 y1 z1
  obtain ⟨N1, os', H1, hP⟩ := hQ
  refine Wp.go (fun t kt => st1.trans kt) (K T1 v os' ⟨_, X1, fun q hq => ?_, H.call H1 hcc, hx, hZ, hb, hml, hown, q⟩ hP)
  rcases List.mem_append.mp hq with hq | hq
  · exact N q hq
  · exact dm_call H hcc (N1 q hq)
theorem Here.callV {idx W i : Nat} {y' : MethodName} {bytes' : ByteArray} {ml' : Nat} {ret' : Option FieldType} {R' : Room} {argsL : List Value} {a : Addr} {C : String} {fs : List Fd} {os1 os2 : Hs} {Post' : Option Value → Hs → Prop}
    (A : Here p l e R s m args below meth c Z a0 y bytes ml ret dm fp T k n (os1 ++ os2)) (M : Pays l Z a0 y' bytes' ml' ret' R' (.ref a :: argsL).toArray os2 fp2 Post') (hcc : fp2 = [] ∨ (fp2 = os2.map (·.1) ∧ dm = fp)) (ho : (os1 ++ os2)[i]? = some (a, .inl (C, fs)))
    (w1 : (Jvm.Cond.methodLink y.cls idx y').before a0 Z = true) (wd : (Jvm.Cond.declares y').before a0 Z = true) (ws : (Jvm.Cond.selects C y' y').before a0 Z = true) (w2 : (Jvm.Cond.instanceMethod y').before a0 Z = true) (w3 : (Jvm.Cond.initialized y'.cls).before a0 Z = true) (w4 : (Jvm.Cond.code y' bytes' ml' ret').before a0 Z = true) (hy : y'.cls ≠ "java/lang/invoke/MethodHandle" ∧ y'.cls ≠ "java/lang/invoke/VarHandle")
    (hd : decode bytes pc = .ok (.invokevirtual idx, 3)) (hsz : Ls.size = ml) (hlen : ∀ sig, parseMethodDescriptor y'.desc = some sig → argsL.length = sig.parameters.length) (hst : st = argsL.reverse ++ .ref a :: rest) (hW : (rest.map fun v => v.category).sum ≤ W) (hf : R'.frames + 1 ≤ R.frames) (hl : W + (ml' + 11) + R'.locals ≤ R.locals) (hc : k + R'.cells ≤ R.cells) (hs : n + R'.slots ≤ R.slots) {qn : Nat} (hq : pc + 3 = qn)
    (K : ∀ T' v os', Here p l e R s m args below meth c Z a0 y bytes ml ret dm fp T' (k + R'.cells) (n + R'.slots) (os1 ++ os') → Post' v os' → Wp p e below Z a0 dm fp R s Post T' (mkF m qn Ls (v.toList ++ rest))) : Wp p e below Z a0 dm fp R s Post T (mkF m pc Ls st) := by
  subst hq
  have A' := A
  obtain ⟨locs, X, N, H, hx, hZ, hb, hml, hown, q⟩ := A
  have hq : Hq Z a0 T.heap os2 := ⟨by have := H.1.1; rw [List.map_append, List.nodup_append] at this; exact this.2.1, fun q hq => H.1.2 q (List.mem_append.mpr (Or.inr hq))⟩
  obtain ⟨cq, kq, qa, qb, qc⟩ := isOf (T := T) hZ rfl (H.exa ho)
  obtain ⟨v, _, ⟨T1, L1, k1, n1⟩, -, X1, ⟨Lc, hQ, l1, y1, z1⟩, st1⟩ := X.virtualBack hx (y := y') (z := y') hown (mvT hZ w1) (mvT hZ wd) (notFace_of_selects (args := #[]) (mvT hZ ws)) (mvT hZ ws) (mvT hZ w2) hy (backOf (W := W) (h := T.heap) (Q := fun v h L => (∀ q ∈ L, Dm fp2 T.heap.size q.base) ∧ ∃ os', Hp Z a0 (os2.map (·.1)) fp2 T.heap h os' ∧ Post' v os') (M [] T.heap hq) hZ w4 w3 hf hl) qa qc (g := mkF m pc Ls st) rfl (hsz.trans hml.symm) (Steps.refl _) (argsL := argsL) (rest := rest) hlen hst (by show 2 * 0 + _ ≤ _; rw [Nat.mul_zero, Nat.zero_add]; exact hW) (A'.hb hd) (fun _ _ => ⟨rfl, rfl, hc, hs⟩)
  dsimp only [Pt.U, Pt.locs, Pt.cells, Pt.slots] at X1 l1 y1 z1 st1 hQ
  subst l1 y1 z1
  obtain ⟨N1, os', H1, hP⟩ := hQ
  refine Wp.go (fun t kt => st1.trans kt) (K T1 v os' ⟨_, X1, fun q hq => ?_, H.call H1 hcc, hx, hZ, hb, hml, hown, q⟩ hP)
  rcases List.mem_append.mp hq with hq | hq
  · exact N q hq
  · exact dm_call H hcc (N1 q hq)
end Walks
end Jvm.OwnWp
namespace Jvm.Pilot.@@N@@
open Jvm Jvm.ClassFile Sem Op Lib Jvm.Free Jvm.Stand Jvm.LawKit Jvm.RoadKit Bundle Jvm.OwnWp Jvm.Pilot.@@N@@.Jvm.D
theorem tw {a0 : Array Value} {Z : State} (hw : ∀ d ∈ tables_1, d.before a0 Z = true) (k : Nat) {d : Jvm.Cond} (h : tables_1[k]? = some d) : d.before a0 Z = true := hw d (List.mem_of_getElem? h)
abbrev ob0 (v0 v1 v2 v3 v4 : Value) : Ob := .inl ("com/example/fine_events/fineevents/PositionTracker", [("com/example/fine_events/fineevents/PositionTracker", "line", "J", v0), ("com/example/fine_events/fineevents/PositionTracker", "previous", "C", v1), ("com/example/fine_events/fineevents/PositionTracker", "offset", "J", v2), ("com/example/fine_events/fineevents/PositionTracker", "lineStart", "J", v3), ("com/example/fine_events/fineevents/PositionTracker", "pairsOnLine", "J", v4)])
abbrev ob1 (v0 v1 v2 : Value) : Ob := .inl ("com/example/fine_events/fineevents/Position", [("com/example/fine_events/fineevents/Position", "line", "J", v0), ("com/example/fine_events/fineevents/Position", "column", "J", v1), ("com/example/fine_events/fineevents/Position", "offset", "J", v2)])
theorem bm32 (x : Int) : x.bmod (2 ^ 32) = (x + 2147483648) % 4294967296 - 2147483648 := by
  rw [Int.bmod_def]; split <;> omega
theorem bm64 (x : Int) : x.bmod (2 ^ 64) = (x + 9223372036854775808) % 18446744073709551616 - 9223372036854775808 := by
  rw [Int.bmod_def]; split <;> omega
theorem l32_0 : (0 : Int32).toInt = 0 := by decide
theorem l32_1 : (1 : Int32).toInt = 1 := by decide
theorem l32_2 : (2 : Int32).toInt = 2 := by decide
theorem l32_3 : (3 : Int32).toInt = 3 := by decide
theorem l32_10 : (10 : Int32).toInt = 10 := by decide
theorem l32_13 : (13 : Int32).toInt = 13 := by decide
theorem l32_55296 : (55296 : Int32).toInt = 55296 := by decide
theorem l32_56320 : (56320 : Int32).toInt = 56320 := by decide
theorem l32_57344 : (57344 : Int32).toInt = 57344 := by decide
theorem l32_65535 : (65535 : Int32).toInt = 65535 := by decide
theorem own_nar2 (x : Int32) : nar .char (nar .char x) = nar .char x := by
  show (x.toUInt32.toUInt16.toUInt32.toInt32).toUInt32.toUInt16.toUInt32.toInt32 = x.toUInt32.toUInt16.toUInt32.toInt32
  apply Int32.toBitVec_inj.mp
  apply BitVec.eq_of_toNat_eq
  show ((((x.toBitVec.setWidth 16).setWidth 32).setWidth 16).setWidth 32).toNat = ((x.toBitVec.setWidth 16).setWidth 32).toNat
  simp only [BitVec.toNat_setWidth]
  omega
def own_ln (ln : Int64) (pv z : Int32) : Int64 := if z = 13 ∨ (z = 10 ∧ ¬ pv = 13) then ln + 1 else ln
def own_ls (of ls : Int64) (z : Int32) : Int64 := if z = 13 ∨ z = 10 then of + (1 : Int32).toInt64 else ls
def own_pr (pr : Int64) (pv z : Int32) : Int64 := if z = 13 ∨ z = 10 then 0 else if (56320 ≤ z.toInt ∧ z.toInt < 57344) ∧ (55296 ≤ pv.toInt ∧ pv.toInt < 56320) then pr + 1 else pr
theorem d_method_2_0 : decode method_2_code 0 = .ok (.iload_n 0, 1) := by decide +kernel
theorem d_method_2_1 : decode method_2_code 1 = .ok (.bipush 7, 2) := by decide +kernel
theorem d_method_2_3 : decode method_2_code 3 = .ok (.iand, 1) := by decide +kernel
theorem d_method_2_4 : decode method_2_code 4 = .ok (.istore_n 1, 1) := by decide +kernel
theorem d_method_2_5 : decode method_2_code 5 = .ok (.iload_n 0, 1) := by decide +kernel
theorem d_method_2_6 : decode method_2_code 6 = .ok (.iconst 3, 1) := by decide +kernel
theorem d_method_2_7 : decode method_2_code 7 = .ok (.iushr, 1) := by decide +kernel
theorem d_method_2_8 : decode method_2_code 8 = .ok (.istore_n 2, 1) := by decide +kernel
theorem d_method_2_9 : decode method_2_code 9 = .ok (.iload_n 1, 1) := by decide +kernel
theorem d_method_2_10 : decode method_2_code 10 = .ok (.ifCond .ne 6, 3) := by decide +kernel
theorem d_method_2_13 : decode method_2_code 13 = .ok (.bipush 13, 2) := by decide +kernel
theorem d_method_2_15 : decode method_2_code 15 = .ok (.ireturn, 1) := by decide +kernel
theorem d_method_2_16 : decode method_2_code 16 = .ok (.iload_n 1, 1) := by decide +kernel
theorem d_method_2_17 : decode method_2_code 17 = .ok (.iconst 1, 1) := by decide +kernel
theorem d_method_2_18 : decode method_2_code 18 = .ok (.if_icmp .ne 6, 3) := by decide +kernel
theorem d_method_2_21 : decode method_2_code 21 = .ok (.bipush 10, 2) := by decide +kernel
theorem d_method_2_23 : decode method_2_code 23 = .ok (.ireturn, 1) := by decide +kernel
theorem d_method_2_24 : decode method_2_code 24 = .ok (.iload_n 1, 1) := by decide +kernel
theorem d_method_2_25 : decode method_2_code 25 = .ok (.iconst 2, 1) := by decide +kernel
theorem d_method_2_26 : decode method_2_code 26 = .ok (.if_icmp .ne 13, 3) := by decide +kernel
theorem d_method_2_29 : decode method_2_code 29 = .ok (.ldc 7, 2) := by decide +kernel
theorem d_method_2_31 : decode method_2_code 31 = .ok (.iload_n 2, 1) := by decide +kernel
theorem d_method_2_32 : decode method_2_code 32 = .ok (.sipush 1023, 3) := by decide +kernel
theorem d_method_2_35 : decode method_2_code 35 = .ok (.iand, 1) := by decide +kernel
theorem d_method_2_36 : decode method_2_code 36 = .ok (.ior, 1) := by decide +kernel
theorem d_method_2_37 : decode method_2_code 37 = .ok (.i2c, 1) := by decide +kernel
theorem d_method_2_38 : decode method_2_code 38 = .ok (.ireturn, 1) := by decide +kernel
theorem d_method_2_39 : decode method_2_code 39 = .ok (.iload_n 1, 1) := by decide +kernel
theorem d_method_2_40 : decode method_2_code 40 = .ok (.iconst 3, 1) := by decide +kernel
theorem d_method_2_41 : decode method_2_code 41 = .ok (.if_icmp .ne 13, 3) := by decide +kernel
theorem d_method_2_44 : decode method_2_code 44 = .ok (.ldc 8, 2) := by decide +kernel
theorem d_method_2_46 : decode method_2_code 46 = .ok (.iload_n 2, 1) := by decide +kernel
theorem d_method_2_47 : decode method_2_code 47 = .ok (.sipush 1023, 3) := by decide +kernel
theorem d_method_2_50 : decode method_2_code 50 = .ok (.iand, 1) := by decide +kernel
theorem d_method_2_51 : decode method_2_code 51 = .ok (.ior, 1) := by decide +kernel
theorem d_method_2_52 : decode method_2_code 52 = .ok (.i2c, 1) := by decide +kernel
theorem d_method_2_53 : decode method_2_code 53 = .ok (.ireturn, 1) := by decide +kernel
theorem d_method_2_54 : decode method_2_code 54 = .ok (.iload_n 2, 1) := by decide +kernel
theorem d_method_2_55 : decode method_2_code 55 = .ok (.ldc 9, 2) := by decide +kernel
theorem d_method_2_57 : decode method_2_code 57 = .ok (.iand, 1) := by decide +kernel
theorem d_method_2_58 : decode method_2_code 58 = .ok (.i2c, 1) := by decide +kernel
theorem d_method_2_59 : decode method_2_code 59 = .ok (.ireturn, 1) := by decide +kernel
theorem pn_0 : plainName "com/example/fine_events/fineevents/PositionTrackerStandWherePinLaw" = true := by first | (simp [plainName, overriddenIn]; done) | decide +kernel
theorem ef_m_ch (m : MethodId) (x0 : Int32) : entryFrame m #[(.int x0)] 3 = mkF m 0 #[.val (.int x0), .unset, .unset] [] := by first | (simp [entryFrame, mkF, argsToLocals, Value.category]; done) | rfl
set_option maxRecDepth 65536 in
set_option maxHeartbeats 40000000 in
theorem m_ch (l : Launch) (Z : State) (a0 : Array Value) (hw : ∀ d ∈ tables_1, d.before a0 Z = true) (z : Int32) :
    Pays l Z a0 (⟨"com/example/fine_events/fineevents/PositionTrackerStandWherePinLaw", "ch", "(I)C"⟩ : MethodName) method_2_code 3 (some .char) ({ frames := 0, cells := 0, slots := 0, locals := 0 } : Room) #[(.int z)] [] (([] : Hs).map (·.1)) (fun v os' => ∃ (r : Int32), v = some (.int r) ∧ os' = []) := by
  refine Pays.of (Ls := #[.val (.int z), .unset, .unset]) (plainFor_of_name pn_0) (fun m => ef_m_ch m z) ?_
  intro p e s m below meth c T0 A0
  refine A0.iloadN (q := 1) d_method_2_0 rfl rfl ?_
  refine A0.bipush (q := 3) (v := 7) d_method_2_1 rfl rfl ?_
  refine A0.iand (q := 4) d_method_2_3 rfl ?_
  refine A0.istoreN (q := 5) (l' := #[.val (.int z), .val (.int (z &&& (7 : Int32))), .unset]) d_method_2_4 rfl rfl ?_
  refine A0.iloadN (q := 6) d_method_2_5 rfl rfl ?_
  refine A0.iconst (q := 7) (v := 3) d_method_2_6 rfl rfl ?_
  refine A0.iushr (q := 8) d_method_2_7 rfl ?_
  refine A0.istoreN (q := 9) (l' := #[.val (.int z), .val (.int (z &&& (7 : Int32))), .val (.int ((z.toUInt32 >>> ((3 : Int32) &&& 31).toUInt32).toInt32))]) d_method_2_8 rfl rfl ?_
  refine A0.iloadN (q := 10) d_method_2_9 rfl rfl ?_
  by_cases hc10_1 : (z &&& (7 : Int32)) = (0 : Int32)
  · refine A0.ifNo (q := 13) d_method_2_10 ((if0 _ _).trans (teq hc10_1).2) rfl ?_
    refine A0.bipush (q := 15) (v := 13) d_method_2_13 rfl rfl ?_
    exact A0.retN (by simp) d_method_2_15 (by decide) (by decide) ⟨(13 : Int32), rfl, rfl⟩
  · refine A0.ifYes (q := 16) d_method_2_10 ((if0 _ _).trans (feq hc10_1).2) (by decide) (by decide) ?_
    refine A0.iloadN (q := 17) d_method_2_16 rfl rfl ?_
    refine A0.iconst (q := 18) (v := 1) d_method_2_17 rfl rfl ?_
    by_cases hc18_2 : (z &&& (7 : Int32)) = (1 : Int32)
    · refine A0.icmpNo (q := 21) d_method_2_18 (teq hc18_2).2 rfl ?_
      refine A0.bipush (q := 23) (v := 10) d_method_2_21 rfl rfl ?_
      exact A0.retN (by simp) d_method_2_23 (by decide) (by decide) ⟨(10 : Int32), rfl, rfl⟩
    · refine A0.icmpYes (q := 24) d_method_2_18 (feq hc18_2).2 (by decide) (by decide) ?_
      refine A0.iloadN (q := 25) d_method_2_24 rfl rfl ?_
      refine A0.iconst (q := 26) (v := 2) d_method_2_25 rfl rfl ?_
      by_cases hc26_3 : (z &&& (7 : Int32)) = (2 : Int32)
      · refine A0.icmpNo (q := 29) d_method_2_26 (teq hc26_3).2 rfl ?_
        refine A0.ldc (qn := 31) (v := 55296) (tw hw 6 rfl) d_method_2_29 rfl ?_
        refine A0.iloadN (q := 32) d_method_2_31 rfl rfl ?_
        refine A0.sipush (q := 35) (v := 1023) d_method_2_32 rfl rfl ?_
        refine A0.iand (q := 36) d_method_2_35 rfl ?_
        refine A0.ior (q := 37) d_method_2_36 rfl ?_
        refine A0.i2c (q := 38) d_method_2_37 rfl ?_
        exact A0.retN (by simp) d_method_2_38 (by decide) (by decide) ⟨(nar .char ((55296 : Int32) ||| (((z.toUInt32 >>> ((3 : Int32) &&& 31).toUInt32).toInt32) &&& (1023 : Int32))).toUInt32.toUInt16.toUInt32.toInt32), rfl, rfl⟩
      · refine A0.icmpYes (q := 39) d_method_2_26 (feq hc26_3).2 (by decide) (by decide) ?_
        refine A0.iloadN (q := 40) d_method_2_39 rfl rfl ?_
        refine A0.iconst (q := 41) (v := 3) d_method_2_40 rfl rfl ?_
        by_cases hc41_4 : (z &&& (7 : Int32)) = (3 : Int32)
        · refine A0.icmpNo (q := 44) d_method_2_41 (teq hc41_4).2 rfl ?_
          refine A0.ldc (qn := 46) (v := 56320) (tw hw 5 rfl) d_method_2_44 rfl ?_
          refine A0.iloadN (q := 47) d_method_2_46 rfl rfl ?_
          refine A0.sipush (q := 50) (v := 1023) d_method_2_47 rfl rfl ?_
          refine A0.iand (q := 51) d_method_2_50 rfl ?_
          refine A0.ior (q := 52) d_method_2_51 rfl ?_
          refine A0.i2c (q := 53) d_method_2_52 rfl ?_
          exact A0.retN (by simp) d_method_2_53 (by decide) (by decide) ⟨(nar .char ((56320 : Int32) ||| (((z.toUInt32 >>> ((3 : Int32) &&& 31).toUInt32).toInt32) &&& (1023 : Int32))).toUInt32.toUInt16.toUInt32.toInt32), rfl, rfl⟩
        · refine A0.icmpYes (q := 54) d_method_2_41 (feq hc41_4).2 (by decide) (by decide) ?_
          refine A0.iloadN (q := 55) d_method_2_54 rfl rfl ?_
          refine A0.ldc (qn := 57) (v := 65535) (tw hw 98 rfl) d_method_2_55 rfl ?_
          refine A0.iand (q := 58) d_method_2_57 rfl ?_
          refine A0.i2c (q := 59) d_method_2_58 rfl ?_
          exact A0.retN (by simp) d_method_2_59 (by decide) (by decide) ⟨(nar .char (((z.toUInt32 >>> ((3 : Int32) &&& 31).toUInt32).toInt32) &&& (65535 : Int32)).toUInt32.toUInt16.toUInt32.toInt32), rfl, rfl⟩
theorem d_jdk_89_method_15_0 : decode jdk_89_method_15_code 0 = .ok (.iload_n 0, 1) := by decide +kernel
theorem d_jdk_89_method_15_1 : decode jdk_89_method_15_code 1 = .ok (.ldc 76, 2) := by decide +kernel
theorem d_jdk_89_method_15_3 : decode jdk_89_method_15_code 3 = .ok (.if_icmp .lt 13, 3) := by decide +kernel
theorem d_jdk_89_method_15_16 : decode jdk_89_method_15_code 16 = .ok (.iconst 0, 1) := by decide +kernel
theorem d_jdk_89_method_15_17 : decode jdk_89_method_15_code 17 = .ok (.ireturn, 1) := by decide +kernel
theorem d_jdk_89_method_15_6 : decode jdk_89_method_15_code 6 = .ok (.iload_n 0, 1) := by decide +kernel
theorem d_jdk_89_method_15_7 : decode jdk_89_method_15_code 7 = .ok (.ldc 77, 2) := by decide +kernel
theorem d_jdk_89_method_15_9 : decode jdk_89_method_15_code 9 = .ok (.if_icmp .ge 7, 3) := by decide +kernel
theorem d_jdk_89_method_15_12 : decode jdk_89_method_15_code 12 = .ok (.iconst 1, 1) := by decide +kernel
theorem d_jdk_89_method_15_13 : decode jdk_89_method_15_code 13 = .ok (.goto 4, 3) := by decide +kernel
theorem pn_1 : plainName "java/lang/Character" = true := by first | (simp [plainName, overriddenIn]; done) | decide +kernel
theorem ef_m_low (m : MethodId) (x0 : Int32) : entryFrame m #[(.int x0)] 1 = mkF m 0 #[.val (.int x0)] [] := by first | (simp [entryFrame, mkF, argsToLocals, Value.category]; done) | rfl
set_option maxRecDepth 65536 in
set_option maxHeartbeats 40000000 in
theorem m_low (l : Launch) (Z : State) (a0 : Array Value) (hw : ∀ d ∈ tables_1, d.before a0 Z = true) (z : Int32) :
    Pays l Z a0 (⟨"java/lang/Character", "isLowSurrogate", "(C)Z"⟩ : MethodName) jdk_89_method_15_code 1 (some .boolean) ({ frames := 0, cells := 0, slots := 0, locals := 0 } : Room) #[(.int z)] [] (([] : Hs).map (·.1)) (fun v os' => ∃ (r : Int32), v = some (.int r) ∧ os' = [] ∧ ((r = 1 ∧ (56320 ≤ z.toInt ∧ z.toInt < 57344)) ∨ (r = 0 ∧ ¬ (56320 ≤ z.toInt ∧ z.toInt < 57344)))) := by
  refine Pays.of (Ls := #[.val (.int z)]) (plainFor_of_name pn_1) (fun m => ef_m_low m z) ?_
  intro p e s m below meth c T0 A0
  refine A0.iloadN (q := 1) d_jdk_89_method_15_0 rfl rfl ?_
  refine A0.ldc (qn := 3) (v := 56320) (tw hw 43 rfl) d_jdk_89_method_15_1 rfl ?_
  by_cases hc3_1 : z < (56320 : Int32)
  · refine A0.icmpYes (q := 16) d_jdk_89_method_15_3 (tlt hc3_1).1 (by decide) (by decide) ?_
    refine A0.iconst (q := 17) (v := 0) d_jdk_89_method_15_16 rfl rfl ?_
    refine A0.retN (by simp) d_jdk_89_method_15_17 (by decide) (by decide) ⟨(0 : Int32), rfl, rfl, ?_⟩
    clear hw A0
    (try simp only [true_and, and_true, false_and, and_false, true_or, or_true, false_or, or_false, not_true_eq_false, not_false_eq_true, Int32.lt_iff_toInt_lt, Int64.lt_iff_toInt_lt, Int32.le_iff_toInt_le, Int64.le_iff_toInt_le, ← Int32.toInt_inj, ← Int64.toInt_inj, Int32.toInt_add, Int32.toInt_sub, Int32.toInt_neg, Int64.toInt_add, Int64.toInt_sub, Int64.toInt_neg, Int64.toInt_mul, Int32.toInt_toInt64, bm32, bm64, l32_0, l32_1, l32_2, l32_3, l32_10, l32_13, l32_55296, l32_56320, l32_57344, l32_65535] at hc3_1 ⊢) <;> omega
  · refine A0.icmpNo (q := 6) d_jdk_89_method_15_3 (flt hc3_1).1 rfl ?_
    refine A0.iloadN (q := 7) d_jdk_89_method_15_6 rfl rfl ?_
    refine A0.ldc (qn := 9) (v := 57344) (tw hw 44 rfl) d_jdk_89_method_15_7 rfl ?_
    by_cases hc9_2 : z < (57344 : Int32)
    · refine A0.icmpNo (q := 12) d_jdk_89_method_15_9 (tlt hc9_2).2.1 rfl ?_
      refine A0.iconst (q := 13) (v := 1) d_jdk_89_method_15_12 rfl rfl ?_
      refine A0.goto (q := 17) d_jdk_89_method_15_13 (by decide) (by decide) ?_
      refine A0.retN (by simp) d_jdk_89_method_15_17 (by decide) (by decide) ⟨(1 : Int32), rfl, rfl, ?_⟩
      clear hw A0
      (try simp only [true_and, and_true, false_and, and_false, true_or, or_true, false_or, or_false, not_true_eq_false, not_false_eq_true, Int32.lt_iff_toInt_lt, Int64.lt_iff_toInt_lt, Int32.le_iff_toInt_le, Int64.le_iff_toInt_le, ← Int32.toInt_inj, ← Int64.toInt_inj, Int32.toInt_add, Int32.toInt_sub, Int32.toInt_neg, Int64.toInt_add, Int64.toInt_sub, Int64.toInt_neg, Int64.toInt_mul, Int32.toInt_toInt64, bm32, bm64, l32_0, l32_1, l32_2, l32_3, l32_10, l32_13, l32_55296, l32_56320, l32_57344, l32_65535] at hc3_1 hc9_2 ⊢) <;> omega
    · refine A0.icmpYes (q := 16) d_jdk_89_method_15_9 (flt hc9_2).2.1 (by decide) (by decide) ?_
      refine A0.iconst (q := 17) (v := 0) d_jdk_89_method_15_16 rfl rfl ?_
      refine A0.retN (by simp) d_jdk_89_method_15_17 (by decide) (by decide) ⟨(0 : Int32), rfl, rfl, ?_⟩
      clear hw A0
      (try simp only [true_and, and_true, false_and, and_false, true_or, or_true, false_or, or_false, not_true_eq_false, not_false_eq_true, Int32.lt_iff_toInt_lt, Int64.lt_iff_toInt_lt, Int32.le_iff_toInt_le, Int64.le_iff_toInt_le, ← Int32.toInt_inj, ← Int64.toInt_inj, Int32.toInt_add, Int32.toInt_sub, Int32.toInt_neg, Int64.toInt_add, Int64.toInt_sub, Int64.toInt_neg, Int64.toInt_mul, Int32.toInt_toInt64, bm32, bm64, l32_0, l32_1, l32_2, l32_3, l32_10, l32_13, l32_55296, l32_56320, l32_57344, l32_65535] at hc3_1 hc9_2 ⊢) <;> omega
theorem d_jdk_89_method_14_0 : decode jdk_89_method_14_code 0 = .ok (.iload_n 0, 1) := by decide +kernel
theorem d_jdk_89_method_14_1 : decode jdk_89_method_14_code 1 = .ok (.ldc 75, 2) := by decide +kernel
theorem d_jdk_89_method_14_3 : decode jdk_89_method_14_code 3 = .ok (.if_icmp .lt 13, 3) := by decide +kernel
theorem d_jdk_89_method_14_16 : decode jdk_89_method_14_code 16 = .ok (.iconst 0, 1) := by decide +kernel
theorem d_jdk_89_method_14_17 : decode jdk_89_method_14_code 17 = .ok (.ireturn, 1) := by decide +kernel
theorem d_jdk_89_method_14_6 : decode jdk_89_method_14_code 6 = .ok (.iload_n 0, 1) := by decide +kernel
theorem d_jdk_89_method_14_7 : decode jdk_89_method_14_code 7 = .ok (.ldc 76, 2) := by decide +kernel
theorem d_jdk_89_method_14_9 : decode jdk_89_method_14_code 9 = .ok (.if_icmp .ge 7, 3) := by decide +kernel
theorem d_jdk_89_method_14_12 : decode jdk_89_method_14_code 12 = .ok (.iconst 1, 1) := by decide +kernel
theorem d_jdk_89_method_14_13 : decode jdk_89_method_14_code 13 = .ok (.goto 4, 3) := by decide +kernel
theorem ef_m_high (m : MethodId) (x0 : Int32) : entryFrame m #[(.int x0)] 1 = mkF m 0 #[.val (.int x0)] [] := by first | (simp [entryFrame, mkF, argsToLocals, Value.category]; done) | rfl
set_option maxRecDepth 65536 in
set_option maxHeartbeats 40000000 in
theorem m_high (l : Launch) (Z : State) (a0 : Array Value) (hw : ∀ d ∈ tables_1, d.before a0 Z = true) (z : Int32) :
    Pays l Z a0 (⟨"java/lang/Character", "isHighSurrogate", "(C)Z"⟩ : MethodName) jdk_89_method_14_code 1 (some .boolean) ({ frames := 0, cells := 0, slots := 0, locals := 0 } : Room) #[(.int z)] [] (([] : Hs).map (·.1)) (fun v os' => ∃ (r : Int32), v = some (.int r) ∧ os' = [] ∧ ((r = 1 ∧ (55296 ≤ z.toInt ∧ z.toInt < 56320)) ∨ (r = 0 ∧ ¬ (55296 ≤ z.toInt ∧ z.toInt < 56320)))) := by
  refine Pays.of (Ls := #[.val (.int z)]) (plainFor_of_name pn_1) (fun m => ef_m_high m z) ?_
  intro p e s m below meth c T0 A0
  refine A0.iloadN (q := 1) d_jdk_89_method_14_0 rfl rfl ?_
  refine A0.ldc (qn := 3) (v := 55296) (tw hw 48 rfl) d_jdk_89_method_14_1 rfl ?_
  by_cases hc3_1 : z < (55296 : Int32)
  · refine A0.icmpYes (q := 16) d_jdk_89_method_14_3 (tlt hc3_1).1 (by decide) (by decide) ?_
    refine A0.iconst (q := 17) (v := 0) d_jdk_89_method_14_16 rfl rfl ?_
    refine A0.retN (by simp) d_jdk_89_method_14_17 (by decide) (by decide) ⟨(0 : Int32), rfl, rfl, ?_⟩
    clear hw A0
    (try simp only [true_and, and_true, false_and, and_false, true_or, or_true, false_or, or_false, not_true_eq_false, not_false_eq_true, Int32.lt_iff_toInt_lt, Int64.lt_iff_toInt_lt, Int32.le_iff_toInt_le, Int64.le_iff_toInt_le, ← Int32.toInt_inj, ← Int64.toInt_inj, Int32.toInt_add, Int32.toInt_sub, Int32.toInt_neg, Int64.toInt_add, Int64.toInt_sub, Int64.toInt_neg, Int64.toInt_mul, Int32.toInt_toInt64, bm32, bm64, l32_0, l32_1, l32_2, l32_3, l32_10, l32_13, l32_55296, l32_56320, l32_57344, l32_65535] at hc3_1 ⊢) <;> omega
  · refine A0.icmpNo (q := 6) d_jdk_89_method_14_3 (flt hc3_1).1 rfl ?_
    refine A0.iloadN (q := 7) d_jdk_89_method_14_6 rfl rfl ?_
    refine A0.ldc (qn := 9) (v := 56320) (tw hw 43 rfl) d_jdk_89_method_14_7 rfl ?_
    by_cases hc9_2 : z < (56320 : Int32)
    · refine A0.icmpNo (q := 12) d_jdk_89_method_14_9 (tlt hc9_2).2.1 rfl ?_
      refine A0.iconst (q := 13) (v := 1) d_jdk_89_method_14_12 rfl rfl ?_
      refine A0.goto (q := 17) d_jdk_89_method_14_13 (by decide) (by decide) ?_
      refine A0.retN (by simp) d_jdk_89_method_14_17 (by decide) (by decide) ⟨(1 : Int32), rfl, rfl, ?_⟩
      clear hw A0
      (try simp only [true_and, and_true, false_and, and_false, true_or, or_true, false_or, or_false, not_true_eq_false, not_false_eq_true, Int32.lt_iff_toInt_lt, Int64.lt_iff_toInt_lt, Int32.le_iff_toInt_le, Int64.le_iff_toInt_le, ← Int32.toInt_inj, ← Int64.toInt_inj, Int32.toInt_add, Int32.toInt_sub, Int32.toInt_neg, Int64.toInt_add, Int64.toInt_sub, Int64.toInt_neg, Int64.toInt_mul, Int32.toInt_toInt64, bm32, bm64, l32_0, l32_1, l32_2, l32_3, l32_10, l32_13, l32_55296, l32_56320, l32_57344, l32_65535] at hc3_1 hc9_2 ⊢) <;> omega
    · refine A0.icmpYes (q := 16) d_jdk_89_method_14_9 (flt hc9_2).2.1 (by decide) (by decide) ?_
      refine A0.iconst (q := 17) (v := 0) d_jdk_89_method_14_16 rfl rfl ?_
      refine A0.retN (by simp) d_jdk_89_method_14_17 (by decide) (by decide) ⟨(0 : Int32), rfl, rfl, ?_⟩
      clear hw A0
      (try simp only [true_and, and_true, false_and, and_false, true_or, or_true, false_or, or_false, not_true_eq_false, not_false_eq_true, Int32.lt_iff_toInt_lt, Int64.lt_iff_toInt_lt, Int32.le_iff_toInt_le, Int64.le_iff_toInt_le, ← Int32.toInt_inj, ← Int64.toInt_inj, Int32.toInt_add, Int32.toInt_sub, Int32.toInt_neg, Int64.toInt_add, Int64.toInt_sub, Int64.toInt_neg, Int64.toInt_mul, Int32.toInt_toInt64, bm32, bm64, l32_0, l32_1, l32_2, l32_3, l32_10, l32_13, l32_55296, l32_56320, l32_57344, l32_65535] at hc3_1 hc9_2 ⊢) <;> omega
theorem d_prog_51_method_4_0 : decode prog_51_method_4_code 0 = .ok (.iload_n 0, 1) := by decide +kernel
theorem d_prog_51_method_4_1 : decode prog_51_method_4_code 1 = .ok (.bipush 13, 2) := by decide +kernel
theorem d_prog_51_method_4_3 : decode prog_51_method_4_code 3 = .ok (.if_icmp .le 14, 3) := by decide +kernel
theorem d_prog_51_method_4_6 : decode prog_51_method_4_code 6 = .ok (.iload_n 0, 1) := by decide +kernel
theorem d_prog_51_method_4_7 : decode prog_51_method_4_code 7 = .ok (.invokestatic 30, 3) := by decide +kernel
theorem pd_2 : parseMethodDescriptor "(C)Z" = some ⟨[.char], some .boolean⟩ := by decide +kernel
theorem d_prog_51_method_4_10 : decode prog_51_method_4_code 10 = .ok (.ifCond .ne 7, 3) := by decide +kernel
theorem d_prog_51_method_4_13 : decode prog_51_method_4_code 13 = .ok (.iconst 1, 1) := by decide +kernel
theorem d_prog_51_method_4_14 : decode prog_51_method_4_code 14 = .ok (.goto 4, 3) := by decide +kernel
theorem d_prog_51_method_4_18 : decode prog_51_method_4_code 18 = .ok (.ireturn, 1) := by decide +kernel
theorem d_prog_51_method_4_17 : decode prog_51_method_4_code 17 = .ok (.iconst 0, 1) := by decide +kernel
theorem pn_3 : plainName "com/example/fine_events/fineevents/PositionTracker" = true := by first | (simp [plainName, overriddenIn]; done) | decide +kernel
theorem ef_m_plain (m : MethodId) (x0 : Int32) : entryFrame m #[(.int x0)] 1 = mkF m 0 #[.val (.int x0)] [] := by first | (simp [entryFrame, mkF, argsToLocals, Value.category]; done) | rfl
set_option maxRecDepth 65536 in
set_option maxHeartbeats 40000000 in
theorem m_plain (l : Launch) (Z : State) (a0 : Array Value) (hw : ∀ d ∈ tables_1, d.before a0 Z = true) (z : Int32) :
    Pays l Z a0 (⟨"com/example/fine_events/fineevents/PositionTracker", "isPlain", "(C)Z"⟩ : MethodName) prog_51_method_4_code 1 (some .boolean) ({ frames := 1, cells := 0, slots := 0, locals := 12 } : Room) #[(.int z)] [] (([] : Hs).map (·.1)) (fun v os' => ∃ (r : Int32), v = some (.int r) ∧ os' = []) := by
  refine Pays.of (Ls := #[.val (.int z)]) (plainFor_of_name pn_3) (fun m => ef_m_plain m z) ?_
  intro p e s m below meth c T0 A0
  refine A0.iloadN (q := 1) d_prog_51_method_4_0 rfl rfl ?_
  refine A0.bipush (q := 3) (v := 13) d_prog_51_method_4_1 rfl rfl ?_
  by_cases hc3_1 : (13 : Int32) < z
  · refine A0.icmpNo (q := 6) d_prog_51_method_4_3 (tlt hc3_1).2.2.2 rfl ?_
    refine A0.iloadN (q := 7) d_prog_51_method_4_6 rfl rfl ?_
    refine Here.callS (qn := 10) (os1 := []) (os2 := []) (rest := []) (W := 0) (argsL := [(.int z)]) A0 (m_low l Z a0 hw z) (Or.inl rfl) (tw hw 39 rfl) (tw hw 40 rfl) (tw hw 41 rfl) (tw hw 42 rfl) (by decide) d_prog_51_method_4_7 rfl (lenOf pd_2 rfl) rfl (Nat.le_of_eq rfl) (by decide) (by decide) (by decide) (by decide) rfl (fun T2 v3 os4 A5 P6 => ?_)
    obtain ⟨r_7, rfl, rfl, hq_7⟩ := P6
    have A7 := A5.cast (k2 := 0) (n2 := 0) (os2 := []) rfl rfl rfl
    by_cases hc10_8 : r_7 = (0 : Int32)
    · refine A7.ifNo (q := 13) d_prog_51_method_4_10 ((if0 _ _).trans (teq hc10_8).2) rfl ?_
      refine A7.iconst (q := 14) (v := 1) d_prog_51_method_4_13 rfl rfl ?_
      refine A7.goto (q := 18) d_prog_51_method_4_14 (by decide) (by decide) ?_
      exact A7.retN (by simp) d_prog_51_method_4_18 (by decide) (by decide) ⟨(1 : Int32), rfl, rfl⟩
    · refine A7.ifYes (q := 17) d_prog_51_method_4_10 ((if0 _ _).trans (feq hc10_8).2) (by decide) (by decide) ?_
      refine A7.iconst (q := 18) (v := 0) d_prog_51_method_4_17 rfl rfl ?_
      exact A7.retN (by simp) d_prog_51_method_4_18 (by decide) (by decide) ⟨(0 : Int32), rfl, rfl⟩
  · refine A0.icmpYes (q := 17) d_prog_51_method_4_3 (flt hc3_1).2.2.2 (by decide) (by decide) ?_
    refine A0.iconst (q := 18) (v := 0) d_prog_51_method_4_17 rfl rfl ?_
    exact A0.retN (by simp) d_prog_51_method_4_18 (by decide) (by decide) ⟨(0 : Int32), rfl, rfl⟩
theorem d_prog_51_method_1_0 : decode prog_51_method_1_code 0 = .ok (.aload_n 0, 1) := by decide +kernel
theorem d_prog_51_method_1_1 : decode prog_51_method_1_code 1 = .ok (.invokespecial 1, 3) := by decide +kernel
theorem d_prog_51_method_1_4 : decode prog_51_method_1_code 4 = .ok (.aload_n 0, 1) := by decide +kernel
theorem d_prog_51_method_1_5 : decode prog_51_method_1_code 5 = .ok (.lconst 1, 1) := by decide +kernel
theorem d_prog_51_method_1_6 : decode prog_51_method_1_code 6 = .ok (.putfield 7, 3) := by decide +kernel
theorem d_prog_51_method_1_9 : decode prog_51_method_1_code 9 = .ok (.return_, 1) := by decide +kernel
theorem ef_m_ini (m : MethodId) (x0 : Addr) : entryFrame m #[(.ref x0)] 1 = mkF m 0 #[.val (.ref x0)] [] := by first | (simp [entryFrame, mkF, argsToLocals, Value.category]; done) | rfl
set_option maxRecDepth 65536 in
set_option maxHeartbeats 40000000 in
theorem m_ini (l : Launch) (Z : State) (a0 : Array Value) (hw : ∀ d ∈ tables_1, d.before a0 Z = true) (a : Addr) (ln : Int64) (of : Int64) (ls : Int64) (pr : Int64) (pv : Int32) :
    Pays l Z a0 (⟨"com/example/fine_events/fineevents/PositionTracker", "<init>", "()V"⟩ : MethodName) prog_51_method_1_code 1 none ({ frames := 1, cells := 0, slots := 0, locals := 12 } : Room) #[(.ref a)] [(a, ob0 (.long ln) (.int pv) (.long of) (.long ls) (.long pr))] (([(a, ob0 (.long ln) (.int pv) (.long of) (.long ls) (.long pr))] : Hs).map (·.1)) (fun v os' => v = none ∧ os' = [(a, ob0 (.long 1) (.int pv) (.long of) (.long ls) (.long pr))]) := by
  refine Pays.of (Ls := #[.val (.ref a)]) (plainFor_of_name pn_3) (fun m => ef_m_ini m a) ?_
  intro p e s m below meth c T0 A0
  refine A0.aloadN (q := 1) d_prog_51_method_1_0 rfl rfl rfl ?_
  refine A0.initO (qn := 4) (W := 0) (tw hw 13 rfl) (tw hw 14 rfl) (tw hw 15 rfl) d_prog_51_method_1_1 rfl (Nat.le_of_eq rfl) (by decide) (by decide) rfl (fun T1 A2 => ?_)
  refine A2.aloadN (q := 5) d_prog_51_method_1_4 rfl rfl rfl ?_
  refine A2.lconst (q := 6) (v := 1) d_prog_51_method_1_5 rfl rfl ?_
  refine A2.putF (qn := 9) (i := 0) (j := 0) (ty := .long) (tw hw 16 rfl) Via.refl (Or.inl (tw hw 17 rfl)) (tw hw 8 rfl) (by decide) rfl rfl d_prog_51_method_1_6 rfl rfl rfl rfl (fun T3 A4 => ?_)
  have A5 := A4.cast (k2 := 0) (n2 := 0) (os2 := [(a, ob0 (.long 1) (.int pv) (.long of) (.long ls) (.long pr))]) rfl rfl rfl
  exact A5.retV d_prog_51_method_1_9 (by decide) (by decide) ⟨rfl, rfl⟩
theorem d_prog_51_method_6_0 : decode prog_51_method_6_code 0 = .ok (.iload_n 3, 1) := by decide +kernel
theorem d_prog_51_method_6_1 : decode prog_51_method_6_code 1 = .ok (.ifCond .gt 4, 3) := by decide +kernel
theorem d_prog_51_method_6_5 : decode prog_51_method_6_code 5 = .ok (.iload_n 2, 1) := by decide +kernel
theorem d_prog_51_method_6_6 : decode prog_51_method_6_code 6 = .ok (.iload_n 3, 1) := by decide +kernel
theorem d_prog_51_method_6_7 : decode prog_51_method_6_code 7 = .ok (.iadd, 1) := by decide +kernel
theorem d_prog_51_method_6_8 : decode prog_51_method_6_code 8 = .ok (.iconst 1, 1) := by decide +kernel
theorem d_prog_51_method_6_9 : decode prog_51_method_6_code 9 = .ok (.isub, 1) := by decide +kernel
theorem d_prog_51_method_6_10 : decode prog_51_method_6_code 10 = .ok (.istore 4, 2) := by decide +kernel
theorem d_prog_51_method_6_12 : decode prog_51_method_6_code 12 = .ok (.aload_n 1, 1) := by decide +kernel
theorem d_prog_51_method_6_13 : decode prog_51_method_6_code 13 = .ok (.iload 4, 2) := by decide +kernel
theorem d_prog_51_method_6_15 : decode prog_51_method_6_code 15 = .ok (.caload, 1) := by decide +kernel
theorem d_prog_51_method_6_16 : decode prog_51_method_6_code 16 = .ok (.istore 5, 2) := by decide +kernel
theorem d_prog_51_method_6_18 : decode prog_51_method_6_code 18 = .ok (.iload 4, 2) := by decide +kernel
theorem d_prog_51_method_6_20 : decode prog_51_method_6_code 20 = .ok (.iload_n 2, 1) := by decide +kernel
theorem d_prog_51_method_6_21 : decode prog_51_method_6_code 21 = .ok (.if_icmp .le 12, 3) := by decide +kernel
theorem d_prog_51_method_6_24 : decode prog_51_method_6_code 24 = .ok (.aload_n 1, 1) := by decide +kernel
theorem d_prog_51_method_6_25 : decode prog_51_method_6_code 25 = .ok (.iload 4, 2) := by decide +kernel
theorem d_prog_51_method_6_27 : decode prog_51_method_6_code 27 = .ok (.iconst 1, 1) := by decide +kernel
theorem d_prog_51_method_6_28 : decode prog_51_method_6_code 28 = .ok (.isub, 1) := by decide +kernel
theorem d_prog_51_method_6_29 : decode prog_51_method_6_code 29 = .ok (.caload, 1) := by decide +kernel
theorem d_prog_51_method_6_30 : decode prog_51_method_6_code 30 = .ok (.goto 7, 3) := by decide +kernel
theorem d_prog_51_method_6_37 : decode prog_51_method_6_code 37 = .ok (.istore 6, 2) := by decide +kernel
theorem d_prog_51_method_6_39 : decode prog_51_method_6_code 39 = .ok (.aload_n 0, 1) := by decide +kernel
theorem d_prog_51_method_6_40 : decode prog_51_method_6_code 40 = .ok (.dup, 1) := by decide +kernel
theorem d_prog_51_method_6_41 : decode prog_51_method_6_code 41 = .ok (.getfield 17, 3) := by decide +kernel
theorem d_prog_51_method_6_44 : decode prog_51_method_6_code 44 = .ok (.iload_n 3, 1) := by decide +kernel
theorem d_prog_51_method_6_45 : decode prog_51_method_6_code 45 = .ok (.i2l, 1) := by decide +kernel
theorem d_prog_51_method_6_46 : decode prog_51_method_6_code 46 = .ok (.ladd, 1) := by decide +kernel
theorem d_prog_51_method_6_47 : decode prog_51_method_6_code 47 = .ok (.putfield 17, 3) := by decide +kernel
theorem d_prog_51_method_6_50 : decode prog_51_method_6_code 50 = .ok (.iload 5, 2) := by decide +kernel
theorem d_prog_51_method_6_52 : decode prog_51_method_6_code 52 = .ok (.bipush 13, 2) := by decide +kernel
theorem d_prog_51_method_6_54 : decode prog_51_method_6_code 54 = .ok (.if_icmp .eq 10, 3) := by decide +kernel
theorem d_prog_51_method_6_64 : decode prog_51_method_6_code 64 = .ok (.iload 5, 2) := by decide +kernel
theorem d_prog_51_method_6_66 : decode prog_51_method_6_code 66 = .ok (.bipush 13, 2) := by decide +kernel
theorem d_prog_51_method_6_68 : decode prog_51_method_6_code 68 = .ok (.if_icmp .eq 10, 3) := by decide +kernel
theorem d_prog_51_method_6_78 : decode prog_51_method_6_code 78 = .ok (.aload_n 0, 1) := by decide +kernel
theorem d_prog_51_method_6_79 : decode prog_51_method_6_code 79 = .ok (.dup, 1) := by decide +kernel
theorem d_prog_51_method_6_80 : decode prog_51_method_6_code 80 = .ok (.getfield 7, 3) := by decide +kernel
theorem d_prog_51_method_6_83 : decode prog_51_method_6_code 83 = .ok (.lconst 1, 1) := by decide +kernel
theorem d_prog_51_method_6_84 : decode prog_51_method_6_code 84 = .ok (.ladd, 1) := by decide +kernel
theorem d_prog_51_method_6_85 : decode prog_51_method_6_code 85 = .ok (.putfield 7, 3) := by decide +kernel
theorem d_prog_51_method_6_88 : decode prog_51_method_6_code 88 = .ok (.aload_n 0, 1) := by decide +kernel
theorem d_prog_51_method_6_89 : decode prog_51_method_6_code 89 = .ok (.aload_n 0, 1) := by decide +kernel
theorem d_prog_51_method_6_90 : decode prog_51_method_6_code 90 = .ok (.getfield 17, 3) := by decide +kernel
theorem d_prog_51_method_6_93 : decode prog_51_method_6_code 93 = .ok (.putfield 20, 3) := by decide +kernel
theorem d_prog_51_method_6_96 : decode prog_51_method_6_code 96 = .ok (.aload_n 0, 1) := by decide +kernel
theorem d_prog_51_method_6_97 : decode prog_51_method_6_code 97 = .ok (.lconst 0, 1) := by decide +kernel
theorem d_prog_51_method_6_98 : decode prog_51_method_6_code 98 = .ok (.putfield 23, 3) := by decide +kernel
theorem d_prog_51_method_6_101 : decode prog_51_method_6_code 101 = .ok (.goto 29, 3) := by decide +kernel
theorem d_prog_51_method_6_130 : decode prog_51_method_6_code 130 = .ok (.aload_n 0, 1) := by decide +kernel
theorem d_prog_51_method_6_131 : decode prog_51_method_6_code 131 = .ok (.iload 5, 2) := by decide +kernel
theorem d_prog_51_method_6_133 : decode prog_51_method_6_code 133 = .ok (.putfield 26, 3) := by decide +kernel
theorem d_prog_51_method_6_136 : decode prog_51_method_6_code 136 = .ok (.return_, 1) := by decide +kernel
theorem d_prog_51_method_6_71 : decode prog_51_method_6_code 71 = .ok (.iload 6, 2) := by decide +kernel
theorem d_prog_51_method_6_73 : decode prog_51_method_6_code 73 = .ok (.bipush 13, 2) := by decide +kernel
theorem d_prog_51_method_6_75 : decode prog_51_method_6_code 75 = .ok (.if_icmp .eq 13, 3) := by decide +kernel
theorem d_prog_51_method_6_57 : decode prog_51_method_6_code 57 = .ok (.iload 5, 2) := by decide +kernel
theorem d_prog_51_method_6_59 : decode prog_51_method_6_code 59 = .ok (.bipush 10, 2) := by decide +kernel
theorem d_prog_51_method_6_61 : decode prog_51_method_6_code 61 = .ok (.if_icmp .ne 43, 3) := by decide +kernel
theorem d_prog_51_method_6_104 : decode prog_51_method_6_code 104 = .ok (.iload 5, 2) := by decide +kernel
theorem d_prog_51_method_6_106 : decode prog_51_method_6_code 106 = .ok (.invokestatic 30, 3) := by decide +kernel
theorem d_prog_51_method_6_109 : decode prog_51_method_6_code 109 = .ok (.ifCond .eq 21, 3) := by decide +kernel
theorem d_prog_51_method_6_112 : decode prog_51_method_6_code 112 = .ok (.iload 6, 2) := by decide +kernel
theorem d_prog_51_method_6_114 : decode prog_51_method_6_code 114 = .ok (.invokestatic 43, 3) := by decide +kernel
theorem d_prog_51_method_6_117 : decode prog_51_method_6_code 117 = .ok (.ifCond .eq 13, 3) := by decide +kernel
theorem d_prog_51_method_6_120 : decode prog_51_method_6_code 120 = .ok (.aload_n 0, 1) := by decide +kernel
theorem d_prog_51_method_6_121 : decode prog_51_method_6_code 121 = .ok (.dup, 1) := by decide +kernel
theorem d_prog_51_method_6_122 : decode prog_51_method_6_code 122 = .ok (.getfield 23, 3) := by decide +kernel
theorem d_prog_51_method_6_125 : decode prog_51_method_6_code 125 = .ok (.lconst 1, 1) := by decide +kernel
theorem d_prog_51_method_6_126 : decode prog_51_method_6_code 126 = .ok (.ladd, 1) := by decide +kernel
theorem d_prog_51_method_6_127 : decode prog_51_method_6_code 127 = .ok (.putfield 23, 3) := by decide +kernel
theorem d_prog_51_method_6_33 : decode prog_51_method_6_code 33 = .ok (.aload_n 0, 1) := by decide +kernel
theorem d_prog_51_method_6_34 : decode prog_51_method_6_code 34 = .ok (.getfield 26, 3) := by decide +kernel
theorem d_prog_51_method_6_4 : decode prog_51_method_6_code 4 = .ok (.return_, 1) := by decide +kernel
theorem ef_m_any (m : MethodId) (x0 : Addr) (x1 : Addr) (x2 : Int32) (x3 : Int32) : entryFrame m #[(.ref x0), (.ref x1), (.int x2), (.int x3)] 7 = mkF m 0 #[.val (.ref x0), .val (.ref x1), .val (.int x2), .val (.int x3), .unset, .unset, .unset] [] := by first | (simp [entryFrame, mkF, argsToLocals, Value.category]; done) | rfl
set_option maxRecDepth 65536 in
set_option maxHeartbeats 40000000 in
theorem m_any (l : Launch) (Z : State) (a0 : Array Value) (hw : ∀ d ∈ tables_1, d.before a0 Z = true) (a : Addr) (b : Addr) (off : Int32) (cnt : Int32) (cs : List Value) (z : Int32) (z2 : Int32) (ln : Int64) (of : Int64) (ls : Int64) (pr : Int64) (pv : Int32) (hp : nar .char pv = pv) (h1 : 0 < cnt → ¬ (((off + cnt) - (1 : Int32)) < 0) ∧ cs[(((off + cnt) - (1 : Int32))).toNatClampNeg]? = some (.int z)) (h2 : off < ((off + cnt) - (1 : Int32)) → ¬ ((((off + cnt) - (1 : Int32)) - 1) < 0) ∧ cs[(((off + cnt) - (1 : Int32)) - 1).toNatClampNeg]? = some (.int z2)) :
    Pays l Z a0 (⟨"com/example/fine_events/fineevents/PositionTracker", "advanceOverPlain", "([CII)V"⟩ : MethodName) prog_51_method_6_code 7 none ({ frames := 1, cells := 0, slots := 0, locals := 12 } : Room) #[(.ref a), (.ref b), (.int off), (.int cnt)] [(a, ob0 (.long ln) (.int pv) (.long of) (.long ls) (.long pr)), (b, .inr (.char, cs))] (([(a, ob0 (.long ln) (.int pv) (.long of) (.long ls) (.long pr)), (b, .inr (.char, cs))] : Hs).map (·.1)) (fun v os' => ∃ (ln1 : Int64), ∃ (of1 : Int64), ∃ (ls1 : Int64), ∃ (pr1 : Int64), ∃ (pv1 : Int32), v = none ∧ os' = [(a, ob0 (.long ln1) (.int pv1) (.long of1) (.long ls1) (.long pr1)), (b, .inr (.char, cs))] ∧ nar .char pv1 = pv1) := by
  refine Pays.of (Ls := #[.val (.ref a), .val (.ref b), .val (.int off), .val (.int cnt), .unset, .unset, .unset]) (plainFor_of_name pn_3) (fun m => ef_m_any m a b off cnt) ?_
  intro p e s m below meth c T0 A0
  refine A0.iloadN (q := 1) d_prog_51_method_6_0 rfl rfl ?_
  by_cases hc1_1 : (0 : Int32) < cnt
  · refine A0.ifYes (q := 5) d_prog_51_method_6_1 ((if0 _ _).trans (tlt hc1_1).2.2.1) (by decide) (by decide) ?_
    refine A0.iloadN (q := 6) d_prog_51_method_6_5 rfl rfl ?_
    refine A0.iloadN (q := 7) d_prog_51_method_6_6 rfl rfl ?_
    refine A0.iadd (q := 8) d_prog_51_method_6_7 rfl ?_
    refine A0.iconst (q := 9) (v := 1) d_prog_51_method_6_8 rfl rfl ?_
    refine A0.isub (q := 10) d_prog_51_method_6_9 rfl ?_
    refine A0.istore (q := 12) (l' := #[.val (.ref a), .val (.ref b), .val (.int off), .val (.int cnt), .val (.int ((off + cnt) - (1 : Int32))), .unset, .unset]) d_prog_51_method_6_10 rfl rfl ?_
    refine A0.aloadN (q := 13) d_prog_51_method_6_12 rfl rfl rfl ?_
    refine A0.iload (q := 15) d_prog_51_method_6_13 rfl rfl ?_
    refine A0.ldC (qn := 16) (i := 1) (v := (.int z)) d_prog_51_method_6_15 rfl ((h1 hc1_1).1) ((h1 hc1_1).2) rfl ?_
    refine A0.istore (q := 18) (l' := #[.val (.ref a), .val (.ref b), .val (.int off), .val (.int cnt), .val (.int ((off + cnt) - (1 : Int32))), .val (.int z), .unset]) d_prog_51_method_6_16 rfl rfl ?_
    refine A0.iload (q := 20) d_prog_51_method_6_18 rfl rfl ?_
    refine A0.iloadN (q := 21) d_prog_51_method_6_20 rfl rfl ?_
    by_cases hc21_2 : off < ((off + cnt) - (1 : Int32))
    · refine A0.icmpNo (q := 24) d_prog_51_method_6_21 (tlt hc21_2).2.2.2 rfl ?_
      refine A0.aloadN (q := 25) d_prog_51_method_6_24 rfl rfl rfl ?_
      refine A0.iload (q := 27) d_prog_51_method_6_25 rfl rfl ?_
      refine A0.iconst (q := 28) (v := 1) d_prog_51_method_6_27 rfl rfl ?_
      refine A0.isub (q := 29) d_prog_51_method_6_28 rfl ?_
      refine A0.ldC (qn := 30) (i := 1) (v := (.int z2)) d_prog_51_method_6_29 rfl ((h2 hc21_2).1) ((h2 hc21_2).2) rfl ?_
      refine A0.goto (q := 37) d_prog_51_method_6_30 (by decide) (by decide) ?_
      refine A0.istore (q := 39) (l' := #[.val (.ref a), .val (.ref b), .val (.int off), .val (.int cnt), .val (.int ((off + cnt) - (1 : Int32))), .val (.int z), .val (.int z2)]) d_prog_51_method_6_37 rfl rfl ?_
      refine A0.aloadN (q := 40) d_prog_51_method_6_39 rfl rfl rfl ?_
      refine A0.dup (q := 41) d_prog_51_method_6_40 rfl rfl ?_
      refine A0.getF (qn := 44) (i := 0) (j := 2) (tw hw 33 rfl) Via.refl d_prog_51_method_6_41 rfl rfl rfl (fun T3 A4 => ?_)
      refine A4.iloadN (q := 45) d_prog_51_method_6_44 rfl rfl ?_
      refine A4.i2l (q := 46) d_prog_51_method_6_45 rfl ?_
      refine A4.ladd (q := 47) d_prog_51_method_6_46 rfl ?_
      refine A4.putF (qn := 50) (i := 0) (j := 2) (ty := .long) (tw hw 33 rfl) Via.refl (Or.inl (tw hw 34 rfl)) (tw hw 8 rfl) (by decide) rfl rfl d_prog_51_method_6_47 rfl rfl rfl rfl (fun T5 A6 => ?_)
      have A7 := A6.cast (k2 := 0) (n2 := 0) (os2 := [(a, ob0 (.long ln) (.int pv) (.long (of + cnt.toInt64)) (.long ls) (.long pr)), (b, .inr (.char, cs))]) rfl rfl rfl
      refine A7.iload (q := 52) d_prog_51_method_6_50 rfl rfl ?_
      refine A7.bipush (q := 54) (v := 13) d_prog_51_method_6_52 rfl rfl ?_
      by_cases hc54_8 : z = (13 : Int32)
      · refine A7.icmpYes (q := 64) d_prog_51_method_6_54 (teq hc54_8).1 (by decide) (by decide) ?_
        refine A7.iload (q := 66) d_prog_51_method_6_64 rfl rfl ?_
        refine A7.bipush (q := 68) (v := 13) d_prog_51_method_6_66 rfl rfl ?_
        by_cases hc68_9 : z = (13 : Int32)
        · refine A7.icmpYes (q := 78) d_prog_51_method_6_68 (teq hc68_9).1 (by decide) (by decide) ?_
          refine A7.aloadN (q := 79) d_prog_51_method_6_78 rfl rfl rfl ?_
          refine A7.dup (q := 80) d_prog_51_method_6_79 rfl rfl ?_
          refine A7.getF (qn := 83) (i := 0) (j := 0) (tw hw 16 rfl) Via.refl d_prog_51_method_6_80 rfl rfl rfl (fun T10 A11 => ?_)
          refine A11.lconst (q := 84) (v := 1) d_prog_51_method_6_83 rfl rfl ?_
          refine A11.ladd (q := 85) d_prog_51_method_6_84 rfl ?_
          refine A11.putF (qn := 88) (i := 0) (j := 0) (ty := .long) (tw hw 16 rfl) Via.refl (Or.inl (tw hw 17 rfl)) (tw hw 8 rfl) (by decide) rfl rfl d_prog_51_method_6_85 rfl rfl rfl rfl (fun T12 A13 => ?_)
          have A14 := A13.cast (k2 := 0) (n2 := 0) (os2 := [(a, ob0 (.long (ln + (1 : Int64))) (.int pv) (.long (of + cnt.toInt64)) (.long ls) (.long pr)), (b, .inr (.char, cs))]) rfl rfl rfl
          refine A14.aloadN (q := 89) d_prog_51_method_6_88 rfl rfl rfl ?_
          refine A14.aloadN (q := 90) d_prog_51_method_6_89 rfl rfl rfl ?_
          refine A14.getF (qn := 93) (i := 0) (j := 2) (tw hw 33 rfl) Via.refl d_prog_51_method_6_90 rfl rfl rfl (fun T15 A16 => ?_)
          refine A16.putF (qn := 96) (i := 0) (j := 3) (ty := .long) (tw hw 35 rfl) Via.refl (Or.inl (tw hw 36 rfl)) (tw hw 8 rfl) (by decide) rfl rfl d_prog_51_method_6_93 rfl rfl rfl rfl (fun T17 A18 => ?_)
          have A19 := A18.cast (k2 := 0) (n2 := 0) (os2 := [(a, ob0 (.long (ln + (1 : Int64))) (.int pv) (.long (of + cnt.toInt64)) (.long (of + cnt.toInt64)) (.long pr)), (b, .inr (.char, cs))]) rfl rfl rfl
          refine A19.aloadN (q := 97) d_prog_51_method_6_96 rfl rfl rfl ?_
          refine A19.lconst (q := 98) (v := 0) d_prog_51_method_6_97 rfl rfl ?_
          refine A19.putF (qn := 101) (i := 0) (j := 4) (ty := .long) (tw hw 37 rfl) Via.refl (Or.inl (tw hw 38 rfl)) (tw hw 8 rfl) (by decide) rfl rfl d_prog_51_method_6_98 rfl rfl rfl rfl (fun T20 A21 => ?_)
          have A22 := A21.cast (k2 := 0) (n2 := 0) (os2 := [(a, ob0 (.long (ln + (1 : Int64))) (.int pv) (.long (of + cnt.toInt64)) (.long (of + cnt.toInt64)) (.long 0)), (b, .inr (.char, cs))]) rfl rfl rfl
          refine A22.goto (q := 130) d_prog_51_method_6_101 (by decide) (by decide) ?_
          refine A22.aloadN (q := 131) d_prog_51_method_6_130 rfl rfl rfl ?_
          refine A22.iload (q := 133) d_prog_51_method_6_131 rfl rfl ?_
          refine A22.putFN (qn := 136) (i := 0) (j := 1) (ty := .char) (v' := (.int (nar .char z))) (tw hw 31 rfl) Via.refl (Or.inl (tw hw 32 rfl)) (tw hw 8 rfl) (by decide) rfl (fits_nar_char _) d_prog_51_method_6_133 rfl rfl rfl rfl (fun T23 A24 => ?_)
          have A25 := A24.cast (k2 := 0) (n2 := 0) (os2 := [(a, ob0 (.long (ln + (1 : Int64))) (.int (nar .char z)) (.long (of + cnt.toInt64)) (.long (of + cnt.toInt64)) (.long 0)), (b, .inr (.char, cs))]) rfl rfl rfl
          refine A25.retV d_prog_51_method_6_136 (by decide) (by decide) ⟨(ln + (1 : Int64)), (of + cnt.toInt64), (of + cnt.toInt64), (0 : Int64), (nar .char z), rfl, rfl, ?_⟩
          clear hw A0 A4 A6 A7 A11 A13 A14 A16 A18 A19 A21 A22 A24 A25
          exact own_nar2 _
        · refine A7.icmpNo (q := 71) d_prog_51_method_6_68 (feq hc68_9).1 rfl ?_
          refine A7.iload (q := 73) d_prog_51_method_6_71 rfl rfl ?_
          refine A7.bipush (q := 75) (v := 13) d_prog_51_method_6_73 rfl rfl ?_
          by_cases hc75_26 : z2 = (13 : Int32)
          · refine A7.icmpYes (q := 88) d_prog_51_method_6_75 (teq hc75_26).1 (by decide) (by decide) ?_
            refine A7.aloadN (q := 89) d_prog_51_method_6_88 rfl rfl rfl ?_
            refine A7.aloadN (q := 90) d_prog_51_method_6_89 rfl rfl rfl ?_
            refine A7.getF (qn := 93) (i := 0) (j := 2) (tw hw 33 rfl) Via.refl d_prog_51_method_6_90 rfl rfl rfl (fun T27 A28 => ?_)
            refine A28.putF (qn := 96) (i := 0) (j := 3) (ty := .long) (tw hw 35 rfl) Via.refl (Or.inl (tw hw 36 rfl)) (tw hw 8 rfl) (by decide) rfl rfl d_prog_51_method_6_93 rfl rfl rfl rfl (fun T29 A30 => ?_)
            have A31 := A30.cast (k2 := 0) (n2 := 0) (os2 := [(a, ob0 (.long ln) (.int pv) (.long (of + cnt.toInt64)) (.long (of + cnt.toInt64)) (.long pr)), (b, .inr (.char, cs))]) rfl rfl rfl
            refine A31.aloadN (q := 97) d_prog_51_method_6_96 rfl rfl rfl ?_
            refine A31.lconst (q := 98) (v := 0) d_prog_51_method_6_97 rfl rfl ?_
            refine A31.putF (qn := 101) (i := 0) (j := 4) (ty := .long) (tw hw 37 rfl) Via.refl (Or.inl (tw hw 38 rfl)) (tw hw 8 rfl) (by decide) rfl rfl d_prog_51_method_6_98 rfl rfl rfl rfl (fun T32 A33 => ?_)
            have A34 := A33.cast (k2 := 0) (n2 := 0) (os2 := [(a, ob0 (.long ln) (.int pv) (.long (of + cnt.toInt64)) (.long (of + cnt.toInt64)) (.long 0)), (b, .inr (.char, cs))]) rfl rfl rfl
            refine A34.goto (q := 130) d_prog_51_method_6_101 (by decide) (by decide) ?_
            refine A34.aloadN (q := 131) d_prog_51_method_6_130 rfl rfl rfl ?_
            refine A34.iload (q := 133) d_prog_51_method_6_131 rfl rfl ?_
            refine A34.putFN (qn := 136) (i := 0) (j := 1) (ty := .char) (v' := (.int (nar .char z))) (tw hw 31 rfl) Via.refl (Or.inl (tw hw 32 rfl)) (tw hw 8 rfl) (by decide) rfl (fits_nar_char _) d_prog_51_method_6_133 rfl rfl rfl rfl (fun T35 A36 => ?_)
            have A37 := A36.cast (k2 := 0) (n2 := 0) (os2 := [(a, ob0 (.long ln) (.int (nar .char z)) (.long (of + cnt.toInt64)) (.long (of + cnt.toInt64)) (.long 0)), (b, .inr (.char, cs))]) rfl rfl rfl
            refine A37.retV d_prog_51_method_6_136 (by decide) (by decide) ⟨ln, (of + cnt.toInt64), (of + cnt.toInt64), (0 : Int64), (nar .char z), rfl, rfl, ?_⟩
            clear hw A0 A4 A6 A7 A28 A30 A31 A33 A34 A36 A37
            exact own_nar2 _
          · refine A7.icmpNo (q := 78) d_prog_51_method_6_75 (feq hc75_26).1 rfl ?_
            refine A7.aloadN (q := 79) d_prog_51_method_6_78 rfl rfl rfl ?_
            refine A7.dup (q := 80) d_prog_51_method_6_79 rfl rfl ?_
            refine A7.getF (qn := 83) (i := 0) (j := 0) (tw hw 16 rfl) Via.refl d_prog_51_method_6_80 rfl rfl rfl (fun T38 A39 => ?_)
            refine A39.lconst (q := 84) (v := 1) d_prog_51_method_6_83 rfl rfl ?_
            refine A39.ladd (q := 85) d_prog_51_method_6_84 rfl ?_
            refine A39.putF (qn := 88) (i := 0) (j := 0) (ty := .long) (tw hw 16 rfl) Via.refl (Or.inl (tw hw 17 rfl)) (tw hw 8 rfl) (by decide) rfl rfl d_prog_51_method_6_85 rfl rfl rfl rfl (fun T40 A41 => ?_)
            have A42 := A41.cast (k2 := 0) (n2 := 0) (os2 := [(a, ob0 (.long (ln + (1 : Int64))) (.int pv) (.long (of + cnt.toInt64)) (.long ls) (.long pr)), (b, .inr (.char, cs))]) rfl rfl rfl
            refine A42.aloadN (q := 89) d_prog_51_method_6_88 rfl rfl rfl ?_
            refine A42.aloadN (q := 90) d_prog_51_method_6_89 rfl rfl rfl ?_
            refine A42.getF (qn := 93) (i := 0) (j := 2) (tw hw 33 rfl) Via.refl d_prog_51_method_6_90 rfl rfl rfl (fun T43 A44 => ?_)
            refine A44.putF (qn := 96) (i := 0) (j := 3) (ty := .long) (tw hw 35 rfl) Via.refl (Or.inl (tw hw 36 rfl)) (tw hw 8 rfl) (by decide) rfl rfl d_prog_51_method_6_93 rfl rfl rfl rfl (fun T45 A46 => ?_)
            have A47 := A46.cast (k2 := 0) (n2 := 0) (os2 := [(a, ob0 (.long (ln + (1 : Int64))) (.int pv) (.long (of + cnt.toInt64)) (.long (of + cnt.toInt64)) (.long pr)), (b, .inr (.char, cs))]) rfl rfl rfl
            refine A47.aloadN (q := 97) d_prog_51_method_6_96 rfl rfl rfl ?_
            refine A47.lconst (q := 98) (v := 0) d_prog_51_method_6_97 rfl rfl ?_
            refine A47.putF (qn := 101) (i := 0) (j := 4) (ty := .long) (tw hw 37 rfl) Via.refl (Or.inl (tw hw 38 rfl)) (tw hw 8 rfl) (by decide) rfl rfl d_prog_51_method_6_98 rfl rfl rfl rfl (fun T48 A49 => ?_)
            have A50 := A49.cast (k2 := 0) (n2 := 0) (os2 := [(a, ob0 (.long (ln + (1 : Int64))) (.int pv) (.long (of + cnt.toInt64)) (.long (of + cnt.toInt64)) (.long 0)), (b, .inr (.char, cs))]) rfl rfl rfl
            refine A50.goto (q := 130) d_prog_51_method_6_101 (by decide) (by decide) ?_
            refine A50.aloadN (q := 131) d_prog_51_method_6_130 rfl rfl rfl ?_
            refine A50.iload (q := 133) d_prog_51_method_6_131 rfl rfl ?_
            refine A50.putFN (qn := 136) (i := 0) (j := 1) (ty := .char) (v' := (.int (nar .char z))) (tw hw 31 rfl) Via.refl (Or.inl (tw hw 32 rfl)) (tw hw 8 rfl) (by decide) rfl (fits_nar_char _) d_prog_51_method_6_133 rfl rfl rfl rfl (fun T51 A52 => ?_)
            have A53 := A52.cast (k2 := 0) (n2 := 0) (os2 := [(a, ob0 (.long (ln + (1 : Int64))) (.int (nar .char z)) (.long (of + cnt.toInt64)) (.long (of + cnt.toInt64)) (.long 0)), (b, .inr (.char, cs))]) rfl rfl rfl
            refine A53.retV d_prog_51_method_6_136 (by decide) (by decide) ⟨(ln + (1 : Int64)), (of + cnt.toInt64), (of + cnt.toInt64), (0 : Int64), (nar .char z), rfl, rfl, ?_⟩
            clear hw A0 A4 A6 A7 A39 A41 A42 A44 A46 A47 A49 A50 A52 A53
            exact own_nar2 _
      · refine A7.icmpNo (q := 57) d_prog_51_method_6_54 (feq hc54_8).1 rfl ?_
        refine A7.iload (q := 59) d_prog_51_method_6_57 rfl rfl ?_
        refine A7.bipush (q := 61) (v := 10) d_prog_51_method_6_59 rfl rfl ?_
        by_cases hc61_54 : z = (10 : Int32)
        · refine A7.icmpNo (q := 64) d_prog_51_method_6_61 (teq hc61_54).2 rfl ?_
          refine A7.iload (q := 66) d_prog_51_method_6_64 rfl rfl ?_
          refine A7.bipush (q := 68) (v := 13) d_prog_51_method_6_66 rfl rfl ?_
          by_cases hc68_55 : z = (13 : Int32)
          · refine A7.icmpYes (q := 78) d_prog_51_method_6_68 (teq hc68_55).1 (by decide) (by decide) ?_
            refine A7.aloadN (q := 79) d_prog_51_method_6_78 rfl rfl rfl ?_
            refine A7.dup (q := 80) d_prog_51_method_6_79 rfl rfl ?_
            refine A7.getF (qn := 83) (i := 0) (j := 0) (tw hw 16 rfl) Via.refl d_prog_51_method_6_80 rfl rfl rfl (fun T56 A57 => ?_)
            refine A57.lconst (q := 84) (v := 1) d_prog_51_method_6_83 rfl rfl ?_
            refine A57.ladd (q := 85) d_prog_51_method_6_84 rfl ?_
            refine A57.putF (qn := 88) (i := 0) (j := 0) (ty := .long) (tw hw 16 rfl) Via.refl (Or.inl (tw hw 17 rfl)) (tw hw 8 rfl) (by decide) rfl rfl d_prog_51_method_6_85 rfl rfl rfl rfl (fun T58 A59 => ?_)
            have A60 := A59.cast (k2 := 0) (n2 := 0) (os2 := [(a, ob0 (.long (ln + (1 : Int64))) (.int pv) (.long (of + cnt.toInt64)) (.long ls) (.long pr)), (b, .inr (.char, cs))]) rfl rfl rfl
            refine A60.aloadN (q := 89) d_prog_51_method_6_88 rfl rfl rfl ?_
            refine A60.aloadN (q := 90) d_prog_51_method_6_89 rfl rfl rfl ?_
            refine A60.getF (qn := 93) (i := 0) (j := 2) (tw hw 33 rfl) Via.refl d_prog_51_method_6_90 rfl rfl rfl (fun T61 A62 => ?_)
            refine A62.putF (qn := 96) (i := 0) (j := 3) (ty := .long) (tw hw 35 rfl) Via.refl (Or.inl (tw hw 36 rfl)) (tw hw 8 rfl) (by decide) rfl rfl d_prog_51_method_6_93 rfl rfl rfl rfl (fun T63 A64 => ?_)
            have A65 := A64.cast (k2 := 0) (n2 := 0) (os2 := [(a, ob0 (.long (ln + (1 : Int64))) (.int pv) (.long (of + cnt.toInt64)) (.long (of + cnt.toInt64)) (.long pr)), (b, .inr (.char, cs))]) rfl rfl rfl
            refine A65.aloadN (q := 97) d_prog_51_method_6_96 rfl rfl rfl ?_
            refine A65.lconst (q := 98) (v := 0) d_prog_51_method_6_97 rfl rfl ?_
            refine A65.putF (qn := 101) (i := 0) (j := 4) (ty := .long) (tw hw 37 rfl) Via.refl (Or.inl (tw hw 38 rfl)) (tw hw 8 rfl) (by decide) rfl rfl d_prog_51_method_6_98 rfl rfl rfl rfl (fun T66 A67 => ?_)
            have A68 := A67.cast (k2 := 0) (n2 := 0) (os2 := [(a, ob0 (.long (ln + (1 : Int64))) (.int pv) (.long (of + cnt.toInt64)) (.long (of + cnt.toInt64)) (.long 0)), (b, .inr (.char, cs))]) rfl rfl rfl
            refine A68.goto (q := 130) d_prog_51_method_6_101 (by decide) (by decide) ?_
            refine A68.aloadN (q := 131) d_prog_51_method_6_130 rfl rfl rfl ?_
            refine A68.iload (q := 133) d_prog_51_method_6_131 rfl rfl ?_
            refine A68.putFN (qn := 136) (i := 0) (j := 1) (ty := .char) (v' := (.int (nar .char z))) (tw hw 31 rfl) Via.refl (Or.inl (tw hw 32 rfl)) (tw hw 8 rfl) (by decide) rfl (fits_nar_char _) d_prog_51_method_6_133 rfl rfl rfl rfl (fun T69 A70 => ?_)
            have A71 := A70.cast (k2 := 0) (n2 := 0) (os2 := [(a, ob0 (.long (ln + (1 : Int64))) (.int (nar .char z)) (.long (of + cnt.toInt64)) (.long (of + cnt.toInt64)) (.long 0)), (b, .inr (.char, cs))]) rfl rfl rfl
            refine A71.retV d_prog_51_method_6_136 (by decide) (by decide) ⟨(ln + (1 : Int64)), (of + cnt.toInt64), (of + cnt.toInt64), (0 : Int64), (nar .char z), rfl, rfl, ?_⟩
            clear hw A0 A4 A6 A7 A57 A59 A60 A62 A64 A65 A67 A68 A70 A71
            exact own_nar2 _
          · refine A7.icmpNo (q := 71) d_prog_51_method_6_68 (feq hc68_55).1 rfl ?_
            refine A7.iload (q := 73) d_prog_51_method_6_71 rfl rfl ?_
            refine A7.bipush (q := 75) (v := 13) d_prog_51_method_6_73 rfl rfl ?_
            by_cases hc75_72 : z2 = (13 : Int32)
            · refine A7.icmpYes (q := 88) d_prog_51_method_6_75 (teq hc75_72).1 (by decide) (by decide) ?_
              refine A7.aloadN (q := 89) d_prog_51_method_6_88 rfl rfl rfl ?_
              refine A7.aloadN (q := 90) d_prog_51_method_6_89 rfl rfl rfl ?_
              refine A7.getF (qn := 93) (i := 0) (j := 2) (tw hw 33 rfl) Via.refl d_prog_51_method_6_90 rfl rfl rfl (fun T73 A74 => ?_)
              refine A74.putF (qn := 96) (i := 0) (j := 3) (ty := .long) (tw hw 35 rfl) Via.refl (Or.inl (tw hw 36 rfl)) (tw hw 8 rfl) (by decide) rfl rfl d_prog_51_method_6_93 rfl rfl rfl rfl (fun T75 A76 => ?_)
              have A77 := A76.cast (k2 := 0) (n2 := 0) (os2 := [(a, ob0 (.long ln) (.int pv) (.long (of + cnt.toInt64)) (.long (of + cnt.toInt64)) (.long pr)), (b, .inr (.char, cs))]) rfl rfl rfl
              refine A77.aloadN (q := 97) d_prog_51_method_6_96 rfl rfl rfl ?_
              refine A77.lconst (q := 98) (v := 0) d_prog_51_method_6_97 rfl rfl ?_
              refine A77.putF (qn := 101) (i := 0) (j := 4) (ty := .long) (tw hw 37 rfl) Via.refl (Or.inl (tw hw 38 rfl)) (tw hw 8 rfl) (by decide) rfl rfl d_prog_51_method_6_98 rfl rfl rfl rfl (fun T78 A79 => ?_)
              have A80 := A79.cast (k2 := 0) (n2 := 0) (os2 := [(a, ob0 (.long ln) (.int pv) (.long (of + cnt.toInt64)) (.long (of + cnt.toInt64)) (.long 0)), (b, .inr (.char, cs))]) rfl rfl rfl
              refine A80.goto (q := 130) d_prog_51_method_6_101 (by decide) (by decide) ?_
              refine A80.aloadN (q := 131) d_prog_51_method_6_130 rfl rfl rfl ?_
              refine A80.iload (q := 133) d_prog_51_method_6_131 rfl rfl ?_
              refine A80.putFN (qn := 136) (i := 0) (j := 1) (ty := .char) (v' := (.int (nar .char z))) (tw hw 31 rfl) Via.refl (Or.inl (tw hw 32 rfl)) (tw hw 8 rfl) (by decide) rfl (fits_nar_char _) d_prog_51_method_6_133 rfl rfl rfl rfl (fun T81 A82 => ?_)
              have A83 := A82.cast (k2 := 0) (n2 := 0) (os2 := [(a, ob0 (.long ln) (.int (nar .char z)) (.long (of + cnt.toInt64)) (.long (of + cnt.toInt64)) (.long 0)), (b, .inr (.char, cs))]) rfl rfl rfl
              refine A83.retV d_prog_51_method_6_136 (by decide) (by decide) ⟨ln, (of + cnt.toInt64), (of + cnt.toInt64), (0 : Int64), (nar .char z), rfl, rfl, ?_⟩
              clear hw A0 A4 A6 A7 A74 A76 A77 A79 A80 A82 A83
              exact own_nar2 _
            · refine A7.icmpNo (q := 78) d_prog_51_method_6_75 (feq hc75_72).1 rfl ?_
              refine A7.aloadN (q := 79) d_prog_51_method_6_78 rfl rfl rfl ?_
              refine A7.dup (q := 80) d_prog_51_method_6_79 rfl rfl ?_
              refine A7.getF (qn := 83) (i := 0) (j := 0) (tw hw 16 rfl) Via.refl d_prog_51_method_6_80 rfl rfl rfl (fun T84 A85 => ?_)
              refine A85.lconst (q := 84) (v := 1) d_prog_51_method_6_83 rfl rfl ?_
              refine A85.ladd (q := 85) d_prog_51_method_6_84 rfl ?_
              refine A85.putF (qn := 88) (i := 0) (j := 0) (ty := .long) (tw hw 16 rfl) Via.refl (Or.inl (tw hw 17 rfl)) (tw hw 8 rfl) (by decide) rfl rfl d_prog_51_method_6_85 rfl rfl rfl rfl (fun T86 A87 => ?_)
              have A88 := A87.cast (k2 := 0) (n2 := 0) (os2 := [(a, ob0 (.long (ln + (1 : Int64))) (.int pv) (.long (of + cnt.toInt64)) (.long ls) (.long pr)), (b, .inr (.char, cs))]) rfl rfl rfl
              refine A88.aloadN (q := 89) d_prog_51_method_6_88 rfl rfl rfl ?_
              refine A88.aloadN (q := 90) d_prog_51_method_6_89 rfl rfl rfl ?_
              refine A88.getF (qn := 93) (i := 0) (j := 2) (tw hw 33 rfl) Via.refl d_prog_51_method_6_90 rfl rfl rfl (fun T89 A90 => ?_)
              refine A90.putF (qn := 96) (i := 0) (j := 3) (ty := .long) (tw hw 35 rfl) Via.refl (Or.inl (tw hw 36 rfl)) (tw hw 8 rfl) (by decide) rfl rfl d_prog_51_method_6_93 rfl rfl rfl rfl (fun T91 A92 => ?_)
              have A93 := A92.cast (k2 := 0) (n2 := 0) (os2 := [(a, ob0 (.long (ln + (1 : Int64))) (.int pv) (.long (of + cnt.toInt64)) (.long (of + cnt.toInt64)) (.long pr)), (b, .inr (.char, cs))]) rfl rfl rfl
              refine A93.aloadN (q := 97) d_prog_51_method_6_96 rfl rfl rfl ?_
              refine A93.lconst (q := 98) (v := 0) d_prog_51_method_6_97 rfl rfl ?_
              refine A93.putF (qn := 101) (i := 0) (j := 4) (ty := .long) (tw hw 37 rfl) Via.refl (Or.inl (tw hw 38 rfl)) (tw hw 8 rfl) (by decide) rfl rfl d_prog_51_method_6_98 rfl rfl rfl rfl (fun T94 A95 => ?_)
              have A96 := A95.cast (k2 := 0) (n2 := 0) (os2 := [(a, ob0 (.long (ln + (1 : Int64))) (.int pv) (.long (of + cnt.toInt64)) (.long (of + cnt.toInt64)) (.long 0)), (b, .inr (.char, cs))]) rfl rfl rfl
              refine A96.goto (q := 130) d_prog_51_method_6_101 (by decide) (by decide) ?_
              refine A96.aloadN (q := 131) d_prog_51_method_6_130 rfl rfl rfl ?_
              refine A96.iload (q := 133) d_prog_51_method_6_131 rfl rfl ?_
              refine A96.putFN (qn := 136) (i := 0) (j := 1) (ty := .char) (v' := (.int (nar .char z))) (tw hw 31 rfl) Via.refl (Or.inl (tw hw 32 rfl)) (tw hw 8 rfl) (by decide) rfl (fits_nar_char _) d_prog_51_method_6_133 rfl rfl rfl rfl (fun T97 A98 => ?_)
              have A99 := A98.cast (k2 := 0) (n2 := 0) (os2 := [(a, ob0 (.long (ln + (1 : Int64))) (.int (nar .char z)) (.long (of + cnt.toInt64)) (.long (of + cnt.toInt64)) (.long 0)), (b, .inr (.char, cs))]) rfl rfl rfl
              refine A99.retV d_prog_51_method_6_136 (by decide) (by decide) ⟨(ln + (1 : Int64)), (of + cnt.toInt64), (of + cnt.toInt64), (0 : Int64), (nar .char z), rfl, rfl, ?_⟩
              clear hw A0 A4 A6 A7 A85 A87 A88 A90 A92 A93 A95 A96 A98 A99
              exact own_nar2 _
        · refine A7.icmpYes (q := 104) d_prog_51_method_6_61 (feq hc61_54).2 (by decide) (by decide) ?_
          refine A7.iload (q := 106) d_prog_51_method_6_104 rfl rfl ?_
          refine Here.callS (qn := 109) (os1 := [(a, ob0 (.long ln) (.int pv) (.long (of + cnt.toInt64)) (.long ls) (.long pr)), (b, .inr (.char, cs))]) (os2 := []) (rest := []) (W := 0) (argsL := [(.int z)]) A7 (m_low l Z a0 hw z) (Or.inl rfl) (tw hw 39 rfl) (tw hw 40 rfl) (tw hw 41 rfl) (tw hw 42 rfl) (by decide) d_prog_51_method_6_106 rfl (lenOf pd_2 rfl) rfl (Nat.le_of_eq rfl) (by decide) (by decide) (by decide) (by decide) rfl (fun T100 v101 os102 A103 P104 => ?_)
          obtain ⟨r_106, rfl, rfl, hq_106⟩ := P104
          have A105 := A103.cast (k2 := 0) (n2 := 0) (os2 := [(a, ob0 (.long ln) (.int pv) (.long (of + cnt.toInt64)) (.long ls) (.long pr)), (b, .inr (.char, cs))]) rfl rfl rfl
          by_cases hc109_106 : r_106 = (0 : Int32)
          · refine A105.ifYes (q := 130) d_prog_51_method_6_109 ((if0 _ _).trans (teq hc109_106).1) (by decide) (by decide) ?_
            refine A105.aloadN (q := 131) d_prog_51_method_6_130 rfl rfl rfl ?_
            refine A105.iload (q := 133) d_prog_51_method_6_131 rfl rfl ?_
            refine A105.putFN (qn := 136) (i := 0) (j := 1) (ty := .char) (v' := (.int (nar .char z))) (tw hw 31 rfl) Via.refl (Or.inl (tw hw 32 rfl)) (tw hw 8 rfl) (by decide) rfl (fits_nar_char _) d_prog_51_method_6_133 rfl rfl rfl rfl (fun T107 A108 => ?_)
            have A109 := A108.cast (k2 := 0) (n2 := 0) (os2 := [(a, ob0 (.long ln) (.int (nar .char z)) (.long (of + cnt.toInt64)) (.long ls) (.long pr)), (b, .inr (.char, cs))]) rfl rfl rfl
            refine A109.retV d_prog_51_method_6_136 (by decide) (by decide) ⟨ln, (of + cnt.toInt64), ls, pr, (nar .char z), rfl, rfl, ?_⟩
            clear hw A0 A4 A6 A7 A103 A105 A108 A109
            exact own_nar2 _
          · refine A105.ifNo (q := 112) d_prog_51_method_6_109 ((if0 _ _).trans (feq hc109_106).1) rfl ?_
            refine A105.iload (q := 114) d_prog_51_method_6_112 rfl rfl ?_
            refine Here.callS (qn := 117) (os1 := [(a, ob0 (.long ln) (.int pv) (.long (of + cnt.toInt64)) (.long ls) (.long pr)), (b, .inr (.char, cs))]) (os2 := []) (rest := []) (W := 0) (argsL := [(.int z2)]) A105 (m_high l Z a0 hw z2) (Or.inl rfl) (tw hw 45 rfl) (tw hw 46 rfl) (tw hw 41 rfl) (tw hw 47 rfl) (by decide) d_prog_51_method_6_114 rfl (lenOf pd_2 rfl) rfl (Nat.le_of_eq rfl) (by decide) (by decide) (by decide) (by decide) rfl (fun T110 v111 os112 A113 P114 => ?_)
            obtain ⟨r_114, rfl, rfl, hq_114⟩ := P114
            have A115 := A113.cast (k2 := 0) (n2 := 0) (os2 := [(a, ob0 (.long ln) (.int pv) (.long (of + cnt.toInt64)) (.long ls) (.long pr)), (b, .inr (.char, cs))]) rfl rfl rfl
            by_cases hc117_116 : r_114 = (0 : Int32)
            · refine A115.ifYes (q := 130) d_prog_51_method_6_117 ((if0 _ _).trans (teq hc117_116).1) (by decide) (by decide) ?_
              refine A115.aloadN (q := 131) d_prog_51_method_6_130 rfl rfl rfl ?_
              refine A115.iload (q := 133) d_prog_51_method_6_131 rfl rfl ?_
              refine A115.putFN (qn := 136) (i := 0) (j := 1) (ty := .char) (v' := (.int (nar .char z))) (tw hw 31 rfl) Via.refl (Or.inl (tw hw 32 rfl)) (tw hw 8 rfl) (by decide) rfl (fits_nar_char _) d_prog_51_method_6_133 rfl rfl rfl rfl (fun T117 A118 => ?_)
              have A119 := A118.cast (k2 := 0) (n2 := 0) (os2 := [(a, ob0 (.long ln) (.int (nar .char z)) (.long (of + cnt.toInt64)) (.long ls) (.long pr)), (b, .inr (.char, cs))]) rfl rfl rfl
              refine A119.retV d_prog_51_method_6_136 (by decide) (by decide) ⟨ln, (of + cnt.toInt64), ls, pr, (nar .char z), rfl, rfl, ?_⟩
              clear hw A0 A4 A6 A7 A103 A105 A113 A115 A118 A119
              exact own_nar2 _
            · refine A115.ifNo (q := 120) d_prog_51_method_6_117 ((if0 _ _).trans (feq hc117_116).1) rfl ?_
              refine A115.aloadN (q := 121) d_prog_51_method_6_120 rfl rfl rfl ?_
              refine A115.dup (q := 122) d_prog_51_method_6_121 rfl rfl ?_
              refine A115.getF (qn := 125) (i := 0) (j := 4) (tw hw 37 rfl) Via.refl d_prog_51_method_6_122 rfl rfl rfl (fun T120 A121 => ?_)
              refine A121.lconst (q := 126) (v := 1) d_prog_51_method_6_125 rfl rfl ?_
              refine A121.ladd (q := 127) d_prog_51_method_6_126 rfl ?_
              refine A121.putF (qn := 130) (i := 0) (j := 4) (ty := .long) (tw hw 37 rfl) Via.refl (Or.inl (tw hw 38 rfl)) (tw hw 8 rfl) (by decide) rfl rfl d_prog_51_method_6_127 rfl rfl rfl rfl (fun T122 A123 => ?_)
              have A124 := A123.cast (k2 := 0) (n2 := 0) (os2 := [(a, ob0 (.long ln) (.int pv) (.long (of + cnt.toInt64)) (.long ls) (.long (pr + (1 : Int64)))), (b, .inr (.char, cs))]) rfl rfl rfl
              refine A124.aloadN (q := 131) d_prog_51_method_6_130 rfl rfl rfl ?_
              refine A124.iload (q := 133) d_prog_51_method_6_131 rfl rfl ?_
              refine A124.putFN (qn := 136) (i := 0) (j := 1) (ty := .char) (v' := (.int (nar .char z))) (tw hw 31 rfl) Via.refl (Or.inl (tw hw 32 rfl)) (tw hw 8 rfl) (by decide) rfl (fits_nar_char _) d_prog_51_method_6_133 rfl rfl rfl rfl (fun T125 A126 => ?_)
              have A127 := A126.cast (k2 := 0) (n2 := 0) (os2 := [(a, ob0 (.long ln) (.int (nar .char z)) (.long (of + cnt.toInt64)) (.long ls) (.long (pr + (1 : Int64)))), (b, .inr (.char, cs))]) rfl rfl rfl
              refine A127.retV d_prog_51_method_6_136 (by decide) (by decide) ⟨ln, (of + cnt.toInt64), ls, (pr + (1 : Int64)), (nar .char z), rfl, rfl, ?_⟩
              clear hw A0 A4 A6 A7 A103 A105 A113 A115 A121 A123 A124 A126 A127
              exact own_nar2 _
    · refine A0.icmpYes (q := 33) d_prog_51_method_6_21 (flt hc21_2).2.2.2 (by decide) (by decide) ?_
      refine A0.aloadN (q := 34) d_prog_51_method_6_33 rfl rfl rfl ?_
      refine A0.getF (qn := 37) (i := 0) (j := 1) (tw hw 31 rfl) Via.refl d_prog_51_method_6_34 rfl rfl rfl (fun T128 A129 => ?_)
      refine A129.istore (q := 39) (l' := #[.val (.ref a), .val (.ref b), .val (.int off), .val (.int cnt), .val (.int ((off + cnt) - (1 : Int32))), .val (.int z), .val (.int pv)]) d_prog_51_method_6_37 rfl rfl ?_
      refine A129.aloadN (q := 40) d_prog_51_method_6_39 rfl rfl rfl ?_
      refine A129.dup (q := 41) d_prog_51_method_6_40 rfl rfl ?_
      refine A129.getF (qn := 44) (i := 0) (j := 2) (tw hw 33 rfl) Via.refl d_prog_51_method_6_41 rfl rfl rfl (fun T130 A131 => ?_)
      refine A131.iloadN (q := 45) d_prog_51_method_6_44 rfl rfl ?_
      refine A131.i2l (q := 46) d_prog_51_method_6_45 rfl ?_
      refine A131.ladd (q := 47) d_prog_51_method_6_46 rfl ?_
      refine A131.putF (qn := 50) (i := 0) (j := 2) (ty := .long) (tw hw 33 rfl) Via.refl (Or.inl (tw hw 34 rfl)) (tw hw 8 rfl) (by decide) rfl rfl d_prog_51_method_6_47 rfl rfl rfl rfl (fun T132 A133 => ?_)
      have A134 := A133.cast (k2 := 0) (n2 := 0) (os2 := [(a, ob0 (.long ln) (.int pv) (.long (of + cnt.toInt64)) (.long ls) (.long pr)), (b, .inr (.char, cs))]) rfl rfl rfl
      refine A134.iload (q := 52) d_prog_51_method_6_50 rfl rfl ?_
      refine A134.bipush (q := 54) (v := 13) d_prog_51_method_6_52 rfl rfl ?_
      by_cases hc54_135 : z = (13 : Int32)
      · refine A134.icmpYes (q := 64) d_prog_51_method_6_54 (teq hc54_135).1 (by decide) (by decide) ?_
        refine A134.iload (q := 66) d_prog_51_method_6_64 rfl rfl ?_
        refine A134.bipush (q := 68) (v := 13) d_prog_51_method_6_66 rfl rfl ?_
        by_cases hc68_136 : z = (13 : Int32)
        · refine A134.icmpYes (q := 78) d_prog_51_method_6_68 (teq hc68_136).1 (by decide) (by decide) ?_
          refine A134.aloadN (q := 79) d_prog_51_method_6_78 rfl rfl rfl ?_
          refine A134.dup (q := 80) d_prog_51_method_6_79 rfl rfl ?_
          refine A134.getF (qn := 83) (i := 0) (j := 0) (tw hw 16 rfl) Via.refl d_prog_51_method_6_80 rfl rfl rfl (fun T137 A138 => ?_)
          refine A138.lconst (q := 84) (v := 1) d_prog_51_method_6_83 rfl rfl ?_
          refine A138.ladd (q := 85) d_prog_51_method_6_84 rfl ?_
          refine A138.putF (qn := 88) (i := 0) (j := 0) (ty := .long) (tw hw 16 rfl) Via.refl (Or.inl (tw hw 17 rfl)) (tw hw 8 rfl) (by decide) rfl rfl d_prog_51_method_6_85 rfl rfl rfl rfl (fun T139 A140 => ?_)
          have A141 := A140.cast (k2 := 0) (n2 := 0) (os2 := [(a, ob0 (.long (ln + (1 : Int64))) (.int pv) (.long (of + cnt.toInt64)) (.long ls) (.long pr)), (b, .inr (.char, cs))]) rfl rfl rfl
          refine A141.aloadN (q := 89) d_prog_51_method_6_88 rfl rfl rfl ?_
          refine A141.aloadN (q := 90) d_prog_51_method_6_89 rfl rfl rfl ?_
          refine A141.getF (qn := 93) (i := 0) (j := 2) (tw hw 33 rfl) Via.refl d_prog_51_method_6_90 rfl rfl rfl (fun T142 A143 => ?_)
          refine A143.putF (qn := 96) (i := 0) (j := 3) (ty := .long) (tw hw 35 rfl) Via.refl (Or.inl (tw hw 36 rfl)) (tw hw 8 rfl) (by decide) rfl rfl d_prog_51_method_6_93 rfl rfl rfl rfl (fun T144 A145 => ?_)
          have A146 := A145.cast (k2 := 0) (n2 := 0) (os2 := [(a, ob0 (.long (ln + (1 : Int64))) (.int pv) (.long (of + cnt.toInt64)) (.long (of + cnt.toInt64)) (.long pr)), (b, .inr (.char, cs))]) rfl rfl rfl
          refine A146.aloadN (q := 97) d_prog_51_method_6_96 rfl rfl rfl ?_
          refine A146.lconst (q := 98) (v := 0) d_prog_51_method_6_97 rfl rfl ?_
          refine A146.putF (qn := 101) (i := 0) (j := 4) (ty := .long) (tw hw 37 rfl) Via.refl (Or.inl (tw hw 38 rfl)) (tw hw 8 rfl) (by decide) rfl rfl d_prog_51_method_6_98 rfl rfl rfl rfl (fun T147 A148 => ?_)
          have A149 := A148.cast (k2 := 0) (n2 := 0) (os2 := [(a, ob0 (.long (ln + (1 : Int64))) (.int pv) (.long (of + cnt.toInt64)) (.long (of + cnt.toInt64)) (.long 0)), (b, .inr (.char, cs))]) rfl rfl rfl
          refine A149.goto (q := 130) d_prog_51_method_6_101 (by decide) (by decide) ?_
          refine A149.aloadN (q := 131) d_prog_51_method_6_130 rfl rfl rfl ?_
          refine A149.iload (q := 133) d_prog_51_method_6_131 rfl rfl ?_
          refine A149.putFN (qn := 136) (i := 0) (j := 1) (ty := .char) (v' := (.int (nar .char z))) (tw hw 31 rfl) Via.refl (Or.inl (tw hw 32 rfl)) (tw hw 8 rfl) (by decide) rfl (fits_nar_char _) d_prog_51_method_6_133 rfl rfl rfl rfl (fun T150 A151 => ?_)
          have A152 := A151.cast (k2 := 0) (n2 := 0) (os2 := [(a, ob0 (.long (ln + (1 : Int64))) (.int (nar .char z)) (.long (of + cnt.toInt64)) (.long (of + cnt.toInt64)) (.long 0)), (b, .inr (.char, cs))]) rfl rfl rfl
          refine A152.retV d_prog_51_method_6_136 (by decide) (by decide) ⟨(ln + (1 : Int64)), (of + cnt.toInt64), (of + cnt.toInt64), (0 : Int64), (nar .char z), rfl, rfl, ?_⟩
          clear hw A0 A129 A131 A133 A134 A138 A140 A141 A143 A145 A146 A148 A149 A151 A152
          exact own_nar2 _
        · refine A134.icmpNo (q := 71) d_prog_51_method_6_68 (feq hc68_136).1 rfl ?_
          refine A134.iload (q := 73) d_prog_51_method_6_71 rfl rfl ?_
          refine A134.bipush (q := 75) (v := 13) d_prog_51_method_6_73 rfl rfl ?_
          by_cases hc75_153 : pv = (13 : Int32)
          · refine A134.icmpYes (q := 88) d_prog_51_method_6_75 (teq hc75_153).1 (by decide) (by decide) ?_
            refine A134.aloadN (q := 89) d_prog_51_method_6_88 rfl rfl rfl ?_
            refine A134.aloadN (q := 90) d_prog_51_method_6_89 rfl rfl rfl ?_
            refine A134.getF (qn := 93) (i := 0) (j := 2) (tw hw 33 rfl) Via.refl d_prog_51_method_6_90 rfl rfl rfl (fun T154 A155 => ?_)
            refine A155.putF (qn := 96) (i := 0) (j := 3) (ty := .long) (tw hw 35 rfl) Via.refl (Or.inl (tw hw 36 rfl)) (tw hw 8 rfl) (by decide) rfl rfl d_prog_51_method_6_93 rfl rfl rfl rfl (fun T156 A157 => ?_)
            have A158 := A157.cast (k2 := 0) (n2 := 0) (os2 := [(a, ob0 (.long ln) (.int pv) (.long (of + cnt.toInt64)) (.long (of + cnt.toInt64)) (.long pr)), (b, .inr (.char, cs))]) rfl rfl rfl
            refine A158.aloadN (q := 97) d_prog_51_method_6_96 rfl rfl rfl ?_
            refine A158.lconst (q := 98) (v := 0) d_prog_51_method_6_97 rfl rfl ?_
            refine A158.putF (qn := 101) (i := 0) (j := 4) (ty := .long) (tw hw 37 rfl) Via.refl (Or.inl (tw hw 38 rfl)) (tw hw 8 rfl) (by decide) rfl rfl d_prog_51_method_6_98 rfl rfl rfl rfl (fun T159 A160 => ?_)
            have A161 := A160.cast (k2 := 0) (n2 := 0) (os2 := [(a, ob0 (.long ln) (.int pv) (.long (of + cnt.toInt64)) (.long (of + cnt.toInt64)) (.long 0)), (b, .inr (.char, cs))]) rfl rfl rfl
            refine A161.goto (q := 130) d_prog_51_method_6_101 (by decide) (by decide) ?_
            refine A161.aloadN (q := 131) d_prog_51_method_6_130 rfl rfl rfl ?_
            refine A161.iload (q := 133) d_prog_51_method_6_131 rfl rfl ?_
            refine A161.putFN (qn := 136) (i := 0) (j := 1) (ty := .char) (v' := (.int (nar .char z))) (tw hw 31 rfl) Via.refl (Or.inl (tw hw 32 rfl)) (tw hw 8 rfl) (by decide) rfl (fits_nar_char _) d_prog_51_method_6_133 rfl rfl rfl rfl (fun T162 A163 => ?_)
            have A164 := A163.cast (k2 := 0) (n2 := 0) (os2 := [(a, ob0 (.long ln) (.int (nar .char z)) (.long (of + cnt.toInt64)) (.long (of + cnt.toInt64)) (.long 0)), (b, .inr (.char, cs))]) rfl rfl rfl
            refine A164.retV d_prog_51_method_6_136 (by decide) (by decide) ⟨ln, (of + cnt.toInt64), (of + cnt.toInt64), (0 : Int64), (nar .char z), rfl, rfl, ?_⟩
            clear hw A0 A129 A131 A133 A134 A155 A157 A158 A160 A161 A163 A164
            exact own_nar2 _
          · refine A134.icmpNo (q := 78) d_prog_51_method_6_75 (feq hc75_153).1 rfl ?_
            refine A134.aloadN (q := 79) d_prog_51_method_6_78 rfl rfl rfl ?_
            refine A134.dup (q := 80) d_prog_51_method_6_79 rfl rfl ?_
            refine A134.getF (qn := 83) (i := 0) (j := 0) (tw hw 16 rfl) Via.refl d_prog_51_method_6_80 rfl rfl rfl (fun T165 A166 => ?_)
            refine A166.lconst (q := 84) (v := 1) d_prog_51_method_6_83 rfl rfl ?_
            refine A166.ladd (q := 85) d_prog_51_method_6_84 rfl ?_
            refine A166.putF (qn := 88) (i := 0) (j := 0) (ty := .long) (tw hw 16 rfl) Via.refl (Or.inl (tw hw 17 rfl)) (tw hw 8 rfl) (by decide) rfl rfl d_prog_51_method_6_85 rfl rfl rfl rfl (fun T167 A168 => ?_)
            have A169 := A168.cast (k2 := 0) (n2 := 0) (os2 := [(a, ob0 (.long (ln + (1 : Int64))) (.int pv) (.long (of + cnt.toInt64)) (.long ls) (.long pr)), (b, .inr (.char, cs))]) rfl rfl rfl
            refine A169.aloadN (q := 89) d_prog_51_method_6_88 rfl rfl rfl ?_
            refine A169.aloadN (q := 90) d_prog_51_method_6_89 rfl rfl rfl ?_
            refine A169.getF (qn := 93) (i := 0) (j := 2) (tw hw 33 rfl) Via.refl d_prog_51_method_6_90 rfl rfl rfl (fun T170 A171 => ?_)
            refine A171.putF (qn := 96) (i := 0) (j := 3) (ty := .long) (tw hw 35 rfl) Via.refl (Or.inl (tw hw 36 rfl)) (tw hw 8 rfl) (by decide) rfl rfl d_prog_51_method_6_93 rfl rfl rfl rfl (fun T172 A173 => ?_)
            have A174 := A173.cast (k2 := 0) (n2 := 0) (os2 := [(a, ob0 (.long (ln + (1 : Int64))) (.int pv) (.long (of + cnt.toInt64)) (.long (of + cnt.toInt64)) (.long pr)), (b, .inr (.char, cs))]) rfl rfl rfl
            refine A174.aloadN (q := 97) d_prog_51_method_6_96 rfl rfl rfl ?_
            refine A174.lconst (q := 98) (v := 0) d_prog_51_method_6_97 rfl rfl ?_
            refine A174.putF (qn := 101) (i := 0) (j := 4) (ty := .long) (tw hw 37 rfl) Via.refl (Or.inl (tw hw 38 rfl)) (tw hw 8 rfl) (by decide) rfl rfl d_prog_51_method_6_98 rfl rfl rfl rfl (fun T175 A176 => ?_)
            have A177 := A176.cast (k2 := 0) (n2 := 0) (os2 := [(a, ob0 (.long (ln + (1 : Int64))) (.int pv) (.long (of + cnt.toInt64)) (.long (of + cnt.toInt64)) (.long 0)), (b, .inr (.char, cs))]) rfl rfl rfl
            refine A177.goto (q := 130) d_prog_51_method_6_101 (by decide) (by decide) ?_
            refine A177.aloadN (q := 131) d_prog_51_method_6_130 rfl rfl rfl ?_
            refine A177.iload (q := 133) d_prog_51_method_6_131 rfl rfl ?_
            refine A177.putFN (qn := 136) (i := 0) (j := 1) (ty := .char) (v' := (.int (nar .char z))) (tw hw 31 rfl) Via.refl (Or.inl (tw hw 32 rfl)) (tw hw 8 rfl) (by decide) rfl (fits_nar_char _) d_prog_51_method_6_133 rfl rfl rfl rfl (fun T178 A179 => ?_)
            have A180 := A179.cast (k2 := 0) (n2 := 0) (os2 := [(a, ob0 (.long (ln + (1 : Int64))) (.int (nar .char z)) (.long (of + cnt.toInt64)) (.long (of + cnt.toInt64)) (.long 0)), (b, .inr (.char, cs))]) rfl rfl rfl
            refine A180.retV d_prog_51_method_6_136 (by decide) (by decide) ⟨(ln + (1 : Int64)), (of + cnt.toInt64), (of + cnt.toInt64), (0 : Int64), (nar .char z), rfl, rfl, ?_⟩
            clear hw A0 A129 A131 A133 A134 A166 A168 A169 A171 A173 A174 A176 A177 A179 A180
            exact own_nar2 _
      · refine A134.icmpNo (q := 57) d_prog_51_method_6_54 (feq hc54_135).1 rfl ?_
        refine A134.iload (q := 59) d_prog_51_method_6_57 rfl rfl ?_
        refine A134.bipush (q := 61) (v := 10) d_prog_51_method_6_59 rfl rfl ?_
        by_cases hc61_181 : z = (10 : Int32)
        · refine A134.icmpNo (q := 64) d_prog_51_method_6_61 (teq hc61_181).2 rfl ?_
          refine A134.iload (q := 66) d_prog_51_method_6_64 rfl rfl ?_
          refine A134.bipush (q := 68) (v := 13) d_prog_51_method_6_66 rfl rfl ?_
          by_cases hc68_182 : z = (13 : Int32)
          · refine A134.icmpYes (q := 78) d_prog_51_method_6_68 (teq hc68_182).1 (by decide) (by decide) ?_
            refine A134.aloadN (q := 79) d_prog_51_method_6_78 rfl rfl rfl ?_
            refine A134.dup (q := 80) d_prog_51_method_6_79 rfl rfl ?_
            refine A134.getF (qn := 83) (i := 0) (j := 0) (tw hw 16 rfl) Via.refl d_prog_51_method_6_80 rfl rfl rfl (fun T183 A184 => ?_)
            refine A184.lconst (q := 84) (v := 1) d_prog_51_method_6_83 rfl rfl ?_
            refine A184.ladd (q := 85) d_prog_51_method_6_84 rfl ?_
            refine A184.putF (qn := 88) (i := 0) (j := 0) (ty := .long) (tw hw 16 rfl) Via.refl (Or.inl (tw hw 17 rfl)) (tw hw 8 rfl) (by decide) rfl rfl d_prog_51_method_6_85 rfl rfl rfl rfl (fun T185 A186 => ?_)
            have A187 := A186.cast (k2 := 0) (n2 := 0) (os2 := [(a, ob0 (.long (ln + (1 : Int64))) (.int pv) (.long (of + cnt.toInt64)) (.long ls) (.long pr)), (b, .inr (.char, cs))]) rfl rfl rfl
            refine A187.aloadN (q := 89) d_prog_51_method_6_88 rfl rfl rfl ?_
            refine A187.aloadN (q := 90) d_prog_51_method_6_89 rfl rfl rfl ?_
            refine A187.getF (qn := 93) (i := 0) (j := 2) (tw hw 33 rfl) Via.refl d_prog_51_method_6_90 rfl rfl rfl (fun T188 A189 => ?_)
            refine A189.putF (qn := 96) (i := 0) (j := 3) (ty := .long) (tw hw 35 rfl) Via.refl (Or.inl (tw hw 36 rfl)) (tw hw 8 rfl) (by decide) rfl rfl d_prog_51_method_6_93 rfl rfl rfl rfl (fun T190 A191 => ?_)
            have A192 := A191.cast (k2 := 0) (n2 := 0) (os2 := [(a, ob0 (.long (ln + (1 : Int64))) (.int pv) (.long (of + cnt.toInt64)) (.long (of + cnt.toInt64)) (.long pr)), (b, .inr (.char, cs))]) rfl rfl rfl
            refine A192.aloadN (q := 97) d_prog_51_method_6_96 rfl rfl rfl ?_
            refine A192.lconst (q := 98) (v := 0) d_prog_51_method_6_97 rfl rfl ?_
            refine A192.putF (qn := 101) (i := 0) (j := 4) (ty := .long) (tw hw 37 rfl) Via.refl (Or.inl (tw hw 38 rfl)) (tw hw 8 rfl) (by decide) rfl rfl d_prog_51_method_6_98 rfl rfl rfl rfl (fun T193 A194 => ?_)
            have A195 := A194.cast (k2 := 0) (n2 := 0) (os2 := [(a, ob0 (.long (ln + (1 : Int64))) (.int pv) (.long (of + cnt.toInt64)) (.long (of + cnt.toInt64)) (.long 0)), (b, .inr (.char, cs))]) rfl rfl rfl
            refine A195.goto (q := 130) d_prog_51_method_6_101 (by decide) (by decide) ?_
            refine A195.aloadN (q := 131) d_prog_51_method_6_130 rfl rfl rfl ?_
            refine A195.iload (q := 133) d_prog_51_method_6_131 rfl rfl ?_
            refine A195.putFN (qn := 136) (i := 0) (j := 1) (ty := .char) (v' := (.int (nar .char z))) (tw hw 31 rfl) Via.refl (Or.inl (tw hw 32 rfl)) (tw hw 8 rfl) (by decide) rfl (fits_nar_char _) d_prog_51_method_6_133 rfl rfl rfl rfl (fun T196 A197 => ?_)
            have A198 := A197.cast (k2 := 0) (n2 := 0) (os2 := [(a, ob0 (.long (ln + (1 : Int64))) (.int (nar .char z)) (.long (of + cnt.toInt64)) (.long (of + cnt.toInt64)) (.long 0)), (b, .inr (.char, cs))]) rfl rfl rfl
            refine A198.retV d_prog_51_method_6_136 (by decide) (by decide) ⟨(ln + (1 : Int64)), (of + cnt.toInt64), (of + cnt.toInt64), (0 : Int64), (nar .char z), rfl, rfl, ?_⟩
            clear hw A0 A129 A131 A133 A134 A184 A186 A187 A189 A191 A192 A194 A195 A197 A198
            exact own_nar2 _
          · refine A134.icmpNo (q := 71) d_prog_51_method_6_68 (feq hc68_182).1 rfl ?_
            refine A134.iload (q := 73) d_prog_51_method_6_71 rfl rfl ?_
            refine A134.bipush (q := 75) (v := 13) d_prog_51_method_6_73 rfl rfl ?_
            by_cases hc75_199 : pv = (13 : Int32)
            · refine A134.icmpYes (q := 88) d_prog_51_method_6_75 (teq hc75_199).1 (by decide) (by decide) ?_
              refine A134.aloadN (q := 89) d_prog_51_method_6_88 rfl rfl rfl ?_
              refine A134.aloadN (q := 90) d_prog_51_method_6_89 rfl rfl rfl ?_
              refine A134.getF (qn := 93) (i := 0) (j := 2) (tw hw 33 rfl) Via.refl d_prog_51_method_6_90 rfl rfl rfl (fun T200 A201 => ?_)
              refine A201.putF (qn := 96) (i := 0) (j := 3) (ty := .long) (tw hw 35 rfl) Via.refl (Or.inl (tw hw 36 rfl)) (tw hw 8 rfl) (by decide) rfl rfl d_prog_51_method_6_93 rfl rfl rfl rfl (fun T202 A203 => ?_)
              have A204 := A203.cast (k2 := 0) (n2 := 0) (os2 := [(a, ob0 (.long ln) (.int pv) (.long (of + cnt.toInt64)) (.long (of + cnt.toInt64)) (.long pr)), (b, .inr (.char, cs))]) rfl rfl rfl
              refine A204.aloadN (q := 97) d_prog_51_method_6_96 rfl rfl rfl ?_
              refine A204.lconst (q := 98) (v := 0) d_prog_51_method_6_97 rfl rfl ?_
              refine A204.putF (qn := 101) (i := 0) (j := 4) (ty := .long) (tw hw 37 rfl) Via.refl (Or.inl (tw hw 38 rfl)) (tw hw 8 rfl) (by decide) rfl rfl d_prog_51_method_6_98 rfl rfl rfl rfl (fun T205 A206 => ?_)
              have A207 := A206.cast (k2 := 0) (n2 := 0) (os2 := [(a, ob0 (.long ln) (.int pv) (.long (of + cnt.toInt64)) (.long (of + cnt.toInt64)) (.long 0)), (b, .inr (.char, cs))]) rfl rfl rfl
              refine A207.goto (q := 130) d_prog_51_method_6_101 (by decide) (by decide) ?_
              refine A207.aloadN (q := 131) d_prog_51_method_6_130 rfl rfl rfl ?_
              refine A207.iload (q := 133) d_prog_51_method_6_131 rfl rfl ?_
              refine A207.putFN (qn := 136) (i := 0) (j := 1) (ty := .char) (v' := (.int (nar .char z))) (tw hw 31 rfl) Via.refl (Or.inl (tw hw 32 rfl)) (tw hw 8 rfl) (by decide) rfl (fits_nar_char _) d_prog_51_method_6_133 rfl rfl rfl rfl (fun T208 A209 => ?_)
              have A210 := A209.cast (k2 := 0) (n2 := 0) (os2 := [(a, ob0 (.long ln) (.int (nar .char z)) (.long (of + cnt.toInt64)) (.long (of + cnt.toInt64)) (.long 0)), (b, .inr (.char, cs))]) rfl rfl rfl
              refine A210.retV d_prog_51_method_6_136 (by decide) (by decide) ⟨ln, (of + cnt.toInt64), (of + cnt.toInt64), (0 : Int64), (nar .char z), rfl, rfl, ?_⟩
              clear hw A0 A129 A131 A133 A134 A201 A203 A204 A206 A207 A209 A210
              exact own_nar2 _
            · refine A134.icmpNo (q := 78) d_prog_51_method_6_75 (feq hc75_199).1 rfl ?_
              refine A134.aloadN (q := 79) d_prog_51_method_6_78 rfl rfl rfl ?_
              refine A134.dup (q := 80) d_prog_51_method_6_79 rfl rfl ?_
              refine A134.getF (qn := 83) (i := 0) (j := 0) (tw hw 16 rfl) Via.refl d_prog_51_method_6_80 rfl rfl rfl (fun T211 A212 => ?_)
              refine A212.lconst (q := 84) (v := 1) d_prog_51_method_6_83 rfl rfl ?_
              refine A212.ladd (q := 85) d_prog_51_method_6_84 rfl ?_
              refine A212.putF (qn := 88) (i := 0) (j := 0) (ty := .long) (tw hw 16 rfl) Via.refl (Or.inl (tw hw 17 rfl)) (tw hw 8 rfl) (by decide) rfl rfl d_prog_51_method_6_85 rfl rfl rfl rfl (fun T213 A214 => ?_)
              have A215 := A214.cast (k2 := 0) (n2 := 0) (os2 := [(a, ob0 (.long (ln + (1 : Int64))) (.int pv) (.long (of + cnt.toInt64)) (.long ls) (.long pr)), (b, .inr (.char, cs))]) rfl rfl rfl
              refine A215.aloadN (q := 89) d_prog_51_method_6_88 rfl rfl rfl ?_
              refine A215.aloadN (q := 90) d_prog_51_method_6_89 rfl rfl rfl ?_
              refine A215.getF (qn := 93) (i := 0) (j := 2) (tw hw 33 rfl) Via.refl d_prog_51_method_6_90 rfl rfl rfl (fun T216 A217 => ?_)
              refine A217.putF (qn := 96) (i := 0) (j := 3) (ty := .long) (tw hw 35 rfl) Via.refl (Or.inl (tw hw 36 rfl)) (tw hw 8 rfl) (by decide) rfl rfl d_prog_51_method_6_93 rfl rfl rfl rfl (fun T218 A219 => ?_)
              have A220 := A219.cast (k2 := 0) (n2 := 0) (os2 := [(a, ob0 (.long (ln + (1 : Int64))) (.int pv) (.long (of + cnt.toInt64)) (.long (of + cnt.toInt64)) (.long pr)), (b, .inr (.char, cs))]) rfl rfl rfl
              refine A220.aloadN (q := 97) d_prog_51_method_6_96 rfl rfl rfl ?_
              refine A220.lconst (q := 98) (v := 0) d_prog_51_method_6_97 rfl rfl ?_
              refine A220.putF (qn := 101) (i := 0) (j := 4) (ty := .long) (tw hw 37 rfl) Via.refl (Or.inl (tw hw 38 rfl)) (tw hw 8 rfl) (by decide) rfl rfl d_prog_51_method_6_98 rfl rfl rfl rfl (fun T221 A222 => ?_)
              have A223 := A222.cast (k2 := 0) (n2 := 0) (os2 := [(a, ob0 (.long (ln + (1 : Int64))) (.int pv) (.long (of + cnt.toInt64)) (.long (of + cnt.toInt64)) (.long 0)), (b, .inr (.char, cs))]) rfl rfl rfl
              refine A223.goto (q := 130) d_prog_51_method_6_101 (by decide) (by decide) ?_
              refine A223.aloadN (q := 131) d_prog_51_method_6_130 rfl rfl rfl ?_
              refine A223.iload (q := 133) d_prog_51_method_6_131 rfl rfl ?_
              refine A223.putFN (qn := 136) (i := 0) (j := 1) (ty := .char) (v' := (.int (nar .char z))) (tw hw 31 rfl) Via.refl (Or.inl (tw hw 32 rfl)) (tw hw 8 rfl) (by decide) rfl (fits_nar_char _) d_prog_51_method_6_133 rfl rfl rfl rfl (fun T224 A225 => ?_)
              have A226 := A225.cast (k2 := 0) (n2 := 0) (os2 := [(a, ob0 (.long (ln + (1 : Int64))) (.int (nar .char z)) (.long (of + cnt.toInt64)) (.long (of + cnt.toInt64)) (.long 0)), (b, .inr (.char, cs))]) rfl rfl rfl
              refine A226.retV d_prog_51_method_6_136 (by decide) (by decide) ⟨(ln + (1 : Int64)), (of + cnt.toInt64), (of + cnt.toInt64), (0 : Int64), (nar .char z), rfl, rfl, ?_⟩
              clear hw A0 A129 A131 A133 A134 A212 A214 A215 A217 A219 A220 A222 A223 A225 A226
              exact own_nar2 _
        · refine A134.icmpYes (q := 104) d_prog_51_method_6_61 (feq hc61_181).2 (by decide) (by decide) ?_
          refine A134.iload (q := 106) d_prog_51_method_6_104 rfl rfl ?_
          refine Here.callS (qn := 109) (os1 := [(a, ob0 (.long ln) (.int pv) (.long (of + cnt.toInt64)) (.long ls) (.long pr)), (b, .inr (.char, cs))]) (os2 := []) (rest := []) (W := 0) (argsL := [(.int z)]) A134 (m_low l Z a0 hw z) (Or.inl rfl) (tw hw 39 rfl) (tw hw 40 rfl) (tw hw 41 rfl) (tw hw 42 rfl) (by decide) d_prog_51_method_6_106 rfl (lenOf pd_2 rfl) rfl (Nat.le_of_eq rfl) (by decide) (by decide) (by decide) (by decide) rfl (fun T227 v228 os229 A230 P231 => ?_)
          obtain ⟨r_106, rfl, rfl, hq_106⟩ := P231
          have A232 := A230.cast (k2 := 0) (n2 := 0) (os2 := [(a, ob0 (.long ln) (.int pv) (.long (of + cnt.toInt64)) (.long ls) (.long pr)), (b, .inr (.char, cs))]) rfl rfl rfl
          by_cases hc109_233 : r_106 = (0 : Int32)
          · refine A232.ifYes (q := 130) d_prog_51_method_6_109 ((if0 _ _).trans (teq hc109_233).1) (by decide) (by decide) ?_
            refine A232.aloadN (q := 131) d_prog_51_method_6_130 rfl rfl rfl ?_
            refine A232.iload (q := 133) d_prog_51_method_6_131 rfl rfl ?_
            refine A232.putFN (qn := 136) (i := 0) (j := 1) (ty := .char) (v' := (.int (nar .char z))) (tw hw 31 rfl) Via.refl (Or.inl (tw hw 32 rfl)) (tw hw 8 rfl) (by decide) rfl (fits_nar_char _) d_prog_51_method_6_133 rfl rfl rfl rfl (fun T234 A235 => ?_)
            have A236 := A235.cast (k2 := 0) (n2 := 0) (os2 := [(a, ob0 (.long ln) (.int (nar .char z)) (.long (of + cnt.toInt64)) (.long ls) (.long pr)), (b, .inr (.char, cs))]) rfl rfl rfl
            refine A236.retV d_prog_51_method_6_136 (by decide) (by decide) ⟨ln, (of + cnt.toInt64), ls, pr, (nar .char z), rfl, rfl, ?_⟩
            clear hw A0 A129 A131 A133 A134 A230 A232 A235 A236
            exact own_nar2 _
          · refine A232.ifNo (q := 112) d_prog_51_method_6_109 ((if0 _ _).trans (feq hc109_233).1) rfl ?_
            refine A232.iload (q := 114) d_prog_51_method_6_112 rfl rfl ?_
            refine Here.callS (qn := 117) (os1 := [(a, ob0 (.long ln) (.int pv) (.long (of + cnt.toInt64)) (.long ls) (.long pr)), (b, .inr (.char, cs))]) (os2 := []) (rest := []) (W := 0) (argsL := [(.int pv)]) A232 (m_high l Z a0 hw pv) (Or.inl rfl) (tw hw 45 rfl) (tw hw 46 rfl) (tw hw 41 rfl) (tw hw 47 rfl) (by decide) d_prog_51_method_6_114 rfl (lenOf pd_2 rfl) rfl (Nat.le_of_eq rfl) (by decide) (by decide) (by decide) (by decide) rfl (fun T237 v238 os239 A240 P241 => ?_)
            obtain ⟨r_114, rfl, rfl, hq_114⟩ := P241
            have A242 := A240.cast (k2 := 0) (n2 := 0) (os2 := [(a, ob0 (.long ln) (.int pv) (.long (of + cnt.toInt64)) (.long ls) (.long pr)), (b, .inr (.char, cs))]) rfl rfl rfl
            by_cases hc117_243 : r_114 = (0 : Int32)
            · refine A242.ifYes (q := 130) d_prog_51_method_6_117 ((if0 _ _).trans (teq hc117_243).1) (by decide) (by decide) ?_
              refine A242.aloadN (q := 131) d_prog_51_method_6_130 rfl rfl rfl ?_
              refine A242.iload (q := 133) d_prog_51_method_6_131 rfl rfl ?_
              refine A242.putFN (qn := 136) (i := 0) (j := 1) (ty := .char) (v' := (.int (nar .char z))) (tw hw 31 rfl) Via.refl (Or.inl (tw hw 32 rfl)) (tw hw 8 rfl) (by decide) rfl (fits_nar_char _) d_prog_51_method_6_133 rfl rfl rfl rfl (fun T244 A245 => ?_)
              have A246 := A245.cast (k2 := 0) (n2 := 0) (os2 := [(a, ob0 (.long ln) (.int (nar .char z)) (.long (of + cnt.toInt64)) (.long ls) (.long pr)), (b, .inr (.char, cs))]) rfl rfl rfl
              refine A246.retV d_prog_51_method_6_136 (by decide) (by decide) ⟨ln, (of + cnt.toInt64), ls, pr, (nar .char z), rfl, rfl, ?_⟩
              clear hw A0 A129 A131 A133 A134 A230 A232 A240 A242 A245 A246
              exact own_nar2 _
            · refine A242.ifNo (q := 120) d_prog_51_method_6_117 ((if0 _ _).trans (feq hc117_243).1) rfl ?_
              refine A242.aloadN (q := 121) d_prog_51_method_6_120 rfl rfl rfl ?_
              refine A242.dup (q := 122) d_prog_51_method_6_121 rfl rfl ?_
              refine A242.getF (qn := 125) (i := 0) (j := 4) (tw hw 37 rfl) Via.refl d_prog_51_method_6_122 rfl rfl rfl (fun T247 A248 => ?_)
              refine A248.lconst (q := 126) (v := 1) d_prog_51_method_6_125 rfl rfl ?_
              refine A248.ladd (q := 127) d_prog_51_method_6_126 rfl ?_
              refine A248.putF (qn := 130) (i := 0) (j := 4) (ty := .long) (tw hw 37 rfl) Via.refl (Or.inl (tw hw 38 rfl)) (tw hw 8 rfl) (by decide) rfl rfl d_prog_51_method_6_127 rfl rfl rfl rfl (fun T249 A250 => ?_)
              have A251 := A250.cast (k2 := 0) (n2 := 0) (os2 := [(a, ob0 (.long ln) (.int pv) (.long (of + cnt.toInt64)) (.long ls) (.long (pr + (1 : Int64)))), (b, .inr (.char, cs))]) rfl rfl rfl
              refine A251.aloadN (q := 131) d_prog_51_method_6_130 rfl rfl rfl ?_
              refine A251.iload (q := 133) d_prog_51_method_6_131 rfl rfl ?_
              refine A251.putFN (qn := 136) (i := 0) (j := 1) (ty := .char) (v' := (.int (nar .char z))) (tw hw 31 rfl) Via.refl (Or.inl (tw hw 32 rfl)) (tw hw 8 rfl) (by decide) rfl (fits_nar_char _) d_prog_51_method_6_133 rfl rfl rfl rfl (fun T252 A253 => ?_)
              have A254 := A253.cast (k2 := 0) (n2 := 0) (os2 := [(a, ob0 (.long ln) (.int (nar .char z)) (.long (of + cnt.toInt64)) (.long ls) (.long (pr + (1 : Int64)))), (b, .inr (.char, cs))]) rfl rfl rfl
              refine A254.retV d_prog_51_method_6_136 (by decide) (by decide) ⟨ln, (of + cnt.toInt64), ls, (pr + (1 : Int64)), (nar .char z), rfl, rfl, ?_⟩
              clear hw A0 A129 A131 A133 A134 A230 A232 A240 A242 A248 A250 A251 A253 A254
              exact own_nar2 _
  · refine A0.ifNo (q := 4) d_prog_51_method_6_1 ((if0 _ _).trans (flt hc1_1).2.2.1) rfl ?_
    refine A0.retV d_prog_51_method_6_4 (by decide) (by decide) ⟨ln, of, ls, pr, pv, rfl, rfl, ?_⟩
    clear hw A0
    exact hp
theorem d_prog_51_method_5_0 : decode prog_51_method_5_code 0 = .ok (.iload_n 2, 1) := by decide +kernel
theorem d_prog_51_method_5_1 : decode prog_51_method_5_code 1 = .ok (.istore 4, 2) := by decide +kernel
theorem d_prog_51_method_5_3 : decode prog_51_method_5_code 3 = .ok (.iload_n 2, 1) := by decide +kernel
theorem d_prog_51_method_5_4 : decode prog_51_method_5_code 4 = .ok (.istore 5, 2) := by decide +kernel
theorem d_prog_51_method_5_6 : decode prog_51_method_5_code 6 = .ok (.iload 5, 2) := by decide +kernel
theorem d_prog_51_method_5_8 : decode prog_51_method_5_code 8 = .ok (.iload_n 2, 1) := by decide +kernel
theorem d_prog_51_method_5_9 : decode prog_51_method_5_code 9 = .ok (.iload_n 3, 1) := by decide +kernel
theorem d_prog_51_method_5_10 : decode prog_51_method_5_code 10 = .ok (.iadd, 1) := by decide +kernel
theorem d_prog_51_method_5_11 : decode prog_51_method_5_code 11 = .ok (.if_icmp .ge 39, 3) := by decide +kernel
theorem d_prog_51_method_5_14 : decode prog_51_method_5_code 14 = .ok (.aload_n 1, 1) := by decide +kernel
theorem d_prog_51_method_5_15 : decode prog_51_method_5_code 15 = .ok (.iload 5, 2) := by decide +kernel
theorem d_prog_51_method_5_17 : decode prog_51_method_5_code 17 = .ok (.caload, 1) := by decide +kernel
theorem d_prog_51_method_5_18 : decode prog_51_method_5_code 18 = .ok (.invokestatic 36, 3) := by decide +kernel
theorem d_prog_51_method_5_21 : decode prog_51_method_5_code 21 = .ok (.ifCond .ne 23, 3) := by decide +kernel
theorem d_prog_51_method_5_24 : decode prog_51_method_5_code 24 = .ok (.aload_n 0, 1) := by decide +kernel
theorem d_prog_51_method_5_25 : decode prog_51_method_5_code 25 = .ok (.aload_n 1, 1) := by decide +kernel
theorem d_prog_51_method_5_26 : decode prog_51_method_5_code 26 = .ok (.iload 4, 2) := by decide +kernel
theorem d_prog_51_method_5_28 : decode prog_51_method_5_code 28 = .ok (.iload 5, 2) := by decide +kernel
theorem d_prog_51_method_5_30 : decode prog_51_method_5_code 30 = .ok (.iconst 1, 1) := by decide +kernel
theorem d_prog_51_method_5_31 : decode prog_51_method_5_code 31 = .ok (.iadd, 1) := by decide +kernel
theorem d_prog_51_method_5_32 : decode prog_51_method_5_code 32 = .ok (.iload 4, 2) := by decide +kernel
theorem d_prog_51_method_5_34 : decode prog_51_method_5_code 34 = .ok (.isub, 1) := by decide +kernel
theorem d_prog_51_method_5_35 : decode prog_51_method_5_code 35 = .ok (.invokevirtual 39, 3) := by decide +kernel
theorem pd_4 : parseMethodDescriptor "([CII)V" = some ⟨[(.array .char), .int, .int], none⟩ := by decide +kernel
theorem d_prog_51_method_5_38 : decode prog_51_method_5_code 38 = .ok (.iload 5, 2) := by decide +kernel
theorem d_prog_51_method_5_40 : decode prog_51_method_5_code 40 = .ok (.iconst 1, 1) := by decide +kernel
theorem d_prog_51_method_5_41 : decode prog_51_method_5_code 41 = .ok (.iadd, 1) := by decide +kernel
theorem d_prog_51_method_5_42 : decode prog_51_method_5_code 42 = .ok (.istore 4, 2) := by decide +kernel
theorem d_prog_51_method_5_44 : decode prog_51_method_5_code 44 = .ok (.iinc 5 1, 3) := by decide +kernel
theorem d_prog_51_method_5_47 : decode prog_51_method_5_code 47 = .ok (.goto (-41), 3) := by decide +kernel
theorem d_prog_51_method_5_50 : decode prog_51_method_5_code 50 = .ok (.aload_n 0, 1) := by decide +kernel
theorem d_prog_51_method_5_51 : decode prog_51_method_5_code 51 = .ok (.aload_n 1, 1) := by decide +kernel
theorem d_prog_51_method_5_52 : decode prog_51_method_5_code 52 = .ok (.iload 4, 2) := by decide +kernel
theorem d_prog_51_method_5_54 : decode prog_51_method_5_code 54 = .ok (.iload_n 2, 1) := by decide +kernel
theorem d_prog_51_method_5_55 : decode prog_51_method_5_code 55 = .ok (.iload_n 3, 1) := by decide +kernel
theorem d_prog_51_method_5_56 : decode prog_51_method_5_code 56 = .ok (.iadd, 1) := by decide +kernel
theorem d_prog_51_method_5_57 : decode prog_51_method_5_code 57 = .ok (.iload 4, 2) := by decide +kernel
theorem d_prog_51_method_5_59 : decode prog_51_method_5_code 59 = .ok (.isub, 1) := by decide +kernel
theorem d_prog_51_method_5_60 : decode prog_51_method_5_code 60 = .ok (.invokevirtual 39, 3) := by decide +kernel
theorem d_prog_51_method_5_63 : decode prog_51_method_5_code 63 = .ok (.return_, 1) := by decide +kernel
theorem ef_m_adv3 (m : MethodId) (x0 : Addr) (x1 : Addr) : entryFrame m #[(.ref x0), (.ref x1), (.int 0), (.int 3)] 6 = mkF m 0 #[.val (.ref x0), .val (.ref x1), .val (.int 0), .val (.int 3), .unset, .unset] [] := by first | (simp [entryFrame, mkF, argsToLocals, Value.category]; done) | rfl
set_option maxRecDepth 65536 in
set_option maxHeartbeats 40000000 in
theorem m_adv3 (l : Launch) (Z : State) (a0 : Array Value) (hw : ∀ d ∈ tables_1, d.before a0 Z = true) (a : Addr) (b : Addr) (c0 : Int32) (c1 : Int32) (c2 : Int32) (ln : Int64) (of : Int64) (ls : Int64) (pr : Int64) (pv : Int32) (hp : nar .char pv = pv) :
    Pays l Z a0 (⟨"com/example/fine_events/fineevents/PositionTracker", "advance", "([CII)V"⟩ : MethodName) prog_51_method_5_code 6 none ({ frames := 2, cells := 0, slots := 0, locals := 30 } : Room) #[(.ref a), (.ref b), (.int 0), (.int 3)] [(a, ob0 (.long ln) (.int pv) (.long of) (.long ls) (.long pr)), (b, .inr (.char, [(.int c0), (.int c1), (.int c2)]))] (([(a, ob0 (.long ln) (.int pv) (.long of) (.long ls) (.long pr)), (b, .inr (.char, [(.int c0), (.int c1), (.int c2)]))] : Hs).map (·.1)) (fun v os' => ∃ (ln1 : Int64), ∃ (of1 : Int64), ∃ (ls1 : Int64), ∃ (pr1 : Int64), ∃ (pv1 : Int32), v = none ∧ os' = [(a, ob0 (.long ln1) (.int pv1) (.long of1) (.long ls1) (.long pr1)), (b, .inr (.char, [(.int c0), (.int c1), (.int c2)]))] ∧ nar .char pv1 = pv1) := by
  refine Pays.of (Ls := #[.val (.ref a), .val (.ref b), .val (.int 0), .val (.int 3), .unset, .unset]) (plainFor_of_name pn_3) (fun m => ef_m_adv3 m a b) ?_
  intro p e s m below meth c T0 A0
  refine A0.iloadN (q := 1) d_prog_51_method_5_0 rfl rfl ?_
  refine A0.istore (q := 3) (l' := #[.val (.ref a), .val (.ref b), .val (.int 0), .val (.int 3), .val (.int 0), .unset]) d_prog_51_method_5_1 rfl rfl ?_
  refine A0.iloadN (q := 4) d_prog_51_method_5_3 rfl rfl ?_
  refine A0.istore (q := 6) (l' := #[.val (.ref a), .val (.ref b), .val (.int 0), .val (.int 3), .val (.int 0), .val (.int 0)]) d_prog_51_method_5_4 rfl rfl ?_
  refine A0.iload (q := 8) d_prog_51_method_5_6 rfl rfl ?_
  refine A0.iloadN (q := 9) d_prog_51_method_5_8 rfl rfl ?_
  refine A0.iloadN (q := 10) d_prog_51_method_5_9 rfl rfl ?_
  refine A0.iadd (q := 11) d_prog_51_method_5_10 rfl ?_
  refine Wp.top (v' := (.int 3)) rfl ?_
  refine A0.icmpNo (q := 14) d_prog_51_method_5_11 (by decide) rfl ?_
  refine A0.aloadN (q := 15) d_prog_51_method_5_14 rfl rfl rfl ?_
  refine A0.iload (q := 17) d_prog_51_method_5_15 rfl rfl ?_
  refine A0.ldC (qn := 18) (i := 1) d_prog_51_method_5_17 rfl (by decide) rfl rfl ?_
  refine Here.callS (qn := 21) (os1 := [(a, ob0 (.long ln) (.int pv) (.long of) (.long ls) (.long pr)), (b, .inr (.char, [(.int c0), (.int c1), (.int c2)]))]) (os2 := []) (rest := []) (W := 0) (argsL := [(.int c0)]) A0 (m_plain l Z a0 hw c0) (Or.inl rfl) (tw hw 23 rfl) (tw hw 24 rfl) (tw hw 9 rfl) (tw hw 25 rfl) (by decide) d_prog_51_method_5_18 rfl (lenOf pd_2 rfl) rfl (Nat.le_of_eq rfl) (by decide) (by decide) (by decide) (by decide) rfl (fun T1 v2 os3 A4 P5 => ?_)
  obtain ⟨r_18, rfl, rfl⟩ := P5
  have A6 := A4.cast (k2 := 0) (n2 := 0) (os2 := [(a, ob0 (.long ln) (.int pv) (.long of) (.long ls) (.long pr)), (b, .inr (.char, [(.int c0), (.int c1), (.int c2)]))]) rfl rfl rfl
  by_cases hc21_7 : r_18 = (0 : Int32)
  · refine A6.ifNo (q := 24) d_prog_51_method_5_21 ((if0 _ _).trans (teq hc21_7).2) rfl ?_
    refine A6.aloadN (q := 25) d_prog_51_method_5_24 rfl rfl rfl ?_
    refine A6.aloadN (q := 26) d_prog_51_method_5_25 rfl rfl rfl ?_
    refine A6.iload (q := 28) d_prog_51_method_5_26 rfl rfl ?_
    refine A6.iload (q := 30) d_prog_51_method_5_28 rfl rfl ?_
    refine A6.iconst (q := 31) (v := 1) d_prog_51_method_5_30 rfl rfl ?_
    refine A6.iadd (q := 32) d_prog_51_method_5_31 rfl ?_
    refine Wp.top (v' := (.int 1)) rfl ?_
    refine A6.iload (q := 34) d_prog_51_method_5_32 rfl rfl ?_
    refine A6.isub (q := 35) d_prog_51_method_5_34 rfl ?_
    refine Wp.top (v' := (.int 1)) rfl ?_
    refine Here.callV (qn := 38) (os1 := []) (os2 := [(a, ob0 (.long ln) (.int pv) (.long of) (.long ls) (.long pr)), (b, .inr (.char, [(.int c0), (.int c1), (.int c2)]))]) (rest := []) (W := 0) (argsL := [(.ref b), (.int 0), (.int 1)]) (a := a) (i := 0) A6 (m_any l Z a0 hw a b ((0 : Int32)) ((1 : Int32)) ([(.int c0), (.int c1), (.int c2)]) c0 ((0 : Int32)) ln of ls pr pv (hp) (fun h => by first | exact ⟨by decide, rfl⟩ | exact absurd h (by decide)) (fun h => by first | exact ⟨by decide, rfl⟩ | exact absurd h (by decide))) (Or.inr ⟨rfl, rfl⟩) rfl (tw hw 26 rfl) (tw hw 27 rfl) (tw hw 29 rfl) (tw hw 28 rfl) (tw hw 9 rfl) (tw hw 30 rfl) (by decide) d_prog_51_method_5_35 rfl (lenOf pd_4 rfl) rfl (Nat.le_of_eq rfl) (by decide) (by decide) (by decide) (by decide) rfl (fun T8 v9 os10 A11 P12 => ?_)
    obtain ⟨ln1_35, of1_35, ls1_35, pr1_35, pv1_35, rfl, rfl, hq_35⟩ := P12
    have A13 := A11.cast (k2 := 0) (n2 := 0) (os2 := [(a, ob0 (.long ln1_35) (.int pv1_35) (.long of1_35) (.long ls1_35) (.long pr1_35)), (b, .inr (.char, [(.int c0), (.int c1), (.int c2)]))]) rfl rfl rfl
    refine A13.iload (q := 40) d_prog_51_method_5_38 rfl rfl ?_
    refine A13.iconst (q := 41) (v := 1) d_prog_51_method_5_40 rfl rfl ?_
    refine A13.iadd (q := 42) d_prog_51_method_5_41 rfl ?_
    refine Wp.top (v' := (.int 1)) rfl ?_
    refine A13.istore (q := 44) (l' := #[.val (.ref a), .val (.ref b), .val (.int 0), .val (.int 3), .val (.int 1), .val (.int 0)]) d_prog_51_method_5_42 rfl rfl ?_
    refine A13.iinc (q := 47) (l' := #[.val (.ref a), .val (.ref b), .val (.int 0), .val (.int 3), .val (.int 1), .val (.int 1)]) d_prog_51_method_5_44 rfl rfl rfl ?_
    refine A13.goto (q := 6) d_prog_51_method_5_47 (by decide) (by decide) ?_
    refine A13.iload (q := 8) d_prog_51_method_5_6 rfl rfl ?_
    refine A13.iloadN (q := 9) d_prog_51_method_5_8 rfl rfl ?_
    refine A13.iloadN (q := 10) d_prog_51_method_5_9 rfl rfl ?_
    refine A13.iadd (q := 11) d_prog_51_method_5_10 rfl ?_
    refine Wp.top (v' := (.int 3)) rfl ?_
    refine A13.icmpNo (q := 14) d_prog_51_method_5_11 (by decide) rfl ?_
    refine A13.aloadN (q := 15) d_prog_51_method_5_14 rfl rfl rfl ?_
    refine A13.iload (q := 17) d_prog_51_method_5_15 rfl rfl ?_
    refine A13.ldC (qn := 18) (i := 1) d_prog_51_method_5_17 rfl (by decide) rfl rfl ?_
    refine Here.callS (qn := 21) (os1 := [(a, ob0 (.long ln1_35) (.int pv1_35) (.long of1_35) (.long ls1_35) (.long pr1_35)), (b, .inr (.char, [(.int c0), (.int c1), (.int c2)]))]) (os2 := []) (rest := []) (W := 0) (argsL := [(.int c1)]) A13 (m_plain l Z a0 hw c1) (Or.inl rfl) (tw hw 23 rfl) (tw hw 24 rfl) (tw hw 9 rfl) (tw hw 25 rfl) (by decide) d_prog_51_method_5_18 rfl (lenOf pd_2 rfl) rfl (Nat.le_of_eq rfl) (by decide) (by decide) (by decide) (by decide) rfl (fun T14 v15 os16 A17 P18 => ?_)
    obtain ⟨r_18_2, rfl, rfl⟩ := P18
    have A19 := A17.cast (k2 := 0) (n2 := 0) (os2 := [(a, ob0 (.long ln1_35) (.int pv1_35) (.long of1_35) (.long ls1_35) (.long pr1_35)), (b, .inr (.char, [(.int c0), (.int c1), (.int c2)]))]) rfl rfl rfl
    by_cases hc21_20 : r_18_2 = (0 : Int32)
    · refine A19.ifNo (q := 24) d_prog_51_method_5_21 ((if0 _ _).trans (teq hc21_20).2) rfl ?_
      refine A19.aloadN (q := 25) d_prog_51_method_5_24 rfl rfl rfl ?_
      refine A19.aloadN (q := 26) d_prog_51_method_5_25 rfl rfl rfl ?_
      refine A19.iload (q := 28) d_prog_51_method_5_26 rfl rfl ?_
      refine A19.iload (q := 30) d_prog_51_method_5_28 rfl rfl ?_
      refine A19.iconst (q := 31) (v := 1) d_prog_51_method_5_30 rfl rfl ?_
      refine A19.iadd (q := 32) d_prog_51_method_5_31 rfl ?_
      refine Wp.top (v' := (.int 2)) rfl ?_
      refine A19.iload (q := 34) d_prog_51_method_5_32 rfl rfl ?_
      refine A19.isub (q := 35) d_prog_51_method_5_34 rfl ?_
      refine Wp.top (v' := (.int 1)) rfl ?_
      refine Here.callV (qn := 38) (os1 := []) (os2 := [(a, ob0 (.long ln1_35) (.int pv1_35) (.long of1_35) (.long ls1_35) (.long pr1_35)), (b, .inr (.char, [(.int c0), (.int c1), (.int c2)]))]) (rest := []) (W := 0) (argsL := [(.ref b), (.int 1), (.int 1)]) (a := a) (i := 0) A19 (m_any l Z a0 hw a b ((1 : Int32)) ((1 : Int32)) ([(.int c0), (.int c1), (.int c2)]) c1 c0 ln1_35 of1_35 ls1_35 pr1_35 pv1_35 (hq_35) (fun h => by first | exact ⟨by decide, rfl⟩ | exact absurd h (by decide)) (fun h => by first | exact ⟨by decide, rfl⟩ | exact absurd h (by decide))) (Or.inr ⟨rfl, rfl⟩) rfl (tw hw 26 rfl) (tw hw 27 rfl) (tw hw 29 rfl) (tw hw 28 rfl) (tw hw 9 rfl) (tw hw 30 rfl) (by decide) d_prog_51_method_5_35 rfl (lenOf pd_4 rfl) rfl (Nat.le_of_eq rfl) (by decide) (by decide) (by decide) (by decide) rfl (fun T21 v22 os23 A24 P25 => ?_)
      obtain ⟨ln1_35_2, of1_35_2, ls1_35_2, pr1_35_2, pv1_35_2, rfl, rfl, hq_35_2⟩ := P25
      have A26 := A24.cast (k2 := 0) (n2 := 0) (os2 := [(a, ob0 (.long ln1_35_2) (.int pv1_35_2) (.long of1_35_2) (.long ls1_35_2) (.long pr1_35_2)), (b, .inr (.char, [(.int c0), (.int c1), (.int c2)]))]) rfl rfl rfl
      refine A26.iload (q := 40) d_prog_51_method_5_38 rfl rfl ?_
      refine A26.iconst (q := 41) (v := 1) d_prog_51_method_5_40 rfl rfl ?_
      refine A26.iadd (q := 42) d_prog_51_method_5_41 rfl ?_
      refine Wp.top (v' := (.int 2)) rfl ?_
      refine A26.istore (q := 44) (l' := #[.val (.ref a), .val (.ref b), .val (.int 0), .val (.int 3), .val (.int 2), .val (.int 1)]) d_prog_51_method_5_42 rfl rfl ?_
      refine A26.iinc (q := 47) (l' := #[.val (.ref a), .val (.ref b), .val (.int 0), .val (.int 3), .val (.int 2), .val (.int 2)]) d_prog_51_method_5_44 rfl rfl rfl ?_
      refine A26.goto (q := 6) d_prog_51_method_5_47 (by decide) (by decide) ?_
      refine A26.iload (q := 8) d_prog_51_method_5_6 rfl rfl ?_
      refine A26.iloadN (q := 9) d_prog_51_method_5_8 rfl rfl ?_
      refine A26.iloadN (q := 10) d_prog_51_method_5_9 rfl rfl ?_
      refine A26.iadd (q := 11) d_prog_51_method_5_10 rfl ?_
      refine Wp.top (v' := (.int 3)) rfl ?_
      refine A26.icmpNo (q := 14) d_prog_51_method_5_11 (by decide) rfl ?_
      refine A26.aloadN (q := 15) d_prog_51_method_5_14 rfl rfl rfl ?_
      refine A26.iload (q := 17) d_prog_51_method_5_15 rfl rfl ?_
      refine A26.ldC (qn := 18) (i := 1) d_prog_51_method_5_17 rfl (by decide) rfl rfl ?_
      refine Here.callS (qn := 21) (os1 := [(a, ob0 (.long ln1_35_2) (.int pv1_35_2) (.long of1_35_2) (.long ls1_35_2) (.long pr1_35_2)), (b, .inr (.char, [(.int c0), (.int c1), (.int c2)]))]) (os2 := []) (rest := []) (W := 0) (argsL := [(.int c2)]) A26 (m_plain l Z a0 hw c2) (Or.inl rfl) (tw hw 23 rfl) (tw hw 24 rfl) (tw hw 9 rfl) (tw hw 25 rfl) (by decide) d_prog_51_method_5_18 rfl (lenOf pd_2 rfl) rfl (Nat.le_of_eq rfl) (by decide) (by decide) (by decide) (by decide) rfl (fun T27 v28 os29 A30 P31 => ?_)
      obtain ⟨r_18_3, rfl, rfl⟩ := P31
      have A32 := A30.cast (k2 := 0) (n2 := 0) (os2 := [(a, ob0 (.long ln1_35_2) (.int pv1_35_2) (.long of1_35_2) (.long ls1_35_2) (.long pr1_35_2)), (b, .inr (.char, [(.int c0), (.int c1), (.int c2)]))]) rfl rfl rfl
      by_cases hc21_33 : r_18_3 = (0 : Int32)
      · refine A32.ifNo (q := 24) d_prog_51_method_5_21 ((if0 _ _).trans (teq hc21_33).2) rfl ?_
        refine A32.aloadN (q := 25) d_prog_51_method_5_24 rfl rfl rfl ?_
        refine A32.aloadN (q := 26) d_prog_51_method_5_25 rfl rfl rfl ?_
        refine A32.iload (q := 28) d_prog_51_method_5_26 rfl rfl ?_
        refine A32.iload (q := 30) d_prog_51_method_5_28 rfl rfl ?_
        refine A32.iconst (q := 31) (v := 1) d_prog_51_method_5_30 rfl rfl ?_
        refine A32.iadd (q := 32) d_prog_51_method_5_31 rfl ?_
        refine Wp.top (v' := (.int 3)) rfl ?_
        refine A32.iload (q := 34) d_prog_51_method_5_32 rfl rfl ?_
        refine A32.isub (q := 35) d_prog_51_method_5_34 rfl ?_
        refine Wp.top (v' := (.int 1)) rfl ?_
        refine Here.callV (qn := 38) (os1 := []) (os2 := [(a, ob0 (.long ln1_35_2) (.int pv1_35_2) (.long of1_35_2) (.long ls1_35_2) (.long pr1_35_2)), (b, .inr (.char, [(.int c0), (.int c1), (.int c2)]))]) (rest := []) (W := 0) (argsL := [(.ref b), (.int 2), (.int 1)]) (a := a) (i := 0) A32 (m_any l Z a0 hw a b ((2 : Int32)) ((1 : Int32)) ([(.int c0), (.int c1), (.int c2)]) c2 c1 ln1_35_2 of1_35_2 ls1_35_2 pr1_35_2 pv1_35_2 (hq_35_2) (fun h => by first | exact ⟨by decide, rfl⟩ | exact absurd h (by decide)) (fun h => by first | exact ⟨by decide, rfl⟩ | exact absurd h (by decide))) (Or.inr ⟨rfl, rfl⟩) rfl (tw hw 26 rfl) (tw hw 27 rfl) (tw hw 29 rfl) (tw hw 28 rfl) (tw hw 9 rfl) (tw hw 30 rfl) (by decide) d_prog_51_method_5_35 rfl (lenOf pd_4 rfl) rfl (Nat.le_of_eq rfl) (by decide) (by decide) (by decide) (by decide) rfl (fun T34 v35 os36 A37 P38 => ?_)
        obtain ⟨ln1_35_3, of1_35_3, ls1_35_3, pr1_35_3, pv1_35_3, rfl, rfl, hq_35_3⟩ := P38
        have A39 := A37.cast (k2 := 0) (n2 := 0) (os2 := [(a, ob0 (.long ln1_35_3) (.int pv1_35_3) (.long of1_35_3) (.long ls1_35_3) (.long pr1_35_3)), (b, .inr (.char, [(.int c0), (.int c1), (.int c2)]))]) rfl rfl rfl
        refine A39.iload (q := 40) d_prog_51_method_5_38 rfl rfl ?_
        refine A39.iconst (q := 41) (v := 1) d_prog_51_method_5_40 rfl rfl ?_
        refine A39.iadd (q := 42) d_prog_51_method_5_41 rfl ?_
        refine Wp.top (v' := (.int 3)) rfl ?_
        refine A39.istore (q := 44) (l' := #[.val (.ref a), .val (.ref b), .val (.int 0), .val (.int 3), .val (.int 3), .val (.int 2)]) d_prog_51_method_5_42 rfl rfl ?_
        refine A39.iinc (q := 47) (l' := #[.val (.ref a), .val (.ref b), .val (.int 0), .val (.int 3), .val (.int 3), .val (.int 3)]) d_prog_51_method_5_44 rfl rfl rfl ?_
        refine A39.goto (q := 6) d_prog_51_method_5_47 (by decide) (by decide) ?_
        refine A39.iload (q := 8) d_prog_51_method_5_6 rfl rfl ?_
        refine A39.iloadN (q := 9) d_prog_51_method_5_8 rfl rfl ?_
        refine A39.iloadN (q := 10) d_prog_51_method_5_9 rfl rfl ?_
        refine A39.iadd (q := 11) d_prog_51_method_5_10 rfl ?_
        refine Wp.top (v' := (.int 3)) rfl ?_
        refine A39.icmpYes (q := 50) d_prog_51_method_5_11 (by decide) (by decide) (by decide) ?_
        refine A39.aloadN (q := 51) d_prog_51_method_5_50 rfl rfl rfl ?_
        refine A39.aloadN (q := 52) d_prog_51_method_5_51 rfl rfl rfl ?_
        refine A39.iload (q := 54) d_prog_51_method_5_52 rfl rfl ?_
        refine A39.iloadN (q := 55) d_prog_51_method_5_54 rfl rfl ?_
        refine A39.iloadN (q := 56) d_prog_51_method_5_55 rfl rfl ?_
        refine A39.iadd (q := 57) d_prog_51_method_5_56 rfl ?_
        refine Wp.top (v' := (.int 3)) rfl ?_
        refine A39.iload (q := 59) d_prog_51_method_5_57 rfl rfl ?_
        refine A39.isub (q := 60) d_prog_51_method_5_59 rfl ?_
        refine Wp.top (v' := (.int 0)) rfl ?_
        refine Here.callV (qn := 63) (os1 := []) (os2 := [(a, ob0 (.long ln1_35_3) (.int pv1_35_3) (.long of1_35_3) (.long ls1_35_3) (.long pr1_35_3)), (b, .inr (.char, [(.int c0), (.int c1), (.int c2)]))]) (rest := []) (W := 0) (argsL := [(.ref b), (.int 3), (.int 0)]) (a := a) (i := 0) A39 (m_any l Z a0 hw a b ((3 : Int32)) ((0 : Int32)) ([(.int c0), (.int c1), (.int c2)]) c2 c1 ln1_35_3 of1_35_3 ls1_35_3 pr1_35_3 pv1_35_3 (hq_35_3) (fun h => by first | exact ⟨by decide, rfl⟩ | exact absurd h (by decide)) (fun h => by first | exact ⟨by decide, rfl⟩ | exact absurd h (by decide))) (Or.inr ⟨rfl, rfl⟩) rfl (tw hw 26 rfl) (tw hw 27 rfl) (tw hw 29 rfl) (tw hw 28 rfl) (tw hw 9 rfl) (tw hw 30 rfl) (by decide) d_prog_51_method_5_60 rfl (lenOf pd_4 rfl) rfl (Nat.le_of_eq rfl) (by decide) (by decide) (by decide) (by decide) rfl (fun T40 v41 os42 A43 P44 => ?_)
        obtain ⟨ln1_60, of1_60, ls1_60, pr1_60, pv1_60, rfl, rfl, hq_60⟩ := P44
        have A45 := A43.cast (k2 := 0) (n2 := 0) (os2 := [(a, ob0 (.long ln1_60) (.int pv1_60) (.long of1_60) (.long ls1_60) (.long pr1_60)), (b, .inr (.char, [(.int c0), (.int c1), (.int c2)]))]) rfl rfl rfl
        refine A45.retV d_prog_51_method_5_63 (by decide) (by decide) ⟨ln1_60, of1_60, ls1_60, pr1_60, pv1_60, rfl, rfl, ?_⟩
        clear hw A0 A4 A6 A11 A13 A17 A19 A24 A26 A30 A32 A37 A39 A43 A45
        exact hq_60
      · refine A32.ifYes (q := 44) d_prog_51_method_5_21 ((if0 _ _).trans (feq hc21_33).2) (by decide) (by decide) ?_
        refine A32.iinc (q := 47) (l' := #[.val (.ref a), .val (.ref b), .val (.int 0), .val (.int 3), .val (.int 2), .val (.int 3)]) d_prog_51_method_5_44 rfl rfl rfl ?_
        refine A32.goto (q := 6) d_prog_51_method_5_47 (by decide) (by decide) ?_
        refine A32.iload (q := 8) d_prog_51_method_5_6 rfl rfl ?_
        refine A32.iloadN (q := 9) d_prog_51_method_5_8 rfl rfl ?_
        refine A32.iloadN (q := 10) d_prog_51_method_5_9 rfl rfl ?_
        refine A32.iadd (q := 11) d_prog_51_method_5_10 rfl ?_
        refine Wp.top (v' := (.int 3)) rfl ?_
        refine A32.icmpYes (q := 50) d_prog_51_method_5_11 (by decide) (by decide) (by decide) ?_
        refine A32.aloadN (q := 51) d_prog_51_method_5_50 rfl rfl rfl ?_
        refine A32.aloadN (q := 52) d_prog_51_method_5_51 rfl rfl rfl ?_
        refine A32.iload (q := 54) d_prog_51_method_5_52 rfl rfl ?_
        refine A32.iloadN (q := 55) d_prog_51_method_5_54 rfl rfl ?_
        refine A32.iloadN (q := 56) d_prog_51_method_5_55 rfl rfl ?_
        refine A32.iadd (q := 57) d_prog_51_method_5_56 rfl ?_
        refine Wp.top (v' := (.int 3)) rfl ?_
        refine A32.iload (q := 59) d_prog_51_method_5_57 rfl rfl ?_
        refine A32.isub (q := 60) d_prog_51_method_5_59 rfl ?_
        refine Wp.top (v' := (.int 1)) rfl ?_
        refine Here.callV (qn := 63) (os1 := []) (os2 := [(a, ob0 (.long ln1_35_2) (.int pv1_35_2) (.long of1_35_2) (.long ls1_35_2) (.long pr1_35_2)), (b, .inr (.char, [(.int c0), (.int c1), (.int c2)]))]) (rest := []) (W := 0) (argsL := [(.ref b), (.int 2), (.int 1)]) (a := a) (i := 0) A32 (m_any l Z a0 hw a b ((2 : Int32)) ((1 : Int32)) ([(.int c0), (.int c1), (.int c2)]) c2 c1 ln1_35_2 of1_35_2 ls1_35_2 pr1_35_2 pv1_35_2 (hq_35_2) (fun h => by first | exact ⟨by decide, rfl⟩ | exact absurd h (by decide)) (fun h => by first | exact ⟨by decide, rfl⟩ | exact absurd h (by decide))) (Or.inr ⟨rfl, rfl⟩) rfl (tw hw 26 rfl) (tw hw 27 rfl) (tw hw 29 rfl) (tw hw 28 rfl) (tw hw 9 rfl) (tw hw 30 rfl) (by decide) d_prog_51_method_5_60 rfl (lenOf pd_4 rfl) rfl (Nat.le_of_eq rfl) (by decide) (by decide) (by decide) (by decide) rfl (fun T46 v47 os48 A49 P50 => ?_)
        obtain ⟨ln1_60, of1_60, ls1_60, pr1_60, pv1_60, rfl, rfl, hq_60⟩ := P50
        have A51 := A49.cast (k2 := 0) (n2 := 0) (os2 := [(a, ob0 (.long ln1_60) (.int pv1_60) (.long of1_60) (.long ls1_60) (.long pr1_60)), (b, .inr (.char, [(.int c0), (.int c1), (.int c2)]))]) rfl rfl rfl
        refine A51.retV d_prog_51_method_5_63 (by decide) (by decide) ⟨ln1_60, of1_60, ls1_60, pr1_60, pv1_60, rfl, rfl, ?_⟩
        clear hw A0 A4 A6 A11 A13 A17 A19 A24 A26 A30 A32 A49 A51
        exact hq_60
    · refine A19.ifYes (q := 44) d_prog_51_method_5_21 ((if0 _ _).trans (feq hc21_20).2) (by decide) (by decide) ?_
      refine A19.iinc (q := 47) (l' := #[.val (.ref a), .val (.ref b), .val (.int 0), .val (.int 3), .val (.int 1), .val (.int 2)]) d_prog_51_method_5_44 rfl rfl rfl ?_
      refine A19.goto (q := 6) d_prog_51_method_5_47 (by decide) (by decide) ?_
      refine A19.iload (q := 8) d_prog_51_method_5_6 rfl rfl ?_
      refine A19.iloadN (q := 9) d_prog_51_method_5_8 rfl rfl ?_
      refine A19.iloadN (q := 10) d_prog_51_method_5_9 rfl rfl ?_
      refine A19.iadd (q := 11) d_prog_51_method_5_10 rfl ?_
      refine Wp.top (v' := (.int 3)) rfl ?_
      refine A19.icmpNo (q := 14) d_prog_51_method_5_11 (by decide) rfl ?_
      refine A19.aloadN (q := 15) d_prog_51_method_5_14 rfl rfl rfl ?_
      refine A19.iload (q := 17) d_prog_51_method_5_15 rfl rfl ?_
      refine A19.ldC (qn := 18) (i := 1) d_prog_51_method_5_17 rfl (by decide) rfl rfl ?_
      refine Here.callS (qn := 21) (os1 := [(a, ob0 (.long ln1_35) (.int pv1_35) (.long of1_35) (.long ls1_35) (.long pr1_35)), (b, .inr (.char, [(.int c0), (.int c1), (.int c2)]))]) (os2 := []) (rest := []) (W := 0) (argsL := [(.int c2)]) A19 (m_plain l Z a0 hw c2) (Or.inl rfl) (tw hw 23 rfl) (tw hw 24 rfl) (tw hw 9 rfl) (tw hw 25 rfl) (by decide) d_prog_51_method_5_18 rfl (lenOf pd_2 rfl) rfl (Nat.le_of_eq rfl) (by decide) (by decide) (by decide) (by decide) rfl (fun T52 v53 os54 A55 P56 => ?_)
      obtain ⟨r_18_3, rfl, rfl⟩ := P56
      have A57 := A55.cast (k2 := 0) (n2 := 0) (os2 := [(a, ob0 (.long ln1_35) (.int pv1_35) (.long of1_35) (.long ls1_35) (.long pr1_35)), (b, .inr (.char, [(.int c0), (.int c1), (.int c2)]))]) rfl rfl rfl
      by_cases hc21_58 : r_18_3 = (0 : Int32)
      · refine A57.ifNo (q := 24) d_prog_51_method_5_21 ((if0 _ _).trans (teq hc21_58).2) rfl ?_
        refine A57.aloadN (q := 25) d_prog_51_method_5_24 rfl rfl rfl ?_
        refine A57.aloadN (q := 26) d_prog_51_method_5_25 rfl rfl rfl ?_
        refine A57.iload (q := 28) d_prog_51_method_5_26 rfl rfl ?_
        refine A57.iload (q := 30) d_prog_51_method_5_28 rfl rfl ?_
        refine A57.iconst (q := 31) (v := 1) d_prog_51_method_5_30 rfl rfl ?_
        refine A57.iadd (q := 32) d_prog_51_method_5_31 rfl ?_
        refine Wp.top (v' := (.int 3)) rfl ?_
        refine A57.iload (q := 34) d_prog_51_method_5_32 rfl rfl ?_
        refine A57.isub (q := 35) d_prog_51_method_5_34 rfl ?_
        refine Wp.top (v' := (.int 2)) rfl ?_
        refine Here.callV (qn := 38) (os1 := []) (os2 := [(a, ob0 (.long ln1_35) (.int pv1_35) (.long of1_35) (.long ls1_35) (.long pr1_35)), (b, .inr (.char, [(.int c0), (.int c1), (.int c2)]))]) (rest := []) (W := 0) (argsL := [(.ref b), (.int 1), (.int 2)]) (a := a) (i := 0) A57 (m_any l Z a0 hw a b ((1 : Int32)) ((2 : Int32)) ([(.int c0), (.int c1), (.int c2)]) c2 c1 ln1_35 of1_35 ls1_35 pr1_35 pv1_35 (hq_35) (fun h => by first | exact ⟨by decide, rfl⟩ | exact absurd h (by decide)) (fun h => by first | exact ⟨by decide, rfl⟩ | exact absurd h (by decide))) (Or.inr ⟨rfl, rfl⟩) rfl (tw hw 26 rfl) (tw hw 27 rfl) (tw hw 29 rfl) (tw hw 28 rfl) (tw hw 9 rfl) (tw hw 30 rfl) (by decide) d_prog_51_method_5_35 rfl (lenOf pd_4 rfl) rfl (Nat.le_of_eq rfl) (by decide) (by decide) (by decide) (by decide) rfl (fun T59 v60 os61 A62 P63 => ?_)
        obtain ⟨ln1_35_2, of1_35_2, ls1_35_2, pr1_35_2, pv1_35_2, rfl, rfl, hq_35_2⟩ := P63
        have A64 := A62.cast (k2 := 0) (n2 := 0) (os2 := [(a, ob0 (.long ln1_35_2) (.int pv1_35_2) (.long of1_35_2) (.long ls1_35_2) (.long pr1_35_2)), (b, .inr (.char, [(.int c0), (.int c1), (.int c2)]))]) rfl rfl rfl
        refine A64.iload (q := 40) d_prog_51_method_5_38 rfl rfl ?_
        refine A64.iconst (q := 41) (v := 1) d_prog_51_method_5_40 rfl rfl ?_
        refine A64.iadd (q := 42) d_prog_51_method_5_41 rfl ?_
        refine Wp.top (v' := (.int 3)) rfl ?_
        refine A64.istore (q := 44) (l' := #[.val (.ref a), .val (.ref b), .val (.int 0), .val (.int 3), .val (.int 3), .val (.int 2)]) d_prog_51_method_5_42 rfl rfl ?_
        refine A64.iinc (q := 47) (l' := #[.val (.ref a), .val (.ref b), .val (.int 0), .val (.int 3), .val (.int 3), .val (.int 3)]) d_prog_51_method_5_44 rfl rfl rfl ?_
        refine A64.goto (q := 6) d_prog_51_method_5_47 (by decide) (by decide) ?_
        refine A64.iload (q := 8) d_prog_51_method_5_6 rfl rfl ?_
        refine A64.iloadN (q := 9) d_prog_51_method_5_8 rfl rfl ?_
        refine A64.iloadN (q := 10) d_prog_51_method_5_9 rfl rfl ?_
        refine A64.iadd (q := 11) d_prog_51_method_5_10 rfl ?_
        refine Wp.top (v' := (.int 3)) rfl ?_
        refine A64.icmpYes (q := 50) d_prog_51_method_5_11 (by decide) (by decide) (by decide) ?_
        refine A64.aloadN (q := 51) d_prog_51_method_5_50 rfl rfl rfl ?_
        refine A64.aloadN (q := 52) d_prog_51_method_5_51 rfl rfl rfl ?_
        refine A64.iload (q := 54) d_prog_51_method_5_52 rfl rfl ?_
        refine A64.iloadN (q := 55) d_prog_51_method_5_54 rfl rfl ?_
        refine A64.iloadN (q := 56) d_prog_51_method_5_55 rfl rfl ?_
        refine A64.iadd (q := 57) d_prog_51_method_5_56 rfl ?_
        refine Wp.top (v' := (.int 3)) rfl ?_
        refine A64.iload (q := 59) d_prog_51_method_5_57 rfl rfl ?_
        refine A64.isub (q := 60) d_prog_51_method_5_59 rfl ?_
        refine Wp.top (v' := (.int 0)) rfl ?_
        refine Here.callV (qn := 63) (os1 := []) (os2 := [(a, ob0 (.long ln1_35_2) (.int pv1_35_2) (.long of1_35_2) (.long ls1_35_2) (.long pr1_35_2)), (b, .inr (.char, [(.int c0), (.int c1), (.int c2)]))]) (rest := []) (W := 0) (argsL := [(.ref b), (.int 3), (.int 0)]) (a := a) (i := 0) A64 (m_any l Z a0 hw a b ((3 : Int32)) ((0 : Int32)) ([(.int c0), (.int c1), (.int c2)]) c2 c1 ln1_35_2 of1_35_2 ls1_35_2 pr1_35_2 pv1_35_2 (hq_35_2) (fun h => by first | exact ⟨by decide, rfl⟩ | exact absurd h (by decide)) (fun h => by first | exact ⟨by decide, rfl⟩ | exact absurd h (by decide))) (Or.inr ⟨rfl, rfl⟩) rfl (tw hw 26 rfl) (tw hw 27 rfl) (tw hw 29 rfl) (tw hw 28 rfl) (tw hw 9 rfl) (tw hw 30 rfl) (by decide) d_prog_51_method_5_60 rfl (lenOf pd_4 rfl) rfl (Nat.le_of_eq rfl) (by decide) (by decide) (by decide) (by decide) rfl (fun T65 v66 os67 A68 P69 => ?_)
        obtain ⟨ln1_60, of1_60, ls1_60, pr1_60, pv1_60, rfl, rfl, hq_60⟩ := P69
        have A70 := A68.cast (k2 := 0) (n2 := 0) (os2 := [(a, ob0 (.long ln1_60) (.int pv1_60) (.long of1_60) (.long ls1_60) (.long pr1_60)), (b, .inr (.char, [(.int c0), (.int c1), (.int c2)]))]) rfl rfl rfl
        refine A70.retV d_prog_51_method_5_63 (by decide) (by decide) ⟨ln1_60, of1_60, ls1_60, pr1_60, pv1_60, rfl, rfl, ?_⟩
        clear hw A0 A4 A6 A11 A13 A17 A19 A55 A57 A62 A64 A68 A70
        exact hq_60
      · refine A57.ifYes (q := 44) d_prog_51_method_5_21 ((if0 _ _).trans (feq hc21_58).2) (by decide) (by decide) ?_
        refine A57.iinc (q := 47) (l' := #[.val (.ref a), .val (.ref b), .val (.int 0), .val (.int 3), .val (.int 1), .val (.int 3)]) d_prog_51_method_5_44 rfl rfl rfl ?_
        refine A57.goto (q := 6) d_prog_51_method_5_47 (by decide) (by decide) ?_
        refine A57.iload (q := 8) d_prog_51_method_5_6 rfl rfl ?_
        refine A57.iloadN (q := 9) d_prog_51_method_5_8 rfl rfl ?_
        refine A57.iloadN (q := 10) d_prog_51_method_5_9 rfl rfl ?_
        refine A57.iadd (q := 11) d_prog_51_method_5_10 rfl ?_
        refine Wp.top (v' := (.int 3)) rfl ?_
        refine A57.icmpYes (q := 50) d_prog_51_method_5_11 (by decide) (by decide) (by decide) ?_
        refine A57.aloadN (q := 51) d_prog_51_method_5_50 rfl rfl rfl ?_
        refine A57.aloadN (q := 52) d_prog_51_method_5_51 rfl rfl rfl ?_
        refine A57.iload (q := 54) d_prog_51_method_5_52 rfl rfl ?_
        refine A57.iloadN (q := 55) d_prog_51_method_5_54 rfl rfl ?_
        refine A57.iloadN (q := 56) d_prog_51_method_5_55 rfl rfl ?_
        refine A57.iadd (q := 57) d_prog_51_method_5_56 rfl ?_
        refine Wp.top (v' := (.int 3)) rfl ?_
        refine A57.iload (q := 59) d_prog_51_method_5_57 rfl rfl ?_
        refine A57.isub (q := 60) d_prog_51_method_5_59 rfl ?_
        refine Wp.top (v' := (.int 2)) rfl ?_
        refine Here.callV (qn := 63) (os1 := []) (os2 := [(a, ob0 (.long ln1_35) (.int pv1_35) (.long of1_35) (.long ls1_35) (.long pr1_35)), (b, .inr (.char, [(.int c0), (.int c1), (.int c2)]))]) (rest := []) (W := 0) (argsL := [(.ref b), (.int 1), (.int 2)]) (a := a) (i := 0) A57 (m_any l Z a0 hw a b ((1 : Int32)) ((2 : Int32)) ([(.int c0), (.int c1), (.int c2)]) c2 c1 ln1_35 of1_35 ls1_35 pr1_35 pv1_35 (hq_35) (fun h => by first | exact ⟨by decide, rfl⟩ | exact absurd h (by decide)) (fun h => by first | exact ⟨by decide, rfl⟩ | exact absurd h (by decide))) (Or.inr ⟨rfl, rfl⟩) rfl (tw hw 26 rfl) (tw hw 27 rfl) (tw hw 29 rfl) (tw hw 28 rfl) (tw hw 9 rfl) (tw hw 30 rfl) (by decide) d_prog_51_method_5_60 rfl (lenOf pd_4 rfl) rfl (Nat.le_of_eq rfl) (by decide) (by decide) (by decide) (by decide) rfl (fun T71 v72 os73 A74 P75 => ?_)
        obtain ⟨ln1_60, of1_60, ls1_60, pr1_60, pv1_60, rfl, rfl, hq_60⟩ := P75
        have A76 := A74.cast (k2 := 0) (n2 := 0) (os2 := [(a, ob0 (.long ln1_60) (.int pv1_60) (.long of1_60) (.long ls1_60) (.long pr1_60)), (b, .inr (.char, [(.int c0), (.int c1), (.int c2)]))]) rfl rfl rfl
        refine A76.retV d_prog_51_method_5_63 (by decide) (by decide) ⟨ln1_60, of1_60, ls1_60, pr1_60, pv1_60, rfl, rfl, ?_⟩
        clear hw A0 A4 A6 A11 A13 A17 A19 A55 A57 A74 A76
        exact hq_60
  · refine A6.ifYes (q := 44) d_prog_51_method_5_21 ((if0 _ _).trans (feq hc21_7).2) (by decide) (by decide) ?_
    refine A6.iinc (q := 47) (l' := #[.val (.ref a), .val (.ref b), .val (.int 0), .val (.int 3), .val (.int 0), .val (.int 1)]) d_prog_51_method_5_44 rfl rfl rfl ?_
    refine A6.goto (q := 6) d_prog_51_method_5_47 (by decide) (by decide) ?_
    refine A6.iload (q := 8) d_prog_51_method_5_6 rfl rfl ?_
    refine A6.iloadN (q := 9) d_prog_51_method_5_8 rfl rfl ?_
    refine A6.iloadN (q := 10) d_prog_51_method_5_9 rfl rfl ?_
    refine A6.iadd (q := 11) d_prog_51_method_5_10 rfl ?_
    refine Wp.top (v' := (.int 3)) rfl ?_
    refine A6.icmpNo (q := 14) d_prog_51_method_5_11 (by decide) rfl ?_
    refine A6.aloadN (q := 15) d_prog_51_method_5_14 rfl rfl rfl ?_
    refine A6.iload (q := 17) d_prog_51_method_5_15 rfl rfl ?_
    refine A6.ldC (qn := 18) (i := 1) d_prog_51_method_5_17 rfl (by decide) rfl rfl ?_
    refine Here.callS (qn := 21) (os1 := [(a, ob0 (.long ln) (.int pv) (.long of) (.long ls) (.long pr)), (b, .inr (.char, [(.int c0), (.int c1), (.int c2)]))]) (os2 := []) (rest := []) (W := 0) (argsL := [(.int c1)]) A6 (m_plain l Z a0 hw c1) (Or.inl rfl) (tw hw 23 rfl) (tw hw 24 rfl) (tw hw 9 rfl) (tw hw 25 rfl) (by decide) d_prog_51_method_5_18 rfl (lenOf pd_2 rfl) rfl (Nat.le_of_eq rfl) (by decide) (by decide) (by decide) (by decide) rfl (fun T77 v78 os79 A80 P81 => ?_)
    obtain ⟨r_18_2, rfl, rfl⟩ := P81
    have A82 := A80.cast (k2 := 0) (n2 := 0) (os2 := [(a, ob0 (.long ln) (.int pv) (.long of) (.long ls) (.long pr)), (b, .inr (.char, [(.int c0), (.int c1), (.int c2)]))]) rfl rfl rfl
    by_cases hc21_83 : r_18_2 = (0 : Int32)
    · refine A82.ifNo (q := 24) d_prog_51_method_5_21 ((if0 _ _).trans (teq hc21_83).2) rfl ?_
      refine A82.aloadN (q := 25) d_prog_51_method_5_24 rfl rfl rfl ?_
      refine A82.aloadN (q := 26) d_prog_51_method_5_25 rfl rfl rfl ?_
      refine A82.iload (q := 28) d_prog_51_method_5_26 rfl rfl ?_
      refine A82.iload (q := 30) d_prog_51_method_5_28 rfl rfl ?_
      refine A82.iconst (q := 31) (v := 1) d_prog_51_method_5_30 rfl rfl ?_
      refine A82.iadd (q := 32) d_prog_51_method_5_31 rfl ?_
      refine Wp.top (v' := (.int 2)) rfl ?_
      refine A82.iload (q := 34) d_prog_51_method_5_32 rfl rfl ?_
      refine A82.isub (q := 35) d_prog_51_method_5_34 rfl ?_
      refine Wp.top (v' := (.int 2)) rfl ?_
      refine Here.callV (qn := 38) (os1 := []) (os2 := [(a, ob0 (.long ln) (.int pv) (.long of) (.long ls) (.long pr)), (b, .inr (.char, [(.int c0), (.int c1), (.int c2)]))]) (rest := []) (W := 0) (argsL := [(.ref b), (.int 0), (.int 2)]) (a := a) (i := 0) A82 (m_any l Z a0 hw a b ((0 : Int32)) ((2 : Int32)) ([(.int c0), (.int c1), (.int c2)]) c1 c0 ln of ls pr pv (hp) (fun h => by first | exact ⟨by decide, rfl⟩ | exact absurd h (by decide)) (fun h => by first | exact ⟨by decide, rfl⟩ | exact absurd h (by decide))) (Or.inr ⟨rfl, rfl⟩) rfl (tw hw 26 rfl) (tw hw 27 rfl) (tw hw 29 rfl) (tw hw 28 rfl) (tw hw 9 rfl) (tw hw 30 rfl) (by decide) d_prog_51_method_5_35 rfl (lenOf pd_4 rfl) rfl (Nat.le_of_eq rfl) (by decide) (by decide) (by decide) (by decide) rfl (fun T84 v85 os86 A87 P88 => ?_)
      obtain ⟨ln1_35, of1_35, ls1_35, pr1_35, pv1_35, rfl, rfl, hq_35⟩ := P88
      have A89 := A87.cast (k2 := 0) (n2 := 0) (os2 := [(a, ob0 (.long ln1_35) (.int pv1_35) (.long of1_35) (.long ls1_35) (.long pr1_35)), (b, .inr (.char, [(.int c0), (.int c1), (.int c2)]))]) rfl rfl rfl
      refine A89.iload (q := 40) d_prog_51_method_5_38 rfl rfl ?_
      refine A89.iconst (q := 41) (v := 1) d_prog_51_method_5_40 rfl rfl ?_
      refine A89.iadd (q := 42) d_prog_51_method_5_41 rfl ?_
      refine Wp.top (v' := (.int 2)) rfl ?_
      refine A89.istore (q := 44) (l' := #[.val (.ref a), .val (.ref b), .val (.int 0), .val (.int 3), .val (.int 2), .val (.int 1)]) d_prog_51_method_5_42 rfl rfl ?_
      refine A89.iinc (q := 47) (l' := #[.val (.ref a), .val (.ref b), .val (.int 0), .val (.int 3), .val (.int 2), .val (.int 2)]) d_prog_51_method_5_44 rfl rfl rfl ?_
      refine A89.goto (q := 6) d_prog_51_method_5_47 (by decide) (by decide) ?_
      refine A89.iload (q := 8) d_prog_51_method_5_6 rfl rfl ?_
      refine A89.iloadN (q := 9) d_prog_51_method_5_8 rfl rfl ?_
      refine A89.iloadN (q := 10) d_prog_51_method_5_9 rfl rfl ?_
      refine A89.iadd (q := 11) d_prog_51_method_5_10 rfl ?_
      refine Wp.top (v' := (.int 3)) rfl ?_
      refine A89.icmpNo (q := 14) d_prog_51_method_5_11 (by decide) rfl ?_
      refine A89.aloadN (q := 15) d_prog_51_method_5_14 rfl rfl rfl ?_
      refine A89.iload (q := 17) d_prog_51_method_5_15 rfl rfl ?_
      refine A89.ldC (qn := 18) (i := 1) d_prog_51_method_5_17 rfl (by decide) rfl rfl ?_
      refine Here.callS (qn := 21) (os1 := [(a, ob0 (.long ln1_35) (.int pv1_35) (.long of1_35) (.long ls1_35) (.long pr1_35)), (b, .inr (.char, [(.int c0), (.int c1), (.int c2)]))]) (os2 := []) (rest := []) (W := 0) (argsL := [(.int c2)]) A89 (m_plain l Z a0 hw c2) (Or.inl rfl) (tw hw 23 rfl) (tw hw 24 rfl) (tw hw 9 rfl) (tw hw 25 rfl) (by decide) d_prog_51_method_5_18 rfl (lenOf pd_2 rfl) rfl (Nat.le_of_eq rfl) (by decide) (by decide) (by decide) (by decide) rfl (fun T90 v91 os92 A93 P94 => ?_)
      obtain ⟨r_18_3, rfl, rfl⟩ := P94
      have A95 := A93.cast (k2 := 0) (n2 := 0) (os2 := [(a, ob0 (.long ln1_35) (.int pv1_35) (.long of1_35) (.long ls1_35) (.long pr1_35)), (b, .inr (.char, [(.int c0), (.int c1), (.int c2)]))]) rfl rfl rfl
      by_cases hc21_96 : r_18_3 = (0 : Int32)
      · refine A95.ifNo (q := 24) d_prog_51_method_5_21 ((if0 _ _).trans (teq hc21_96).2) rfl ?_
        refine A95.aloadN (q := 25) d_prog_51_method_5_24 rfl rfl rfl ?_
        refine A95.aloadN (q := 26) d_prog_51_method_5_25 rfl rfl rfl ?_
        refine A95.iload (q := 28) d_prog_51_method_5_26 rfl rfl ?_
        refine A95.iload (q := 30) d_prog_51_method_5_28 rfl rfl ?_
        refine A95.iconst (q := 31) (v := 1) d_prog_51_method_5_30 rfl rfl ?_
        refine A95.iadd (q := 32) d_prog_51_method_5_31 rfl ?_
        refine Wp.top (v' := (.int 3)) rfl ?_
        refine A95.iload (q := 34) d_prog_51_method_5_32 rfl rfl ?_
        refine A95.isub (q := 35) d_prog_51_method_5_34 rfl ?_
        refine Wp.top (v' := (.int 1)) rfl ?_
        refine Here.callV (qn := 38) (os1 := []) (os2 := [(a, ob0 (.long ln1_35) (.int pv1_35) (.long of1_35) (.long ls1_35) (.long pr1_35)), (b, .inr (.char, [(.int c0), (.int c1), (.int c2)]))]) (rest := []) (W := 0) (argsL := [(.ref b), (.int 2), (.int 1)]) (a := a) (i := 0) A95 (m_any l Z a0 hw a b ((2 : Int32)) ((1 : Int32)) ([(.int c0), (.int c1), (.int c2)]) c2 c1 ln1_35 of1_35 ls1_35 pr1_35 pv1_35 (hq_35) (fun h => by first | exact ⟨by decide, rfl⟩ | exact absurd h (by decide)) (fun h => by first | exact ⟨by decide, rfl⟩ | exact absurd h (by decide))) (Or.inr ⟨rfl, rfl⟩) rfl (tw hw 26 rfl) (tw hw 27 rfl) (tw hw 29 rfl) (tw hw 28 rfl) (tw hw 9 rfl) (tw hw 30 rfl) (by decide) d_prog_51_method_5_35 rfl (lenOf pd_4 rfl) rfl (Nat.le_of_eq rfl) (by decide) (by decide) (by decide) (by decide) rfl (fun T97 v98 os99 A100 P101 => ?_)
        obtain ⟨ln1_35_2, of1_35_2, ls1_35_2, pr1_35_2, pv1_35_2, rfl, rfl, hq_35_2⟩ := P101
        have A102 := A100.cast (k2 := 0) (n2 := 0) (os2 := [(a, ob0 (.long ln1_35_2) (.int pv1_35_2) (.long of1_35_2) (.long ls1_35_2) (.long pr1_35_2)), (b, .inr (.char, [(.int c0), (.int c1), (.int c2)]))]) rfl rfl rfl
        refine A102.iload (q := 40) d_prog_51_method_5_38 rfl rfl ?_
        refine A102.iconst (q := 41) (v := 1) d_prog_51_method_5_40 rfl rfl ?_
        refine A102.iadd (q := 42) d_prog_51_method_5_41 rfl ?_
        refine Wp.top (v' := (.int 3)) rfl ?_
        refine A102.istore (q := 44) (l' := #[.val (.ref a), .val (.ref b), .val (.int 0), .val (.int 3), .val (.int 3), .val (.int 2)]) d_prog_51_method_5_42 rfl rfl ?_
        refine A102.iinc (q := 47) (l' := #[.val (.ref a), .val (.ref b), .val (.int 0), .val (.int 3), .val (.int 3), .val (.int 3)]) d_prog_51_method_5_44 rfl rfl rfl ?_
        refine A102.goto (q := 6) d_prog_51_method_5_47 (by decide) (by decide) ?_
        refine A102.iload (q := 8) d_prog_51_method_5_6 rfl rfl ?_
        refine A102.iloadN (q := 9) d_prog_51_method_5_8 rfl rfl ?_
        refine A102.iloadN (q := 10) d_prog_51_method_5_9 rfl rfl ?_
        refine A102.iadd (q := 11) d_prog_51_method_5_10 rfl ?_
        refine Wp.top (v' := (.int 3)) rfl ?_
        refine A102.icmpYes (q := 50) d_prog_51_method_5_11 (by decide) (by decide) (by decide) ?_
        refine A102.aloadN (q := 51) d_prog_51_method_5_50 rfl rfl rfl ?_
        refine A102.aloadN (q := 52) d_prog_51_method_5_51 rfl rfl rfl ?_
        refine A102.iload (q := 54) d_prog_51_method_5_52 rfl rfl ?_
        refine A102.iloadN (q := 55) d_prog_51_method_5_54 rfl rfl ?_
        refine A102.iloadN (q := 56) d_prog_51_method_5_55 rfl rfl ?_
        refine A102.iadd (q := 57) d_prog_51_method_5_56 rfl ?_
        refine Wp.top (v' := (.int 3)) rfl ?_
        refine A102.iload (q := 59) d_prog_51_method_5_57 rfl rfl ?_
        refine A102.isub (q := 60) d_prog_51_method_5_59 rfl ?_
        refine Wp.top (v' := (.int 0)) rfl ?_
        refine Here.callV (qn := 63) (os1 := []) (os2 := [(a, ob0 (.long ln1_35_2) (.int pv1_35_2) (.long of1_35_2) (.long ls1_35_2) (.long pr1_35_2)), (b, .inr (.char, [(.int c0), (.int c1), (.int c2)]))]) (rest := []) (W := 0) (argsL := [(.ref b), (.int 3), (.int 0)]) (a := a) (i := 0) A102 (m_any l Z a0 hw a b ((3 : Int32)) ((0 : Int32)) ([(.int c0), (.int c1), (.int c2)]) c2 c1 ln1_35_2 of1_35_2 ls1_35_2 pr1_35_2 pv1_35_2 (hq_35_2) (fun h => by first | exact ⟨by decide, rfl⟩ | exact absurd h (by decide)) (fun h => by first | exact ⟨by decide, rfl⟩ | exact absurd h (by decide))) (Or.inr ⟨rfl, rfl⟩) rfl (tw hw 26 rfl) (tw hw 27 rfl) (tw hw 29 rfl) (tw hw 28 rfl) (tw hw 9 rfl) (tw hw 30 rfl) (by decide) d_prog_51_method_5_60 rfl (lenOf pd_4 rfl) rfl (Nat.le_of_eq rfl) (by decide) (by decide) (by decide) (by decide) rfl (fun T103 v104 os105 A106 P107 => ?_)
        obtain ⟨ln1_60, of1_60, ls1_60, pr1_60, pv1_60, rfl, rfl, hq_60⟩ := P107
        have A108 := A106.cast (k2 := 0) (n2 := 0) (os2 := [(a, ob0 (.long ln1_60) (.int pv1_60) (.long of1_60) (.long ls1_60) (.long pr1_60)), (b, .inr (.char, [(.int c0), (.int c1), (.int c2)]))]) rfl rfl rfl
        refine A108.retV d_prog_51_method_5_63 (by decide) (by decide) ⟨ln1_60, of1_60, ls1_60, pr1_60, pv1_60, rfl, rfl, ?_⟩
        clear hw A0 A4 A6 A80 A82 A87 A89 A93 A95 A100 A102 A106 A108
        exact hq_60
      · refine A95.ifYes (q := 44) d_prog_51_method_5_21 ((if0 _ _).trans (feq hc21_96).2) (by decide) (by decide) ?_
        refine A95.iinc (q := 47) (l' := #[.val (.ref a), .val (.ref b), .val (.int 0), .val (.int 3), .val (.int 2), .val (.int 3)]) d_prog_51_method_5_44 rfl rfl rfl ?_
        refine A95.goto (q := 6) d_prog_51_method_5_47 (by decide) (by decide) ?_
        refine A95.iload (q := 8) d_prog_51_method_5_6 rfl rfl ?_
        refine A95.iloadN (q := 9) d_prog_51_method_5_8 rfl rfl ?_
        refine A95.iloadN (q := 10) d_prog_51_method_5_9 rfl rfl ?_
        refine A95.iadd (q := 11) d_prog_51_method_5_10 rfl ?_
        refine Wp.top (v' := (.int 3)) rfl ?_
        refine A95.icmpYes (q := 50) d_prog_51_method_5_11 (by decide) (by decide) (by decide) ?_
        refine A95.aloadN (q := 51) d_prog_51_method_5_50 rfl rfl rfl ?_
        refine A95.aloadN (q := 52) d_prog_51_method_5_51 rfl rfl rfl ?_
        refine A95.iload (q := 54) d_prog_51_method_5_52 rfl rfl ?_
        refine A95.iloadN (q := 55) d_prog_51_method_5_54 rfl rfl ?_
        refine A95.iloadN (q := 56) d_prog_51_method_5_55 rfl rfl ?_
        refine A95.iadd (q := 57) d_prog_51_method_5_56 rfl ?_
        refine Wp.top (v' := (.int 3)) rfl ?_
        refine A95.iload (q := 59) d_prog_51_method_5_57 rfl rfl ?_
        refine A95.isub (q := 60) d_prog_51_method_5_59 rfl ?_
        refine Wp.top (v' := (.int 1)) rfl ?_
        refine Here.callV (qn := 63) (os1 := []) (os2 := [(a, ob0 (.long ln1_35) (.int pv1_35) (.long of1_35) (.long ls1_35) (.long pr1_35)), (b, .inr (.char, [(.int c0), (.int c1), (.int c2)]))]) (rest := []) (W := 0) (argsL := [(.ref b), (.int 2), (.int 1)]) (a := a) (i := 0) A95 (m_any l Z a0 hw a b ((2 : Int32)) ((1 : Int32)) ([(.int c0), (.int c1), (.int c2)]) c2 c1 ln1_35 of1_35 ls1_35 pr1_35 pv1_35 (hq_35) (fun h => by first | exact ⟨by decide, rfl⟩ | exact absurd h (by decide)) (fun h => by first | exact ⟨by decide, rfl⟩ | exact absurd h (by decide))) (Or.inr ⟨rfl, rfl⟩) rfl (tw hw 26 rfl) (tw hw 27 rfl) (tw hw 29 rfl) (tw hw 28 rfl) (tw hw 9 rfl) (tw hw 30 rfl) (by decide) d_prog_51_method_5_60 rfl (lenOf pd_4 rfl) rfl (Nat.le_of_eq rfl) (by decide) (by decide) (by decide) (by decide) rfl (fun T109 v110 os111 A112 P113 => ?_)
        obtain ⟨ln1_60, of1_60, ls1_60, pr1_60, pv1_60, rfl, rfl, hq_60⟩ := P113
        have A114 := A112.cast (k2 := 0) (n2 := 0) (os2 := [(a, ob0 (.long ln1_60) (.int pv1_60) (.long of1_60) (.long ls1_60) (.long pr1_60)), (b, .inr (.char, [(.int c0), (.int c1), (.int c2)]))]) rfl rfl rfl
        refine A114.retV d_prog_51_method_5_63 (by decide) (by decide) ⟨ln1_60, of1_60, ls1_60, pr1_60, pv1_60, rfl, rfl, ?_⟩
        clear hw A0 A4 A6 A80 A82 A87 A89 A93 A95 A112 A114
        exact hq_60
    · refine A82.ifYes (q := 44) d_prog_51_method_5_21 ((if0 _ _).trans (feq hc21_83).2) (by decide) (by decide) ?_
      refine A82.iinc (q := 47) (l' := #[.val (.ref a), .val (.ref b), .val (.int 0), .val (.int 3), .val (.int 0), .val (.int 2)]) d_prog_51_method_5_44 rfl rfl rfl ?_
      refine A82.goto (q := 6) d_prog_51_method_5_47 (by decide) (by decide) ?_
      refine A82.iload (q := 8) d_prog_51_method_5_6 rfl rfl ?_
      refine A82.iloadN (q := 9) d_prog_51_method_5_8 rfl rfl ?_
      refine A82.iloadN (q := 10) d_prog_51_method_5_9 rfl rfl ?_
      refine A82.iadd (q := 11) d_prog_51_method_5_10 rfl ?_
      refine Wp.top (v' := (.int 3)) rfl ?_
      refine A82.icmpNo (q := 14) d_prog_51_method_5_11 (by decide) rfl ?_
      refine A82.aloadN (q := 15) d_prog_51_method_5_14 rfl rfl rfl ?_
      refine A82.iload (q := 17) d_prog_51_method_5_15 rfl rfl ?_
      refine A82.ldC (qn := 18) (i := 1) d_prog_51_method_5_17 rfl (by decide) rfl rfl ?_
      refine Here.callS (qn := 21) (os1 := [(a, ob0 (.long ln) (.int pv) (.long of) (.long ls) (.long pr)), (b, .inr (.char, [(.int c0), (.int c1), (.int c2)]))]) (os2 := []) (rest := []) (W := 0) (argsL := [(.int c2)]) A82 (m_plain l Z a0 hw c2) (Or.inl rfl) (tw hw 23 rfl) (tw hw 24 rfl) (tw hw 9 rfl) (tw hw 25 rfl) (by decide) d_prog_51_method_5_18 rfl (lenOf pd_2 rfl) rfl (Nat.le_of_eq rfl) (by decide) (by decide) (by decide) (by decide) rfl (fun T115 v116 os117 A118 P119 => ?_)
      obtain ⟨r_18_3, rfl, rfl⟩ := P119
      have A120 := A118.cast (k2 := 0) (n2 := 0) (os2 := [(a, ob0 (.long ln) (.int pv) (.long of) (.long ls) (.long pr)), (b, .inr (.char, [(.int c0), (.int c1), (.int c2)]))]) rfl rfl rfl
      by_cases hc21_121 : r_18_3 = (0 : Int32)
      · refine A120.ifNo (q := 24) d_prog_51_method_5_21 ((if0 _ _).trans (teq hc21_121).2) rfl ?_
        refine A120.aloadN (q := 25) d_prog_51_method_5_24 rfl rfl rfl ?_
        refine A120.aloadN (q := 26) d_prog_51_method_5_25 rfl rfl rfl ?_
        refine A120.iload (q := 28) d_prog_51_method_5_26 rfl rfl ?_
        refine A120.iload (q := 30) d_prog_51_method_5_28 rfl rfl ?_
        refine A120.iconst (q := 31) (v := 1) d_prog_51_method_5_30 rfl rfl ?_
        refine A120.iadd (q := 32) d_prog_51_method_5_31 rfl ?_
        refine Wp.top (v' := (.int 3)) rfl ?_
        refine A120.iload (q := 34) d_prog_51_method_5_32 rfl rfl ?_
        refine A120.isub (q := 35) d_prog_51_method_5_34 rfl ?_
        refine Wp.top (v' := (.int 3)) rfl ?_
        refine Here.callV (qn := 38) (os1 := []) (os2 := [(a, ob0 (.long ln) (.int pv) (.long of) (.long ls) (.long pr)), (b, .inr (.char, [(.int c0), (.int c1), (.int c2)]))]) (rest := []) (W := 0) (argsL := [(.ref b), (.int 0), (.int 3)]) (a := a) (i := 0) A120 (m_any l Z a0 hw a b ((0 : Int32)) ((3 : Int32)) ([(.int c0), (.int c1), (.int c2)]) c2 c1 ln of ls pr pv (hp) (fun h => by first | exact ⟨by decide, rfl⟩ | exact absurd h (by decide)) (fun h => by first | exact ⟨by decide, rfl⟩ | exact absurd h (by decide))) (Or.inr ⟨rfl, rfl⟩) rfl (tw hw 26 rfl) (tw hw 27 rfl) (tw hw 29 rfl) (tw hw 28 rfl) (tw hw 9 rfl) (tw hw 30 rfl) (by decide) d_prog_51_method_5_35 rfl (lenOf pd_4 rfl) rfl (Nat.le_of_eq rfl) (by decide) (by decide) (by decide) (by decide) rfl (fun T122 v123 os124 A125 P126 => ?_)
        obtain ⟨ln1_35, of1_35, ls1_35, pr1_35, pv1_35, rfl, rfl, hq_35⟩ := P126
        have A127 := A125.cast (k2 := 0) (n2 := 0) (os2 := [(a, ob0 (.long ln1_35) (.int pv1_35) (.long of1_35) (.long ls1_35) (.long pr1_35)), (b, .inr (.char, [(.int c0), (.int c1), (.int c2)]))]) rfl rfl rfl
        refine A127.iload (q := 40) d_prog_51_method_5_38 rfl rfl ?_
        refine A127.iconst (q := 41) (v := 1) d_prog_51_method_5_40 rfl rfl ?_
        refine A127.iadd (q := 42) d_prog_51_method_5_41 rfl ?_
        refine Wp.top (v' := (.int 3)) rfl ?_
        refine A127.istore (q := 44) (l' := #[.val (.ref a), .val (.ref b), .val (.int 0), .val (.int 3), .val (.int 3), .val (.int 2)]) d_prog_51_method_5_42 rfl rfl ?_
        refine A127.iinc (q := 47) (l' := #[.val (.ref a), .val (.ref b), .val (.int 0), .val (.int 3), .val (.int 3), .val (.int 3)]) d_prog_51_method_5_44 rfl rfl rfl ?_
        refine A127.goto (q := 6) d_prog_51_method_5_47 (by decide) (by decide) ?_
        refine A127.iload (q := 8) d_prog_51_method_5_6 rfl rfl ?_
        refine A127.iloadN (q := 9) d_prog_51_method_5_8 rfl rfl ?_
        refine A127.iloadN (q := 10) d_prog_51_method_5_9 rfl rfl ?_
        refine A127.iadd (q := 11) d_prog_51_method_5_10 rfl ?_
        refine Wp.top (v' := (.int 3)) rfl ?_
        refine A127.icmpYes (q := 50) d_prog_51_method_5_11 (by decide) (by decide) (by decide) ?_
        refine A127.aloadN (q := 51) d_prog_51_method_5_50 rfl rfl rfl ?_
        refine A127.aloadN (q := 52) d_prog_51_method_5_51 rfl rfl rfl ?_
        refine A127.iload (q := 54) d_prog_51_method_5_52 rfl rfl ?_
        refine A127.iloadN (q := 55) d_prog_51_method_5_54 rfl rfl ?_
        refine A127.iloadN (q := 56) d_prog_51_method_5_55 rfl rfl ?_
        refine A127.iadd (q := 57) d_prog_51_method_5_56 rfl ?_
        refine Wp.top (v' := (.int 3)) rfl ?_
        refine A127.iload (q := 59) d_prog_51_method_5_57 rfl rfl ?_
        refine A127.isub (q := 60) d_prog_51_method_5_59 rfl ?_
        refine Wp.top (v' := (.int 0)) rfl ?_
        refine Here.callV (qn := 63) (os1 := []) (os2 := [(a, ob0 (.long ln1_35) (.int pv1_35) (.long of1_35) (.long ls1_35) (.long pr1_35)), (b, .inr (.char, [(.int c0), (.int c1), (.int c2)]))]) (rest := []) (W := 0) (argsL := [(.ref b), (.int 3), (.int 0)]) (a := a) (i := 0) A127 (m_any l Z a0 hw a b ((3 : Int32)) ((0 : Int32)) ([(.int c0), (.int c1), (.int c2)]) c2 c1 ln1_35 of1_35 ls1_35 pr1_35 pv1_35 (hq_35) (fun h => by first | exact ⟨by decide, rfl⟩ | exact absurd h (by decide)) (fun h => by first | exact ⟨by decide, rfl⟩ | exact absurd h (by decide))) (Or.inr ⟨rfl, rfl⟩) rfl (tw hw 26 rfl) (tw hw 27 rfl) (tw hw 29 rfl) (tw hw 28 rfl) (tw hw 9 rfl) (tw hw 30 rfl) (by decide) d_prog_51_method_5_60 rfl (lenOf pd_4 rfl) rfl (Nat.le_of_eq rfl) (by decide) (by decide) (by decide) (by decide) rfl (fun T128 v129 os130 A131 P132 => ?_)
        obtain ⟨ln1_60, of1_60, ls1_60, pr1_60, pv1_60, rfl, rfl, hq_60⟩ := P132
        have A133 := A131.cast (k2 := 0) (n2 := 0) (os2 := [(a, ob0 (.long ln1_60) (.int pv1_60) (.long of1_60) (.long ls1_60) (.long pr1_60)), (b, .inr (.char, [(.int c0), (.int c1), (.int c2)]))]) rfl rfl rfl
        refine A133.retV d_prog_51_method_5_63 (by decide) (by decide) ⟨ln1_60, of1_60, ls1_60, pr1_60, pv1_60, rfl, rfl, ?_⟩
        clear hw A0 A4 A6 A80 A82 A118 A120 A125 A127 A131 A133
        exact hq_60
      · refine A120.ifYes (q := 44) d_prog_51_method_5_21 ((if0 _ _).trans (feq hc21_121).2) (by decide) (by decide) ?_
        refine A120.iinc (q := 47) (l' := #[.val (.ref a), .val (.ref b), .val (.int 0), .val (.int 3), .val (.int 0), .val (.int 3)]) d_prog_51_method_5_44 rfl rfl rfl ?_
        refine A120.goto (q := 6) d_prog_51_method_5_47 (by decide) (by decide) ?_
        refine A120.iload (q := 8) d_prog_51_method_5_6 rfl rfl ?_
        refine A120.iloadN (q := 9) d_prog_51_method_5_8 rfl rfl ?_
        refine A120.iloadN (q := 10) d_prog_51_method_5_9 rfl rfl ?_
        refine A120.iadd (q := 11) d_prog_51_method_5_10 rfl ?_
        refine Wp.top (v' := (.int 3)) rfl ?_
        refine A120.icmpYes (q := 50) d_prog_51_method_5_11 (by decide) (by decide) (by decide) ?_
        refine A120.aloadN (q := 51) d_prog_51_method_5_50 rfl rfl rfl ?_
        refine A120.aloadN (q := 52) d_prog_51_method_5_51 rfl rfl rfl ?_
        refine A120.iload (q := 54) d_prog_51_method_5_52 rfl rfl ?_
        refine A120.iloadN (q := 55) d_prog_51_method_5_54 rfl rfl ?_
        refine A120.iloadN (q := 56) d_prog_51_method_5_55 rfl rfl ?_
        refine A120.iadd (q := 57) d_prog_51_method_5_56 rfl ?_
        refine Wp.top (v' := (.int 3)) rfl ?_
        refine A120.iload (q := 59) d_prog_51_method_5_57 rfl rfl ?_
        refine A120.isub (q := 60) d_prog_51_method_5_59 rfl ?_
        refine Wp.top (v' := (.int 3)) rfl ?_
        refine Here.callV (qn := 63) (os1 := []) (os2 := [(a, ob0 (.long ln) (.int pv) (.long of) (.long ls) (.long pr)), (b, .inr (.char, [(.int c0), (.int c1), (.int c2)]))]) (rest := []) (W := 0) (argsL := [(.ref b), (.int 0), (.int 3)]) (a := a) (i := 0) A120 (m_any l Z a0 hw a b ((0 : Int32)) ((3 : Int32)) ([(.int c0), (.int c1), (.int c2)]) c2 c1 ln of ls pr pv (hp) (fun h => by first | exact ⟨by decide, rfl⟩ | exact absurd h (by decide)) (fun h => by first | exact ⟨by decide, rfl⟩ | exact absurd h (by decide))) (Or.inr ⟨rfl, rfl⟩) rfl (tw hw 26 rfl) (tw hw 27 rfl) (tw hw 29 rfl) (tw hw 28 rfl) (tw hw 9 rfl) (tw hw 30 rfl) (by decide) d_prog_51_method_5_60 rfl (lenOf pd_4 rfl) rfl (Nat.le_of_eq rfl) (by decide) (by decide) (by decide) (by decide) rfl (fun T134 v135 os136 A137 P138 => ?_)
        obtain ⟨ln1_60, of1_60, ls1_60, pr1_60, pv1_60, rfl, rfl, hq_60⟩ := P138
        have A139 := A137.cast (k2 := 0) (n2 := 0) (os2 := [(a, ob0 (.long ln1_60) (.int pv1_60) (.long of1_60) (.long ls1_60) (.long pr1_60)), (b, .inr (.char, [(.int c0), (.int c1), (.int c2)]))]) rfl rfl rfl
        refine A139.retV d_prog_51_method_5_63 (by decide) (by decide) ⟨ln1_60, of1_60, ls1_60, pr1_60, pv1_60, rfl, rfl, ?_⟩
        clear hw A0 A4 A6 A80 A82 A118 A120 A137 A139
        exact hq_60
theorem ef_m_adv2 (m : MethodId) (x0 : Addr) (x1 : Addr) : entryFrame m #[(.ref x0), (.ref x1), (.int 0), (.int 2)] 6 = mkF m 0 #[.val (.ref x0), .val (.ref x1), .val (.int 0), .val (.int 2), .unset, .unset] [] := by first | (simp [entryFrame, mkF, argsToLocals, Value.category]; done) | rfl
set_option maxRecDepth 65536 in
set_option maxHeartbeats 40000000 in
theorem m_adv2 (l : Launch) (Z : State) (a0 : Array Value) (hw : ∀ d ∈ tables_1, d.before a0 Z = true) (a : Addr) (b : Addr) (c0 : Int32) (c1 : Int32) (ln : Int64) (of : Int64) (ls : Int64) (pr : Int64) (pv : Int32) (hp : nar .char pv = pv) :
    Pays l Z a0 (⟨"com/example/fine_events/fineevents/PositionTracker", "advance", "([CII)V"⟩ : MethodName) prog_51_method_5_code 6 none ({ frames := 2, cells := 0, slots := 0, locals := 30 } : Room) #[(.ref a), (.ref b), (.int 0), (.int 2)] [(a, ob0 (.long ln) (.int pv) (.long of) (.long ls) (.long pr)), (b, .inr (.char, [(.int c0), (.int c1)]))] (([(a, ob0 (.long ln) (.int pv) (.long of) (.long ls) (.long pr)), (b, .inr (.char, [(.int c0), (.int c1)]))] : Hs).map (·.1)) (fun v os' => ∃ (ln1 : Int64), ∃ (of1 : Int64), ∃ (ls1 : Int64), ∃ (pr1 : Int64), ∃ (pv1 : Int32), v = none ∧ os' = [(a, ob0 (.long ln1) (.int pv1) (.long of1) (.long ls1) (.long pr1)), (b, .inr (.char, [(.int c0), (.int c1)]))] ∧ nar .char pv1 = pv1) := by
  refine Pays.of (Ls := #[.val (.ref a), .val (.ref b), .val (.int 0), .val (.int 2), .unset, .unset]) (plainFor_of_name pn_3) (fun m => ef_m_adv2 m a b) ?_
  intro p e s m below meth c T0 A0
  refine A0.iloadN (q := 1) d_prog_51_method_5_0 rfl rfl ?_
  refine A0.istore (q := 3) (l' := #[.val (.ref a), .val (.ref b), .val (.int 0), .val (.int 2), .val (.int 0), .unset]) d_prog_51_method_5_1 rfl rfl ?_
  refine A0.iloadN (q := 4) d_prog_51_method_5_3 rfl rfl ?_
  refine A0.istore (q := 6) (l' := #[.val (.ref a), .val (.ref b), .val (.int 0), .val (.int 2), .val (.int 0), .val (.int 0)]) d_prog_51_method_5_4 rfl rfl ?_
  refine A0.iload (q := 8) d_prog_51_method_5_6 rfl rfl ?_
  refine A0.iloadN (q := 9) d_prog_51_method_5_8 rfl rfl ?_
  refine A0.iloadN (q := 10) d_prog_51_method_5_9 rfl rfl ?_
  refine A0.iadd (q := 11) d_prog_51_method_5_10 rfl ?_
  refine Wp.top (v' := (.int 2)) rfl ?_
  refine A0.icmpNo (q := 14) d_prog_51_method_5_11 (by decide) rfl ?_
  refine A0.aloadN (q := 15) d_prog_51_method_5_14 rfl rfl rfl ?_
  refine A0.iload (q := 17) d_prog_51_method_5_15 rfl rfl ?_
  refine A0.ldC (qn := 18) (i := 1) d_prog_51_method_5_17 rfl (by decide) rfl rfl ?_
  refine Here.callS (qn := 21) (os1 := [(a, ob0 (.long ln) (.int pv) (.long of) (.long ls) (.long pr)), (b, .inr (.char, [(.int c0), (.int c1)]))]) (os2 := []) (rest := []) (W := 0) (argsL := [(.int c0)]) A0 (m_plain l Z a0 hw c0) (Or.inl rfl) (tw hw 23 rfl) (tw hw 24 rfl) (tw hw 9 rfl) (tw hw 25 rfl) (by decide) d_prog_51_method_5_18 rfl (lenOf pd_2 rfl) rfl (Nat.le_of_eq rfl) (by decide) (by decide) (by decide) (by decide) rfl (fun T1 v2 os3 A4 P5 => ?_)
  obtain ⟨r_18, rfl, rfl⟩ := P5
  have A6 := A4.cast (k2 := 0) (n2 := 0) (os2 := [(a, ob0 (.long ln) (.int pv) (.long of) (.long ls) (.long pr)), (b, .inr (.char, [(.int c0), (.int c1)]))]) rfl rfl rfl
  by_cases hc21_7 : r_18 = (0 : Int32)
  · refine A6.ifNo (q := 24) d_prog_51_method_5_21 ((if0 _ _).trans (teq hc21_7).2) rfl ?_
    refine A6.aloadN (q := 25) d_prog_51_method_5_24 rfl rfl rfl ?_
    refine A6.aloadN (q := 26) d_prog_51_method_5_25 rfl rfl rfl ?_
    refine A6.iload (q := 28) d_prog_51_method_5_26 rfl rfl ?_
    refine A6.iload (q := 30) d_prog_51_method_5_28 rfl rfl ?_
    refine A6.iconst (q := 31) (v := 1) d_prog_51_method_5_30 rfl rfl ?_
    refine A6.iadd (q := 32) d_prog_51_method_5_31 rfl ?_
    refine Wp.top (v' := (.int 1)) rfl ?_
    refine A6.iload (q := 34) d_prog_51_method_5_32 rfl rfl ?_
    refine A6.isub (q := 35) d_prog_51_method_5_34 rfl ?_
    refine Wp.top (v' := (.int 1)) rfl ?_
    refine Here.callV (qn := 38) (os1 := []) (os2 := [(a, ob0 (.long ln) (.int pv) (.long of) (.long ls) (.long pr)), (b, .inr (.char, [(.int c0), (.int c1)]))]) (rest := []) (W := 0) (argsL := [(.ref b), (.int 0), (.int 1)]) (a := a) (i := 0) A6 (m_any l Z a0 hw a b ((0 : Int32)) ((1 : Int32)) ([(.int c0), (.int c1)]) c0 ((0 : Int32)) ln of ls pr pv (hp) (fun h => by first | exact ⟨by decide, rfl⟩ | exact absurd h (by decide)) (fun h => by first | exact ⟨by decide, rfl⟩ | exact absurd h (by decide))) (Or.inr ⟨rfl, rfl⟩) rfl (tw hw 26 rfl) (tw hw 27 rfl) (tw hw 29 rfl) (tw hw 28 rfl) (tw hw 9 rfl) (tw hw 30 rfl) (by decide) d_prog_51_method_5_35 rfl (lenOf pd_4 rfl) rfl (Nat.le_of_eq rfl) (by decide) (by decide) (by decide) (by decide) rfl (fun T8 v9 os10 A11 P12 => ?_)
    obtain ⟨ln1_35, of1_35, ls1_35, pr1_35, pv1_35, rfl, rfl, hq_35⟩ := P12
    have A13 := A11.cast (k2 := 0) (n2 := 0) (os2 := [(a, ob0 (.long ln1_35) (.int pv1_35) (.long of1_35) (.long ls1_35) (.long pr1_35)), (b, .inr (.char, [(.int c0), (.int c1)]))]) rfl rfl rfl
    refine A13.iload (q := 40) d_prog_51_method_5_38 rfl rfl ?_
    refine A13.iconst (q := 41) (v := 1) d_prog_51_method_5_40 rfl rfl ?_
    refine A13.iadd (q := 42) d_prog_51_method_5_41 rfl ?_
    refine Wp.top (v' := (.int 1)) rfl ?_
    refine A13.istore (q := 44) (l' := #[.val (.ref a), .val (.ref b), .val (.int 0), .val (.int 2), .val (.int 1), .val (.int 0)]) d_prog_51_method_5_42 rfl rfl ?_
    refine A13.iinc (q := 47) (l' := #[.val (.ref a), .val (.ref b), .val (.int 0), .val (.int 2), .val (.int 1), .val (.int 1)]) d_prog_51_method_5_44 rfl rfl rfl ?_
    refine A13.goto (q := 6) d_prog_51_method_5_47 (by decide) (by decide) ?_
    refine A13.iload (q := 8) d_prog_51_method_5_6 rfl rfl ?_
    refine A13.iloadN (q := 9) d_prog_51_method_5_8 rfl rfl ?_
    refine A13.iloadN (q := 10) d_prog_51_method_5_9 rfl rfl ?_
    refine A13.iadd (q := 11) d_prog_51_method_5_10 rfl ?_
    refine Wp.top (v' := (.int 2)) rfl ?_
    refine A13.icmpNo (q := 14) d_prog_51_method_5_11 (by decide) rfl ?_
    refine A13.aloadN (q := 15) d_prog_51_method_5_14 rfl rfl rfl ?_
    refine A13.iload (q := 17) d_prog_51_method_5_15 rfl rfl ?_
    refine A13.ldC (qn := 18) (i := 1) d_prog_51_method_5_17 rfl (by decide) rfl rfl ?_
    refine Here.callS (qn := 21) (os1 := [(a, ob0 (.long ln1_35) (.int pv1_35) (.long of1_35) (.long ls1_35) (.long pr1_35)), (b, .inr (.char, [(.int c0), (.int c1)]))]) (os2 := []) (rest := []) (W := 0) (argsL := [(.int c1)]) A13 (m_plain l Z a0 hw c1) (Or.inl rfl) (tw hw 23 rfl) (tw hw 24 rfl) (tw hw 9 rfl) (tw hw 25 rfl) (by decide) d_prog_51_method_5_18 rfl (lenOf pd_2 rfl) rfl (Nat.le_of_eq rfl) (by decide) (by decide) (by decide) (by decide) rfl (fun T14 v15 os16 A17 P18 => ?_)
    obtain ⟨r_18_2, rfl, rfl⟩ := P18
    have A19 := A17.cast (k2 := 0) (n2 := 0) (os2 := [(a, ob0 (.long ln1_35) (.int pv1_35) (.long of1_35) (.long ls1_35) (.long pr1_35)), (b, .inr (.char, [(.int c0), (.int c1)]))]) rfl rfl rfl
    by_cases hc21_20 : r_18_2 = (0 : Int32)
    · refine A19.ifNo (q := 24) d_prog_51_method_5_21 ((if0 _ _).trans (teq hc21_20).2) rfl ?_
      refine A19.aloadN (q := 25) d_prog_51_method_5_24 rfl rfl rfl ?_
      refine A19.aloadN (q := 26) d_prog_51_method_5_25 rfl rfl rfl ?_
      refine A19.iload (q := 28) d_prog_51_method_5_26 rfl rfl ?_
      refine A19.iload (q := 30) d_prog_51_method_5_28 rfl rfl ?_
      refine A19.iconst (q := 31) (v := 1) d_prog_51_method_5_30 rfl rfl ?_
      refine A19.iadd (q := 32) d_prog_51_method_5_31 rfl ?_
      refine Wp.top (v' := (.int 2)) rfl ?_
      refine A19.iload (q := 34) d_prog_51_method_5_32 rfl rfl ?_
      refine A19.isub (q := 35) d_prog_51_method_5_34 rfl ?_
      refine Wp.top (v' := (.int 1)) rfl ?_
      refine Here.callV (qn := 38) (os1 := []) (os2 := [(a, ob0 (.long ln1_35) (.int pv1_35) (.long of1_35) (.long ls1_35) (.long pr1_35)), (b, .inr (.char, [(.int c0), (.int c1)]))]) (rest := []) (W := 0) (argsL := [(.ref b), (.int 1), (.int 1)]) (a := a) (i := 0) A19 (m_any l Z a0 hw a b ((1 : Int32)) ((1 : Int32)) ([(.int c0), (.int c1)]) c1 c0 ln1_35 of1_35 ls1_35 pr1_35 pv1_35 (hq_35) (fun h => by first | exact ⟨by decide, rfl⟩ | exact absurd h (by decide)) (fun h => by first | exact ⟨by decide, rfl⟩ | exact absurd h (by decide))) (Or.inr ⟨rfl, rfl⟩) rfl (tw hw 26 rfl) (tw hw 27 rfl) (tw hw 29 rfl) (tw hw 28 rfl) (tw hw 9 rfl) (tw hw 30 rfl) (by decide) d_prog_51_method_5_35 rfl (lenOf pd_4 rfl) rfl (Nat.le_of_eq rfl) (by decide) (by decide) (by decide) (by decide) rfl (fun T21 v22 os23 A24 P25 => ?_)
      obtain ⟨ln1_35_2, of1_35_2, ls1_35_2, pr1_35_2, pv1_35_2, rfl, rfl, hq_35_2⟩ := P25
      have A26 := A24.cast (k2 := 0) (n2 := 0) (os2 := [(a, ob0 (.long ln1_35_2) (.int pv1_35_2) (.long of1_35_2) (.long ls1_35_2) (.long pr1_35_2)), (b, .inr (.char, [(.int c0), (.int c1)]))]) rfl rfl rfl
      refine A26.iload (q := 40) d_prog_51_method_5_38 rfl rfl ?_
      refine A26.iconst (q := 41) (v := 1) d_prog_51_method_5_40 rfl rfl ?_
      refine A26.iadd (q := 42) d_prog_51_method_5_41 rfl ?_
      refine Wp.top (v' := (.int 2)) rfl ?_
      refine A26.istore (q := 44) (l' := #[.val (.ref a), .val (.ref b), .val (.int 0), .val (.int 2), .val (.int 2), .val (.int 1)]) d_prog_51_method_5_42 rfl rfl ?_
      refine A26.iinc (q := 47) (l' := #[.val (.ref a), .val (.ref b), .val (.int 0), .val (.int 2), .val (.int 2), .val (.int 2)]) d_prog_51_method_5_44 rfl rfl rfl ?_
      refine A26.goto (q := 6) d_prog_51_method_5_47 (by decide) (by decide) ?_
      refine A26.iload (q := 8) d_prog_51_method_5_6 rfl rfl ?_
      refine A26.iloadN (q := 9) d_prog_51_method_5_8 rfl rfl ?_
      refine A26.iloadN (q := 10) d_prog_51_method_5_9 rfl rfl ?_
      refine A26.iadd (q := 11) d_prog_51_method_5_10 rfl ?_
      refine Wp.top (v' := (.int 2)) rfl ?_
      refine A26.icmpYes (q := 50) d_prog_51_method_5_11 (by decide) (by decide) (by decide) ?_
      refine A26.aloadN (q := 51) d_prog_51_method_5_50 rfl rfl rfl ?_
      refine A26.aloadN (q := 52) d_prog_51_method_5_51 rfl rfl rfl ?_
      refine A26.iload (q := 54) d_prog_51_method_5_52 rfl rfl ?_
      refine A26.iloadN (q := 55) d_prog_51_method_5_54 rfl rfl ?_
      refine A26.iloadN (q := 56) d_prog_51_method_5_55 rfl rfl ?_
      refine A26.iadd (q := 57) d_prog_51_method_5_56 rfl ?_
      refine Wp.top (v' := (.int 2)) rfl ?_
      refine A26.iload (q := 59) d_prog_51_method_5_57 rfl rfl ?_
      refine A26.isub (q := 60) d_prog_51_method_5_59 rfl ?_
      refine Wp.top (v' := (.int 0)) rfl ?_
      refine Here.callV (qn := 63) (os1 := []) (os2 := [(a, ob0 (.long ln1_35_2) (.int pv1_35_2) (.long of1_35_2) (.long ls1_35_2) (.long pr1_35_2)), (b, .inr (.char, [(.int c0), (.int c1)]))]) (rest := []) (W := 0) (argsL := [(.ref b), (.int 2), (.int 0)]) (a := a) (i := 0) A26 (m_any l Z a0 hw a b ((2 : Int32)) ((0 : Int32)) ([(.int c0), (.int c1)]) c1 c0 ln1_35_2 of1_35_2 ls1_35_2 pr1_35_2 pv1_35_2 (hq_35_2) (fun h => by first | exact ⟨by decide, rfl⟩ | exact absurd h (by decide)) (fun h => by first | exact ⟨by decide, rfl⟩ | exact absurd h (by decide))) (Or.inr ⟨rfl, rfl⟩) rfl (tw hw 26 rfl) (tw hw 27 rfl) (tw hw 29 rfl) (tw hw 28 rfl) (tw hw 9 rfl) (tw hw 30 rfl) (by decide) d_prog_51_method_5_60 rfl (lenOf pd_4 rfl) rfl (Nat.le_of_eq rfl) (by decide) (by decide) (by decide) (by decide) rfl (fun T27 v28 os29 A30 P31 => ?_)
      obtain ⟨ln1_60, of1_60, ls1_60, pr1_60, pv1_60, rfl, rfl, hq_60⟩ := P31
      have A32 := A30.cast (k2 := 0) (n2 := 0) (os2 := [(a, ob0 (.long ln1_60) (.int pv1_60) (.long of1_60) (.long ls1_60) (.long pr1_60)), (b, .inr (.char, [(.int c0), (.int c1)]))]) rfl rfl rfl
      refine A32.retV d_prog_51_method_5_63 (by decide) (by decide) ⟨ln1_60, of1_60, ls1_60, pr1_60, pv1_60, rfl, rfl, ?_⟩
      clear hw A0 A4 A6 A11 A13 A17 A19 A24 A26 A30 A32
      exact hq_60
    · refine A19.ifYes (q := 44) d_prog_51_method_5_21 ((if0 _ _).trans (feq hc21_20).2) (by decide) (by decide) ?_
      refine A19.iinc (q := 47) (l' := #[.val (.ref a), .val (.ref b), .val (.int 0), .val (.int 2), .val (.int 1), .val (.int 2)]) d_prog_51_method_5_44 rfl rfl rfl ?_
      refine A19.goto (q := 6) d_prog_51_method_5_47 (by decide) (by decide) ?_
      refine A19.iload (q := 8) d_prog_51_method_5_6 rfl rfl ?_
      refine A19.iloadN (q := 9) d_prog_51_method_5_8 rfl rfl ?_
      refine A19.iloadN (q := 10) d_prog_51_method_5_9 rfl rfl ?_
      refine A19.iadd (q := 11) d_prog_51_method_5_10 rfl ?_
      refine Wp.top (v' := (.int 2)) rfl ?_
      refine A19.icmpYes (q := 50) d_prog_51_method_5_11 (by decide) (by decide) (by decide) ?_
      refine A19.aloadN (q := 51) d_prog_51_method_5_50 rfl rfl rfl ?_
      refine A19.aloadN (q := 52) d_prog_51_method_5_51 rfl rfl rfl ?_
      refine A19.iload (q := 54) d_prog_51_method_5_52 rfl rfl ?_
      refine A19.iloadN (q := 55) d_prog_51_method_5_54 rfl rfl ?_
      refine A19.iloadN (q := 56) d_prog_51_method_5_55 rfl rfl ?_
      refine A19.iadd (q := 57) d_prog_51_method_5_56 rfl ?_
      refine Wp.top (v' := (.int 2)) rfl ?_
      refine A19.iload (q := 59) d_prog_51_method_5_57 rfl rfl ?_
      refine A19.isub (q := 60) d_prog_51_method_5_59 rfl ?_
      refine Wp.top (v' := (.int 1)) rfl ?_
      refine Here.callV (qn := 63) (os1 := []) (os2 := [(a, ob0 (.long ln1_35) (.int pv1_35) (.long of1_35) (.long ls1_35) (.long pr1_35)), (b, .inr (.char, [(.int c0), (.int c1)]))]) (rest := []) (W := 0) (argsL := [(.ref b), (.int 1), (.int 1)]) (a := a) (i := 0) A19 (m_any l Z a0 hw a b ((1 : Int32)) ((1 : Int32)) ([(.int c0), (.int c1)]) c1 c0 ln1_35 of1_35 ls1_35 pr1_35 pv1_35 (hq_35) (fun h => by first | exact ⟨by decide, rfl⟩ | exact absurd h (by decide)) (fun h => by first | exact ⟨by decide, rfl⟩ | exact absurd h (by decide))) (Or.inr ⟨rfl, rfl⟩) rfl (tw hw 26 rfl) (tw hw 27 rfl) (tw hw 29 rfl) (tw hw 28 rfl) (tw hw 9 rfl) (tw hw 30 rfl) (by decide) d_prog_51_method_5_60 rfl (lenOf pd_4 rfl) rfl (Nat.le_of_eq rfl) (by decide) (by decide) (by decide) (by decide) rfl (fun T33 v34 os35 A36 P37 => ?_)
      obtain ⟨ln1_60, of1_60, ls1_60, pr1_60, pv1_60, rfl, rfl, hq_60⟩ := P37
      have A38 := A36.cast (k2 := 0) (n2 := 0) (os2 := [(a, ob0 (.long ln1_60) (.int pv1_60) (.long of1_60) (.long ls1_60) (.long pr1_60)), (b, .inr (.char, [(.int c0), (.int c1)]))]) rfl rfl rfl
      refine A38.retV d_prog_51_method_5_63 (by decide) (by decide) ⟨ln1_60, of1_60, ls1_60, pr1_60, pv1_60, rfl, rfl, ?_⟩
      clear hw A0 A4 A6 A11 A13 A17 A19 A36 A38
      exact hq_60
  · refine A6.ifYes (q := 44) d_prog_51_method_5_21 ((if0 _ _).trans (feq hc21_7).2) (by decide) (by decide) ?_
    refine A6.iinc (q := 47) (l' := #[.val (.ref a), .val (.ref b), .val (.int 0), .val (.int 2), .val (.int 0), .val (.int 1)]) d_prog_51_method_5_44 rfl rfl rfl ?_
    refine A6.goto (q := 6) d_prog_51_method_5_47 (by decide) (by decide) ?_
    refine A6.iload (q := 8) d_prog_51_method_5_6 rfl rfl ?_
    refine A6.iloadN (q := 9) d_prog_51_method_5_8 rfl rfl ?_
    refine A6.iloadN (q := 10) d_prog_51_method_5_9 rfl rfl ?_
    refine A6.iadd (q := 11) d_prog_51_method_5_10 rfl ?_
    refine Wp.top (v' := (.int 2)) rfl ?_
    refine A6.icmpNo (q := 14) d_prog_51_method_5_11 (by decide) rfl ?_
    refine A6.aloadN (q := 15) d_prog_51_method_5_14 rfl rfl rfl ?_
    refine A6.iload (q := 17) d_prog_51_method_5_15 rfl rfl ?_
    refine A6.ldC (qn := 18) (i := 1) d_prog_51_method_5_17 rfl (by decide) rfl rfl ?_
    refine Here.callS (qn := 21) (os1 := [(a, ob0 (.long ln) (.int pv) (.long of) (.long ls) (.long pr)), (b, .inr (.char, [(.int c0), (.int c1)]))]) (os2 := []) (rest := []) (W := 0) (argsL := [(.int c1)]) A6 (m_plain l Z a0 hw c1) (Or.inl rfl) (tw hw 23 rfl) (tw hw 24 rfl) (tw hw 9 rfl) (tw hw 25 rfl) (by decide) d_prog_51_method_5_18 rfl (lenOf pd_2 rfl) rfl (Nat.le_of_eq rfl) (by decide) (by decide) (by decide) (by decide) rfl (fun T39 v40 os41 A42 P43 => ?_)
    obtain ⟨r_18_2, rfl, rfl⟩ := P43
    have A44 := A42.cast (k2 := 0) (n2 := 0) (os2 := [(a, ob0 (.long ln) (.int pv) (.long of) (.long ls) (.long pr)), (b, .inr (.char, [(.int c0), (.int c1)]))]) rfl rfl rfl
    by_cases hc21_45 : r_18_2 = (0 : Int32)
    · refine A44.ifNo (q := 24) d_prog_51_method_5_21 ((if0 _ _).trans (teq hc21_45).2) rfl ?_
      refine A44.aloadN (q := 25) d_prog_51_method_5_24 rfl rfl rfl ?_
      refine A44.aloadN (q := 26) d_prog_51_method_5_25 rfl rfl rfl ?_
      refine A44.iload (q := 28) d_prog_51_method_5_26 rfl rfl ?_
      refine A44.iload (q := 30) d_prog_51_method_5_28 rfl rfl ?_
      refine A44.iconst (q := 31) (v := 1) d_prog_51_method_5_30 rfl rfl ?_
      refine A44.iadd (q := 32) d_prog_51_method_5_31 rfl ?_
      refine Wp.top (v' := (.int 2)) rfl ?_
      refine A44.iload (q := 34) d_prog_51_method_5_32 rfl rfl ?_
      refine A44.isub (q := 35) d_prog_51_method_5_34 rfl ?_
      refine Wp.top (v' := (.int 2)) rfl ?_
      refine Here.callV (qn := 38) (os1 := []) (os2 := [(a, ob0 (.long ln) (.int pv) (.long of) (.long ls) (.long pr)), (b, .inr (.char, [(.int c0), (.int c1)]))]) (rest := []) (W := 0) (argsL := [(.ref b), (.int 0), (.int 2)]) (a := a) (i := 0) A44 (m_any l Z a0 hw a b ((0 : Int32)) ((2 : Int32)) ([(.int c0), (.int c1)]) c1 c0 ln of ls pr pv (hp) (fun h => by first | exact ⟨by decide, rfl⟩ | exact absurd h (by decide)) (fun h => by first | exact ⟨by decide, rfl⟩ | exact absurd h (by decide))) (Or.inr ⟨rfl, rfl⟩) rfl (tw hw 26 rfl) (tw hw 27 rfl) (tw hw 29 rfl) (tw hw 28 rfl) (tw hw 9 rfl) (tw hw 30 rfl) (by decide) d_prog_51_method_5_35 rfl (lenOf pd_4 rfl) rfl (Nat.le_of_eq rfl) (by decide) (by decide) (by decide) (by decide) rfl (fun T46 v47 os48 A49 P50 => ?_)
      obtain ⟨ln1_35, of1_35, ls1_35, pr1_35, pv1_35, rfl, rfl, hq_35⟩ := P50
      have A51 := A49.cast (k2 := 0) (n2 := 0) (os2 := [(a, ob0 (.long ln1_35) (.int pv1_35) (.long of1_35) (.long ls1_35) (.long pr1_35)), (b, .inr (.char, [(.int c0), (.int c1)]))]) rfl rfl rfl
      refine A51.iload (q := 40) d_prog_51_method_5_38 rfl rfl ?_
      refine A51.iconst (q := 41) (v := 1) d_prog_51_method_5_40 rfl rfl ?_
      refine A51.iadd (q := 42) d_prog_51_method_5_41 rfl ?_
      refine Wp.top (v' := (.int 2)) rfl ?_
      refine A51.istore (q := 44) (l' := #[.val (.ref a), .val (.ref b), .val (.int 0), .val (.int 2), .val (.int 2), .val (.int 1)]) d_prog_51_method_5_42 rfl rfl ?_
      refine A51.iinc (q := 47) (l' := #[.val (.ref a), .val (.ref b), .val (.int 0), .val (.int 2), .val (.int 2), .val (.int 2)]) d_prog_51_method_5_44 rfl rfl rfl ?_
      refine A51.goto (q := 6) d_prog_51_method_5_47 (by decide) (by decide) ?_
      refine A51.iload (q := 8) d_prog_51_method_5_6 rfl rfl ?_
      refine A51.iloadN (q := 9) d_prog_51_method_5_8 rfl rfl ?_
      refine A51.iloadN (q := 10) d_prog_51_method_5_9 rfl rfl ?_
      refine A51.iadd (q := 11) d_prog_51_method_5_10 rfl ?_
      refine Wp.top (v' := (.int 2)) rfl ?_
      refine A51.icmpYes (q := 50) d_prog_51_method_5_11 (by decide) (by decide) (by decide) ?_
      refine A51.aloadN (q := 51) d_prog_51_method_5_50 rfl rfl rfl ?_
      refine A51.aloadN (q := 52) d_prog_51_method_5_51 rfl rfl rfl ?_
      refine A51.iload (q := 54) d_prog_51_method_5_52 rfl rfl ?_
      refine A51.iloadN (q := 55) d_prog_51_method_5_54 rfl rfl ?_
      refine A51.iloadN (q := 56) d_prog_51_method_5_55 rfl rfl ?_
      refine A51.iadd (q := 57) d_prog_51_method_5_56 rfl ?_
      refine Wp.top (v' := (.int 2)) rfl ?_
      refine A51.iload (q := 59) d_prog_51_method_5_57 rfl rfl ?_
      refine A51.isub (q := 60) d_prog_51_method_5_59 rfl ?_
      refine Wp.top (v' := (.int 0)) rfl ?_
      refine Here.callV (qn := 63) (os1 := []) (os2 := [(a, ob0 (.long ln1_35) (.int pv1_35) (.long of1_35) (.long ls1_35) (.long pr1_35)), (b, .inr (.char, [(.int c0), (.int c1)]))]) (rest := []) (W := 0) (argsL := [(.ref b), (.int 2), (.int 0)]) (a := a) (i := 0) A51 (m_any l Z a0 hw a b ((2 : Int32)) ((0 : Int32)) ([(.int c0), (.int c1)]) c1 c0 ln1_35 of1_35 ls1_35 pr1_35 pv1_35 (hq_35) (fun h => by first | exact ⟨by decide, rfl⟩ | exact absurd h (by decide)) (fun h => by first | exact ⟨by decide, rfl⟩ | exact absurd h (by decide))) (Or.inr ⟨rfl, rfl⟩) rfl (tw hw 26 rfl) (tw hw 27 rfl) (tw hw 29 rfl) (tw hw 28 rfl) (tw hw 9 rfl) (tw hw 30 rfl) (by decide) d_prog_51_method_5_60 rfl (lenOf pd_4 rfl) rfl (Nat.le_of_eq rfl) (by decide) (by decide) (by decide) (by decide) rfl (fun T52 v53 os54 A55 P56 => ?_)
      obtain ⟨ln1_60, of1_60, ls1_60, pr1_60, pv1_60, rfl, rfl, hq_60⟩ := P56
      have A57 := A55.cast (k2 := 0) (n2 := 0) (os2 := [(a, ob0 (.long ln1_60) (.int pv1_60) (.long of1_60) (.long ls1_60) (.long pr1_60)), (b, .inr (.char, [(.int c0), (.int c1)]))]) rfl rfl rfl
      refine A57.retV d_prog_51_method_5_63 (by decide) (by decide) ⟨ln1_60, of1_60, ls1_60, pr1_60, pv1_60, rfl, rfl, ?_⟩
      clear hw A0 A4 A6 A42 A44 A49 A51 A55 A57
      exact hq_60
    · refine A44.ifYes (q := 44) d_prog_51_method_5_21 ((if0 _ _).trans (feq hc21_45).2) (by decide) (by decide) ?_
      refine A44.iinc (q := 47) (l' := #[.val (.ref a), .val (.ref b), .val (.int 0), .val (.int 2), .val (.int 0), .val (.int 2)]) d_prog_51_method_5_44 rfl rfl rfl ?_
      refine A44.goto (q := 6) d_prog_51_method_5_47 (by decide) (by decide) ?_
      refine A44.iload (q := 8) d_prog_51_method_5_6 rfl rfl ?_
      refine A44.iloadN (q := 9) d_prog_51_method_5_8 rfl rfl ?_
      refine A44.iloadN (q := 10) d_prog_51_method_5_9 rfl rfl ?_
      refine A44.iadd (q := 11) d_prog_51_method_5_10 rfl ?_
      refine Wp.top (v' := (.int 2)) rfl ?_
      refine A44.icmpYes (q := 50) d_prog_51_method_5_11 (by decide) (by decide) (by decide) ?_
      refine A44.aloadN (q := 51) d_prog_51_method_5_50 rfl rfl rfl ?_
      refine A44.aloadN (q := 52) d_prog_51_method_5_51 rfl rfl rfl ?_
      refine A44.iload (q := 54) d_prog_51_method_5_52 rfl rfl ?_
      refine A44.iloadN (q := 55) d_prog_51_method_5_54 rfl rfl ?_
      refine A44.iloadN (q := 56) d_prog_51_method_5_55 rfl rfl ?_
      refine A44.iadd (q := 57) d_prog_51_method_5_56 rfl ?_
      refine Wp.top (v' := (.int 2)) rfl ?_
      refine A44.iload (q := 59) d_prog_51_method_5_57 rfl rfl ?_
      refine A44.isub (q := 60) d_prog_51_method_5_59 rfl ?_
      refine Wp.top (v' := (.int 2)) rfl ?_
      refine Here.callV (qn := 63) (os1 := []) (os2 := [(a, ob0 (.long ln) (.int pv) (.long of) (.long ls) (.long pr)), (b, .inr (.char, [(.int c0), (.int c1)]))]) (rest := []) (W := 0) (argsL := [(.ref b), (.int 0), (.int 2)]) (a := a) (i := 0) A44 (m_any l Z a0 hw a b ((0 : Int32)) ((2 : Int32)) ([(.int c0), (.int c1)]) c1 c0 ln of ls pr pv (hp) (fun h => by first | exact ⟨by decide, rfl⟩ | exact absurd h (by decide)) (fun h => by first | exact ⟨by decide, rfl⟩ | exact absurd h (by decide))) (Or.inr ⟨rfl, rfl⟩) rfl (tw hw 26 rfl) (tw hw 27 rfl) (tw hw 29 rfl) (tw hw 28 rfl) (tw hw 9 rfl) (tw hw 30 rfl) (by decide) d_prog_51_method_5_60 rfl (lenOf pd_4 rfl) rfl (Nat.le_of_eq rfl) (by decide) (by decide) (by decide) (by decide) rfl (fun T58 v59 os60 A61 P62 => ?_)
      obtain ⟨ln1_60, of1_60, ls1_60, pr1_60, pv1_60, rfl, rfl, hq_60⟩ := P62
      have A63 := A61.cast (k2 := 0) (n2 := 0) (os2 := [(a, ob0 (.long ln1_60) (.int pv1_60) (.long of1_60) (.long ls1_60) (.long pr1_60)), (b, .inr (.char, [(.int c0), (.int c1)]))]) rfl rfl rfl
      refine A63.retV d_prog_51_method_5_63 (by decide) (by decide) ⟨ln1_60, of1_60, ls1_60, pr1_60, pv1_60, rfl, rfl, ?_⟩
      clear hw A0 A4 A6 A42 A44 A61 A63
      exact hq_60
theorem d_prog_51_method_3_0 : decode prog_51_method_3_code 0 = .ok (.aload_n 0, 1) := by decide +kernel
theorem d_prog_51_method_3_1 : decode prog_51_method_3_code 1 = .ok (.aload_n 1, 1) := by decide +kernel
theorem d_prog_51_method_3_2 : decode prog_51_method_3_code 2 = .ok (.getfield 7, 3) := by decide +kernel
theorem d_prog_51_method_3_5 : decode prog_51_method_3_code 5 = .ok (.putfield 7, 3) := by decide +kernel
theorem d_prog_51_method_3_8 : decode prog_51_method_3_code 8 = .ok (.aload_n 0, 1) := by decide +kernel
theorem d_prog_51_method_3_9 : decode prog_51_method_3_code 9 = .ok (.aload_n 1, 1) := by decide +kernel
theorem d_prog_51_method_3_10 : decode prog_51_method_3_code 10 = .ok (.getfield 17, 3) := by decide +kernel
theorem d_prog_51_method_3_13 : decode prog_51_method_3_code 13 = .ok (.putfield 17, 3) := by decide +kernel
theorem d_prog_51_method_3_16 : decode prog_51_method_3_code 16 = .ok (.aload_n 0, 1) := by decide +kernel
theorem d_prog_51_method_3_17 : decode prog_51_method_3_code 17 = .ok (.aload_n 1, 1) := by decide +kernel
theorem d_prog_51_method_3_18 : decode prog_51_method_3_code 18 = .ok (.getfield 20, 3) := by decide +kernel
theorem d_prog_51_method_3_21 : decode prog_51_method_3_code 21 = .ok (.putfield 20, 3) := by decide +kernel
theorem d_prog_51_method_3_24 : decode prog_51_method_3_code 24 = .ok (.aload_n 0, 1) := by decide +kernel
theorem d_prog_51_method_3_25 : decode prog_51_method_3_code 25 = .ok (.aload_n 1, 1) := by decide +kernel
theorem d_prog_51_method_3_26 : decode prog_51_method_3_code 26 = .ok (.getfield 23, 3) := by decide +kernel
theorem d_prog_51_method_3_29 : decode prog_51_method_3_code 29 = .ok (.putfield 23, 3) := by decide +kernel
theorem d_prog_51_method_3_32 : decode prog_51_method_3_code 32 = .ok (.aload_n 0, 1) := by decide +kernel
theorem d_prog_51_method_3_33 : decode prog_51_method_3_code 33 = .ok (.aload_n 1, 1) := by decide +kernel
theorem d_prog_51_method_3_34 : decode prog_51_method_3_code 34 = .ok (.getfield 26, 3) := by decide +kernel
theorem d_prog_51_method_3_37 : decode prog_51_method_3_code 37 = .ok (.putfield 26, 3) := by decide +kernel
theorem d_prog_51_method_3_40 : decode prog_51_method_3_code 40 = .ok (.return_, 1) := by decide +kernel
theorem ef_m_stand (m : MethodId) (x0 : Addr) (x1 : Addr) : entryFrame m #[(.ref x0), (.ref x1)] 2 = mkF m 0 #[.val (.ref x0), .val (.ref x1)] [] := by first | (simp [entryFrame, mkF, argsToLocals, Value.category]; done) | rfl
set_option maxRecDepth 65536 in
set_option maxHeartbeats 40000000 in
theorem m_stand (l : Launch) (Z : State) (a0 : Array Value) (hw : ∀ d ∈ tables_1, d.before a0 Z = true) (a : Addr) (b : Addr) (ln : Int64) (of : Int64) (ls : Int64) (pr : Int64) (pv : Int32) (lnb : Int64) (ofb : Int64) (lsb : Int64) (prb : Int64) (pvb : Int32) :
    Pays l Z a0 (⟨"com/example/fine_events/fineevents/PositionTracker", "standWhere", "(Lcom/example/fine_events/fineevents/PositionTracker;)V"⟩ : MethodName) prog_51_method_3_code 2 none ({ frames := 0, cells := 0, slots := 0, locals := 0 } : Room) #[(.ref a), (.ref b)] [(a, ob0 (.long ln) (.int pv) (.long of) (.long ls) (.long pr)), (b, ob0 (.long lnb) (.int pvb) (.long ofb) (.long lsb) (.long prb))] (([(a, ob0 (.long ln) (.int pv) (.long of) (.long ls) (.long pr)), (b, ob0 (.long lnb) (.int pvb) (.long ofb) (.long lsb) (.long prb))] : Hs).map (·.1)) (fun v os' => v = none ∧ os' = [(a, ob0 (.long lnb) (.int (nar .char pvb)) (.long ofb) (.long lsb) (.long prb)), (b, ob0 (.long lnb) (.int pvb) (.long ofb) (.long lsb) (.long prb))]) := by
  refine Pays.of (Ls := #[.val (.ref a), .val (.ref b)]) (plainFor_of_name pn_3) (fun m => ef_m_stand m a b) ?_
  intro p e s m below meth c T0 A0
  refine A0.aloadN (q := 1) d_prog_51_method_3_0 rfl rfl rfl ?_
  refine A0.aloadN (q := 2) d_prog_51_method_3_1 rfl rfl rfl ?_
  refine A0.getF (qn := 5) (i := 1) (j := 0) (tw hw 16 rfl) Via.refl d_prog_51_method_3_2 rfl rfl rfl (fun T1 A2 => ?_)
  refine A2.putF (qn := 8) (i := 0) (j := 0) (ty := .long) (tw hw 16 rfl) Via.refl (Or.inl (tw hw 17 rfl)) (tw hw 8 rfl) (by decide) rfl rfl d_prog_51_method_3_5 rfl rfl rfl rfl (fun T3 A4 => ?_)
  have A5 := A4.cast (k2 := 0) (n2 := 0) (os2 := [(a, ob0 (.long lnb) (.int pv) (.long of) (.long ls) (.long pr)), (b, ob0 (.long lnb) (.int pvb) (.long ofb) (.long lsb) (.long prb))]) rfl rfl rfl
  refine A5.aloadN (q := 9) d_prog_51_method_3_8 rfl rfl rfl ?_
  refine A5.aloadN (q := 10) d_prog_51_method_3_9 rfl rfl rfl ?_
  refine A5.getF (qn := 13) (i := 1) (j := 2) (tw hw 33 rfl) Via.refl d_prog_51_method_3_10 rfl rfl rfl (fun T6 A7 => ?_)
  refine A7.putF (qn := 16) (i := 0) (j := 2) (ty := .long) (tw hw 33 rfl) Via.refl (Or.inl (tw hw 34 rfl)) (tw hw 8 rfl) (by decide) rfl rfl d_prog_51_method_3_13 rfl rfl rfl rfl (fun T8 A9 => ?_)
  have A10 := A9.cast (k2 := 0) (n2 := 0) (os2 := [(a, ob0 (.long lnb) (.int pv) (.long ofb) (.long ls) (.long pr)), (b, ob0 (.long lnb) (.int pvb) (.long ofb) (.long lsb) (.long prb))]) rfl rfl rfl
  refine A10.aloadN (q := 17) d_prog_51_method_3_16 rfl rfl rfl ?_
  refine A10.aloadN (q := 18) d_prog_51_method_3_17 rfl rfl rfl ?_
  refine A10.getF (qn := 21) (i := 1) (j := 3) (tw hw 35 rfl) Via.refl d_prog_51_method_3_18 rfl rfl rfl (fun T11 A12 => ?_)
  refine A12.putF (qn := 24) (i := 0) (j := 3) (ty := .long) (tw hw 35 rfl) Via.refl (Or.inl (tw hw 36 rfl)) (tw hw 8 rfl) (by decide) rfl rfl d_prog_51_method_3_21 rfl rfl rfl rfl (fun T13 A14 => ?_)
  have A15 := A14.cast (k2 := 0) (n2 := 0) (os2 := [(a, ob0 (.long lnb) (.int pv) (.long ofb) (.long lsb) (.long pr)), (b, ob0 (.long lnb) (.int pvb) (.long ofb) (.long lsb) (.long prb))]) rfl rfl rfl
  refine A15.aloadN (q := 25) d_prog_51_method_3_24 rfl rfl rfl ?_
  refine A15.aloadN (q := 26) d_prog_51_method_3_25 rfl rfl rfl ?_
  refine A15.getF (qn := 29) (i := 1) (j := 4) (tw hw 37 rfl) Via.refl d_prog_51_method_3_26 rfl rfl rfl (fun T16 A17 => ?_)
  refine A17.putF (qn := 32) (i := 0) (j := 4) (ty := .long) (tw hw 37 rfl) Via.refl (Or.inl (tw hw 38 rfl)) (tw hw 8 rfl) (by decide) rfl rfl d_prog_51_method_3_29 rfl rfl rfl rfl (fun T18 A19 => ?_)
  have A20 := A19.cast (k2 := 0) (n2 := 0) (os2 := [(a, ob0 (.long lnb) (.int pv) (.long ofb) (.long lsb) (.long prb)), (b, ob0 (.long lnb) (.int pvb) (.long ofb) (.long lsb) (.long prb))]) rfl rfl rfl
  refine A20.aloadN (q := 33) d_prog_51_method_3_32 rfl rfl rfl ?_
  refine A20.aloadN (q := 34) d_prog_51_method_3_33 rfl rfl rfl ?_
  refine A20.getF (qn := 37) (i := 1) (j := 1) (tw hw 31 rfl) Via.refl d_prog_51_method_3_34 rfl rfl rfl (fun T21 A22 => ?_)
  refine A22.putFN (qn := 40) (i := 0) (j := 1) (ty := .char) (v' := (.int (nar .char pvb))) (tw hw 31 rfl) Via.refl (Or.inl (tw hw 32 rfl)) (tw hw 8 rfl) (by decide) rfl (fits_nar_char _) d_prog_51_method_3_37 rfl rfl rfl rfl (fun T23 A24 => ?_)
  have A25 := A24.cast (k2 := 0) (n2 := 0) (os2 := [(a, ob0 (.long lnb) (.int (nar .char pvb)) (.long ofb) (.long lsb) (.long prb)), (b, ob0 (.long lnb) (.int pvb) (.long ofb) (.long lsb) (.long prb))]) rfl rfl rfl
  exact A25.retV d_prog_51_method_3_40 (by decide) (by decide) ⟨rfl, rfl⟩
theorem ef_m_one (m : MethodId) (x0 : Addr) (x1 : Addr) : entryFrame m #[(.ref x0), (.ref x1), (.int 0), (.int 1)] 7 = mkF m 0 #[.val (.ref x0), .val (.ref x1), .val (.int 0), .val (.int 1), .unset, .unset, .unset] [] := by first | (simp [entryFrame, mkF, argsToLocals, Value.category]; done) | rfl
set_option maxRecDepth 65536 in
set_option maxHeartbeats 40000000 in
theorem m_one (l : Launch) (Z : State) (a0 : Array Value) (hw : ∀ d ∈ tables_1, d.before a0 Z = true) (a : Addr) (b : Addr) (z : Int32) (ln : Int64) (of : Int64) (ls : Int64) (pr : Int64) (pv : Int32) :
    Pays l Z a0 (⟨"com/example/fine_events/fineevents/PositionTracker", "advanceOverPlain", "([CII)V"⟩ : MethodName) prog_51_method_6_code 7 none ({ frames := 1, cells := 0, slots := 0, locals := 12 } : Room) #[(.ref a), (.ref b), (.int 0), (.int 1)] [(a, ob0 (.long ln) (.int pv) (.long of) (.long ls) (.long pr)), (b, .inr (.char, [(.int z)]))] (([(a, ob0 (.long ln) (.int pv) (.long of) (.long ls) (.long pr)), (b, .inr (.char, [(.int z)]))] : Hs).map (·.1)) (fun v os' => ∃ (ln1 : Int64), ∃ (of1 : Int64), ∃ (ls1 : Int64), ∃ (pr1 : Int64), ∃ (pv1 : Int32), v = none ∧ os' = [(a, ob0 (.long ln1) (.int pv1) (.long of1) (.long ls1) (.long pr1)), (b, .inr (.char, [(.int z)]))] ∧ ln1 = own_ln ln pv z ∧ of1 = of + (1 : Int32).toInt64 ∧ ls1 = own_ls of ls z ∧ pr1 = own_pr pr pv z) := by
  refine Pays.of (Ls := #[.val (.ref a), .val (.ref b), .val (.int 0), .val (.int 1), .unset, .unset, .unset]) (plainFor_of_name pn_3) (fun m => ef_m_one m a b) ?_
  intro p e s m below meth c T0 A0
  refine A0.iloadN (q := 1) d_prog_51_method_6_0 rfl rfl ?_
  refine A0.ifYes (q := 5) d_prog_51_method_6_1 (by decide) (by decide) (by decide) ?_
  refine A0.iloadN (q := 6) d_prog_51_method_6_5 rfl rfl ?_
  refine A0.iloadN (q := 7) d_prog_51_method_6_6 rfl rfl ?_
  refine A0.iadd (q := 8) d_prog_51_method_6_7 rfl ?_
  refine Wp.top (v' := (.int 1)) rfl ?_
  refine A0.iconst (q := 9) (v := 1) d_prog_51_method_6_8 rfl rfl ?_
  refine A0.isub (q := 10) d_prog_51_method_6_9 rfl ?_
  refine Wp.top (v' := (.int 0)) rfl ?_
  refine A0.istore (q := 12) (l' := #[.val (.ref a), .val (.ref b), .val (.int 0), .val (.int 1), .val (.int 0), .unset, .unset]) d_prog_51_method_6_10 rfl rfl ?_
  refine A0.aloadN (q := 13) d_prog_51_method_6_12 rfl rfl rfl ?_
  refine A0.iload (q := 15) d_prog_51_method_6_13 rfl rfl ?_
  refine A0.ldC (qn := 16) (i := 1) d_prog_51_method_6_15 rfl (by decide) rfl rfl ?_
  refine A0.istore (q := 18) (l' := #[.val (.ref a), .val (.ref b), .val (.int 0), .val (.int 1), .val (.int 0), .val (.int z), .unset]) d_prog_51_method_6_16 rfl rfl ?_
  refine A0.iload (q := 20) d_prog_51_method_6_18 rfl rfl ?_
  refine A0.iloadN (q := 21) d_prog_51_method_6_20 rfl rfl ?_
  refine A0.icmpYes (q := 33) d_prog_51_method_6_21 (by decide) (by decide) (by decide) ?_
  refine A0.aloadN (q := 34) d_prog_51_method_6_33 rfl rfl rfl ?_
  refine A0.getF (qn := 37) (i := 0) (j := 1) (tw hw 31 rfl) Via.refl d_prog_51_method_6_34 rfl rfl rfl (fun T1 A2 => ?_)
  refine A2.istore (q := 39) (l' := #[.val (.ref a), .val (.ref b), .val (.int 0), .val (.int 1), .val (.int 0), .val (.int z), .val (.int pv)]) d_prog_51_method_6_37 rfl rfl ?_
  refine A2.aloadN (q := 40) d_prog_51_method_6_39 rfl rfl rfl ?_
  refine A2.dup (q := 41) d_prog_51_method_6_40 rfl rfl ?_
  refine A2.getF (qn := 44) (i := 0) (j := 2) (tw hw 33 rfl) Via.refl d_prog_51_method_6_41 rfl rfl rfl (fun T3 A4 => ?_)
  refine A4.iloadN (q := 45) d_prog_51_method_6_44 rfl rfl ?_
  refine A4.i2l (q := 46) d_prog_51_method_6_45 rfl ?_
  refine A4.ladd (q := 47) d_prog_51_method_6_46 rfl ?_
  refine A4.putF (qn := 50) (i := 0) (j := 2) (ty := .long) (tw hw 33 rfl) Via.refl (Or.inl (tw hw 34 rfl)) (tw hw 8 rfl) (by decide) rfl rfl d_prog_51_method_6_47 rfl rfl rfl rfl (fun T5 A6 => ?_)
  have A7 := A6.cast (k2 := 0) (n2 := 0) (os2 := [(a, ob0 (.long ln) (.int pv) (.long (of + (1 : Int32).toInt64)) (.long ls) (.long pr)), (b, .inr (.char, [(.int z)]))]) rfl rfl rfl
  refine A7.iload (q := 52) d_prog_51_method_6_50 rfl rfl ?_
  refine A7.bipush (q := 54) (v := 13) d_prog_51_method_6_52 rfl rfl ?_
  by_cases hc54_8 : z = (13 : Int32)
  · refine A7.icmpYes (q := 64) d_prog_51_method_6_54 (teq hc54_8).1 (by decide) (by decide) ?_
    refine A7.iload (q := 66) d_prog_51_method_6_64 rfl rfl ?_
    refine A7.bipush (q := 68) (v := 13) d_prog_51_method_6_66 rfl rfl ?_
    by_cases hc68_9 : z = (13 : Int32)
    · refine A7.icmpYes (q := 78) d_prog_51_method_6_68 (teq hc68_9).1 (by decide) (by decide) ?_
      refine A7.aloadN (q := 79) d_prog_51_method_6_78 rfl rfl rfl ?_
      refine A7.dup (q := 80) d_prog_51_method_6_79 rfl rfl ?_
      refine A7.getF (qn := 83) (i := 0) (j := 0) (tw hw 16 rfl) Via.refl d_prog_51_method_6_80 rfl rfl rfl (fun T10 A11 => ?_)
      refine A11.lconst (q := 84) (v := 1) d_prog_51_method_6_83 rfl rfl ?_
      refine A11.ladd (q := 85) d_prog_51_method_6_84 rfl ?_
      refine A11.putF (qn := 88) (i := 0) (j := 0) (ty := .long) (tw hw 16 rfl) Via.refl (Or.inl (tw hw 17 rfl)) (tw hw 8 rfl) (by decide) rfl rfl d_prog_51_method_6_85 rfl rfl rfl rfl (fun T12 A13 => ?_)
      have A14 := A13.cast (k2 := 0) (n2 := 0) (os2 := [(a, ob0 (.long (ln + (1 : Int64))) (.int pv) (.long (of + (1 : Int32).toInt64)) (.long ls) (.long pr)), (b, .inr (.char, [(.int z)]))]) rfl rfl rfl
      refine A14.aloadN (q := 89) d_prog_51_method_6_88 rfl rfl rfl ?_
      refine A14.aloadN (q := 90) d_prog_51_method_6_89 rfl rfl rfl ?_
      refine A14.getF (qn := 93) (i := 0) (j := 2) (tw hw 33 rfl) Via.refl d_prog_51_method_6_90 rfl rfl rfl (fun T15 A16 => ?_)
      refine A16.putF (qn := 96) (i := 0) (j := 3) (ty := .long) (tw hw 35 rfl) Via.refl (Or.inl (tw hw 36 rfl)) (tw hw 8 rfl) (by decide) rfl rfl d_prog_51_method_6_93 rfl rfl rfl rfl (fun T17 A18 => ?_)
      have A19 := A18.cast (k2 := 0) (n2 := 0) (os2 := [(a, ob0 (.long (ln + (1 : Int64))) (.int pv) (.long (of + (1 : Int32).toInt64)) (.long (of + (1 : Int32).toInt64)) (.long pr)), (b, .inr (.char, [(.int z)]))]) rfl rfl rfl
      refine A19.aloadN (q := 97) d_prog_51_method_6_96 rfl rfl rfl ?_
      refine A19.lconst (q := 98) (v := 0) d_prog_51_method_6_97 rfl rfl ?_
      refine A19.putF (qn := 101) (i := 0) (j := 4) (ty := .long) (tw hw 37 rfl) Via.refl (Or.inl (tw hw 38 rfl)) (tw hw 8 rfl) (by decide) rfl rfl d_prog_51_method_6_98 rfl rfl rfl rfl (fun T20 A21 => ?_)
      have A22 := A21.cast (k2 := 0) (n2 := 0) (os2 := [(a, ob0 (.long (ln + (1 : Int64))) (.int pv) (.long (of + (1 : Int32).toInt64)) (.long (of + (1 : Int32).toInt64)) (.long 0)), (b, .inr (.char, [(.int z)]))]) rfl rfl rfl
      refine A22.goto (q := 130) d_prog_51_method_6_101 (by decide) (by decide) ?_
      refine A22.aloadN (q := 131) d_prog_51_method_6_130 rfl rfl rfl ?_
      refine A22.iload (q := 133) d_prog_51_method_6_131 rfl rfl ?_
      refine A22.putFN (qn := 136) (i := 0) (j := 1) (ty := .char) (v' := (.int (nar .char z))) (tw hw 31 rfl) Via.refl (Or.inl (tw hw 32 rfl)) (tw hw 8 rfl) (by decide) rfl (fits_nar_char _) d_prog_51_method_6_133 rfl rfl rfl rfl (fun T23 A24 => ?_)
      have A25 := A24.cast (k2 := 0) (n2 := 0) (os2 := [(a, ob0 (.long (ln + (1 : Int64))) (.int (nar .char z)) (.long (of + (1 : Int32).toInt64)) (.long (of + (1 : Int32).toInt64)) (.long 0)), (b, .inr (.char, [(.int z)]))]) rfl rfl rfl
      refine A25.retV d_prog_51_method_6_136 (by decide) (by decide) ⟨(ln + (1 : Int64)), (of + (1 : Int32).toInt64), (of + (1 : Int32).toInt64), (0 : Int64), (nar .char z), rfl, rfl, ?_⟩
      clear hw A0 A2 A4 A6 A7 A11 A13 A14 A16 A18 A19 A21 A22 A24 A25
      (try simp only [l32_0, l32_1] at hc54_8 hc68_9) <;> simp_all [own_ln, own_ls, own_pr] <;> omega
    · refine A7.icmpNo (q := 71) d_prog_51_method_6_68 (feq hc68_9).1 rfl ?_
      refine A7.iload (q := 73) d_prog_51_method_6_71 rfl rfl ?_
      refine A7.bipush (q := 75) (v := 13) d_prog_51_method_6_73 rfl rfl ?_
      by_cases hc75_26 : pv = (13 : Int32)
      · refine A7.icmpYes (q := 88) d_prog_51_method_6_75 (teq hc75_26).1 (by decide) (by decide) ?_
        refine A7.aloadN (q := 89) d_prog_51_method_6_88 rfl rfl rfl ?_
        refine A7.aloadN (q := 90) d_prog_51_method_6_89 rfl rfl rfl ?_
        refine A7.getF (qn := 93) (i := 0) (j := 2) (tw hw 33 rfl) Via.refl d_prog_51_method_6_90 rfl rfl rfl (fun T27 A28 => ?_)
        refine A28.putF (qn := 96) (i := 0) (j := 3) (ty := .long) (tw hw 35 rfl) Via.refl (Or.inl (tw hw 36 rfl)) (tw hw 8 rfl) (by decide) rfl rfl d_prog_51_method_6_93 rfl rfl rfl rfl (fun T29 A30 => ?_)
        have A31 := A30.cast (k2 := 0) (n2 := 0) (os2 := [(a, ob0 (.long ln) (.int pv) (.long (of + (1 : Int32).toInt64)) (.long (of + (1 : Int32).toInt64)) (.long pr)), (b, .inr (.char, [(.int z)]))]) rfl rfl rfl
        refine A31.aloadN (q := 97) d_prog_51_method_6_96 rfl rfl rfl ?_
        refine A31.lconst (q := 98) (v := 0) d_prog_51_method_6_97 rfl rfl ?_
        refine A31.putF (qn := 101) (i := 0) (j := 4) (ty := .long) (tw hw 37 rfl) Via.refl (Or.inl (tw hw 38 rfl)) (tw hw 8 rfl) (by decide) rfl rfl d_prog_51_method_6_98 rfl rfl rfl rfl (fun T32 A33 => ?_)
        have A34 := A33.cast (k2 := 0) (n2 := 0) (os2 := [(a, ob0 (.long ln) (.int pv) (.long (of + (1 : Int32).toInt64)) (.long (of + (1 : Int32).toInt64)) (.long 0)), (b, .inr (.char, [(.int z)]))]) rfl rfl rfl
        refine A34.goto (q := 130) d_prog_51_method_6_101 (by decide) (by decide) ?_
        refine A34.aloadN (q := 131) d_prog_51_method_6_130 rfl rfl rfl ?_
        refine A34.iload (q := 133) d_prog_51_method_6_131 rfl rfl ?_
        refine A34.putFN (qn := 136) (i := 0) (j := 1) (ty := .char) (v' := (.int (nar .char z))) (tw hw 31 rfl) Via.refl (Or.inl (tw hw 32 rfl)) (tw hw 8 rfl) (by decide) rfl (fits_nar_char _) d_prog_51_method_6_133 rfl rfl rfl rfl (fun T35 A36 => ?_)
        have A37 := A36.cast (k2 := 0) (n2 := 0) (os2 := [(a, ob0 (.long ln) (.int (nar .char z)) (.long (of + (1 : Int32).toInt64)) (.long (of + (1 : Int32).toInt64)) (.long 0)), (b, .inr (.char, [(.int z)]))]) rfl rfl rfl
        refine A37.retV d_prog_51_method_6_136 (by decide) (by decide) ⟨ln, (of + (1 : Int32).toInt64), (of + (1 : Int32).toInt64), (0 : Int64), (nar .char z), rfl, rfl, ?_⟩
        clear hw A0 A2 A4 A6 A7 A28 A30 A31 A33 A34 A36 A37
        (try simp only [l32_0, l32_1] at hc54_8 hc68_9 hc75_26) <;> simp_all [own_ln, own_ls, own_pr] <;> omega
      · refine A7.icmpNo (q := 78) d_prog_51_method_6_75 (feq hc75_26).1 rfl ?_
        refine A7.aloadN (q := 79) d_prog_51_method_6_78 rfl rfl rfl ?_
        refine A7.dup (q := 80) d_prog_51_method_6_79 rfl rfl ?_
        refine A7.getF (qn := 83) (i := 0) (j := 0) (tw hw 16 rfl) Via.refl d_prog_51_method_6_80 rfl rfl rfl (fun T38 A39 => ?_)
        refine A39.lconst (q := 84) (v := 1) d_prog_51_method_6_83 rfl rfl ?_
        refine A39.ladd (q := 85) d_prog_51_method_6_84 rfl ?_
        refine A39.putF (qn := 88) (i := 0) (j := 0) (ty := .long) (tw hw 16 rfl) Via.refl (Or.inl (tw hw 17 rfl)) (tw hw 8 rfl) (by decide) rfl rfl d_prog_51_method_6_85 rfl rfl rfl rfl (fun T40 A41 => ?_)
        have A42 := A41.cast (k2 := 0) (n2 := 0) (os2 := [(a, ob0 (.long (ln + (1 : Int64))) (.int pv) (.long (of + (1 : Int32).toInt64)) (.long ls) (.long pr)), (b, .inr (.char, [(.int z)]))]) rfl rfl rfl
        refine A42.aloadN (q := 89) d_prog_51_method_6_88 rfl rfl rfl ?_
        refine A42.aloadN (q := 90) d_prog_51_method_6_89 rfl rfl rfl ?_
        refine A42.getF (qn := 93) (i := 0) (j := 2) (tw hw 33 rfl) Via.refl d_prog_51_method_6_90 rfl rfl rfl (fun T43 A44 => ?_)
        refine A44.putF (qn := 96) (i := 0) (j := 3) (ty := .long) (tw hw 35 rfl) Via.refl (Or.inl (tw hw 36 rfl)) (tw hw 8 rfl) (by decide) rfl rfl d_prog_51_method_6_93 rfl rfl rfl rfl (fun T45 A46 => ?_)
        have A47 := A46.cast (k2 := 0) (n2 := 0) (os2 := [(a, ob0 (.long (ln + (1 : Int64))) (.int pv) (.long (of + (1 : Int32).toInt64)) (.long (of + (1 : Int32).toInt64)) (.long pr)), (b, .inr (.char, [(.int z)]))]) rfl rfl rfl
        refine A47.aloadN (q := 97) d_prog_51_method_6_96 rfl rfl rfl ?_
        refine A47.lconst (q := 98) (v := 0) d_prog_51_method_6_97 rfl rfl ?_
        refine A47.putF (qn := 101) (i := 0) (j := 4) (ty := .long) (tw hw 37 rfl) Via.refl (Or.inl (tw hw 38 rfl)) (tw hw 8 rfl) (by decide) rfl rfl d_prog_51_method_6_98 rfl rfl rfl rfl (fun T48 A49 => ?_)
        have A50 := A49.cast (k2 := 0) (n2 := 0) (os2 := [(a, ob0 (.long (ln + (1 : Int64))) (.int pv) (.long (of + (1 : Int32).toInt64)) (.long (of + (1 : Int32).toInt64)) (.long 0)), (b, .inr (.char, [(.int z)]))]) rfl rfl rfl
        refine A50.goto (q := 130) d_prog_51_method_6_101 (by decide) (by decide) ?_
        refine A50.aloadN (q := 131) d_prog_51_method_6_130 rfl rfl rfl ?_
        refine A50.iload (q := 133) d_prog_51_method_6_131 rfl rfl ?_
        refine A50.putFN (qn := 136) (i := 0) (j := 1) (ty := .char) (v' := (.int (nar .char z))) (tw hw 31 rfl) Via.refl (Or.inl (tw hw 32 rfl)) (tw hw 8 rfl) (by decide) rfl (fits_nar_char _) d_prog_51_method_6_133 rfl rfl rfl rfl (fun T51 A52 => ?_)
        have A53 := A52.cast (k2 := 0) (n2 := 0) (os2 := [(a, ob0 (.long (ln + (1 : Int64))) (.int (nar .char z)) (.long (of + (1 : Int32).toInt64)) (.long (of + (1 : Int32).toInt64)) (.long 0)), (b, .inr (.char, [(.int z)]))]) rfl rfl rfl
        refine A53.retV d_prog_51_method_6_136 (by decide) (by decide) ⟨(ln + (1 : Int64)), (of + (1 : Int32).toInt64), (of + (1 : Int32).toInt64), (0 : Int64), (nar .char z), rfl, rfl, ?_⟩
        clear hw A0 A2 A4 A6 A7 A39 A41 A42 A44 A46 A47 A49 A50 A52 A53
        (try simp only [l32_0, l32_1] at hc54_8 hc68_9 hc75_26) <;> simp_all [own_ln, own_ls, own_pr] <;> omega
  · refine A7.icmpNo (q := 57) d_prog_51_method_6_54 (feq hc54_8).1 rfl ?_
    refine A7.iload (q := 59) d_prog_51_method_6_57 rfl rfl ?_
    refine A7.bipush (q := 61) (v := 10) d_prog_51_method_6_59 rfl rfl ?_
    by_cases hc61_54 : z = (10 : Int32)
    · refine A7.icmpNo (q := 64) d_prog_51_method_6_61 (teq hc61_54).2 rfl ?_
      refine A7.iload (q := 66) d_prog_51_method_6_64 rfl rfl ?_
      refine A7.bipush (q := 68) (v := 13) d_prog_51_method_6_66 rfl rfl ?_
      by_cases hc68_55 : z = (13 : Int32)
      · refine A7.icmpYes (q := 78) d_prog_51_method_6_68 (teq hc68_55).1 (by decide) (by decide) ?_
        refine A7.aloadN (q := 79) d_prog_51_method_6_78 rfl rfl rfl ?_
        refine A7.dup (q := 80) d_prog_51_method_6_79 rfl rfl ?_
        refine A7.getF (qn := 83) (i := 0) (j := 0) (tw hw 16 rfl) Via.refl d_prog_51_method_6_80 rfl rfl rfl (fun T56 A57 => ?_)
        refine A57.lconst (q := 84) (v := 1) d_prog_51_method_6_83 rfl rfl ?_
        refine A57.ladd (q := 85) d_prog_51_method_6_84 rfl ?_
        refine A57.putF (qn := 88) (i := 0) (j := 0) (ty := .long) (tw hw 16 rfl) Via.refl (Or.inl (tw hw 17 rfl)) (tw hw 8 rfl) (by decide) rfl rfl d_prog_51_method_6_85 rfl rfl rfl rfl (fun T58 A59 => ?_)
        have A60 := A59.cast (k2 := 0) (n2 := 0) (os2 := [(a, ob0 (.long (ln + (1 : Int64))) (.int pv) (.long (of + (1 : Int32).toInt64)) (.long ls) (.long pr)), (b, .inr (.char, [(.int z)]))]) rfl rfl rfl
        refine A60.aloadN (q := 89) d_prog_51_method_6_88 rfl rfl rfl ?_
        refine A60.aloadN (q := 90) d_prog_51_method_6_89 rfl rfl rfl ?_
        refine A60.getF (qn := 93) (i := 0) (j := 2) (tw hw 33 rfl) Via.refl d_prog_51_method_6_90 rfl rfl rfl (fun T61 A62 => ?_)
        refine A62.putF (qn := 96) (i := 0) (j := 3) (ty := .long) (tw hw 35 rfl) Via.refl (Or.inl (tw hw 36 rfl)) (tw hw 8 rfl) (by decide) rfl rfl d_prog_51_method_6_93 rfl rfl rfl rfl (fun T63 A64 => ?_)
        have A65 := A64.cast (k2 := 0) (n2 := 0) (os2 := [(a, ob0 (.long (ln + (1 : Int64))) (.int pv) (.long (of + (1 : Int32).toInt64)) (.long (of + (1 : Int32).toInt64)) (.long pr)), (b, .inr (.char, [(.int z)]))]) rfl rfl rfl
        refine A65.aloadN (q := 97) d_prog_51_method_6_96 rfl rfl rfl ?_
        refine A65.lconst (q := 98) (v := 0) d_prog_51_method_6_97 rfl rfl ?_
        refine A65.putF (qn := 101) (i := 0) (j := 4) (ty := .long) (tw hw 37 rfl) Via.refl (Or.inl (tw hw 38 rfl)) (tw hw 8 rfl) (by decide) rfl rfl d_prog_51_method_6_98 rfl rfl rfl rfl (fun T66 A67 => ?_)
        have A68 := A67.cast (k2 := 0) (n2 := 0) (os2 := [(a, ob0 (.long (ln + (1 : Int64))) (.int pv) (.long (of + (1 : Int32).toInt64)) (.long (of + (1 : Int32).toInt64)) (.long 0)), (b, .inr (.char, [(.int z)]))]) rfl rfl rfl
        refine A68.goto (q := 130) d_prog_51_method_6_101 (by decide) (by decide) ?_
        refine A68.aloadN (q := 131) d_prog_51_method_6_130 rfl rfl rfl ?_
        refine A68.iload (q := 133) d_prog_51_method_6_131 rfl rfl ?_
        refine A68.putFN (qn := 136) (i := 0) (j := 1) (ty := .char) (v' := (.int (nar .char z))) (tw hw 31 rfl) Via.refl (Or.inl (tw hw 32 rfl)) (tw hw 8 rfl) (by decide) rfl (fits_nar_char _) d_prog_51_method_6_133 rfl rfl rfl rfl (fun T69 A70 => ?_)
        have A71 := A70.cast (k2 := 0) (n2 := 0) (os2 := [(a, ob0 (.long (ln + (1 : Int64))) (.int (nar .char z)) (.long (of + (1 : Int32).toInt64)) (.long (of + (1 : Int32).toInt64)) (.long 0)), (b, .inr (.char, [(.int z)]))]) rfl rfl rfl
        refine A71.retV d_prog_51_method_6_136 (by decide) (by decide) ⟨(ln + (1 : Int64)), (of + (1 : Int32).toInt64), (of + (1 : Int32).toInt64), (0 : Int64), (nar .char z), rfl, rfl, ?_⟩
        clear hw A0 A2 A4 A6 A7 A57 A59 A60 A62 A64 A65 A67 A68 A70 A71
        (try simp only [l32_0, l32_1] at hc54_8 hc61_54 hc68_55) <;> simp_all [own_ln, own_ls, own_pr] <;> omega
      · refine A7.icmpNo (q := 71) d_prog_51_method_6_68 (feq hc68_55).1 rfl ?_
        refine A7.iload (q := 73) d_prog_51_method_6_71 rfl rfl ?_
        refine A7.bipush (q := 75) (v := 13) d_prog_51_method_6_73 rfl rfl ?_
        by_cases hc75_72 : pv = (13 : Int32)
        · refine A7.icmpYes (q := 88) d_prog_51_method_6_75 (teq hc75_72).1 (by decide) (by decide) ?_
          refine A7.aloadN (q := 89) d_prog_51_method_6_88 rfl rfl rfl ?_
          refine A7.aloadN (q := 90) d_prog_51_method_6_89 rfl rfl rfl ?_
          refine A7.getF (qn := 93) (i := 0) (j := 2) (tw hw 33 rfl) Via.refl d_prog_51_method_6_90 rfl rfl rfl (fun T73 A74 => ?_)
          refine A74.putF (qn := 96) (i := 0) (j := 3) (ty := .long) (tw hw 35 rfl) Via.refl (Or.inl (tw hw 36 rfl)) (tw hw 8 rfl) (by decide) rfl rfl d_prog_51_method_6_93 rfl rfl rfl rfl (fun T75 A76 => ?_)
          have A77 := A76.cast (k2 := 0) (n2 := 0) (os2 := [(a, ob0 (.long ln) (.int pv) (.long (of + (1 : Int32).toInt64)) (.long (of + (1 : Int32).toInt64)) (.long pr)), (b, .inr (.char, [(.int z)]))]) rfl rfl rfl
          refine A77.aloadN (q := 97) d_prog_51_method_6_96 rfl rfl rfl ?_
          refine A77.lconst (q := 98) (v := 0) d_prog_51_method_6_97 rfl rfl ?_
          refine A77.putF (qn := 101) (i := 0) (j := 4) (ty := .long) (tw hw 37 rfl) Via.refl (Or.inl (tw hw 38 rfl)) (tw hw 8 rfl) (by decide) rfl rfl d_prog_51_method_6_98 rfl rfl rfl rfl (fun T78 A79 => ?_)
          have A80 := A79.cast (k2 := 0) (n2 := 0) (os2 := [(a, ob0 (.long ln) (.int pv) (.long (of + (1 : Int32).toInt64)) (.long (of + (1 : Int32).toInt64)) (.long 0)), (b, .inr (.char, [(.int z)]))]) rfl rfl rfl
          refine A80.goto (q := 130) d_prog_51_method_6_101 (by decide) (by decide) ?_
          refine A80.aloadN (q := 131) d_prog_51_method_6_130 rfl rfl rfl ?_
          refine A80.iload (q := 133) d_prog_51_method_6_131 rfl rfl ?_
          refine A80.putFN (qn := 136) (i := 0) (j := 1) (ty := .char) (v' := (.int (nar .char z))) (tw hw 31 rfl) Via.refl (Or.inl (tw hw 32 rfl)) (tw hw 8 rfl) (by decide) rfl (fits_nar_char _) d_prog_51_method_6_133 rfl rfl rfl rfl (fun T81 A82 => ?_)
          have A83 := A82.cast (k2 := 0) (n2 := 0) (os2 := [(a, ob0 (.long ln) (.int (nar .char z)) (.long (of + (1 : Int32).toInt64)) (.long (of + (1 : Int32).toInt64)) (.long 0)), (b, .inr (.char, [(.int z)]))]) rfl rfl rfl
          refine A83.retV d_prog_51_method_6_136 (by decide) (by decide) ⟨ln, (of + (1 : Int32).toInt64), (of + (1 : Int32).toInt64), (0 : Int64), (nar .char z), rfl, rfl, ?_⟩
          clear hw A0 A2 A4 A6 A7 A74 A76 A77 A79 A80 A82 A83
          (try simp only [l32_0, l32_1] at hc54_8 hc61_54 hc68_55 hc75_72) <;> simp_all [own_ln, own_ls, own_pr] <;> omega
        · refine A7.icmpNo (q := 78) d_prog_51_method_6_75 (feq hc75_72).1 rfl ?_
          refine A7.aloadN (q := 79) d_prog_51_method_6_78 rfl rfl rfl ?_
          refine A7.dup (q := 80) d_prog_51_method_6_79 rfl rfl ?_
          refine A7.getF (qn := 83) (i := 0) (j := 0) (tw hw 16 rfl) Via.refl d_prog_51_method_6_80 rfl rfl rfl (fun T84 A85 => ?_)
          refine A85.lconst (q := 84) (v := 1) d_prog_51_method_6_83 rfl rfl ?_
          refine A85.ladd (q := 85) d_prog_51_method_6_84 rfl ?_
          refine A85.putF (qn := 88) (i := 0) (j := 0) (ty := .long) (tw hw 16 rfl) Via.refl (Or.inl (tw hw 17 rfl)) (tw hw 8 rfl) (by decide) rfl rfl d_prog_51_method_6_85 rfl rfl rfl rfl (fun T86 A87 => ?_)
          have A88 := A87.cast (k2 := 0) (n2 := 0) (os2 := [(a, ob0 (.long (ln + (1 : Int64))) (.int pv) (.long (of + (1 : Int32).toInt64)) (.long ls) (.long pr)), (b, .inr (.char, [(.int z)]))]) rfl rfl rfl
          refine A88.aloadN (q := 89) d_prog_51_method_6_88 rfl rfl rfl ?_
          refine A88.aloadN (q := 90) d_prog_51_method_6_89 rfl rfl rfl ?_
          refine A88.getF (qn := 93) (i := 0) (j := 2) (tw hw 33 rfl) Via.refl d_prog_51_method_6_90 rfl rfl rfl (fun T89 A90 => ?_)
          refine A90.putF (qn := 96) (i := 0) (j := 3) (ty := .long) (tw hw 35 rfl) Via.refl (Or.inl (tw hw 36 rfl)) (tw hw 8 rfl) (by decide) rfl rfl d_prog_51_method_6_93 rfl rfl rfl rfl (fun T91 A92 => ?_)
          have A93 := A92.cast (k2 := 0) (n2 := 0) (os2 := [(a, ob0 (.long (ln + (1 : Int64))) (.int pv) (.long (of + (1 : Int32).toInt64)) (.long (of + (1 : Int32).toInt64)) (.long pr)), (b, .inr (.char, [(.int z)]))]) rfl rfl rfl
          refine A93.aloadN (q := 97) d_prog_51_method_6_96 rfl rfl rfl ?_
          refine A93.lconst (q := 98) (v := 0) d_prog_51_method_6_97 rfl rfl ?_
          refine A93.putF (qn := 101) (i := 0) (j := 4) (ty := .long) (tw hw 37 rfl) Via.refl (Or.inl (tw hw 38 rfl)) (tw hw 8 rfl) (by decide) rfl rfl d_prog_51_method_6_98 rfl rfl rfl rfl (fun T94 A95 => ?_)
          have A96 := A95.cast (k2 := 0) (n2 := 0) (os2 := [(a, ob0 (.long (ln + (1 : Int64))) (.int pv) (.long (of + (1 : Int32).toInt64)) (.long (of + (1 : Int32).toInt64)) (.long 0)), (b, .inr (.char, [(.int z)]))]) rfl rfl rfl
          refine A96.goto (q := 130) d_prog_51_method_6_101 (by decide) (by decide) ?_
          refine A96.aloadN (q := 131) d_prog_51_method_6_130 rfl rfl rfl ?_
          refine A96.iload (q := 133) d_prog_51_method_6_131 rfl rfl ?_
          refine A96.putFN (qn := 136) (i := 0) (j := 1) (ty := .char) (v' := (.int (nar .char z))) (tw hw 31 rfl) Via.refl (Or.inl (tw hw 32 rfl)) (tw hw 8 rfl) (by decide) rfl (fits_nar_char _) d_prog_51_method_6_133 rfl rfl rfl rfl (fun T97 A98 => ?_)
          have A99 := A98.cast (k2 := 0) (n2 := 0) (os2 := [(a, ob0 (.long (ln + (1 : Int64))) (.int (nar .char z)) (.long (of + (1 : Int32).toInt64)) (.long (of + (1 : Int32).toInt64)) (.long 0)), (b, .inr (.char, [(.int z)]))]) rfl rfl rfl
          refine A99.retV d_prog_51_method_6_136 (by decide) (by decide) ⟨(ln + (1 : Int64)), (of + (1 : Int32).toInt64), (of + (1 : Int32).toInt64), (0 : Int64), (nar .char z), rfl, rfl, ?_⟩
          clear hw A0 A2 A4 A6 A7 A85 A87 A88 A90 A92 A93 A95 A96 A98 A99
          (try simp only [l32_0, l32_1] at hc54_8 hc61_54 hc68_55 hc75_72) <;> simp_all [own_ln, own_ls, own_pr] <;> omega
    · refine A7.icmpYes (q := 104) d_prog_51_method_6_61 (feq hc61_54).2 (by decide) (by decide) ?_
      refine A7.iload (q := 106) d_prog_51_method_6_104 rfl rfl ?_
      refine Here.callS (qn := 109) (os1 := [(a, ob0 (.long ln) (.int pv) (.long (of + (1 : Int32).toInt64)) (.long ls) (.long pr)), (b, .inr (.char, [(.int z)]))]) (os2 := []) (rest := []) (W := 0) (argsL := [(.int z)]) A7 (m_low l Z a0 hw z) (Or.inl rfl) (tw hw 39 rfl) (tw hw 40 rfl) (tw hw 41 rfl) (tw hw 42 rfl) (by decide) d_prog_51_method_6_106 rfl (lenOf pd_2 rfl) rfl (Nat.le_of_eq rfl) (by decide) (by decide) (by decide) (by decide) rfl (fun T100 v101 os102 A103 P104 => ?_)
      obtain ⟨r_106, rfl, rfl, hq_106⟩ := P104
      have A105 := A103.cast (k2 := 0) (n2 := 0) (os2 := [(a, ob0 (.long ln) (.int pv) (.long (of + (1 : Int32).toInt64)) (.long ls) (.long pr)), (b, .inr (.char, [(.int z)]))]) rfl rfl rfl
      by_cases hc109_106 : r_106 = (0 : Int32)
      · refine A105.ifYes (q := 130) d_prog_51_method_6_109 ((if0 _ _).trans (teq hc109_106).1) (by decide) (by decide) ?_
        refine A105.aloadN (q := 131) d_prog_51_method_6_130 rfl rfl rfl ?_
        refine A105.iload (q := 133) d_prog_51_method_6_131 rfl rfl ?_
        refine A105.putFN (qn := 136) (i := 0) (j := 1) (ty := .char) (v' := (.int (nar .char z))) (tw hw 31 rfl) Via.refl (Or.inl (tw hw 32 rfl)) (tw hw 8 rfl) (by decide) rfl (fits_nar_char _) d_prog_51_method_6_133 rfl rfl rfl rfl (fun T107 A108 => ?_)
        have A109 := A108.cast (k2 := 0) (n2 := 0) (os2 := [(a, ob0 (.long ln) (.int (nar .char z)) (.long (of + (1 : Int32).toInt64)) (.long ls) (.long pr)), (b, .inr (.char, [(.int z)]))]) rfl rfl rfl
        refine A109.retV d_prog_51_method_6_136 (by decide) (by decide) ⟨ln, (of + (1 : Int32).toInt64), ls, pr, (nar .char z), rfl, rfl, ?_⟩
        clear hw A0 A2 A4 A6 A7 A103 A105 A108 A109
        (try simp only [l32_0, l32_1] at hc54_8 hc61_54 hq_106 hc109_106) <;> simp_all [own_ln, own_ls, own_pr] <;> omega
      · refine A105.ifNo (q := 112) d_prog_51_method_6_109 ((if0 _ _).trans (feq hc109_106).1) rfl ?_
        refine A105.iload (q := 114) d_prog_51_method_6_112 rfl rfl ?_
        refine Here.callS (qn := 117) (os1 := [(a, ob0 (.long ln) (.int pv) (.long (of + (1 : Int32).toInt64)) (.long ls) (.long pr)), (b, .inr (.char, [(.int z)]))]) (os2 := []) (rest := []) (W := 0) (argsL := [(.int pv)]) A105 (m_high l Z a0 hw pv) (Or.inl rfl) (tw hw 45 rfl) (tw hw 46 rfl) (tw hw 41 rfl) (tw hw 47 rfl) (by decide) d_prog_51_method_6_114 rfl (lenOf pd_2 rfl) rfl (Nat.le_of_eq rfl) (by decide) (by decide) (by decide) (by decide) rfl (fun T110 v111 os112 A113 P114 => ?_)
        obtain ⟨r_114, rfl, rfl, hq_114⟩ := P114
        have A115 := A113.cast (k2 := 0) (n2 := 0) (os2 := [(a, ob0 (.long ln) (.int pv) (.long (of + (1 : Int32).toInt64)) (.long ls) (.long pr)), (b, .inr (.char, [(.int z)]))]) rfl rfl rfl
        by_cases hc117_116 : r_114 = (0 : Int32)
        · refine A115.ifYes (q := 130) d_prog_51_method_6_117 ((if0 _ _).trans (teq hc117_116).1) (by decide) (by decide) ?_
          refine A115.aloadN (q := 131) d_prog_51_method_6_130 rfl rfl rfl ?_
          refine A115.iload (q := 133) d_prog_51_method_6_131 rfl rfl ?_
          refine A115.putFN (qn := 136) (i := 0) (j := 1) (ty := .char) (v' := (.int (nar .char z))) (tw hw 31 rfl) Via.refl (Or.inl (tw hw 32 rfl)) (tw hw 8 rfl) (by decide) rfl (fits_nar_char _) d_prog_51_method_6_133 rfl rfl rfl rfl (fun T117 A118 => ?_)
          have A119 := A118.cast (k2 := 0) (n2 := 0) (os2 := [(a, ob0 (.long ln) (.int (nar .char z)) (.long (of + (1 : Int32).toInt64)) (.long ls) (.long pr)), (b, .inr (.char, [(.int z)]))]) rfl rfl rfl
          refine A119.retV d_prog_51_method_6_136 (by decide) (by decide) ⟨ln, (of + (1 : Int32).toInt64), ls, pr, (nar .char z), rfl, rfl, ?_⟩
          clear hw A0 A2 A4 A6 A7 A103 A105 A113 A115 A118 A119
          (try simp only [l32_0, l32_1] at hc54_8 hc61_54 hq_106 hc109_106 hq_114 hc117_116) <;> simp_all [own_ln, own_ls, own_pr] <;> omega
        · refine A115.ifNo (q := 120) d_prog_51_method_6_117 ((if0 _ _).trans (feq hc117_116).1) rfl ?_
          refine A115.aloadN (q := 121) d_prog_51_method_6_120 rfl rfl rfl ?_
          refine A115.dup (q := 122) d_prog_51_method_6_121 rfl rfl ?_
          refine A115.getF (qn := 125) (i := 0) (j := 4) (tw hw 37 rfl) Via.refl d_prog_51_method_6_122 rfl rfl rfl (fun T120 A121 => ?_)
          refine A121.lconst (q := 126) (v := 1) d_prog_51_method_6_125 rfl rfl ?_
          refine A121.ladd (q := 127) d_prog_51_method_6_126 rfl ?_
          refine A121.putF (qn := 130) (i := 0) (j := 4) (ty := .long) (tw hw 37 rfl) Via.refl (Or.inl (tw hw 38 rfl)) (tw hw 8 rfl) (by decide) rfl rfl d_prog_51_method_6_127 rfl rfl rfl rfl (fun T122 A123 => ?_)
          have A124 := A123.cast (k2 := 0) (n2 := 0) (os2 := [(a, ob0 (.long ln) (.int pv) (.long (of + (1 : Int32).toInt64)) (.long ls) (.long (pr + (1 : Int64)))), (b, .inr (.char, [(.int z)]))]) rfl rfl rfl
          refine A124.aloadN (q := 131) d_prog_51_method_6_130 rfl rfl rfl ?_
          refine A124.iload (q := 133) d_prog_51_method_6_131 rfl rfl ?_
          refine A124.putFN (qn := 136) (i := 0) (j := 1) (ty := .char) (v' := (.int (nar .char z))) (tw hw 31 rfl) Via.refl (Or.inl (tw hw 32 rfl)) (tw hw 8 rfl) (by decide) rfl (fits_nar_char _) d_prog_51_method_6_133 rfl rfl rfl rfl (fun T125 A126 => ?_)
          have A127 := A126.cast (k2 := 0) (n2 := 0) (os2 := [(a, ob0 (.long ln) (.int (nar .char z)) (.long (of + (1 : Int32).toInt64)) (.long ls) (.long (pr + (1 : Int64)))), (b, .inr (.char, [(.int z)]))]) rfl rfl rfl
          refine A127.retV d_prog_51_method_6_136 (by decide) (by decide) ⟨ln, (of + (1 : Int32).toInt64), ls, (pr + (1 : Int64)), (nar .char z), rfl, rfl, ?_⟩
          clear hw A0 A2 A4 A6 A7 A103 A105 A113 A115 A121 A123 A124 A126 A127
          (try simp only [l32_0, l32_1] at hc54_8 hc61_54 hq_106 hc109_106 hq_114 hc117_116) <;> simp_all [own_ln, own_ls, own_pr] <;> omega
theorem d_prog_51_method_10_0 : decode prog_51_method_10_code 0 = .ok (.aload_n 0, 1) := by decide +kernel
theorem d_prog_51_method_10_1 : decode prog_51_method_10_code 1 = .ok (.getfield 17, 3) := by decide +kernel
theorem d_prog_51_method_10_4 : decode prog_51_method_10_code 4 = .ok (.aload_n 0, 1) := by decide +kernel
theorem d_prog_51_method_10_5 : decode prog_51_method_10_code 5 = .ok (.getfield 20, 3) := by decide +kernel
theorem d_prog_51_method_10_8 : decode prog_51_method_10_code 8 = .ok (.lsub, 1) := by decide +kernel
theorem d_prog_51_method_10_9 : decode prog_51_method_10_code 9 = .ok (.lconst 1, 1) := by decide +kernel
theorem d_prog_51_method_10_10 : decode prog_51_method_10_code 10 = .ok (.ladd, 1) := by decide +kernel
theorem d_prog_51_method_10_11 : decode prog_51_method_10_code 11 = .ok (.lreturn, 1) := by decide +kernel
theorem ef_m_uc (m : MethodId) (x0 : Addr) : entryFrame m #[(.ref x0)] 1 = mkF m 0 #[.val (.ref x0)] [] := by first | (simp [entryFrame, mkF, argsToLocals, Value.category]; done) | rfl
set_option maxRecDepth 65536 in
set_option maxHeartbeats 40000000 in
theorem m_uc (l : Launch) (Z : State) (a0 : Array Value) (hw : ∀ d ∈ tables_1, d.before a0 Z = true) (a : Addr) (ln : Int64) (of : Int64) (ls : Int64) (pr : Int64) (pv : Int32) :
    Pays l Z a0 (⟨"com/example/fine_events/fineevents/PositionTracker", "unitColumn", "()J"⟩ : MethodName) prog_51_method_10_code 1 (some .long) ({ frames := 0, cells := 0, slots := 0, locals := 0 } : Room) #[(.ref a)] [(a, ob0 (.long ln) (.int pv) (.long of) (.long ls) (.long pr))] (([(a, ob0 (.long ln) (.int pv) (.long of) (.long ls) (.long pr))] : Hs).map (·.1)) (fun v os' => v = some (.long ((of - ls) + (1 : Int64))) ∧ os' = [(a, ob0 (.long ln) (.int pv) (.long of) (.long ls) (.long pr))]) := by
  refine Pays.of (Ls := #[.val (.ref a)]) (plainFor_of_name pn_3) (fun m => ef_m_uc m a) ?_
  intro p e s m below meth c T0 A0
  refine A0.aloadN (q := 1) d_prog_51_method_10_0 rfl rfl rfl ?_
  refine A0.getF (qn := 4) (i := 0) (j := 2) (tw hw 33 rfl) Via.refl d_prog_51_method_10_1 rfl rfl rfl (fun T1 A2 => ?_)
  refine A2.aloadN (q := 5) d_prog_51_method_10_4 rfl rfl rfl ?_
  refine A2.getF (qn := 8) (i := 0) (j := 3) (tw hw 35 rfl) Via.refl d_prog_51_method_10_5 rfl rfl rfl (fun T3 A4 => ?_)
  refine A4.lsub (q := 9) d_prog_51_method_10_8 rfl ?_
  refine A4.lconst (q := 10) (v := 1) d_prog_51_method_10_9 rfl rfl ?_
  refine A4.ladd (q := 11) d_prog_51_method_10_10 rfl ?_
  exact A4.retJ d_prog_51_method_10_11 (by decide) (by decide) ⟨rfl, rfl⟩
theorem d_jdk_30_method_1_0 : decode jdk_30_method_1_code 0 = .ok (.aload_n 0, 1) := by decide +kernel
theorem d_jdk_30_method_1_1 : decode jdk_30_method_1_code 1 = .ok (.invokespecial 1, 3) := by decide +kernel
theorem d_jdk_30_method_1_4 : decode jdk_30_method_1_code 4 = .ok (.return_, 1) := by decide +kernel
theorem pn_5 : plainName "java/lang/Record" = true := by first | (simp [plainName, overriddenIn]; done) | decide +kernel
theorem ef_m_rec (m : MethodId) (x0 : Addr) : entryFrame m #[(.ref x0)] 1 = mkF m 0 #[.val (.ref x0)] [] := by first | (simp [entryFrame, mkF, argsToLocals, Value.category]; done) | rfl
set_option maxRecDepth 65536 in
set_option maxHeartbeats 40000000 in
theorem m_rec (l : Launch) (Z : State) (a0 : Array Value) (hw : ∀ d ∈ tables_1, d.before a0 Z = true) (a : Addr) :
    Pays l Z a0 (⟨"java/lang/Record", "<init>", "()V"⟩ : MethodName) jdk_30_method_1_code 1 none ({ frames := 1, cells := 0, slots := 0, locals := 12 } : Room) #[(.ref a)] [] (([] : Hs).map (·.1)) (fun v os' => v = none ∧ os' = []) := by
  refine Pays.of (Ls := #[.val (.ref a)]) (plainFor_of_name pn_5) (fun m => ef_m_rec m a) ?_
  intro p e s m below meth c T0 A0
  refine A0.aloadN (q := 1) d_jdk_30_method_1_0 rfl rfl rfl ?_
  refine A0.initO (qn := 4) (W := 0) (tw hw 76 rfl) (tw hw 14 rfl) (tw hw 15 rfl) d_jdk_30_method_1_1 rfl (Nat.le_of_eq rfl) (by decide) (by decide) rfl (fun T1 A2 => ?_)
  exact A2.retV d_jdk_30_method_1_4 (by decide) (by decide) ⟨rfl, rfl⟩
theorem d_prog_50_method_1_0 : decode prog_50_method_1_code 0 = .ok (.aload_n 0, 1) := by decide +kernel
theorem d_prog_50_method_1_1 : decode prog_50_method_1_code 1 = .ok (.invokespecial 1, 3) := by decide +kernel
theorem pd_6 : parseMethodDescriptor "()V" = some ⟨[], none⟩ := by decide +kernel
theorem d_prog_50_method_1_4 : decode prog_50_method_1_code 4 = .ok (.aload_n 0, 1) := by decide +kernel
theorem d_prog_50_method_1_5 : decode prog_50_method_1_code 5 = .ok (.lload_n 1, 1) := by decide +kernel
theorem d_prog_50_method_1_6 : decode prog_50_method_1_code 6 = .ok (.putfield 7, 3) := by decide +kernel
theorem d_prog_50_method_1_9 : decode prog_50_method_1_code 9 = .ok (.aload_n 0, 1) := by decide +kernel
theorem d_prog_50_method_1_10 : decode prog_50_method_1_code 10 = .ok (.lload_n 3, 1) := by decide +kernel
theorem d_prog_50_method_1_11 : decode prog_50_method_1_code 11 = .ok (.putfield 13, 3) := by decide +kernel
theorem d_prog_50_method_1_14 : decode prog_50_method_1_code 14 = .ok (.aload_n 0, 1) := by decide +kernel
theorem d_prog_50_method_1_15 : decode prog_50_method_1_code 15 = .ok (.lload 5, 2) := by decide +kernel
theorem d_prog_50_method_1_17 : decode prog_50_method_1_code 17 = .ok (.putfield 16, 3) := by decide +kernel
theorem d_prog_50_method_1_20 : decode prog_50_method_1_code 20 = .ok (.return_, 1) := by decide +kernel
theorem pn_7 : plainName "com/example/fine_events/fineevents/Position" = true := by first | (simp [plainName, overriddenIn]; done) | decide +kernel
theorem ef_m_pini (m : MethodId) (x0 : Addr) (x1 : Int64) (x2 : Int64) (x3 : Int64) : entryFrame m #[(.ref x0), (.long x1), (.long x2), (.long x3)] 7 = mkF m 0 #[.val (.ref x0), .val (.long x1), .second, .val (.long x2), .second, .val (.long x3), .second] [] := by first | (simp [entryFrame, mkF, argsToLocals, Value.category]; done) | rfl
set_option maxRecDepth 65536 in
set_option maxHeartbeats 40000000 in
theorem m_pini (l : Launch) (Z : State) (a0 : Array Value) (hw : ∀ d ∈ tables_1, d.before a0 Z = true) (a : Addr) (q0 : Int64) (q1 : Int64) (q2 : Int64) (v0 : Int64) (v1 : Int64) (v2 : Int64) :
    Pays l Z a0 (⟨"com/example/fine_events/fineevents/Position", "<init>", "(JJJ)V"⟩ : MethodName) prog_50_method_1_code 7 none ({ frames := 2, cells := 0, slots := 0, locals := 24 } : Room) #[(.ref a), (.long q0), (.long q1), (.long q2)] [(a, ob1 (.long v0) (.long v1) (.long v2))] (([(a, ob1 (.long v0) (.long v1) (.long v2))] : Hs).map (·.1)) (fun v os' => v = none ∧ os' = [(a, ob1 (.long q0) (.long q1) (.long q2))]) := by
  refine Pays.of (Ls := #[.val (.ref a), .val (.long q0), .second, .val (.long q1), .second, .val (.long q2), .second]) (plainFor_of_name pn_7) (fun m => ef_m_pini m a q0 q1 q2) ?_
  intro p e s m below meth c T0 A0
  refine A0.aloadN (q := 1) d_prog_50_method_1_0 rfl rfl rfl ?_
  refine Here.callI (qn := 4) (os1 := [(a, ob1 (.long v0) (.long v1) (.long v2))]) (os2 := []) (rest := []) (W := 0) (argsL := []) (a := a) A0 (m_rec l Z a0 hw a) (Or.inl rfl) rfl (tw hw 71 rfl) (tw hw 72 rfl) (tw hw 74 rfl) (tw hw 75 rfl) (by decide) d_prog_50_method_1_1 rfl (lenOf pd_6 rfl) rfl (Nat.le_of_eq rfl) (by decide) (by decide) (by decide) (by decide) rfl (fun T1 v2 os3 A4 P5 => ?_)
  obtain ⟨rfl, rfl⟩ := P5
  have A6 := A4.cast (k2 := 0) (n2 := 0) (os2 := [(a, ob1 (.long v0) (.long v1) (.long v2))]) rfl rfl rfl
  refine A6.aloadN (q := 5) d_prog_50_method_1_4 rfl rfl rfl ?_
  refine A6.lloadN (q := 6) d_prog_50_method_1_5 rfl rfl ?_
  refine A6.putF (qn := 9) (i := 0) (j := 0) (ty := .long) (tw hw 77 rfl) Via.refl (Or.inr ⟨(tw hw 78 rfl), rfl, rfl⟩) (tw hw 61 rfl) (by decide) rfl rfl d_prog_50_method_1_6 rfl rfl rfl rfl (fun T7 A8 => ?_)
  have A9 := A8.cast (k2 := 0) (n2 := 0) (os2 := [(a, ob1 (.long q0) (.long v1) (.long v2))]) rfl rfl rfl
  refine A9.aloadN (q := 10) d_prog_50_method_1_9 rfl rfl rfl ?_
  refine A9.lloadN (q := 11) d_prog_50_method_1_10 rfl rfl ?_
  refine A9.putF (qn := 14) (i := 0) (j := 1) (ty := .long) (tw hw 79 rfl) Via.refl (Or.inr ⟨(tw hw 80 rfl), rfl, rfl⟩) (tw hw 61 rfl) (by decide) rfl rfl d_prog_50_method_1_11 rfl rfl rfl rfl (fun T10 A11 => ?_)
  have A12 := A11.cast (k2 := 0) (n2 := 0) (os2 := [(a, ob1 (.long q0) (.long q1) (.long v2))]) rfl rfl rfl
  refine A12.aloadN (q := 15) d_prog_50_method_1_14 rfl rfl rfl ?_
  refine A12.lload (q := 17) d_prog_50_method_1_15 rfl rfl ?_
  refine A12.putF (qn := 20) (i := 0) (j := 2) (ty := .long) (tw hw 81 rfl) Via.refl (Or.inr ⟨(tw hw 82 rfl), rfl, rfl⟩) (tw hw 61 rfl) (by decide) rfl rfl d_prog_50_method_1_17 rfl rfl rfl rfl (fun T13 A14 => ?_)
  have A15 := A14.cast (k2 := 0) (n2 := 0) (os2 := [(a, ob1 (.long q0) (.long q1) (.long q2))]) rfl rfl rfl
  exact A15.retV d_prog_50_method_1_20 (by decide) (by decide) ⟨rfl, rfl⟩
theorem d_prog_51_method_7_0 : decode prog_51_method_7_code 0 = .ok (.new 46, 3) := by decide +kernel
theorem d_prog_51_method_7_3 : decode prog_51_method_7_code 3 = .ok (.dup, 1) := by decide +kernel
theorem d_prog_51_method_7_4 : decode prog_51_method_7_code 4 = .ok (.aload_n 0, 1) := by decide +kernel
theorem d_prog_51_method_7_5 : decode prog_51_method_7_code 5 = .ok (.getfield 7, 3) := by decide +kernel
theorem d_prog_51_method_7_8 : decode prog_51_method_7_code 8 = .ok (.aload_n 0, 1) := by decide +kernel
theorem d_prog_51_method_7_9 : decode prog_51_method_7_code 9 = .ok (.invokevirtual 48, 3) := by decide +kernel
theorem pd_8 : parseMethodDescriptor "()J" = some ⟨[], some .long⟩ := by decide +kernel
theorem d_prog_51_method_7_12 : decode prog_51_method_7_code 12 = .ok (.aload_n 0, 1) := by decide +kernel
theorem d_prog_51_method_7_13 : decode prog_51_method_7_code 13 = .ok (.getfield 23, 3) := by decide +kernel
theorem d_prog_51_method_7_16 : decode prog_51_method_7_code 16 = .ok (.lsub, 1) := by decide +kernel
theorem d_prog_51_method_7_17 : decode prog_51_method_7_code 17 = .ok (.aload_n 0, 1) := by decide +kernel
theorem d_prog_51_method_7_18 : decode prog_51_method_7_code 18 = .ok (.getfield 17, 3) := by decide +kernel
theorem d_prog_51_method_7_21 : decode prog_51_method_7_code 21 = .ok (.invokespecial 52, 3) := by decide +kernel
theorem pd_9 : parseMethodDescriptor "(JJJ)V" = some ⟨[.long, .long, .long], none⟩ := by decide +kernel
theorem d_prog_51_method_7_24 : decode prog_51_method_7_code 24 = .ok (.areturn, 1) := by decide +kernel
theorem ef_m_pos (m : MethodId) (x0 : Addr) : entryFrame m #[(.ref x0)] 1 = mkF m 0 #[.val (.ref x0)] [] := by first | (simp [entryFrame, mkF, argsToLocals, Value.category]; done) | rfl
set_option maxRecDepth 65536 in
set_option maxHeartbeats 40000000 in
theorem m_pos (l : Launch) (Z : State) (a0 : Array Value) (hw : ∀ d ∈ tables_1, d.before a0 Z = true) (a : Addr) (ln : Int64) (of : Int64) (ls : Int64) (pr : Int64) (pv : Int32) :
    Pays l Z a0 (⟨"com/example/fine_events/fineevents/PositionTracker", "position", "()Lcom/example/fine_events/fineevents/Position;"⟩ : MethodName) prog_51_method_7_code 1 (some (.object "com/example/fine_events/fineevents/Position")) ({ frames := 3, cells := 1, slots := 3, locals := 43 } : Room) #[(.ref a)] [(a, ob0 (.long ln) (.int pv) (.long of) (.long ls) (.long pr))] (([(a, ob0 (.long ln) (.int pv) (.long of) (.long ls) (.long pr))] : Hs).map (·.1)) (fun v os' => ∃ (b : Addr), v = some (.ref b) ∧ os' = [(a, ob0 (.long ln) (.int pv) (.long of) (.long ls) (.long pr)), (b, ob1 (.long ln) (.long (((of - ls) + (1 : Int64)) - pr)) (.long of))]) := by
  refine Pays.of (Ls := #[.val (.ref a)]) (plainFor_of_name pn_3) (fun m => ef_m_pos m a) ?_
  intro p e s m below meth c T0 A0
  refine A0.newO (qn := 3) (C := "com/example/fine_events/fineevents/Position") (fs := [("com/example/fine_events/fineevents/Position", "line", "J", (.long 0)), ("com/example/fine_events/fineevents/Position", "column", "J", (.long 0)), ("com/example/fine_events/fineevents/Position", "offset", "J", (.long 0))]) (tw hw 60 rfl) (tw hw 61 rfl) (tw hw 62 rfl) d_prog_51_method_7_0 (by decide) (by decide) (by decide) (List.forall_mem_cons.mpr ⟨⟨Or.inr (tw hw 78 rfl), .long, by decide, rfl⟩, (List.forall_mem_cons.mpr ⟨⟨Or.inr (tw hw 80 rfl), .long, by decide, rfl⟩, (List.forall_mem_cons.mpr ⟨⟨Or.inr (tw hw 82 rfl), .long, by decide, rfl⟩, (List.forall_mem_nil _)⟩)⟩)⟩) rfl (fun T1 b3 A2 => ?_)
  have A4 := A2.cast (k2 := 1) (n2 := 3) (os2 := [(a, ob0 (.long ln) (.int pv) (.long of) (.long ls) (.long pr)), (b3, ob1 (.long 0) (.long 0) (.long 0))]) rfl rfl rfl
  refine A4.dup (q := 4) d_prog_51_method_7_3 rfl rfl ?_
  refine A4.aloadN (q := 5) d_prog_51_method_7_4 rfl rfl rfl ?_
  refine A4.getF (qn := 8) (i := 0) (j := 0) (tw hw 16 rfl) Via.refl d_prog_51_method_7_5 rfl rfl rfl (fun T5 A6 => ?_)
  refine A6.aloadN (q := 9) d_prog_51_method_7_8 rfl rfl rfl ?_
  have A7 := A6.pick (is := [1, 0]) (os2 := [(b3, ob1 (.long 0) (.long 0) (.long 0)), (a, ob0 (.long ln) (.int pv) (.long of) (.long ls) (.long pr))]) (by decide) rfl
  refine Here.callV (qn := 12) (os1 := [(b3, ob1 (.long 0) (.long 0) (.long 0))]) (os2 := [(a, ob0 (.long ln) (.int pv) (.long of) (.long ls) (.long pr))]) (rest := [(.long ln), (.ref b3), (.ref b3)]) (W := 4) (argsL := []) (a := a) (i := 1) A7 (m_uc l Z a0 hw a ln of ls pr pv) (Or.inr ⟨rfl, rfl⟩) rfl (tw hw 63 rfl) (tw hw 64 rfl) (tw hw 66 rfl) (tw hw 65 rfl) (tw hw 9 rfl) (tw hw 67 rfl) (by decide) d_prog_51_method_7_9 rfl (lenOf pd_8 rfl) rfl (Nat.le_of_eq rfl) (by decide) (by decide) (by decide) (by decide) rfl (fun T8 v9 os10 A11 P12 => ?_)
  obtain ⟨rfl, rfl⟩ := P12
  have A13 := A11.cast (k2 := 1) (n2 := 3) (os2 := [(b3, ob1 (.long 0) (.long 0) (.long 0)), (a, ob0 (.long ln) (.int pv) (.long of) (.long ls) (.long pr))]) rfl rfl rfl
  refine A13.aloadN (q := 13) d_prog_51_method_7_12 rfl rfl rfl ?_
  refine A13.getF (qn := 16) (i := 1) (j := 4) (tw hw 37 rfl) Via.refl d_prog_51_method_7_13 rfl rfl rfl (fun T14 A15 => ?_)
  refine A15.lsub (q := 17) d_prog_51_method_7_16 rfl ?_
  refine A15.aloadN (q := 18) d_prog_51_method_7_17 rfl rfl rfl ?_
  refine A15.getF (qn := 21) (i := 1) (j := 2) (tw hw 33 rfl) Via.refl d_prog_51_method_7_18 rfl rfl rfl (fun T16 A17 => ?_)
  have A18 := A17.pick (is := [1, 0]) (os2 := [(a, ob0 (.long ln) (.int pv) (.long of) (.long ls) (.long pr)), (b3, ob1 (.long 0) (.long 0) (.long 0))]) (by decide) rfl
  refine Here.callI (qn := 24) (os1 := [(a, ob0 (.long ln) (.int pv) (.long of) (.long ls) (.long pr))]) (os2 := [(b3, ob1 (.long 0) (.long 0) (.long 0))]) (rest := [(.ref b3)]) (W := 1) (argsL := [(.long ln), (.long (((of - ls) + (1 : Int64)) - pr)), (.long of)]) (a := b3) A18 (m_pini l Z a0 hw b3 ln ((((of - ls) + (1 : Int64)) - pr)) of ((0 : Int64)) ((0 : Int64)) ((0 : Int64))) (Or.inr ⟨rfl, rfl⟩) rfl (tw hw 68 rfl) (tw hw 69 rfl) (tw hw 62 rfl) (tw hw 70 rfl) (by decide) d_prog_51_method_7_21 rfl (lenOf pd_9 rfl) rfl (Nat.le_of_eq rfl) (by decide) (by decide) (by decide) (by decide) rfl (fun T19 v20 os21 A22 P23 => ?_)
  obtain ⟨rfl, rfl⟩ := P23
  have A24 := A22.cast (k2 := 1) (n2 := 3) (os2 := [(a, ob0 (.long ln) (.int pv) (.long of) (.long ls) (.long pr)), (b3, ob1 (.long ln) (.long (((of - ls) + (1 : Int64)) - pr)) (.long of))]) rfl rfl rfl
  exact A24.retR d_prog_51_method_7_24 rfl (by decide) (by decide) ⟨b3, rfl, rfl⟩
theorem d_prog_50_method_5_0 : decode prog_50_method_5_code 0 = .ok (.aload_n 0, 1) := by decide +kernel
theorem d_prog_50_method_5_1 : decode prog_50_method_5_code 1 = .ok (.getfield 7, 3) := by decide +kernel
theorem d_prog_50_method_5_4 : decode prog_50_method_5_code 4 = .ok (.lreturn, 1) := by decide +kernel
theorem ef_m_line (m : MethodId) (x0 : Addr) : entryFrame m #[(.ref x0)] 1 = mkF m 0 #[.val (.ref x0)] [] := by first | (simp [entryFrame, mkF, argsToLocals, Value.category]; done) | rfl
set_option maxRecDepth 65536 in
set_option maxHeartbeats 40000000 in
theorem m_line (l : Launch) (Z : State) (a0 : Array Value) (hw : ∀ d ∈ tables_1, d.before a0 Z = true) (a : Addr) (v0 : Int64) (v1 : Int64) (v2 : Int64) :
    Pays l Z a0 (⟨"com/example/fine_events/fineevents/Position", "line", "()J"⟩ : MethodName) prog_50_method_5_code 1 (some .long) ({ frames := 0, cells := 0, slots := 0, locals := 0 } : Room) #[(.ref a)] [(a, ob1 (.long v0) (.long v1) (.long v2))] (([(a, ob1 (.long v0) (.long v1) (.long v2))] : Hs).map (·.1)) (fun v os' => v = some (.long v0) ∧ os' = [(a, ob1 (.long v0) (.long v1) (.long v2))]) := by
  refine Pays.of (Ls := #[.val (.ref a)]) (plainFor_of_name pn_7) (fun m => ef_m_line m a) ?_
  intro p e s m below meth c T0 A0
  refine A0.aloadN (q := 1) d_prog_50_method_5_0 rfl rfl rfl ?_
  refine A0.getF (qn := 4) (i := 0) (j := 0) (tw hw 77 rfl) Via.refl d_prog_50_method_5_1 rfl rfl rfl (fun T1 A2 => ?_)
  exact A2.retJ d_prog_50_method_5_4 (by decide) (by decide) ⟨rfl, rfl⟩
theorem d_prog_50_method_6_0 : decode prog_50_method_6_code 0 = .ok (.aload_n 0, 1) := by decide +kernel
theorem d_prog_50_method_6_1 : decode prog_50_method_6_code 1 = .ok (.getfield 13, 3) := by decide +kernel
theorem d_prog_50_method_6_4 : decode prog_50_method_6_code 4 = .ok (.lreturn, 1) := by decide +kernel
theorem ef_m_column (m : MethodId) (x0 : Addr) : entryFrame m #[(.ref x0)] 1 = mkF m 0 #[.val (.ref x0)] [] := by first | (simp [entryFrame, mkF, argsToLocals, Value.category]; done) | rfl
set_option maxRecDepth 65536 in
set_option maxHeartbeats 40000000 in
theorem m_column (l : Launch) (Z : State) (a0 : Array Value) (hw : ∀ d ∈ tables_1, d.before a0 Z = true) (a : Addr) (v0 : Int64) (v1 : Int64) (v2 : Int64) :
    Pays l Z a0 (⟨"com/example/fine_events/fineevents/Position", "column", "()J"⟩ : MethodName) prog_50_method_6_code 1 (some .long) ({ frames := 0, cells := 0, slots := 0, locals := 0 } : Room) #[(.ref a)] [(a, ob1 (.long v0) (.long v1) (.long v2))] (([(a, ob1 (.long v0) (.long v1) (.long v2))] : Hs).map (·.1)) (fun v os' => v = some (.long v1) ∧ os' = [(a, ob1 (.long v0) (.long v1) (.long v2))]) := by
  refine Pays.of (Ls := #[.val (.ref a)]) (plainFor_of_name pn_7) (fun m => ef_m_column m a) ?_
  intro p e s m below meth c T0 A0
  refine A0.aloadN (q := 1) d_prog_50_method_6_0 rfl rfl rfl ?_
  refine A0.getF (qn := 4) (i := 0) (j := 1) (tw hw 79 rfl) Via.refl d_prog_50_method_6_1 rfl rfl rfl (fun T1 A2 => ?_)
  exact A2.retJ d_prog_50_method_6_4 (by decide) (by decide) ⟨rfl, rfl⟩
theorem d_prog_50_method_7_0 : decode prog_50_method_7_code 0 = .ok (.aload_n 0, 1) := by decide +kernel
theorem d_prog_50_method_7_1 : decode prog_50_method_7_code 1 = .ok (.getfield 16, 3) := by decide +kernel
theorem d_prog_50_method_7_4 : decode prog_50_method_7_code 4 = .ok (.lreturn, 1) := by decide +kernel
theorem ef_m_offset (m : MethodId) (x0 : Addr) : entryFrame m #[(.ref x0)] 1 = mkF m 0 #[.val (.ref x0)] [] := by first | (simp [entryFrame, mkF, argsToLocals, Value.category]; done) | rfl
set_option maxRecDepth 65536 in
set_option maxHeartbeats 40000000 in
theorem m_offset (l : Launch) (Z : State) (a0 : Array Value) (hw : ∀ d ∈ tables_1, d.before a0 Z = true) (a : Addr) (v0 : Int64) (v1 : Int64) (v2 : Int64) :
    Pays l Z a0 (⟨"com/example/fine_events/fineevents/Position", "offset", "()J"⟩ : MethodName) prog_50_method_7_code 1 (some .long) ({ frames := 0, cells := 0, slots := 0, locals := 0 } : Room) #[(.ref a)] [(a, ob1 (.long v0) (.long v1) (.long v2))] (([(a, ob1 (.long v0) (.long v1) (.long v2))] : Hs).map (·.1)) (fun v os' => v = some (.long v2) ∧ os' = [(a, ob1 (.long v0) (.long v1) (.long v2))]) := by
  refine Pays.of (Ls := #[.val (.ref a)]) (plainFor_of_name pn_7) (fun m => ef_m_offset m a) ?_
  intro p e s m below meth c T0 A0
  refine A0.aloadN (q := 1) d_prog_50_method_7_0 rfl rfl rfl ?_
  refine A0.getF (qn := 4) (i := 0) (j := 2) (tw hw 81 rfl) Via.refl d_prog_50_method_7_1 rfl rfl rfl (fun T1 A2 => ?_)
  exact A2.retJ d_prog_50_method_7_4 (by decide) (by decide) ⟨rfl, rfl⟩
theorem pd_10 : parseMethodDescriptor "(I)C" = some ⟨[.int], some .char⟩ := by decide +kernel
theorem pd_11 : parseMethodDescriptor "(Lcom/example/fine_events/fineevents/PositionTracker;)V" = some ⟨[(.object "com/example/fine_events/fineevents/PositionTracker")], none⟩ := by decide +kernel
theorem pd_12 : parseMethodDescriptor "()Lcom/example/fine_events/fineevents/Position;" = some ⟨[], some (.object "com/example/fine_events/fineevents/Position")⟩ := by decide +kernel
theorem ef_m_law (m : MethodId) (x0 : Int32) (x1 : Int32) (x2 : Int32) (x3 : Int32) (x4 : Int32) (x5 : Int32) : entryFrame m #[(.int x0), (.int x1), (.int x2), (.int x3), (.int x4), (.int x5)] maxLocals = mkF m 0 #[.val (.int x0), .val (.int x1), .val (.int x2), .val (.int x3), .val (.int x4), .val (.int x5), .unset, .unset, .unset, .unset, .unset, .unset, .unset] [] := by first | (simp [entryFrame, mkF, argsToLocals, Value.category, maxLocals]; done) | rfl
set_option maxRecDepth 65536 in
set_option maxHeartbeats 40000000 in
theorem m_law (l : Launch) (Z : State) (a0 : Array Value) (hw : ∀ d ∈ tables_1, d.before a0 Z = true) (x0 : Int32) (x1 : Int32) (x2 : Int32) (x3 : Int32) (x4 : Int32) (x5 : Int32) :
    Pays l Z a0 x code maxLocals ret room_1 #[(.int x0), (.int x1), (.int x2), (.int x3), (.int x4), (.int x5)] [] (([] : Hs).map (·.1)) (fun v os' => v = some (.int 1) ∧ True) := by
  refine Pays.of (Ls := #[.val (.int x0), .val (.int x1), .val (.int x2), .val (.int x3), .val (.int x4), .val (.int x5), .unset, .unset, .unset, .unset, .unset, .unset, .unset]) (plainFor_of_name pn_0) (fun m => ef_m_law m x0 x1 x2 x3 x4 x5) ?_
  intro p e s m below meth c T0 A0
  refine A0.iconst (q := 1) (v := 3) at_0 rfl rfl ?_
  refine A0.newP (qn := 3) (cap := 3) (tw hw 0 rfl) at_1 (by decide) (by decide) (by decide) (by decide) (by decide) rfl (fun T1 b3 A2 => ?_)
  have A4 := A2.cast (k2 := 1) (n2 := 3) (os2 := [(b3, .inr (.char, [(.int 0), (.int 0), (.int 0)]))]) rfl rfl rfl
  refine A4.dup (q := 4) at_3 rfl rfl ?_
  refine A4.iconst (q := 5) (v := 0) at_4 rfl rfl ?_
  refine A4.iloadN (q := 6) at_5 rfl rfl ?_
  refine Here.callS (qn := 9) (os1 := [(b3, .inr (.char, [(.int 0), (.int 0), (.int 0)]))]) (os2 := []) (rest := [(.int 0), (.ref b3), (.ref b3)]) (W := 3) (argsL := [(.int x0)]) A4 (m_ch l Z a0 hw x0) (Or.inl rfl) (tw hw 1 rfl) (tw hw 2 rfl) (tw hw 3 rfl) (tw hw 4 rfl) (by decide) at_6 rfl (lenOf pd_10 rfl) rfl (Nat.le_of_eq rfl) (by decide) (by decide) (by decide) (by decide) rfl (fun T5 v6 os7 A8 P9 => ?_)
  obtain ⟨r_6, rfl, rfl⟩ := P9
  have A10 := A8.cast (k2 := 1) (n2 := 3) (os2 := [(b3, .inr (.char, [(.int 0), (.int 0), (.int 0)]))]) rfl rfl rfl
  refine A10.stC (qn := 10) (i := 0) at_9 rfl (by decide) (show (0 : Int32).toNatClampNeg < 3 from by decide) rfl rfl (fun T11 A12 => ?_)
  have A13 := A12.cast (k2 := 1) (n2 := 3) (os2 := [(b3, .inr (.char, [(.int (nar .char r_6)), (.int 0), (.int 0)]))]) rfl rfl rfl
  refine A13.dup (q := 11) at_10 rfl rfl ?_
  refine A13.iconst (q := 12) (v := 1) at_11 rfl rfl ?_
  refine A13.iloadN (q := 13) at_12 rfl rfl ?_
  refine Here.callS (qn := 16) (os1 := [(b3, .inr (.char, [(.int (nar .char r_6)), (.int 0), (.int 0)]))]) (os2 := []) (rest := [(.int 1), (.ref b3), (.ref b3)]) (W := 3) (argsL := [(.int x1)]) A13 (m_ch l Z a0 hw x1) (Or.inl rfl) (tw hw 1 rfl) (tw hw 2 rfl) (tw hw 3 rfl) (tw hw 4 rfl) (by decide) at_13 rfl (lenOf pd_10 rfl) rfl (Nat.le_of_eq rfl) (by decide) (by decide) (by decide) (by decide) rfl (fun T14 v15 os16 A17 P18 => ?_)
  obtain ⟨r_13, rfl, rfl⟩ := P18
  have A19 := A17.cast (k2 := 1) (n2 := 3) (os2 := [(b3, .inr (.char, [(.int (nar .char r_6)), (.int 0), (.int 0)]))]) rfl rfl rfl
  refine A19.stC (qn := 17) (i := 0) at_16 rfl (by decide) (show (1 : Int32).toNatClampNeg < 3 from by decide) rfl rfl (fun T20 A21 => ?_)
  have A22 := A21.cast (k2 := 1) (n2 := 3) (os2 := [(b3, .inr (.char, [(.int (nar .char r_6)), (.int (nar .char r_13)), (.int 0)]))]) rfl rfl rfl
  refine A22.dup (q := 18) at_17 rfl rfl ?_
  refine A22.iconst (q := 19) (v := 2) at_18 rfl rfl ?_
  refine A22.iloadN (q := 20) at_19 rfl rfl ?_
  refine Here.callS (qn := 23) (os1 := [(b3, .inr (.char, [(.int (nar .char r_6)), (.int (nar .char r_13)), (.int 0)]))]) (os2 := []) (rest := [(.int 2), (.ref b3), (.ref b3)]) (W := 3) (argsL := [(.int x2)]) A22 (m_ch l Z a0 hw x2) (Or.inl rfl) (tw hw 1 rfl) (tw hw 2 rfl) (tw hw 3 rfl) (tw hw 4 rfl) (by decide) at_20 rfl (lenOf pd_10 rfl) rfl (Nat.le_of_eq rfl) (by decide) (by decide) (by decide) (by decide) rfl (fun T23 v24 os25 A26 P27 => ?_)
  obtain ⟨r_20, rfl, rfl⟩ := P27
  have A28 := A26.cast (k2 := 1) (n2 := 3) (os2 := [(b3, .inr (.char, [(.int (nar .char r_6)), (.int (nar .char r_13)), (.int 0)]))]) rfl rfl rfl
  refine A28.stC (qn := 24) (i := 0) at_23 rfl (by decide) (show (2 : Int32).toNatClampNeg < 3 from by decide) rfl rfl (fun T29 A30 => ?_)
  have A31 := A30.cast (k2 := 1) (n2 := 3) (os2 := [(b3, .inr (.char, [(.int (nar .char r_6)), (.int (nar .char r_13)), (.int (nar .char r_20))]))]) rfl rfl rfl
  refine A31.astore (q := 26) (l' := #[.val (.int x0), .val (.int x1), .val (.int x2), .val (.int x3), .val (.int x4), .val (.int x5), .val (.ref b3), .unset, .unset, .unset, .unset, .unset, .unset]) at_24 rfl rfl rfl ?_
  refine A31.iconst (q := 27) (v := 2) at_26 rfl rfl ?_
  refine A31.newP (qn := 29) (cap := 2) (tw hw 0 rfl) at_27 (by decide) (by decide) (by decide) (by decide) (by decide) rfl (fun T32 b34 A33 => ?_)
  have A35 := A33.cast (k2 := 2) (n2 := 5) (os2 := [(b3, .inr (.char, [(.int (nar .char r_6)), (.int (nar .char r_13)), (.int (nar .char r_20))])), (b34, .inr (.char, [(.int 0), (.int 0)]))]) rfl rfl rfl
  refine A35.dup (q := 30) at_29 rfl rfl ?_
  refine A35.iconst (q := 31) (v := 0) at_30 rfl rfl ?_
  refine A35.iloadN (q := 32) at_31 rfl rfl ?_
  refine Here.callS (qn := 35) (os1 := [(b3, .inr (.char, [(.int (nar .char r_6)), (.int (nar .char r_13)), (.int (nar .char r_20))])), (b34, .inr (.char, [(.int 0), (.int 0)]))]) (os2 := []) (rest := [(.int 0), (.ref b34), (.ref b34)]) (W := 3) (argsL := [(.int x3)]) A35 (m_ch l Z a0 hw x3) (Or.inl rfl) (tw hw 1 rfl) (tw hw 2 rfl) (tw hw 3 rfl) (tw hw 4 rfl) (by decide) at_32 rfl (lenOf pd_10 rfl) rfl (Nat.le_of_eq rfl) (by decide) (by decide) (by decide) (by decide) rfl (fun T36 v37 os38 A39 P40 => ?_)
  obtain ⟨r_32, rfl, rfl⟩ := P40
  have A41 := A39.cast (k2 := 2) (n2 := 5) (os2 := [(b3, .inr (.char, [(.int (nar .char r_6)), (.int (nar .char r_13)), (.int (nar .char r_20))])), (b34, .inr (.char, [(.int 0), (.int 0)]))]) rfl rfl rfl
  refine A41.stC (qn := 36) (i := 1) at_35 rfl (by decide) (show (0 : Int32).toNatClampNeg < 2 from by decide) rfl rfl (fun T42 A43 => ?_)
  have A44 := A43.cast (k2 := 2) (n2 := 5) (os2 := [(b3, .inr (.char, [(.int (nar .char r_6)), (.int (nar .char r_13)), (.int (nar .char r_20))])), (b34, .inr (.char, [(.int (nar .char r_32)), (.int 0)]))]) rfl rfl rfl
  refine A44.dup (q := 37) at_36 rfl rfl ?_
  refine A44.iconst (q := 38) (v := 1) at_37 rfl rfl ?_
  refine A44.iload (q := 40) at_38 rfl rfl ?_
  refine Here.callS (qn := 43) (os1 := [(b3, .inr (.char, [(.int (nar .char r_6)), (.int (nar .char r_13)), (.int (nar .char r_20))])), (b34, .inr (.char, [(.int (nar .char r_32)), (.int 0)]))]) (os2 := []) (rest := [(.int 1), (.ref b34), (.ref b34)]) (W := 3) (argsL := [(.int x4)]) A44 (m_ch l Z a0 hw x4) (Or.inl rfl) (tw hw 1 rfl) (tw hw 2 rfl) (tw hw 3 rfl) (tw hw 4 rfl) (by decide) at_40 rfl (lenOf pd_10 rfl) rfl (Nat.le_of_eq rfl) (by decide) (by decide) (by decide) (by decide) rfl (fun T45 v46 os47 A48 P49 => ?_)
  obtain ⟨r_40, rfl, rfl⟩ := P49
  have A50 := A48.cast (k2 := 2) (n2 := 5) (os2 := [(b3, .inr (.char, [(.int (nar .char r_6)), (.int (nar .char r_13)), (.int (nar .char r_20))])), (b34, .inr (.char, [(.int (nar .char r_32)), (.int 0)]))]) rfl rfl rfl
  refine A50.stC (qn := 44) (i := 1) at_43 rfl (by decide) (show (1 : Int32).toNatClampNeg < 2 from by decide) rfl rfl (fun T51 A52 => ?_)
  have A53 := A52.cast (k2 := 2) (n2 := 5) (os2 := [(b3, .inr (.char, [(.int (nar .char r_6)), (.int (nar .char r_13)), (.int (nar .char r_20))])), (b34, .inr (.char, [(.int (nar .char r_32)), (.int (nar .char r_40))]))]) rfl rfl rfl
  refine A53.astore (q := 46) (l' := #[.val (.int x0), .val (.int x1), .val (.int x2), .val (.int x3), .val (.int x4), .val (.int x5), .val (.ref b3), .val (.ref b34), .unset, .unset, .unset, .unset, .unset]) at_44 rfl rfl rfl ?_
  refine A53.iconst (q := 47) (v := 1) at_46 rfl rfl ?_
  refine A53.newP (qn := 49) (cap := 1) (tw hw 0 rfl) at_47 (by decide) (by decide) (by decide) (by decide) (by decide) rfl (fun T54 b56 A55 => ?_)
  have A57 := A55.cast (k2 := 3) (n2 := 6) (os2 := [(b3, .inr (.char, [(.int (nar .char r_6)), (.int (nar .char r_13)), (.int (nar .char r_20))])), (b34, .inr (.char, [(.int (nar .char r_32)), (.int (nar .char r_40))])), (b56, .inr (.char, [(.int 0)]))]) rfl rfl rfl
  refine A57.dup (q := 50) at_49 rfl rfl ?_
  refine A57.iconst (q := 51) (v := 0) at_50 rfl rfl ?_
  refine A57.iload (q := 53) at_51 rfl rfl ?_
  refine Here.callS (qn := 56) (os1 := [(b3, .inr (.char, [(.int (nar .char r_6)), (.int (nar .char r_13)), (.int (nar .char r_20))])), (b34, .inr (.char, [(.int (nar .char r_32)), (.int (nar .char r_40))])), (b56, .inr (.char, [(.int 0)]))]) (os2 := []) (rest := [(.int 0), (.ref b56), (.ref b56)]) (W := 3) (argsL := [(.int x5)]) A57 (m_ch l Z a0 hw x5) (Or.inl rfl) (tw hw 1 rfl) (tw hw 2 rfl) (tw hw 3 rfl) (tw hw 4 rfl) (by decide) at_53 rfl (lenOf pd_10 rfl) rfl (Nat.le_of_eq rfl) (by decide) (by decide) (by decide) (by decide) rfl (fun T58 v59 os60 A61 P62 => ?_)
  obtain ⟨r_53, rfl, rfl⟩ := P62
  have A63 := A61.cast (k2 := 3) (n2 := 6) (os2 := [(b3, .inr (.char, [(.int (nar .char r_6)), (.int (nar .char r_13)), (.int (nar .char r_20))])), (b34, .inr (.char, [(.int (nar .char r_32)), (.int (nar .char r_40))])), (b56, .inr (.char, [(.int 0)]))]) rfl rfl rfl
  refine A63.stC (qn := 57) (i := 2) at_56 rfl (by decide) (show (0 : Int32).toNatClampNeg < 1 from by decide) rfl rfl (fun T64 A65 => ?_)
  have A66 := A65.cast (k2 := 3) (n2 := 6) (os2 := [(b3, .inr (.char, [(.int (nar .char r_6)), (.int (nar .char r_13)), (.int (nar .char r_20))])), (b34, .inr (.char, [(.int (nar .char r_32)), (.int (nar .char r_40))])), (b56, .inr (.char, [(.int (nar .char r_53))]))]) rfl rfl rfl
  refine A66.astore (q := 59) (l' := #[.val (.int x0), .val (.int x1), .val (.int x2), .val (.int x3), .val (.int x4), .val (.int x5), .val (.ref b3), .val (.ref b34), .val (.ref b56), .unset, .unset, .unset, .unset]) at_57 rfl rfl rfl ?_
  refine A66.newO (qn := 62) (C := "com/example/fine_events/fineevents/PositionTracker") (fs := [("com/example/fine_events/fineevents/PositionTracker", "line", "J", (.long 0)), ("com/example/fine_events/fineevents/PositionTracker", "previous", "C", (.int 0)), ("com/example/fine_events/fineevents/PositionTracker", "offset", "J", (.long 0)), ("com/example/fine_events/fineevents/PositionTracker", "lineStart", "J", (.long 0)), ("com/example/fine_events/fineevents/PositionTracker", "pairsOnLine", "J", (.long 0))]) (tw hw 7 rfl) (tw hw 8 rfl) (tw hw 9 rfl) at_59 (by decide) (by decide) (by decide) (List.forall_mem_cons.mpr ⟨⟨Or.inl (tw hw 17 rfl), .long, by decide, rfl⟩, (List.forall_mem_cons.mpr ⟨⟨Or.inl (tw hw 32 rfl), .char, by decide, rfl⟩, (List.forall_mem_cons.mpr ⟨⟨Or.inl (tw hw 34 rfl), .long, by decide, rfl⟩, (List.forall_mem_cons.mpr ⟨⟨Or.inl (tw hw 36 rfl), .long, by decide, rfl⟩, (List.forall_mem_cons.mpr ⟨⟨Or.inl (tw hw 38 rfl), .long, by decide, rfl⟩, (List.forall_mem_nil _)⟩)⟩)⟩)⟩)⟩) rfl (fun T67 b69 A68 => ?_)
  have A70 := A68.cast (k2 := 4) (n2 := 11) (os2 := [(b3, .inr (.char, [(.int (nar .char r_6)), (.int (nar .char r_13)), (.int (nar .char r_20))])), (b34, .inr (.char, [(.int (nar .char r_32)), (.int (nar .char r_40))])), (b56, .inr (.char, [(.int (nar .char r_53))])), (b69, ob0 (.long 0) (.int 0) (.long 0) (.long 0) (.long 0))]) rfl rfl rfl
  refine A70.dup (q := 63) at_62 rfl rfl ?_
  refine Here.callI (qn := 66) (os1 := [(b3, .inr (.char, [(.int (nar .char r_6)), (.int (nar .char r_13)), (.int (nar .char r_20))])), (b34, .inr (.char, [(.int (nar .char r_32)), (.int (nar .char r_40))])), (b56, .inr (.char, [(.int (nar .char r_53))]))]) (os2 := [(b69, ob0 (.long 0) (.int 0) (.long 0) (.long 0) (.long 0))]) (rest := [(.ref b69)]) (W := 1) (argsL := []) (a := b69) A70 (m_ini l Z a0 hw b69 ((0 : Int64)) ((0 : Int64)) ((0 : Int64)) ((0 : Int64)) ((0 : Int32))) (Or.inr ⟨rfl, rfl⟩) rfl (tw hw 10 rfl) (tw hw 11 rfl) (tw hw 9 rfl) (tw hw 12 rfl) (by decide) at_63 rfl (lenOf pd_6 rfl) rfl (Nat.le_of_eq rfl) (by decide) (by decide) (by decide) (by decide) rfl (fun T71 v72 os73 A74 P75 => ?_)
  obtain ⟨rfl, rfl⟩ := P75
  have A76 := A74.cast (k2 := 4) (n2 := 11) (os2 := [(b3, .inr (.char, [(.int (nar .char r_6)), (.int (nar .char r_13)), (.int (nar .char r_20))])), (b34, .inr (.char, [(.int (nar .char r_32)), (.int (nar .char r_40))])), (b56, .inr (.char, [(.int (nar .char r_53))])), (b69, ob0 (.long 1) (.int 0) (.long 0) (.long 0) (.long 0))]) rfl rfl rfl
  refine A76.astore (q := 68) (l' := #[.val (.int x0), .val (.int x1), .val (.int x2), .val (.int x3), .val (.int x4), .val (.int x5), .val (.ref b3), .val (.ref b34), .val (.ref b56), .val (.ref b69), .unset, .unset, .unset]) at_66 rfl rfl rfl ?_
  refine A76.aload (q := 70) at_68 rfl rfl rfl ?_
  refine A76.aload (q := 72) at_70 rfl rfl rfl ?_
  refine A76.iconst (q := 73) (v := 0) at_72 rfl rfl ?_
  refine A76.iconst (q := 74) (v := 3) at_73 rfl rfl ?_
  have A77 := A76.pick (is := [1, 2, 3, 0]) (os2 := [(b34, .inr (.char, [(.int (nar .char r_32)), (.int (nar .char r_40))])), (b56, .inr (.char, [(.int (nar .char r_53))])), (b69, ob0 (.long 1) (.int 0) (.long 0) (.long 0) (.long 0)), (b3, .inr (.char, [(.int (nar .char r_6)), (.int (nar .char r_13)), (.int (nar .char r_20))]))]) (by decide) rfl
  refine Here.callV (qn := 77) (os1 := [(b34, .inr (.char, [(.int (nar .char r_32)), (.int (nar .char r_40))])), (b56, .inr (.char, [(.int (nar .char r_53))]))]) (os2 := [(b69, ob0 (.long 1) (.int 0) (.long 0) (.long 0) (.long 0)), (b3, .inr (.char, [(.int (nar .char r_6)), (.int (nar .char r_13)), (.int (nar .char r_20))]))]) (rest := []) (W := 0) (argsL := [(.ref b3), (.int 0), (.int 3)]) (a := b69) (i := 2) A77 (m_adv3 l Z a0 hw b69 b3 ((nar .char r_6)) ((nar .char r_13)) ((nar .char r_20)) ((1 : Int64)) ((0 : Int64)) ((0 : Int64)) ((0 : Int64)) ((0 : Int32)) (rfl)) (Or.inr ⟨rfl, rfl⟩) rfl (tw hw 18 rfl) (tw hw 19 rfl) (tw hw 21 rfl) (tw hw 20 rfl) (tw hw 9 rfl) (tw hw 22 rfl) (by decide) at_74 rfl (lenOf pd_4 rfl) rfl (Nat.le_of_eq rfl) (by decide) (by decide) (by decide) (by decide) rfl (fun T78 v79 os80 A81 P82 => ?_)
  obtain ⟨ln1_74, of1_74, ls1_74, pr1_74, pv1_74, rfl, rfl, hq_74⟩ := P82
  have A83 := A81.cast (k2 := 4) (n2 := 11) (os2 := [(b34, .inr (.char, [(.int (nar .char r_32)), (.int (nar .char r_40))])), (b56, .inr (.char, [(.int (nar .char r_53))])), (b69, ob0 (.long ln1_74) (.int pv1_74) (.long of1_74) (.long ls1_74) (.long pr1_74)), (b3, .inr (.char, [(.int (nar .char r_6)), (.int (nar .char r_13)), (.int (nar .char r_20))]))]) rfl rfl rfl
  refine A83.newO (qn := 80) (C := "com/example/fine_events/fineevents/PositionTracker") (fs := [("com/example/fine_events/fineevents/PositionTracker", "line", "J", (.long 0)), ("com/example/fine_events/fineevents/PositionTracker", "previous", "C", (.int 0)), ("com/example/fine_events/fineevents/PositionTracker", "offset", "J", (.long 0)), ("com/example/fine_events/fineevents/PositionTracker", "lineStart", "J", (.long 0)), ("com/example/fine_events/fineevents/PositionTracker", "pairsOnLine", "J", (.long 0))]) (tw hw 7 rfl) (tw hw 8 rfl) (tw hw 9 rfl) at_77 (by decide) (by decide) (by decide) (List.forall_mem_cons.mpr ⟨⟨Or.inl (tw hw 17 rfl), .long, by decide, rfl⟩, (List.forall_mem_cons.mpr ⟨⟨Or.inl (tw hw 32 rfl), .char, by decide, rfl⟩, (List.forall_mem_cons.mpr ⟨⟨Or.inl (tw hw 34 rfl), .long, by decide, rfl⟩, (List.forall_mem_cons.mpr ⟨⟨Or.inl (tw hw 36 rfl), .long, by decide, rfl⟩, (List.forall_mem_cons.mpr ⟨⟨Or.inl (tw hw 38 rfl), .long, by decide, rfl⟩, (List.forall_mem_nil _)⟩)⟩)⟩)⟩)⟩) rfl (fun T84 b86 A85 => ?_)
  have A87 := A85.cast (k2 := 5) (n2 := 16) (os2 := [(b34, .inr (.char, [(.int (nar .char r_32)), (.int (nar .char r_40))])), (b56, .inr (.char, [(.int (nar .char r_53))])), (b69, ob0 (.long ln1_74) (.int pv1_74) (.long of1_74) (.long ls1_74) (.long pr1_74)), (b3, .inr (.char, [(.int (nar .char r_6)), (.int (nar .char r_13)), (.int (nar .char r_20))])), (b86, ob0 (.long 0) (.int 0) (.long 0) (.long 0) (.long 0))]) rfl rfl rfl
  refine A87.dup (q := 81) at_80 rfl rfl ?_
  refine Here.callI (qn := 84) (os1 := [(b34, .inr (.char, [(.int (nar .char r_32)), (.int (nar .char r_40))])), (b56, .inr (.char, [(.int (nar .char r_53))])), (b69, ob0 (.long ln1_74) (.int pv1_74) (.long of1_74) (.long ls1_74) (.long pr1_74)), (b3, .inr (.char, [(.int (nar .char r_6)), (.int (nar .char r_13)), (.int (nar .char r_20))]))]) (os2 := [(b86, ob0 (.long 0) (.int 0) (.long 0) (.long 0) (.long 0))]) (rest := [(.ref b86)]) (W := 1) (argsL := []) (a := b86) A87 (m_ini l Z a0 hw b86 ((0 : Int64)) ((0 : Int64)) ((0 : Int64)) ((0 : Int64)) ((0 : Int32))) (Or.inr ⟨rfl, rfl⟩) rfl (tw hw 10 rfl) (tw hw 11 rfl) (tw hw 9 rfl) (tw hw 12 rfl) (by decide) at_81 rfl (lenOf pd_6 rfl) rfl (Nat.le_of_eq rfl) (by decide) (by decide) (by decide) (by decide) rfl (fun T88 v89 os90 A91 P92 => ?_)
  obtain ⟨rfl, rfl⟩ := P92
  have A93 := A91.cast (k2 := 5) (n2 := 16) (os2 := [(b34, .inr (.char, [(.int (nar .char r_32)), (.int (nar .char r_40))])), (b56, .inr (.char, [(.int (nar .char r_53))])), (b69, ob0 (.long ln1_74) (.int pv1_74) (.long of1_74) (.long ls1_74) (.long pr1_74)), (b3, .inr (.char, [(.int (nar .char r_6)), (.int (nar .char r_13)), (.int (nar .char r_20))])), (b86, ob0 (.long 1) (.int 0) (.long 0) (.long 0) (.long 0))]) rfl rfl rfl
  refine A93.astore (q := 86) (l' := #[.val (.int x0), .val (.int x1), .val (.int x2), .val (.int x3), .val (.int x4), .val (.int x5), .val (.ref b3), .val (.ref b34), .val (.ref b56), .val (.ref b69), .val (.ref b86), .unset, .unset]) at_84 rfl rfl rfl ?_
  refine A93.aload (q := 88) at_86 rfl rfl rfl ?_
  refine A93.aload (q := 90) at_88 rfl rfl rfl ?_
  refine A93.iconst (q := 91) (v := 0) at_90 rfl rfl ?_
  refine A93.iconst (q := 92) (v := 2) at_91 rfl rfl ?_
  have A94 := A93.pick (is := [1, 2, 3, 4, 0]) (os2 := [(b56, .inr (.char, [(.int (nar .char r_53))])), (b69, ob0 (.long ln1_74) (.int pv1_74) (.long of1_74) (.long ls1_74) (.long pr1_74)), (b3, .inr (.char, [(.int (nar .char r_6)), (.int (nar .char r_13)), (.int (nar .char r_20))])), (b86, ob0 (.long 1) (.int 0) (.long 0) (.long 0) (.long 0)), (b34, .inr (.char, [(.int (nar .char r_32)), (.int (nar .char r_40))]))]) (by decide) rfl
  refine Here.callV (qn := 95) (os1 := [(b56, .inr (.char, [(.int (nar .char r_53))])), (b69, ob0 (.long ln1_74) (.int pv1_74) (.long of1_74) (.long ls1_74) (.long pr1_74)), (b3, .inr (.char, [(.int (nar .char r_6)), (.int (nar .char r_13)), (.int (nar .char r_20))]))]) (os2 := [(b86, ob0 (.long 1) (.int 0) (.long 0) (.long 0) (.long 0)), (b34, .inr (.char, [(.int (nar .char r_32)), (.int (nar .char r_40))]))]) (rest := []) (W := 0) (argsL := [(.ref b34), (.int 0), (.int 2)]) (a := b86) (i := 3) A94 (m_adv2 l Z a0 hw b86 b34 ((nar .char r_32)) ((nar .char r_40)) ((1 : Int64)) ((0 : Int64)) ((0 : Int64)) ((0 : Int64)) ((0 : Int32)) (rfl)) (Or.inr ⟨rfl, rfl⟩) rfl (tw hw 18 rfl) (tw hw 19 rfl) (tw hw 21 rfl) (tw hw 20 rfl) (tw hw 9 rfl) (tw hw 22 rfl) (by decide) at_92 rfl (lenOf pd_4 rfl) rfl (Nat.le_of_eq rfl) (by decide) (by decide) (by decide) (by decide) rfl (fun T95 v96 os97 A98 P99 => ?_)
  obtain ⟨ln1_92, of1_92, ls1_92, pr1_92, pv1_92, rfl, rfl, hq_92⟩ := P99
  have A100 := A98.cast (k2 := 5) (n2 := 16) (os2 := [(b56, .inr (.char, [(.int (nar .char r_53))])), (b69, ob0 (.long ln1_74) (.int pv1_74) (.long of1_74) (.long ls1_74) (.long pr1_74)), (b3, .inr (.char, [(.int (nar .char r_6)), (.int (nar .char r_13)), (.int (nar .char r_20))])), (b86, ob0 (.long ln1_92) (.int pv1_92) (.long of1_92) (.long ls1_92) (.long pr1_92)), (b34, .inr (.char, [(.int (nar .char r_32)), (.int (nar .char r_40))]))]) rfl rfl rfl
  refine A100.aload (q := 97) at_95 rfl rfl rfl ?_
  refine A100.aload (q := 99) at_97 rfl rfl rfl ?_
  have A101 := A100.pick (is := [0, 2, 4, 3, 1]) (os2 := [(b56, .inr (.char, [(.int (nar .char r_53))])), (b3, .inr (.char, [(.int (nar .char r_6)), (.int (nar .char r_13)), (.int (nar .char r_20))])), (b34, .inr (.char, [(.int (nar .char r_32)), (.int (nar .char r_40))])), (b86, ob0 (.long ln1_92) (.int pv1_92) (.long of1_92) (.long ls1_92) (.long pr1_92)), (b69, ob0 (.long ln1_74) (.int pv1_74) (.long of1_74) (.long ls1_74) (.long pr1_74))]) (by decide) rfl
  refine Here.callV (qn := 102) (os1 := [(b56, .inr (.char, [(.int (nar .char r_53))])), (b3, .inr (.char, [(.int (nar .char r_6)), (.int (nar .char r_13)), (.int (nar .char r_20))])), (b34, .inr (.char, [(.int (nar .char r_32)), (.int (nar .char r_40))]))]) (os2 := [(b86, ob0 (.long ln1_92) (.int pv1_92) (.long of1_92) (.long ls1_92) (.long pr1_92)), (b69, ob0 (.long ln1_74) (.int pv1_74) (.long of1_74) (.long ls1_74) (.long pr1_74))]) (rest := []) (W := 0) (argsL := [(.ref b69)]) (a := b86) (i := 3) A101 (m_stand l Z a0 hw b86 b69 ln1_92 of1_92 ls1_92 pr1_92 pv1_92 ln1_74 of1_74 ls1_74 pr1_74 pv1_74) (Or.inr ⟨rfl, rfl⟩) rfl (tw hw 49 rfl) (tw hw 50 rfl) (tw hw 52 rfl) (tw hw 51 rfl) (tw hw 9 rfl) (tw hw 53 rfl) (by decide) at_99 rfl (lenOf pd_11 rfl) rfl (Nat.le_of_eq rfl) (by decide) (by decide) (by decide) (by decide) rfl (fun T102 v103 os104 A105 P106 => ?_)
  obtain ⟨rfl, rfl⟩ := P106
  have A107 := A105.cast (k2 := 5) (n2 := 16) (os2 := [(b56, .inr (.char, [(.int (nar .char r_53))])), (b3, .inr (.char, [(.int (nar .char r_6)), (.int (nar .char r_13)), (.int (nar .char r_20))])), (b34, .inr (.char, [(.int (nar .char r_32)), (.int (nar .char r_40))])), (b86, ob0 (.long ln1_74) (.int (nar .char pv1_74)) (.long of1_74) (.long ls1_74) (.long pr1_74)), (b69, ob0 (.long ln1_74) (.int pv1_74) (.long of1_74) (.long ls1_74) (.long pr1_74))]) rfl rfl rfl
  refine A107.aload (q := 104) at_102 rfl rfl rfl ?_
  refine A107.aload (q := 106) at_104 rfl rfl rfl ?_
  refine A107.iconst (q := 107) (v := 0) at_106 rfl rfl ?_
  refine A107.iconst (q := 108) (v := 1) at_107 rfl rfl ?_
  have A108 := A107.pick (is := [1, 2, 4, 3, 0]) (os2 := [(b3, .inr (.char, [(.int (nar .char r_6)), (.int (nar .char r_13)), (.int (nar .char r_20))])), (b34, .inr (.char, [(.int (nar .char r_32)), (.int (nar .char r_40))])), (b69, ob0 (.long ln1_74) (.int pv1_74) (.long of1_74) (.long ls1_74) (.long pr1_74)), (b86, ob0 (.long ln1_74) (.int (nar .char pv1_74)) (.long of1_74) (.long ls1_74) (.long pr1_74)), (b56, .inr (.char, [(.int (nar .char r_53))]))]) (by decide) rfl
  refine Here.callV (qn := 111) (os1 := [(b3, .inr (.char, [(.int (nar .char r_6)), (.int (nar .char r_13)), (.int (nar .char r_20))])), (b34, .inr (.char, [(.int (nar .char r_32)), (.int (nar .char r_40))])), (b69, ob0 (.long ln1_74) (.int pv1_74) (.long of1_74) (.long ls1_74) (.long pr1_74))]) (os2 := [(b86, ob0 (.long ln1_74) (.int (nar .char pv1_74)) (.long of1_74) (.long ls1_74) (.long pr1_74)), (b56, .inr (.char, [(.int (nar .char r_53))]))]) (rest := []) (W := 0) (argsL := [(.ref b56), (.int 0), (.int 1)]) (a := b86) (i := 3) A108 (m_one l Z a0 hw b86 b56 ((nar .char r_53)) ln1_74 of1_74 ls1_74 pr1_74 ((nar .char pv1_74))) (Or.inr ⟨rfl, rfl⟩) rfl (tw hw 54 rfl) (tw hw 27 rfl) (tw hw 29 rfl) (tw hw 28 rfl) (tw hw 9 rfl) (tw hw 30 rfl) (by decide) at_108 rfl (lenOf pd_4 rfl) rfl (Nat.le_of_eq rfl) (by decide) (by decide) (by decide) (by decide) rfl (fun T109 v110 os111 A112 P113 => ?_)
  obtain ⟨ln1_108, of1_108, ls1_108, pr1_108, pv1_108, rfl, rfl, hq_108⟩ := P113
  have A114 := A112.cast (k2 := 5) (n2 := 16) (os2 := [(b3, .inr (.char, [(.int (nar .char r_6)), (.int (nar .char r_13)), (.int (nar .char r_20))])), (b34, .inr (.char, [(.int (nar .char r_32)), (.int (nar .char r_40))])), (b69, ob0 (.long ln1_74) (.int pv1_74) (.long of1_74) (.long ls1_74) (.long pr1_74)), (b86, ob0 (.long ln1_108) (.int pv1_108) (.long of1_108) (.long ls1_108) (.long pr1_108)), (b56, .inr (.char, [(.int (nar .char r_53))]))]) rfl rfl rfl
  refine A114.aload (q := 113) at_111 rfl rfl rfl ?_
  refine A114.aload (q := 115) at_113 rfl rfl rfl ?_
  refine A114.iconst (q := 116) (v := 0) at_115 rfl rfl ?_
  refine A114.iconst (q := 117) (v := 1) at_116 rfl rfl ?_
  have A115 := A114.pick (is := [0, 1, 3, 2, 4]) (os2 := [(b3, .inr (.char, [(.int (nar .char r_6)), (.int (nar .char r_13)), (.int (nar .char r_20))])), (b34, .inr (.char, [(.int (nar .char r_32)), (.int (nar .char r_40))])), (b86, ob0 (.long ln1_108) (.int pv1_108) (.long of1_108) (.long ls1_108) (.long pr1_108)), (b69, ob0 (.long ln1_74) (.int pv1_74) (.long of1_74) (.long ls1_74) (.long pr1_74)), (b56, .inr (.char, [(.int (nar .char r_53))]))]) (by decide) rfl
  refine Here.callV (qn := 120) (os1 := [(b3, .inr (.char, [(.int (nar .char r_6)), (.int (nar .char r_13)), (.int (nar .char r_20))])), (b34, .inr (.char, [(.int (nar .char r_32)), (.int (nar .char r_40))])), (b86, ob0 (.long ln1_108) (.int pv1_108) (.long of1_108) (.long ls1_108) (.long pr1_108))]) (os2 := [(b69, ob0 (.long ln1_74) (.int pv1_74) (.long of1_74) (.long ls1_74) (.long pr1_74)), (b56, .inr (.char, [(.int (nar .char r_53))]))]) (rest := []) (W := 0) (argsL := [(.ref b56), (.int 0), (.int 1)]) (a := b69) (i := 3) A115 (m_one l Z a0 hw b69 b56 ((nar .char r_53)) ln1_74 of1_74 ls1_74 pr1_74 pv1_74) (Or.inr ⟨rfl, rfl⟩) rfl (tw hw 54 rfl) (tw hw 27 rfl) (tw hw 29 rfl) (tw hw 28 rfl) (tw hw 9 rfl) (tw hw 30 rfl) (by decide) at_117 rfl (lenOf pd_4 rfl) rfl (Nat.le_of_eq rfl) (by decide) (by decide) (by decide) (by decide) rfl (fun T116 v117 os118 A119 P120 => ?_)
  obtain ⟨ln1_117, of1_117, ls1_117, pr1_117, pv1_117, rfl, rfl, hq_117⟩ := P120
  have A121 := A119.cast (k2 := 5) (n2 := 16) (os2 := [(b3, .inr (.char, [(.int (nar .char r_6)), (.int (nar .char r_13)), (.int (nar .char r_20))])), (b34, .inr (.char, [(.int (nar .char r_32)), (.int (nar .char r_40))])), (b86, ob0 (.long ln1_108) (.int pv1_108) (.long of1_108) (.long ls1_108) (.long pr1_108)), (b69, ob0 (.long ln1_117) (.int pv1_117) (.long of1_117) (.long ls1_117) (.long pr1_117)), (b56, .inr (.char, [(.int (nar .char r_53))]))]) rfl rfl rfl
  refine A121.aload (q := 122) at_120 rfl rfl rfl ?_
  have A122 := A121.pick (is := [0, 1, 3, 4, 2]) (os2 := [(b3, .inr (.char, [(.int (nar .char r_6)), (.int (nar .char r_13)), (.int (nar .char r_20))])), (b34, .inr (.char, [(.int (nar .char r_32)), (.int (nar .char r_40))])), (b69, ob0 (.long ln1_117) (.int pv1_117) (.long of1_117) (.long ls1_117) (.long pr1_117)), (b56, .inr (.char, [(.int (nar .char r_53))])), (b86, ob0 (.long ln1_108) (.int pv1_108) (.long of1_108) (.long ls1_108) (.long pr1_108))]) (by decide) rfl
  refine Here.callV (qn := 125) (os1 := [(b3, .inr (.char, [(.int (nar .char r_6)), (.int (nar .char r_13)), (.int (nar .char r_20))])), (b34, .inr (.char, [(.int (nar .char r_32)), (.int (nar .char r_40))])), (b69, ob0 (.long ln1_117) (.int pv1_117) (.long of1_117) (.long ls1_117) (.long pr1_117)), (b56, .inr (.char, [(.int (nar .char r_53))]))]) (os2 := [(b86, ob0 (.long ln1_108) (.int pv1_108) (.long of1_108) (.long ls1_108) (.long pr1_108))]) (rest := []) (W := 0) (argsL := []) (a := b86) (i := 4) A122 (m_pos l Z a0 hw b86 ln1_108 of1_108 ls1_108 pr1_108 pv1_108) (Or.inr ⟨rfl, rfl⟩) rfl (tw hw 55 rfl) (tw hw 56 rfl) (tw hw 58 rfl) (tw hw 57 rfl) (tw hw 9 rfl) (tw hw 59 rfl) (by decide) at_122 rfl (lenOf pd_12 rfl) rfl (Nat.le_of_eq rfl) (by decide) (by decide) (by decide) (by decide) rfl (fun T123 v124 os125 A126 P127 => ?_)
  obtain ⟨b_122, rfl, rfl⟩ := P127
  have A128 := A126.cast (k2 := 6) (n2 := 19) (os2 := [(b3, .inr (.char, [(.int (nar .char r_6)), (.int (nar .char r_13)), (.int (nar .char r_20))])), (b34, .inr (.char, [(.int (nar .char r_32)), (.int (nar .char r_40))])), (b69, ob0 (.long ln1_117) (.int pv1_117) (.long of1_117) (.long ls1_117) (.long pr1_117)), (b56, .inr (.char, [(.int (nar .char r_53))])), (b86, ob0 (.long ln1_108) (.int pv1_108) (.long of1_108) (.long ls1_108) (.long pr1_108)), (b_122, ob1 (.long ln1_108) (.long (((of1_108 - ls1_108) + (1 : Int64)) - pr1_108)) (.long of1_108))]) rfl rfl rfl
  refine A128.astore (q := 127) (l' := #[.val (.int x0), .val (.int x1), .val (.int x2), .val (.int x3), .val (.int x4), .val (.int x5), .val (.ref b3), .val (.ref b34), .val (.ref b56), .val (.ref b69), .val (.ref b86), .val (.ref b_122), .unset]) at_125 rfl rfl rfl ?_
  refine A128.aload (q := 129) at_127 rfl rfl rfl ?_
  have A129 := A128.pick (is := [0, 1, 3, 4, 5, 2]) (os2 := [(b3, .inr (.char, [(.int (nar .char r_6)), (.int (nar .char r_13)), (.int (nar .char r_20))])), (b34, .inr (.char, [(.int (nar .char r_32)), (.int (nar .char r_40))])), (b56, .inr (.char, [(.int (nar .char r_53))])), (b86, ob0 (.long ln1_108) (.int pv1_108) (.long of1_108) (.long ls1_108) (.long pr1_108)), (b_122, ob1 (.long ln1_108) (.long (((of1_108 - ls1_108) + (1 : Int64)) - pr1_108)) (.long of1_108)), (b69, ob0 (.long ln1_117) (.int pv1_117) (.long of1_117) (.long ls1_117) (.long pr1_117))]) (by decide) rfl
  refine Here.callV (qn := 132) (os1 := [(b3, .inr (.char, [(.int (nar .char r_6)), (.int (nar .char r_13)), (.int (nar .char r_20))])), (b34, .inr (.char, [(.int (nar .char r_32)), (.int (nar .char r_40))])), (b56, .inr (.char, [(.int (nar .char r_53))])), (b86, ob0 (.long ln1_108) (.int pv1_108) (.long of1_108) (.long ls1_108) (.long pr1_108)), (b_122, ob1 (.long ln1_108) (.long (((of1_108 - ls1_108) + (1 : Int64)) - pr1_108)) (.long of1_108))]) (os2 := [(b69, ob0 (.long ln1_117) (.int pv1_117) (.long of1_117) (.long ls1_117) (.long pr1_117))]) (rest := []) (W := 0) (argsL := []) (a := b69) (i := 5) A129 (m_pos l Z a0 hw b69 ln1_117 of1_117 ls1_117 pr1_117 pv1_117) (Or.inr ⟨rfl, rfl⟩) rfl (tw hw 55 rfl) (tw hw 56 rfl) (tw hw 58 rfl) (tw hw 57 rfl) (tw hw 9 rfl) (tw hw 59 rfl) (by decide) at_129 rfl (lenOf pd_12 rfl) rfl (Nat.le_of_eq rfl) (by decide) (by decide) (by decide) (by decide) rfl (fun T130 v131 os132 A133 P134 => ?_)
  obtain ⟨b_129, rfl, rfl⟩ := P134
  have A135 := A133.cast (k2 := 7) (n2 := 22) (os2 := [(b3, .inr (.char, [(.int (nar .char r_6)), (.int (nar .char r_13)), (.int (nar .char r_20))])), (b34, .inr (.char, [(.int (nar .char r_32)), (.int (nar .char r_40))])), (b56, .inr (.char, [(.int (nar .char r_53))])), (b86, ob0 (.long ln1_108) (.int pv1_108) (.long of1_108) (.long ls1_108) (.long pr1_108)), (b_122, ob1 (.long ln1_108) (.long (((of1_108 - ls1_108) + (1 : Int64)) - pr1_108)) (.long of1_108)), (b69, ob0 (.long ln1_117) (.int pv1_117) (.long of1_117) (.long ls1_117) (.long pr1_117)), (b_129, ob1 (.long ln1_117) (.long (((of1_117 - ls1_117) + (1 : Int64)) - pr1_117)) (.long of1_117))]) rfl rfl rfl
  refine A135.astore (q := 134) (l' := #[.val (.int x0), .val (.int x1), .val (.int x2), .val (.int x3), .val (.int x4), .val (.int x5), .val (.ref b3), .val (.ref b34), .val (.ref b56), .val (.ref b69), .val (.ref b86), .val (.ref b_122), .val (.ref b_129)]) at_132 rfl rfl rfl ?_
  refine A135.aload (q := 136) at_134 rfl rfl rfl ?_
  have A136 := A135.pick (is := [0, 1, 2, 3, 5, 6, 4]) (os2 := [(b3, .inr (.char, [(.int (nar .char r_6)), (.int (nar .char r_13)), (.int (nar .char r_20))])), (b34, .inr (.char, [(.int (nar .char r_32)), (.int (nar .char r_40))])), (b56, .inr (.char, [(.int (nar .char r_53))])), (b86, ob0 (.long ln1_108) (.int pv1_108) (.long of1_108) (.long ls1_108) (.long pr1_108)), (b69, ob0 (.long ln1_117) (.int pv1_117) (.long of1_117) (.long ls1_117) (.long pr1_117)), (b_129, ob1 (.long ln1_117) (.long (((of1_117 - ls1_117) + (1 : Int64)) - pr1_117)) (.long of1_117)), (b_122, ob1 (.long ln1_108) (.long (((of1_108 - ls1_108) + (1 : Int64)) - pr1_108)) (.long of1_108))]) (by decide) rfl
  refine Here.callV (qn := 139) (os1 := [(b3, .inr (.char, [(.int (nar .char r_6)), (.int (nar .char r_13)), (.int (nar .char r_20))])), (b34, .inr (.char, [(.int (nar .char r_32)), (.int (nar .char r_40))])), (b56, .inr (.char, [(.int (nar .char r_53))])), (b86, ob0 (.long ln1_108) (.int pv1_108) (.long of1_108) (.long ls1_108) (.long pr1_108)), (b69, ob0 (.long ln1_117) (.int pv1_117) (.long of1_117) (.long ls1_117) (.long pr1_117)), (b_129, ob1 (.long ln1_117) (.long (((of1_117 - ls1_117) + (1 : Int64)) - pr1_117)) (.long of1_117))]) (os2 := [(b_122, ob1 (.long ln1_108) (.long (((of1_108 - ls1_108) + (1 : Int64)) - pr1_108)) (.long of1_108))]) (rest := []) (W := 0) (argsL := []) (a := b_122) (i := 6) A136 (m_line l Z a0 hw b_122 ln1_108 ((((of1_108 - ls1_108) + (1 : Int64)) - pr1_108)) of1_108) (Or.inr ⟨rfl, rfl⟩) rfl (tw hw 83 rfl) (tw hw 84 rfl) (tw hw 86 rfl) (tw hw 85 rfl) (tw hw 62 rfl) (tw hw 87 rfl) (by decide) at_136 rfl (lenOf pd_8 rfl) rfl (Nat.le_of_eq rfl) (by decide) (by decide) (by decide) (by decide) rfl (fun T137 v138 os139 A140 P141 => ?_)
  obtain ⟨rfl, rfl⟩ := P141
  have A142 := A140.cast (k2 := 7) (n2 := 22) (os2 := [(b3, .inr (.char, [(.int (nar .char r_6)), (.int (nar .char r_13)), (.int (nar .char r_20))])), (b34, .inr (.char, [(.int (nar .char r_32)), (.int (nar .char r_40))])), (b56, .inr (.char, [(.int (nar .char r_53))])), (b86, ob0 (.long ln1_108) (.int pv1_108) (.long of1_108) (.long ls1_108) (.long pr1_108)), (b69, ob0 (.long ln1_117) (.int pv1_117) (.long of1_117) (.long ls1_117) (.long pr1_117)), (b_129, ob1 (.long ln1_117) (.long (((of1_117 - ls1_117) + (1 : Int64)) - pr1_117)) (.long of1_117)), (b_122, ob1 (.long ln1_108) (.long (((of1_108 - ls1_108) + (1 : Int64)) - pr1_108)) (.long of1_108))]) rfl rfl rfl
  refine A142.aload (q := 141) at_139 rfl rfl rfl ?_
  have A143 := A142.pick (is := [0, 1, 2, 3, 4, 6, 5]) (os2 := [(b3, .inr (.char, [(.int (nar .char r_6)), (.int (nar .char r_13)), (.int (nar .char r_20))])), (b34, .inr (.char, [(.int (nar .char r_32)), (.int (nar .char r_40))])), (b56, .inr (.char, [(.int (nar .char r_53))])), (b86, ob0 (.long ln1_108) (.int pv1_108) (.long of1_108) (.long ls1_108) (.long pr1_108)), (b69, ob0 (.long ln1_117) (.int pv1_117) (.long of1_117) (.long ls1_117) (.long pr1_117)), (b_122, ob1 (.long ln1_108) (.long (((of1_108 - ls1_108) + (1 : Int64)) - pr1_108)) (.long of1_108)), (b_129, ob1 (.long ln1_117) (.long (((of1_117 - ls1_117) + (1 : Int64)) - pr1_117)) (.long of1_117))]) (by decide) rfl
  refine Here.callV (qn := 144) (os1 := [(b3, .inr (.char, [(.int (nar .char r_6)), (.int (nar .char r_13)), (.int (nar .char r_20))])), (b34, .inr (.char, [(.int (nar .char r_32)), (.int (nar .char r_40))])), (b56, .inr (.char, [(.int (nar .char r_53))])), (b86, ob0 (.long ln1_108) (.int pv1_108) (.long of1_108) (.long ls1_108) (.long pr1_108)), (b69, ob0 (.long ln1_117) (.int pv1_117) (.long of1_117) (.long ls1_117) (.long pr1_117)), (b_122, ob1 (.long ln1_108) (.long (((of1_108 - ls1_108) + (1 : Int64)) - pr1_108)) (.long of1_108))]) (os2 := [(b_129, ob1 (.long ln1_117) (.long (((of1_117 - ls1_117) + (1 : Int64)) - pr1_117)) (.long of1_117))]) (rest := [(.long ln1_108)]) (W := 2) (argsL := []) (a := b_129) (i := 6) A143 (m_line l Z a0 hw b_129 ln1_117 ((((of1_117 - ls1_117) + (1 : Int64)) - pr1_117)) of1_117) (Or.inr ⟨rfl, rfl⟩) rfl (tw hw 83 rfl) (tw hw 84 rfl) (tw hw 86 rfl) (tw hw 85 rfl) (tw hw 62 rfl) (tw hw 87 rfl) (by decide) at_141 rfl (lenOf pd_8 rfl) rfl (Nat.le_of_eq rfl) (by decide) (by decide) (by decide) (by decide) rfl (fun T144 v145 os146 A147 P148 => ?_)
  obtain ⟨rfl, rfl⟩ := P148
  have A149 := A147.cast (k2 := 7) (n2 := 22) (os2 := [(b3, .inr (.char, [(.int (nar .char r_6)), (.int (nar .char r_13)), (.int (nar .char r_20))])), (b34, .inr (.char, [(.int (nar .char r_32)), (.int (nar .char r_40))])), (b56, .inr (.char, [(.int (nar .char r_53))])), (b86, ob0 (.long ln1_108) (.int pv1_108) (.long of1_108) (.long ls1_108) (.long pr1_108)), (b69, ob0 (.long ln1_117) (.int pv1_117) (.long of1_117) (.long ls1_117) (.long pr1_117)), (b_122, ob1 (.long ln1_108) (.long (((of1_108 - ls1_108) + (1 : Int64)) - pr1_108)) (.long of1_108)), (b_129, ob1 (.long ln1_117) (.long (((of1_117 - ls1_117) + (1 : Int64)) - pr1_117)) (.long of1_117))]) rfl rfl rfl
  refine A149.lcmp (q := 145) at_144 rfl ?_
  have hc145_150 : ln1_108 = ln1_117 := by
    clear hw A0 A2 A4 A8 A10 A12 A13 A17 A19 A21 A22 A26 A28 A30 A31 A33 A35 A39 A41 A43 A44 A48 A50 A52 A53 A55 A57 A61 A63 A65 A66 A68 A70 A74 A76 A77 A81 A83 A85 A87 A91 A93 A94 A98 A100 A101 A105 A107 A108 A112 A114 A115 A119 A121 A122 A126 A128 A129 A133 A135 A136 A140 A142 A143 A147 A149
    obtain ⟨e1, e2, e3, e4⟩ := hq_108
    obtain ⟨f1, f2, f3, f4⟩ := hq_117
    rw [hq_74] at e1 e4
    simp only [e1, e2, e3, e4, f1, f2, f3, f4]
  refine A149.ifNo (q := 148) at_145 ((if0 _ _).trans (teq ((lw_eq ln1_108 ln1_117).mpr hc145_150)).2) rfl ?_
  refine A149.aload (q := 150) at_148 rfl rfl rfl ?_
  have A151 := A149.pick (is := [0, 1, 2, 3, 4, 6, 5]) (os2 := [(b3, .inr (.char, [(.int (nar .char r_6)), (.int (nar .char r_13)), (.int (nar .char r_20))])), (b34, .inr (.char, [(.int (nar .char r_32)), (.int (nar .char r_40))])), (b56, .inr (.char, [(.int (nar .char r_53))])), (b86, ob0 (.long ln1_108) (.int pv1_108) (.long of1_108) (.long ls1_108) (.long pr1_108)), (b69, ob0 (.long ln1_117) (.int pv1_117) (.long of1_117) (.long ls1_117) (.long pr1_117)), (b_129, ob1 (.long ln1_117) (.long (((of1_117 - ls1_117) + (1 : Int64)) - pr1_117)) (.long of1_117)), (b_122, ob1 (.long ln1_108) (.long (((of1_108 - ls1_108) + (1 : Int64)) - pr1_108)) (.long of1_108))]) (by decide) rfl
  refine Here.callV (qn := 153) (os1 := [(b3, .inr (.char, [(.int (nar .char r_6)), (.int (nar .char r_13)), (.int (nar .char r_20))])), (b34, .inr (.char, [(.int (nar .char r_32)), (.int (nar .char r_40))])), (b56, .inr (.char, [(.int (nar .char r_53))])), (b86, ob0 (.long ln1_108) (.int pv1_108) (.long of1_108) (.long ls1_108) (.long pr1_108)), (b69, ob0 (.long ln1_117) (.int pv1_117) (.long of1_117) (.long ls1_117) (.long pr1_117)), (b_129, ob1 (.long ln1_117) (.long (((of1_117 - ls1_117) + (1 : Int64)) - pr1_117)) (.long of1_117))]) (os2 := [(b_122, ob1 (.long ln1_108) (.long (((of1_108 - ls1_108) + (1 : Int64)) - pr1_108)) (.long of1_108))]) (rest := []) (W := 0) (argsL := []) (a := b_122) (i := 6) A151 (m_column l Z a0 hw b_122 ln1_108 ((((of1_108 - ls1_108) + (1 : Int64)) - pr1_108)) of1_108) (Or.inr ⟨rfl, rfl⟩) rfl (tw hw 88 rfl) (tw hw 89 rfl) (tw hw 91 rfl) (tw hw 90 rfl) (tw hw 62 rfl) (tw hw 92 rfl) (by decide) at_150 rfl (lenOf pd_8 rfl) rfl (Nat.le_of_eq rfl) (by decide) (by decide) (by decide) (by decide) rfl (fun T152 v153 os154 A155 P156 => ?_)
  obtain ⟨rfl, rfl⟩ := P156
  have A157 := A155.cast (k2 := 7) (n2 := 22) (os2 := [(b3, .inr (.char, [(.int (nar .char r_6)), (.int (nar .char r_13)), (.int (nar .char r_20))])), (b34, .inr (.char, [(.int (nar .char r_32)), (.int (nar .char r_40))])), (b56, .inr (.char, [(.int (nar .char r_53))])), (b86, ob0 (.long ln1_108) (.int pv1_108) (.long of1_108) (.long ls1_108) (.long pr1_108)), (b69, ob0 (.long ln1_117) (.int pv1_117) (.long of1_117) (.long ls1_117) (.long pr1_117)), (b_129, ob1 (.long ln1_117) (.long (((of1_117 - ls1_117) + (1 : Int64)) - pr1_117)) (.long of1_117)), (b_122, ob1 (.long ln1_108) (.long (((of1_108 - ls1_108) + (1 : Int64)) - pr1_108)) (.long of1_108))]) rfl rfl rfl
  refine A157.aload (q := 155) at_153 rfl rfl rfl ?_
  have A158 := A157.pick (is := [0, 1, 2, 3, 4, 6, 5]) (os2 := [(b3, .inr (.char, [(.int (nar .char r_6)), (.int (nar .char r_13)), (.int (nar .char r_20))])), (b34, .inr (.char, [(.int (nar .char r_32)), (.int (nar .char r_40))])), (b56, .inr (.char, [(.int (nar .char r_53))])), (b86, ob0 (.long ln1_108) (.int pv1_108) (.long of1_108) (.long ls1_108) (.long pr1_108)), (b69, ob0 (.long ln1_117) (.int pv1_117) (.long of1_117) (.long ls1_117) (.long pr1_117)), (b_122, ob1 (.long ln1_108) (.long (((of1_108 - ls1_108) + (1 : Int64)) - pr1_108)) (.long of1_108)), (b_129, ob1 (.long ln1_117) (.long (((of1_117 - ls1_117) + (1 : Int64)) - pr1_117)) (.long of1_117))]) (by decide) rfl
  refine Here.callV (qn := 158) (os1 := [(b3, .inr (.char, [(.int (nar .char r_6)), (.int (nar .char r_13)), (.int (nar .char r_20))])), (b34, .inr (.char, [(.int (nar .char r_32)), (.int (nar .char r_40))])), (b56, .inr (.char, [(.int (nar .char r_53))])), (b86, ob0 (.long ln1_108) (.int pv1_108) (.long of1_108) (.long ls1_108) (.long pr1_108)), (b69, ob0 (.long ln1_117) (.int pv1_117) (.long of1_117) (.long ls1_117) (.long pr1_117)), (b_122, ob1 (.long ln1_108) (.long (((of1_108 - ls1_108) + (1 : Int64)) - pr1_108)) (.long of1_108))]) (os2 := [(b_129, ob1 (.long ln1_117) (.long (((of1_117 - ls1_117) + (1 : Int64)) - pr1_117)) (.long of1_117))]) (rest := [(.long (((of1_108 - ls1_108) + (1 : Int64)) - pr1_108))]) (W := 2) (argsL := []) (a := b_129) (i := 6) A158 (m_column l Z a0 hw b_129 ln1_117 ((((of1_117 - ls1_117) + (1 : Int64)) - pr1_117)) of1_117) (Or.inr ⟨rfl, rfl⟩) rfl (tw hw 88 rfl) (tw hw 89 rfl) (tw hw 91 rfl) (tw hw 90 rfl) (tw hw 62 rfl) (tw hw 92 rfl) (by decide) at_155 rfl (lenOf pd_8 rfl) rfl (Nat.le_of_eq rfl) (by decide) (by decide) (by decide) (by decide) rfl (fun T159 v160 os161 A162 P163 => ?_)
  obtain ⟨rfl, rfl⟩ := P163
  have A164 := A162.cast (k2 := 7) (n2 := 22) (os2 := [(b3, .inr (.char, [(.int (nar .char r_6)), (.int (nar .char r_13)), (.int (nar .char r_20))])), (b34, .inr (.char, [(.int (nar .char r_32)), (.int (nar .char r_40))])), (b56, .inr (.char, [(.int (nar .char r_53))])), (b86, ob0 (.long ln1_108) (.int pv1_108) (.long of1_108) (.long ls1_108) (.long pr1_108)), (b69, ob0 (.long ln1_117) (.int pv1_117) (.long of1_117) (.long ls1_117) (.long pr1_117)), (b_122, ob1 (.long ln1_108) (.long (((of1_108 - ls1_108) + (1 : Int64)) - pr1_108)) (.long of1_108)), (b_129, ob1 (.long ln1_117) (.long (((of1_117 - ls1_117) + (1 : Int64)) - pr1_117)) (.long of1_117))]) rfl rfl rfl
  refine A164.lcmp (q := 159) at_158 rfl ?_
  have hc159_165 : (((of1_108 - ls1_108) + (1 : Int64)) - pr1_108) = (((of1_117 - ls1_117) + (1 : Int64)) - pr1_117) := by
    clear hw A0 A2 A4 A8 A10 A12 A13 A17 A19 A21 A22 A26 A28 A30 A31 A33 A35 A39 A41 A43 A44 A48 A50 A52 A53 A55 A57 A61 A63 A65 A66 A68 A70 A74 A76 A77 A81 A83 A85 A87 A91 A93 A94 A98 A100 A101 A105 A107 A108 A112 A114 A115 A119 A121 A122 A126 A128 A129 A133 A135 A136 A140 A142 A143 A147 A149 A151 A155 A157 A158 A162 A164
    obtain ⟨e1, e2, e3, e4⟩ := hq_108
    obtain ⟨f1, f2, f3, f4⟩ := hq_117
    rw [hq_74] at e1 e4
    simp only [e1, e2, e3, e4, f1, f2, f3, f4]
  refine A164.ifNo (q := 162) at_159 ((if0 _ _).trans (teq ((lw_eq (((of1_108 - ls1_108) + (1 : Int64)) - pr1_108) (((of1_117 - ls1_117) + (1 : Int64)) - pr1_117)).mpr hc159_165)).2) rfl ?_
  refine A164.aload (q := 164) at_162 rfl rfl rfl ?_
  have A166 := A164.pick (is := [0, 1, 2, 3, 4, 6, 5]) (os2 := [(b3, .inr (.char, [(.int (nar .char r_6)), (.int (nar .char r_13)), (.int (nar .char r_20))])), (b34, .inr (.char, [(.int (nar .char r_32)), (.int (nar .char r_40))])), (b56, .inr (.char, [(.int (nar .char r_53))])), (b86, ob0 (.long ln1_108) (.int pv1_108) (.long of1_108) (.long ls1_108) (.long pr1_108)), (b69, ob0 (.long ln1_117) (.int pv1_117) (.long of1_117) (.long ls1_117) (.long pr1_117)), (b_129, ob1 (.long ln1_117) (.long (((of1_117 - ls1_117) + (1 : Int64)) - pr1_117)) (.long of1_117)), (b_122, ob1 (.long ln1_108) (.long (((of1_108 - ls1_108) + (1 : Int64)) - pr1_108)) (.long of1_108))]) (by decide) rfl
  refine Here.callV (qn := 167) (os1 := [(b3, .inr (.char, [(.int (nar .char r_6)), (.int (nar .char r_13)), (.int (nar .char r_20))])), (b34, .inr (.char, [(.int (nar .char r_32)), (.int (nar .char r_40))])), (b56, .inr (.char, [(.int (nar .char r_53))])), (b86, ob0 (.long ln1_108) (.int pv1_108) (.long of1_108) (.long ls1_108) (.long pr1_108)), (b69, ob0 (.long ln1_117) (.int pv1_117) (.long of1_117) (.long ls1_117) (.long pr1_117)), (b_129, ob1 (.long ln1_117) (.long (((of1_117 - ls1_117) + (1 : Int64)) - pr1_117)) (.long of1_117))]) (os2 := [(b_122, ob1 (.long ln1_108) (.long (((of1_108 - ls1_108) + (1 : Int64)) - pr1_108)) (.long of1_108))]) (rest := []) (W := 0) (argsL := []) (a := b_122) (i := 6) A166 (m_offset l Z a0 hw b_122 ln1_108 ((((of1_108 - ls1_108) + (1 : Int64)) - pr1_108)) of1_108) (Or.inr ⟨rfl, rfl⟩) rfl (tw hw 93 rfl) (tw hw 94 rfl) (tw hw 96 rfl) (tw hw 95 rfl) (tw hw 62 rfl) (tw hw 97 rfl) (by decide) at_164 rfl (lenOf pd_8 rfl) rfl (Nat.le_of_eq rfl) (by decide) (by decide) (by decide) (by decide) rfl (fun T167 v168 os169 A170 P171 => ?_)
  obtain ⟨rfl, rfl⟩ := P171
  have A172 := A170.cast (k2 := 7) (n2 := 22) (os2 := [(b3, .inr (.char, [(.int (nar .char r_6)), (.int (nar .char r_13)), (.int (nar .char r_20))])), (b34, .inr (.char, [(.int (nar .char r_32)), (.int (nar .char r_40))])), (b56, .inr (.char, [(.int (nar .char r_53))])), (b86, ob0 (.long ln1_108) (.int pv1_108) (.long of1_108) (.long ls1_108) (.long pr1_108)), (b69, ob0 (.long ln1_117) (.int pv1_117) (.long of1_117) (.long ls1_117) (.long pr1_117)), (b_129, ob1 (.long ln1_117) (.long (((of1_117 - ls1_117) + (1 : Int64)) - pr1_117)) (.long of1_117)), (b_122, ob1 (.long ln1_108) (.long (((of1_108 - ls1_108) + (1 : Int64)) - pr1_108)) (.long of1_108))]) rfl rfl rfl
  refine A172.aload (q := 169) at_167 rfl rfl rfl ?_
  have A173 := A172.pick (is := [0, 1, 2, 3, 4, 6, 5]) (os2 := [(b3, .inr (.char, [(.int (nar .char r_6)), (.int (nar .char r_13)), (.int (nar .char r_20))])), (b34, .inr (.char, [(.int (nar .char r_32)), (.int (nar .char r_40))])), (b56, .inr (.char, [(.int (nar .char r_53))])), (b86, ob0 (.long ln1_108) (.int pv1_108) (.long of1_108) (.long ls1_108) (.long pr1_108)), (b69, ob0 (.long ln1_117) (.int pv1_117) (.long of1_117) (.long ls1_117) (.long pr1_117)), (b_122, ob1 (.long ln1_108) (.long (((of1_108 - ls1_108) + (1 : Int64)) - pr1_108)) (.long of1_108)), (b_129, ob1 (.long ln1_117) (.long (((of1_117 - ls1_117) + (1 : Int64)) - pr1_117)) (.long of1_117))]) (by decide) rfl
  refine Here.callV (qn := 172) (os1 := [(b3, .inr (.char, [(.int (nar .char r_6)), (.int (nar .char r_13)), (.int (nar .char r_20))])), (b34, .inr (.char, [(.int (nar .char r_32)), (.int (nar .char r_40))])), (b56, .inr (.char, [(.int (nar .char r_53))])), (b86, ob0 (.long ln1_108) (.int pv1_108) (.long of1_108) (.long ls1_108) (.long pr1_108)), (b69, ob0 (.long ln1_117) (.int pv1_117) (.long of1_117) (.long ls1_117) (.long pr1_117)), (b_122, ob1 (.long ln1_108) (.long (((of1_108 - ls1_108) + (1 : Int64)) - pr1_108)) (.long of1_108))]) (os2 := [(b_129, ob1 (.long ln1_117) (.long (((of1_117 - ls1_117) + (1 : Int64)) - pr1_117)) (.long of1_117))]) (rest := [(.long of1_108)]) (W := 2) (argsL := []) (a := b_129) (i := 6) A173 (m_offset l Z a0 hw b_129 ln1_117 ((((of1_117 - ls1_117) + (1 : Int64)) - pr1_117)) of1_117) (Or.inr ⟨rfl, rfl⟩) rfl (tw hw 93 rfl) (tw hw 94 rfl) (tw hw 96 rfl) (tw hw 95 rfl) (tw hw 62 rfl) (tw hw 97 rfl) (by decide) at_169 rfl (lenOf pd_8 rfl) rfl (Nat.le_of_eq rfl) (by decide) (by decide) (by decide) (by decide) rfl (fun T174 v175 os176 A177 P178 => ?_)
  obtain ⟨rfl, rfl⟩ := P178
  have A179 := A177.cast (k2 := 7) (n2 := 22) (os2 := [(b3, .inr (.char, [(.int (nar .char r_6)), (.int (nar .char r_13)), (.int (nar .char r_20))])), (b34, .inr (.char, [(.int (nar .char r_32)), (.int (nar .char r_40))])), (b56, .inr (.char, [(.int (nar .char r_53))])), (b86, ob0 (.long ln1_108) (.int pv1_108) (.long of1_108) (.long ls1_108) (.long pr1_108)), (b69, ob0 (.long ln1_117) (.int pv1_117) (.long of1_117) (.long ls1_117) (.long pr1_117)), (b_122, ob1 (.long ln1_108) (.long (((of1_108 - ls1_108) + (1 : Int64)) - pr1_108)) (.long of1_108)), (b_129, ob1 (.long ln1_117) (.long (((of1_117 - ls1_117) + (1 : Int64)) - pr1_117)) (.long of1_117))]) rfl rfl rfl
  refine A179.lcmp (q := 173) at_172 rfl ?_
  have hc173_180 : of1_108 = of1_117 := by
    clear hw A0 A2 A4 A8 A10 A12 A13 A17 A19 A21 A22 A26 A28 A30 A31 A33 A35 A39 A41 A43 A44 A48 A50 A52 A53 A55 A57 A61 A63 A65 A66 A68 A70 A74 A76 A77 A81 A83 A85 A87 A91 A93 A94 A98 A100 A101 A105 A107 A108 A112 A114 A115 A119 A121 A122 A126 A128 A129 A133 A135 A136 A140 A142 A143 A147 A149 A151 A155 A157 A158 A162 A164 A166 A170 A172 A173 A177 A179
    obtain ⟨e1, e2, e3, e4⟩ := hq_108
    obtain ⟨f1, f2, f3, f4⟩ := hq_117
    rw [hq_74] at e1 e4
    simp only [e1, e2, e3, e4, f1, f2, f3, f4]
  refine A179.ifNo (q := 176) at_173 ((if0 _ _).trans (teq ((lw_eq of1_108 of1_117).mpr hc173_180)).2) rfl ?_
  refine A179.iconst (q := 177) (v := 1) at_176 rfl rfl ?_
  refine A179.goto (q := 181) at_177 (by decide) (by decide) ?_
  exact A179.retN (by simp) at_181 (by decide) (by decide) ⟨rfl, trivial⟩
set_option maxRecDepth 65536 in
set_option maxHeartbeats 40000000 in
theorem comes_1 {Post : Tables → Env → Array Value → State → Outcome → State → Prop} (hpost : ∀ tb e args s v u, (limb_1_1.after args s (.returned v) u = true ∧ limb_1_2.after args s (.returned v) u = true ∧ True) → FrameEnd s (.returned v) u (Jvm.fieldLocs frame_1_writes args s ++ Jvm.arrayLocs frame_1_arrays args s ++ Jvm.staticLocs frame_1_statics s) 24 128 → Post tb e args s (.returned v) u) :
    ArmFor flags0 classFile x code maxLocals ret World_1 tables_1 room_1 Calls_1 rest_1 Pre_1 Post := by
  intro l hfl _ _ p e ha hc hk s m args below hf hA hF happ hP
  obtain ⟨hcalls, hrest, hpre⟩ := hP
  obtain ⟨-, -, -, hnamed, -, -, -, hat⟩ := (Spec.applies_iff hf).mp happ
  obtain ⟨hg, hn⟩ := and_e (Cond.before_iff.mp (show (Jvm.Cond.and given_1 narrow_1).before args s = true from hpre))
  obtain ⟨g11, g12⟩ := and_e hg
  obtain ⟨g13, g14⟩ := and_e g12
  obtain ⟨g15, g16⟩ := and_e g14
  obtain ⟨g17, g18⟩ := and_e g16
  obtain ⟨g19, g20⟩ := and_e g18
  obtain ⟨g21, g22⟩ := and_e g20
  obtain ⟨w0, w1, w2, w3, w4, w5, rfl⟩ : ∃ w0 w1 w2 w3 w4 w5 : Value, args = #[w0, w1, w2, w3, w4, w5] := by
    have hs : args.size = 6 := by simpa [Cond.value, given_1] using g11
    obtain ⟨L⟩ := args
    match L, hs with
    | [w0, w1, w2, w3, w4, w5], _ => exact ⟨w0, w1, w2, w3, w4, w5, rfl⟩
  have hw := fun d (hd : d ∈ tables_1) => atoms_spec (ws := Jvm.Cond.code x code maxLocals ret :: tables_1) hat d (List.mem_cons_of_mem _ hd)
  obtain ⟨i0, ei0⟩ := is_v g13
  obtain rfl : w0 = (.int i0) := Option.some.inj ei0
  obtain ⟨i1, ei1⟩ := is_v g15
  obtain rfl : w1 = (.int i1) := Option.some.inj ei1
  obtain ⟨i2, ei2⟩ := is_v g17
  obtain rfl : w2 = (.int i2) := Option.some.inj ei2
  obtain ⟨i3, ei3⟩ := is_v g19
  obtain rfl : w3 = (.int i3) := Option.some.inj ei3
  obtain ⟨i4, ei4⟩ := is_v g21
  obtain rfl : w4 = (.int i4) := Option.some.inj ei4
  obtain ⟨i5, ei5⟩ := is_v g22
  obtain rfl : w5 = (.int i5) := Option.some.inj ei5
  obtain ⟨n, o, h1, h2, h3, _, L, rfl, ⟨N, _, _, rfl, _⟩, hq⟩ := m_law l s _ hw i0 i1 i2 i3 i4 i5 tables_1 s.heap ⟨List.nodup_nil, fun _ q => (nomatch q)⟩ p e ha hc hk s m _ below hf ((Spec.applies_iff_loose hf).mp happ).1 ⟨rfl, State.Warmed39.refl s, rfl⟩ trivial
  refine ⟨n, _, h1, h2, h3, hpost _ _ _ _ _ _ ⟨Cond.after_iff.mpr rfl, Cond.after_iff.mpr (eq_i res_at (Term.int_eval (1)) rfl), trivial⟩ ⟨hq.1, hq.2.1, (hq.2.2.sift fun y hy => Or.inr ((N y hy).elim (fun q => absurd q List.not_mem_nil) id)).mono (by decide) (by decide)⟩⟩
theorem main_1_1 : Claimed_1_1 := comes_1 fun _ _ _ _ _ _ h hF => ⟨h.1, hF⟩
theorem main_1_2 : Claimed_1_2 := comes_1 fun _ _ _ _ _ _ h hF => ⟨h.2.1, hF⟩
end Jvm.Pilot.@@N@@
namespace Jvm.Pilot.@@N@@
open Jvm Jvm.ClassFile Sem Op Lib Jvm.Free Jvm.Stand Jvm.Pilot.@@N@@.Jvm.D
/-! MADE BY PROGRAM (witnessworld.py) out of the Statement's table words and the real class files: 16 classes; the members and pool entries that the words name. The judged class is class 1, her method 2. -/
namespace start1
open Jvm.ClassFile
def u (s : String) : CpInfo := .utf8 (stringToUtf16 s)
/-- a pool by its gaps: so many unusable entries, then the entry; so many at the end -/
def gap : Nat → List CpInfo → List CpInfo
  | 0, r => r
  | n + 1, r => .unusable :: gap n r
def poolList (es : List (Nat × CpInfo)) (last : Nat) : List CpInfo := es.foldr (fun e r => gap e.1 (e.2 :: r)) (gap last [])
def pool (es : List (Nat × CpInfo)) (last : Nat) : Array CpInfo := ⟨poolList es last⟩
def fileOf (pool : Array CpInfo) (this : Nat) (attrs : Array Attribute := #[]) (ms : Array MethodInfo := #[]) (fl : Nat := 33) (sup : Nat := 0) (ifs : Array Nat := #[]) (fds : Array FieldInfo := #[]) : ClassFile where
  minorVersion := 0
  majorVersion := 65
  constantPool := pool
  accessFlags := fl
  thisClass := this
  superClass := sup
  interfaces := ifs
  fields := fds
  methods := ms
  attributes := attrs
def plain (name : String) (sup : Option ClassId) : Class where
  name := name
  kind := .ordinary
  loader := none
  accessFlags := 33
  super := sup
  interfaces := #[]
  cf := none
  fields := #[]
  methods := #[]
  instanceTypes := #[]
  staticTypes := #[]
  resolved := #[]
  callSites := []
  init := .initialized
  statics := none
  mirror := none

def pool0 : Array CpInfo := pool [(5, u "<init>"), (0, u "()V"), (1, .class_ 10), (1, u "java/lang/Object")] 113

def k0c0 : Code := { maxStack := 0, maxLocals := 1, code := object_method_1_code, exceptionTable := #[], attributes := #[] }
def k0m0 : Method := { name := "<init>", desc := "()V", sig := { parameters := [], returnType := none }, accessFlags := 1, code := some k0c0 }
/-- java/lang/Object -/
def k0 : Class := { plain "java/lang/Object" none with
  accessFlags := 33
  interfaces := #[]
  cf := some (fileOf pool0 8 #[] #[{ accessFlags := 1, nameIndex := 5, descriptorIndex := 6, attributes := #[] }] 33 0 #[] #[])
  fields := #[]
  methods := #[k0m0]
  instanceTypes := #[]
  staticTypes := #[]
  resolved := Array.replicate 124 none
  statics := none }

def pool1 : Array CpInfo := pool [(2, .class_ 4), (0, .nameAndType 5 6), (0, u "java/lang/Object"), (0, u "<init>"), (0, u "()V"), (0, .integer 55296), (0, .integer 56320), (0, .integer 65535), (0, .methodref 11 12), (0, .class_ 13), (0, .nameAndType 14 15), (0, u "com/example/fine_events/fineevents/PositionTrackerStandWherePinLaw"), (0, u "ch"), (0, u "(I)C"), (0, .class_ 17), (0, u "com/example/fine_events/fineevents/PositionTracker"), (0, .methodref 16 3), (0, .methodref 16 20), (0, .nameAndType 21 22), (0, u "advance"), (0, u "([CII)V"), (0, .methodref 16 24), (0, .nameAndType 25 26), (0, u "standWhere"), (0, u "(Lcom/example/fine_events/fineevents/PositionTracker;)V"), (0, .methodref 16 28), (0, .nameAndType 29 22), (0, u "advanceOverPlain"), (0, .methodref 16 31), (0, .nameAndType 32 33), (0, u "position"), (0, u "()Lcom/example/fine_events/fineevents/Position;"), (0, .methodref 35 36), (0, .class_ 37), (0, .nameAndType 38 39), (0, u "com/example/fine_events/fineevents/Position"), (0, u "line"), (0, u "()J"), (0, .methodref 35 41), (0, .nameAndType 42 39), (0, u "column"), (0, .methodref 35 44), (0, .nameAndType 45 39), (0, u "offset"), (3, u "law"), (0, u "(IIIIII)Z")] 4

def k1m0 : Method := { name := "<init>", desc := "()V", sig := { parameters := [], returnType := none }, accessFlags := 2, code := none }
def k1c1 : Code := { maxStack := 3, maxLocals := 3, code := method_2_code, exceptionTable := #[], attributes := #[] }
def k1m1 : Method := { name := "ch", desc := "(I)C", sig := { parameters := [.int], returnType := some .char }, accessFlags := 10, code := some k1c1 }
def k1c2 : Code := { maxStack := 4, maxLocals := 13, code := code, exceptionTable := #[], attributes := #[] }
def k1m2 : Method := { name := "law", desc := "(IIIIII)Z", sig := { parameters := [.int, .int, .int, .int, .int, .int], returnType := some .boolean }, accessFlags := 9, code := some k1c2 }
/-- com/example/fine_events/fineevents/PositionTrackerStandWherePinLaw -/
def k1 : Class := { plain "com/example/fine_events/fineevents/PositionTrackerStandWherePinLaw" (some 0) with
  accessFlags := 49
  interfaces := #[]
  cf := some (fileOf pool1 11 #[] #[{ accessFlags := 2, nameIndex := 5, descriptorIndex := 6, attributes := #[] }, { accessFlags := 10, nameIndex := 14, descriptorIndex := 15, attributes := #[] }, { accessFlags := 9, nameIndex := 49, descriptorIndex := 50, attributes := #[] }] 49 2 #[] #[])
  fields := #[]
  methods := #[k1m0, k1m1, k1m2]
  instanceTypes := #[]
  staticTypes := #[]
  resolved := Array.replicate 55 none
  statics := none }

def pool2 : Array CpInfo := pool [(1, .methodref 2 3), (0, .class_ 4), (0, .nameAndType 5 6), (0, u "java/lang/Object"), (0, u "<init>"), (0, u "()V"), (0, .fieldref 8 9), (0, .class_ 10), (0, .nameAndType 11 12), (0, u "com/example/fine_events/fineevents/PositionTracker"), (0, u "line"), (0, u "J"), (2, u "standWhere"), (0, u "(Lcom/example/fine_events/fineevents/PositionTracker;)V"), (0, .fieldref 8 18), (0, .nameAndType 19 12), (0, u "offset"), (0, .fieldref 8 21), (0, .nameAndType 22 12), (0, u "lineStart"), (0, .fieldref 8 24), (0, .nameAndType 25 12), (0, u "pairsOnLine"), (0, .fieldref 8 27), (0, .nameAndType 28 29), (0, u "previous"), (0, u "C"), (0, .methodref 31 32), (0, .class_ 33), (0, .nameAndType 34 35), (0, u "java/lang/Character"), (0, u "isLowSurrogate"), (0, u "(C)Z"), (0, .methodref 8 37), (0, .nameAndType 38 35), (0, u "isPlain"), (0, .methodref 8 40), (0, .nameAndType 41 42), (0, u "advanceOverPlain"), (0, u "([CII)V"), (0, .methodref 31 44), (0, .nameAndType 45 35), (0, u "isHighSurrogate"), (0, .class_ 47), (0, u "com/example/fine_events/fineevents/Position"), (0, .methodref 8 49), (0, .nameAndType 50 51), (0, u "unitColumn"), (0, u "()J"), (0, .methodref 46 53), (0, .nameAndType 5 54), (0, u "(JJJ)V"), (8, u "advance"), (0, u "position"), (0, u "()Lcom/example/fine_events/fineevents/Position;")] 5

def k2c0 : Code := { maxStack := 3, maxLocals := 1, code := prog_51_method_1_code, exceptionTable := #[], attributes := #[] }
def k2m0 : Method := { name := "<init>", desc := "()V", sig := { parameters := [], returnType := none }, accessFlags := 0, code := some k2c0 }
def k2c1 : Code := { maxStack := 3, maxLocals := 2, code := prog_51_method_3_code, exceptionTable := #[], attributes := #[] }
def k2m1 : Method := { name := "standWhere", desc := "(Lcom/example/fine_events/fineevents/PositionTracker;)V", sig := { parameters := [(.object "com/example/fine_events/fineevents/PositionTracker")], returnType := none }, accessFlags := 0, code := some k2c1 }
def k2c2 : Code := { maxStack := 2, maxLocals := 1, code := prog_51_method_4_code, exceptionTable := #[], attributes := #[] }
def k2m2 : Method := { name := "isPlain", desc := "(C)Z", sig := { parameters := [.char], returnType := some .boolean }, accessFlags := 8, code := some k2c2 }
def k2c3 : Code := { maxStack := 5, maxLocals := 6, code := prog_51_method_5_code, exceptionTable := #[], attributes := #[] }
def k2m3 : Method := { name := "advance", desc := "([CII)V", sig := { parameters := [(.array .char), .int, .int], returnType := none }, accessFlags := 0, code := some k2c3 }
def k2c4 : Code := { maxStack := 5, maxLocals := 7, code := prog_51_method_6_code, exceptionTable := #[], attributes := #[] }
def k2m4 : Method := { name := "advanceOverPlain", desc := "([CII)V", sig := { parameters := [(.array .char), .int, .int], returnType := none }, accessFlags := 0, code := some k2c4 }
def k2c5 : Code := { maxStack := 8, maxLocals := 1, code := prog_51_method_7_code, exceptionTable := #[], attributes := #[] }
def k2m5 : Method := { name := "position", desc := "()Lcom/example/fine_events/fineevents/Position;", sig := { parameters := [], returnType := some (.object "com/example/fine_events/fineevents/Position") }, accessFlags := 0, code := some k2c5 }
def k2c6 : Code := { maxStack := 4, maxLocals := 1, code := prog_51_method_10_code, exceptionTable := #[], attributes := #[] }
def k2m6 : Method := { name := "unitColumn", desc := "()J", sig := { parameters := [], returnType := some .long }, accessFlags := 0, code := some k2c6 }
/-- com/example/fine_events/fineevents/PositionTracker -/
def k2 : Class := { plain "com/example/fine_events/fineevents/PositionTracker" (some 0) with
  accessFlags := 48
  interfaces := #[]
  cf := some (fileOf pool2 8 #[] #[{ accessFlags := 0, nameIndex := 5, descriptorIndex := 6, attributes := #[] }, { accessFlags := 0, nameIndex := 15, descriptorIndex := 16, attributes := #[] }, { accessFlags := 8, nameIndex := 38, descriptorIndex := 35, attributes := #[] }, { accessFlags := 0, nameIndex := 63, descriptorIndex := 42, attributes := #[] }, { accessFlags := 0, nameIndex := 41, descriptorIndex := 42, attributes := #[] }, { accessFlags := 0, nameIndex := 64, descriptorIndex := 65, attributes := #[] }, { accessFlags := 0, nameIndex := 50, descriptorIndex := 51, attributes := #[] }] 48 2 #[] #[{ accessFlags := 2, nameIndex := 11, descriptorIndex := 12, attributes := #[] }, { accessFlags := 2, nameIndex := 19, descriptorIndex := 12, attributes := #[] }, { accessFlags := 2, nameIndex := 22, descriptorIndex := 12, attributes := #[] }, { accessFlags := 2, nameIndex := 25, descriptorIndex := 12, attributes := #[] }, { accessFlags := 2, nameIndex := 28, descriptorIndex := 29, attributes := #[] }])
  fields := #[{ name := "line", type := .long, accessFlags := 2, slot := 0, constantValue := 0 }, { name := "offset", type := .long, accessFlags := 2, slot := 1, constantValue := 0 }, { name := "lineStart", type := .long, accessFlags := 2, slot := 2, constantValue := 0 }, { name := "pairsOnLine", type := .long, accessFlags := 2, slot := 3, constantValue := 0 }, { name := "previous", type := .char, accessFlags := 2, slot := 4, constantValue := 0 }]
  methods := #[k2m0, k2m1, k2m2, k2m3, k2m4, k2m5, k2m6]
  instanceTypes := #[.long, .long, .long, .long, .char]
  staticTypes := #[]
  resolved := Array.replicate 71 none
  statics := none }

def pool3 : Array CpInfo := pool [(1, .class_ 2), (0, u "java/io/Serializable"), (0, .class_ 4), (0, u "java/lang/Object")] 2

/-- java/io/Serializable -/
def k3 : Class := { plain "java/io/Serializable" (some 0) with
  accessFlags := 1537
  interfaces := #[]
  cf := some (fileOf pool3 1 #[] #[] 1537 3 #[] #[])
  fields := #[]
  methods := #[]
  instanceTypes := #[]
  staticTypes := #[]
  resolved := Array.replicate 7 none
  statics := none }

def pool4 : Array CpInfo := pool [(1, .class_ 2), (0, u "java/lang/Comparable"), (0, .class_ 4), (0, u "java/lang/Object")] 7

/-- java/lang/Comparable -/
def k4 : Class := { plain "java/lang/Comparable" (some 0) with
  accessFlags := 1537
  interfaces := #[]
  cf := some (fileOf pool4 1 #[] #[] 1537 3 #[] #[])
  fields := #[]
  methods := #[]
  instanceTypes := #[]
  staticTypes := #[]
  resolved := Array.replicate 12 none
  statics := none }

def pool5 : Array CpInfo := pool [(1, .class_ 2), (0, u "java/lang/constant/Constable"), (0, .class_ 4), (0, u "java/lang/Object")] 6

/-- java/lang/constant/Constable -/
def k5 : Class := { plain "java/lang/constant/Constable" (some 0) with
  accessFlags := 1537
  interfaces := #[]
  cf := some (fileOf pool5 1 #[] #[] 1537 3 #[] #[])
  fields := #[]
  methods := #[]
  instanceTypes := #[]
  staticTypes := #[]
  resolved := Array.replicate 11 none
  statics := none }

def pool6 : Array CpInfo := pool [(1, .class_ 2), (0, u "java/lang/Character"), (18, u "value"), (0, u "C"), (19, .class_ 44), (1, u "java/lang/Object"), (3, .class_ 50), (1, u "java/lang/Character$CharacterCache"), (24, .integer 55296), (0, .integer 56320), (0, .integer 57344), (2, u "isHighSurrogate"), (0, u "(C)Z"), (2, u "isLowSurrogate"), (199, u "$assertionsDisabled"), (0, u "Z"), (21, .class_ 309), (1, u "java/lang/Character$UnicodeBlock"), (73, u "TYPE"), (0, u "Ljava/lang/Class;"), (0, .class_ 386), (0, u "java/io/Serializable"), (0, .class_ 388), (0, u "java/lang/Comparable"), (0, .class_ 390), (0, u "java/lang/constant/Constable"), (0, u "MIN_RADIX"), (0, u "I"), (2, u "MAX_RADIX"), (1, u "MIN_VALUE"), (1, u "MAX_VALUE"), (3, u "UNASSIGNED"), (0, u "B"), (0, u "UPPERCASE_LETTER"), (1, u "LOWERCASE_LETTER"), (0, u "TITLECASE_LETTER"), (1, u "MODIFIER_LETTER"), (1, u "OTHER_LETTER"), (1, u "NON_SPACING_MARK"), (1, u "ENCLOSING_MARK"), (1, u "COMBINING_SPACING_MARK"), (1, u "DECIMAL_DIGIT_NUMBER"), (1, u "LETTER_NUMBER"), (1, u "OTHER_NUMBER"), (1, u "SPACE_SEPARATOR"), (1, u "LINE_SEPARATOR"), (1, u "PARAGRAPH_SEPARATOR"), (1, u "CONTROL"), (1, u "FORMAT"), (1, u "PRIVATE_USE"), (1, u "SURROGATE"), (1, u "DASH_PUNCTUATION"), (1, u "START_PUNCTUATION"), (1, u "END_PUNCTUATION"), (1, u "CONNECTOR_PUNCTUATION"), (1, u "OTHER_PUNCTUATION"), (1, u "MATH_SYMBOL"), (1, u "CURRENCY_SYMBOL"), (1, u "MODIFIER_SYMBOL"), (1, u "OTHER_SYMBOL"), (1, u "INITIAL_QUOTE_PUNCTUATION"), (1, u "FINAL_QUOTE_PUNCTUATION"), (1, u "ERROR"), (1, u "DIRECTIONALITY_UNDEFINED"), (0, u "DIRECTIONALITY_LEFT_TO_RIGHT"), (0, u "DIRECTIONALITY_RIGHT_TO_LEFT"), (0, u "DIRECTIONALITY_RIGHT_TO_LEFT_ARABIC"), (0, u "DIRECTIONALITY_EUROPEAN_NUMBER"), (0, u "DIRECTIONALITY_EUROPEAN_NUMBER_SEPARATOR"), (0, u "DIRECTIONALITY_EUROPEAN_NUMBER_TERMINATOR"), (0, u "DIRECTIONALITY_ARABIC_NUMBER"), (0, u "DIRECTIONALITY_COMMON_NUMBER_SEPARATOR"), (0, u "DIRECTIONALITY_NONSPACING_MARK"), (0, u "DIRECTIONALITY_BOUNDARY_NEUTRAL"), (0, u "DIRECTIONALITY_PARAGRAPH_SEPARATOR"), (0, u "DIRECTIONALITY_SEGMENT_SEPARATOR"), (0, u "DIRECTIONALITY_WHITESPACE"), (0, u "DIRECTIONALITY_OTHER_NEUTRALS"), (0, u "DIRECTIONALITY_LEFT_TO_RIGHT_EMBEDDING"), (0, u "DIRECTIONALITY_LEFT_TO_RIGHT_OVERRIDE"), (0, u "DIRECTIONALITY_RIGHT_TO_LEFT_EMBEDDING"), (0, u "DIRECTIONALITY_RIGHT_TO_LEFT_OVERRIDE"), (1, u "DIRECTIONALITY_POP_DIRECTIONAL_FORMAT"), (0, u "DIRECTIONALITY_LEFT_TO_RIGHT_ISOLATE"), (0, u "DIRECTIONALITY_RIGHT_TO_LEFT_ISOLATE"), (0, u "DIRECTIONALITY_FIRST_STRONG_ISOLATE"), (0, u "DIRECTIONALITY_POP_DIRECTIONAL_ISOLATE"), (0, u "MIN_HIGH_SURROGATE"), (0, u "MAX_HIGH_SURROGATE"), (1, u "MIN_LOW_SURROGATE"), (0, u "MAX_LOW_SURROGATE"), (1, u "MIN_SURROGATE"), (0, u "MAX_SURROGATE"), (0, u "MIN_SUPPLEMENTARY_CODE_POINT"), (0, u "MIN_CODE_POINT"), (0, u "MAX_CODE_POINT"), (1, u "serialVersionUID"), (0, u "J"), (2, u "SIZE"), (0, u "BYTES"), (88, .class_ 596), (0, u "java/lang/Character$UnicodeScript"), (0, .class_ 598), (0, u "java/lang/Character$Subset")] 5

def k6c0 : Code := { maxStack := 2, maxLocals := 1, code := jdk_89_method_14_code, exceptionTable := #[], attributes := #[] }
def k6m0 : Method := { name := "isHighSurrogate", desc := "(C)Z", sig := { parameters := [.char], returnType := some .boolean }, accessFlags := 9, code := some k6c0 }
def k6c1 : Code := { maxStack := 2, maxLocals := 1, code := jdk_89_method_15_code, exceptionTable := #[], attributes := #[] }
def k6m1 : Method := { name := "isLowSurrogate", desc := "(C)Z", sig := { parameters := [.char], returnType := some .boolean }, accessFlags := 9, code := some k6c1 }
/-- java/lang/Character -/
def k6 : Class := { plain "java/lang/Character" (some 0) with
  accessFlags := 49
  interfaces := #[3, 4, 5]
  cf := some (fileOf pool6 1 #[.nestMembers #[48, 595, 307, 597]] #[{ accessFlags := 9, nameIndex := 80, descriptorIndex := 81, attributes := #[] }, { accessFlags := 9, nameIndex := 84, descriptorIndex := 81, attributes := #[] }] 49 42 #[385, 387, 389] #[{ accessFlags := 25, nameIndex := 391, descriptorIndex := 392, attributes := #[] }, { accessFlags := 25, nameIndex := 395, descriptorIndex := 392, attributes := #[] }, { accessFlags := 25, nameIndex := 397, descriptorIndex := 22, attributes := #[] }, { accessFlags := 25, nameIndex := 399, descriptorIndex := 22, attributes := #[] }, { accessFlags := 25, nameIndex := 383, descriptorIndex := 384, attributes := #[] }, { accessFlags := 25, nameIndex := 403, descriptorIndex := 404, attributes := #[] }, { accessFlags := 25, nameIndex := 405, descriptorIndex := 404, attributes := #[] }, { accessFlags := 25, nameIndex := 407, descriptorIndex := 404, attributes := #[] }, { accessFlags := 25, nameIndex := 408, descriptorIndex := 404, attributes := #[] }, { accessFlags := 25, nameIndex := 410, descriptorIndex := 404, attributes := #[] }, { accessFlags := 25, nameIndex := 412, descriptorIndex := 404, attributes := #[] }, { accessFlags := 25, nameIndex := 414, descriptorIndex := 404, attributes := #[] }, { accessFlags := 25, nameIndex := 416, descriptorIndex := 404, attributes := #[] }, { accessFlags := 25, nameIndex := 418, descriptorIndex := 404, attributes := #[] }, { accessFlags := 25, nameIndex := 420, descriptorIndex := 404, attributes := #[] }, { accessFlags := 25, nameIndex := 422, descriptorIndex := 404, attributes := #[] }, { accessFlags := 25, nameIndex := 424, descriptorIndex := 404, attributes := #[] }, { accessFlags := 25, nameIndex := 426, descriptorIndex := 404, attributes := #[] }, { accessFlags := 25, nameIndex := 428, descriptorIndex := 404, attributes := #[] }, { accessFlags := 25, nameIndex := 430, descriptorIndex := 404, attributes := #[] }, { accessFlags := 25, nameIndex := 432, descriptorIndex := 404, attributes := #[] }, { accessFlags := 25, nameIndex := 434, descriptorIndex := 404, attributes := #[] }, { accessFlags := 25, nameIndex := 436, descriptorIndex := 404, attributes := #[] }, { accessFlags := 25, nameIndex := 438, descriptorIndex := 404, attributes := #[] }, { accessFlags := 25, nameIndex := 440, descriptorIndex := 404, attributes := #[] }, { accessFlags := 25, nameIndex := 442, descriptorIndex := 404, attributes := #[] }, { accessFlags := 25, nameIndex := 444, descriptorIndex := 404, attributes := #[] }, { accessFlags := 25, nameIndex := 446, descriptorIndex := 404, attributes := #[] }, { accessFlags := 25, nameIndex := 448, descriptorIndex := 404, attributes := #[] }, { accessFlags := 25, nameIndex := 450, descriptorIndex := 404, attributes := #[] }, { accessFlags := 25, nameIndex := 452, descriptorIndex := 404, attributes := #[] }, { accessFlags := 25, nameIndex := 454, descriptorIndex := 404, attributes := #[] }, { accessFlags := 25, nameIndex := 456, descriptorIndex := 404, attributes := #[] }, { accessFlags := 25, nameIndex := 458, descriptorIndex := 404, attributes := #[] }, { accessFlags := 25, nameIndex := 460, descriptorIndex := 404, attributes := #[] }, { accessFlags := 24, nameIndex := 462, descriptorIndex := 392, attributes := #[] }, { accessFlags := 25, nameIndex := 464, descriptorIndex := 404, attributes := #[] }, { accessFlags := 25, nameIndex := 465, descriptorIndex := 404, attributes := #[] }, { accessFlags := 25, nameIndex := 466, descriptorIndex := 404, attributes := #[] }, { accessFlags := 25, nameIndex := 467, descriptorIndex := 404, attributes := #[] }, { accessFlags := 25, nameIndex := 468, descriptorIndex := 404, attributes := #[] }, { accessFlags := 25, nameIndex := 469, descriptorIndex := 404, attributes := #[] }, { accessFlags := 25, nameIndex := 470, descriptorIndex := 404, attributes := #[] }, { accessFlags := 25, nameIndex := 471, descriptorIndex := 404, attributes := #[] }, { accessFlags := 25, nameIndex := 472, descriptorIndex := 404, attributes := #[] }, { accessFlags := 25, nameIndex := 473, descriptorIndex := 404, attributes := #[] }, { accessFlags := 25, nameIndex := 474, descriptorIndex := 404, attributes := #[] }, { accessFlags := 25, nameIndex := 475, descriptorIndex := 404, attributes := #[] }, { accessFlags := 25, nameIndex := 476, descriptorIndex := 404, attributes := #[] }, { accessFlags := 25, nameIndex := 477, descriptorIndex := 404, attributes := #[] }, { accessFlags := 25, nameIndex := 478, descriptorIndex := 404, attributes := #[] }, { accessFlags := 25, nameIndex := 479, descriptorIndex := 404, attributes := #[] }, { accessFlags := 25, nameIndex := 480, descriptorIndex := 404, attributes := #[] }, { accessFlags := 25, nameIndex := 481, descriptorIndex := 404, attributes := #[] }, { accessFlags := 25, nameIndex := 482, descriptorIndex := 404, attributes := #[] }, { accessFlags := 25, nameIndex := 484, descriptorIndex := 404, attributes := #[] }, { accessFlags := 25, nameIndex := 485, descriptorIndex := 404, attributes := #[] }, { accessFlags := 25, nameIndex := 486, descriptorIndex := 404, attributes := #[] }, { accessFlags := 25, nameIndex := 487, descriptorIndex := 404, attributes := #[] }, { accessFlags := 25, nameIndex := 488, descriptorIndex := 404, attributes := #[] }, { accessFlags := 25, nameIndex := 489, descriptorIndex := 22, attributes := #[] }, { accessFlags := 25, nameIndex := 490, descriptorIndex := 22, attributes := #[] }, { accessFlags := 25, nameIndex := 492, descriptorIndex := 22, attributes := #[] }, { accessFlags := 25, nameIndex := 493, descriptorIndex := 22, attributes := #[] }, { accessFlags := 25, nameIndex := 495, descriptorIndex := 22, attributes := #[] }, { accessFlags := 25, nameIndex := 496, descriptorIndex := 22, attributes := #[] }, { accessFlags := 25, nameIndex := 497, descriptorIndex := 392, attributes := #[] }, { accessFlags := 25, nameIndex := 498, descriptorIndex := 392, attributes := #[] }, { accessFlags := 25, nameIndex := 499, descriptorIndex := 392, attributes := #[] }, { accessFlags := 18, nameIndex := 21, descriptorIndex := 22, attributes := #[] }, { accessFlags := 26, nameIndex := 501, descriptorIndex := 502, attributes := #[] }, { accessFlags := 25, nameIndex := 505, descriptorIndex := 392, attributes := #[] }, { accessFlags := 25, nameIndex := 506, descriptorIndex := 392, attributes := #[] }, { accessFlags := 4120, nameIndex := 284, descriptorIndex := 285, attributes := #[] }])
  fields := #[{ name := "MIN_RADIX", type := .int, accessFlags := 25, slot := 0, constantValue := 0 }, { name := "MAX_RADIX", type := .int, accessFlags := 25, slot := 1, constantValue := 0 }, { name := "MIN_VALUE", type := .char, accessFlags := 25, slot := 2, constantValue := 0 }, { name := "MAX_VALUE", type := .char, accessFlags := 25, slot := 3, constantValue := 0 }, { name := "TYPE", type := (.object "java/lang/Class"), accessFlags := 25, slot := 4, constantValue := 0 }, { name := "UNASSIGNED", type := .byte, accessFlags := 25, slot := 5, constantValue := 0 }, { name := "UPPERCASE_LETTER", type := .byte, accessFlags := 25, slot := 6, constantValue := 0 }, { name := "LOWERCASE_LETTER", type := .byte, accessFlags := 25, slot := 7, constantValue := 0 }, { name := "TITLECASE_LETTER", type := .byte, accessFlags := 25, slot := 8, constantValue := 0 }, { name := "MODIFIER_LETTER", type := .byte, accessFlags := 25, slot := 9, constantValue := 0 }, { name := "OTHER_LETTER", type := .byte, accessFlags := 25, slot := 10, constantValue := 0 }, { name := "NON_SPACING_MARK", type := .byte, accessFlags := 25, slot := 11, constantValue := 0 }, { name := "ENCLOSING_MARK", type := .byte, accessFlags := 25, slot := 12, constantValue := 0 }, { name := "COMBINING_SPACING_MARK", type := .byte, accessFlags := 25, slot := 13, constantValue := 0 }, { name := "DECIMAL_DIGIT_NUMBER", type := .byte, accessFlags := 25, slot := 14, constantValue := 0 }, { name := "LETTER_NUMBER", type := .byte, accessFlags := 25, slot := 15, constantValue := 0 }, { name := "OTHER_NUMBER", type := .byte, accessFlags := 25, slot := 16, constantValue := 0 }, { name := "SPACE_SEPARATOR", type := .byte, accessFlags := 25, slot := 17, constantValue := 0 }, { name := "LINE_SEPARATOR", type := .byte, accessFlags := 25, slot := 18, constantValue := 0 }, { name := "PARAGRAPH_SEPARATOR", type := .byte, accessFlags := 25, slot := 19, constantValue := 0 }, { name := "CONTROL", type := .byte, accessFlags := 25, slot := 20, constantValue := 0 }, { name := "FORMAT", type := .byte, accessFlags := 25, slot := 21, constantValue := 0 }, { name := "PRIVATE_USE", type := .byte, accessFlags := 25, slot := 22, constantValue := 0 }, { name := "SURROGATE", type := .byte, accessFlags := 25, slot := 23, constantValue := 0 }, { name := "DASH_PUNCTUATION", type := .byte, accessFlags := 25, slot := 24, constantValue := 0 }, { name := "START_PUNCTUATION", type := .byte, accessFlags := 25, slot := 25, constantValue := 0 }, { name := "END_PUNCTUATION", type := .byte, accessFlags := 25, slot := 26, constantValue := 0 }, { name := "CONNECTOR_PUNCTUATION", type := .byte, accessFlags := 25, slot := 27, constantValue := 0 }, { name := "OTHER_PUNCTUATION", type := .byte, accessFlags := 25, slot := 28, constantValue := 0 }, { name := "MATH_SYMBOL", type := .byte, accessFlags := 25, slot := 29, constantValue := 0 }, { name := "CURRENCY_SYMBOL", type := .byte, accessFlags := 25, slot := 30, constantValue := 0 }, { name := "MODIFIER_SYMBOL", type := .byte, accessFlags := 25, slot := 31, constantValue := 0 }, { name := "OTHER_SYMBOL", type := .byte, accessFlags := 25, slot := 32, constantValue := 0 }, { name := "INITIAL_QUOTE_PUNCTUATION", type := .byte, accessFlags := 25, slot := 33, constantValue := 0 }, { name := "FINAL_QUOTE_PUNCTUATION", type := .byte, accessFlags := 25, slot := 34, constantValue := 0 }, { name := "ERROR", type := .int, accessFlags := 24, slot := 35, constantValue := 0 }, { name := "DIRECTIONALITY_UNDEFINED", type := .byte, accessFlags := 25, slot := 36, constantValue := 0 }, { name := "DIRECTIONALITY_LEFT_TO_RIGHT", type := .byte, accessFlags := 25, slot := 37, constantValue := 0 }, { name := "DIRECTIONALITY_RIGHT_TO_LEFT", type := .byte, accessFlags := 25, slot := 38, constantValue := 0 }, { name := "DIRECTIONALITY_RIGHT_TO_LEFT_ARABIC", type := .byte, accessFlags := 25, slot := 39, constantValue := 0 }, { name := "DIRECTIONALITY_EUROPEAN_NUMBER", type := .byte, accessFlags := 25, slot := 40, constantValue := 0 }, { name := "DIRECTIONALITY_EUROPEAN_NUMBER_SEPARATOR", type := .byte, accessFlags := 25, slot := 41, constantValue := 0 }, { name := "DIRECTIONALITY_EUROPEAN_NUMBER_TERMINATOR", type := .byte, accessFlags := 25, slot := 42, constantValue := 0 }, { name := "DIRECTIONALITY_ARABIC_NUMBER", type := .byte, accessFlags := 25, slot := 43, constantValue := 0 }, { name := "DIRECTIONALITY_COMMON_NUMBER_SEPARATOR", type := .byte, accessFlags := 25, slot := 44, constantValue := 0 }, { name := "DIRECTIONALITY_NONSPACING_MARK", type := .byte, accessFlags := 25, slot := 45, constantValue := 0 }, { name := "DIRECTIONALITY_BOUNDARY_NEUTRAL", type := .byte, accessFlags := 25, slot := 46, constantValue := 0 }, { name := "DIRECTIONALITY_PARAGRAPH_SEPARATOR", type := .byte, accessFlags := 25, slot := 47, constantValue := 0 }, { name := "DIRECTIONALITY_SEGMENT_SEPARATOR", type := .byte, accessFlags := 25, slot := 48, constantValue := 0 }, { name := "DIRECTIONALITY_WHITESPACE", type := .byte, accessFlags := 25, slot := 49, constantValue := 0 }, { name := "DIRECTIONALITY_OTHER_NEUTRALS", type := .byte, accessFlags := 25, slot := 50, constantValue := 0 }, { name := "DIRECTIONALITY_LEFT_TO_RIGHT_EMBEDDING", type := .byte, accessFlags := 25, slot := 51, constantValue := 0 }, { name := "DIRECTIONALITY_LEFT_TO_RIGHT_OVERRIDE", type := .byte, accessFlags := 25, slot := 52, constantValue := 0 }, { name := "DIRECTIONALITY_RIGHT_TO_LEFT_EMBEDDING", type := .byte, accessFlags := 25, slot := 53, constantValue := 0 }, { name := "DIRECTIONALITY_RIGHT_TO_LEFT_OVERRIDE", type := .byte, accessFlags := 25, slot := 54, constantValue := 0 }, { name := "DIRECTIONALITY_POP_DIRECTIONAL_FORMAT", type := .byte, accessFlags := 25, slot := 55, constantValue := 0 }, { name := "DIRECTIONALITY_LEFT_TO_RIGHT_ISOLATE", type := .byte, accessFlags := 25, slot := 56, constantValue := 0 }, { name := "DIRECTIONALITY_RIGHT_TO_LEFT_ISOLATE", type := .byte, accessFlags := 25, slot := 57, constantValue := 0 }, { name := "DIRECTIONALITY_FIRST_STRONG_ISOLATE", type := .byte, accessFlags := 25, slot := 58, constantValue := 0 }, { name := "DIRECTIONALITY_POP_DIRECTIONAL_ISOLATE", type := .byte, accessFlags := 25, slot := 59, constantValue := 0 }, { name := "MIN_HIGH_SURROGATE", type := .char, accessFlags := 25, slot := 60, constantValue := 0 }, { name := "MAX_HIGH_SURROGATE", type := .char, accessFlags := 25, slot := 61, constantValue := 0 }, { name := "MIN_LOW_SURROGATE", type := .char, accessFlags := 25, slot := 62, constantValue := 0 }, { name := "MAX_LOW_SURROGATE", type := .char, accessFlags := 25, slot := 63, constantValue := 0 }, { name := "MIN_SURROGATE", type := .char, accessFlags := 25, slot := 64, constantValue := 0 }, { name := "MAX_SURROGATE", type := .char, accessFlags := 25, slot := 65, constantValue := 0 }, { name := "MIN_SUPPLEMENTARY_CODE_POINT", type := .int, accessFlags := 25, slot := 66, constantValue := 0 }, { name := "MIN_CODE_POINT", type := .int, accessFlags := 25, slot := 67, constantValue := 0 }, { name := "MAX_CODE_POINT", type := .int, accessFlags := 25, slot := 68, constantValue := 0 }, { name := "value", type := .char, accessFlags := 18, slot := 0, constantValue := 0 }, { name := "serialVersionUID", type := .long, accessFlags := 26, slot := 69, constantValue := 0 }, { name := "SIZE", type := .int, accessFlags := 25, slot := 70, constantValue := 0 }, { name := "BYTES", type := .int, accessFlags := 25, slot := 71, constantValue := 0 }, { name := "$assertionsDisabled", type := .boolean, accessFlags := 4120, slot := 72, constantValue := 0 }]
  methods := #[k6m0, k6m1]
  instanceTypes := #[.char]
  staticTypes := #[.int, .int, .char, .char, (.object "java/lang/Class"), .byte, .byte, .byte, .byte, .byte, .byte, .byte, .byte, .byte, .byte, .byte, .byte, .byte, .byte, .byte, .byte, .byte, .byte, .byte, .byte, .byte, .byte, .byte, .byte, .byte, .byte, .byte, .byte, .byte, .byte, .int, .byte, .byte, .byte, .byte, .byte, .byte, .byte, .byte, .byte, .byte, .byte, .byte, .byte, .byte, .byte, .byte, .byte, .byte, .byte, .byte, .byte, .byte, .byte, .byte, .char, .char, .char, .char, .char, .char, .int, .int, .int, .long, .int, .int, .boolean]
  resolved := Array.replicate 604 none
  statics := none }

def pool7 : Array CpInfo := pool [(1, .methodref 2 3), (0, .class_ 4), (0, .nameAndType 5 6), (0, u "java/lang/Object"), (0, u "<init>"), (0, u "()V"), (0, .class_ 8), (0, u "java/lang/Record")] 13

def k7c0 : Code := { maxStack := 1, maxLocals := 1, code := jdk_30_method_1_code, exceptionTable := #[], attributes := #[] }
def k7m0 : Method := { name := "<init>", desc := "()V", sig := { parameters := [], returnType := none }, accessFlags := 4, code := some k7c0 }
/-- java/lang/Record -/
def k7 : Class := { plain "java/lang/Record" (some 0) with
  accessFlags := 1057
  interfaces := #[]
  cf := some (fileOf pool7 7 #[] #[{ accessFlags := 4, nameIndex := 5, descriptorIndex := 6, attributes := #[] }] 1057 2 #[] #[])
  fields := #[]
  methods := #[k7m0]
  instanceTypes := #[]
  staticTypes := #[]
  resolved := Array.replicate 22 none
  statics := none }

def pool8 : Array CpInfo := pool [(1, .methodref 2 3), (0, .class_ 4), (0, .nameAndType 5 6), (0, u "java/lang/Record"), (0, u "<init>"), (0, u "()V"), (0, .fieldref 8 9), (0, .class_ 10), (0, .nameAndType 11 12), (0, u "com/example/fine_events/fineevents/Position"), (0, u "line"), (0, u "J"), (0, .fieldref 8 14), (0, .nameAndType 15 12), (0, u "column"), (0, .fieldref 8 17), (0, .nameAndType 18 12), (0, u "offset"), (12, .class_ 32), (0, u "java/io/Serializable"), (0, u "(JJJ)V"), (6, u "()J")] 22

def k8c0 : Code := { maxStack := 3, maxLocals := 7, code := prog_50_method_1_code, exceptionTable := #[], attributes := #[] }
def k8m0 : Method := { name := "<init>", desc := "(JJJ)V", sig := { parameters := [.long, .long, .long], returnType := none }, accessFlags := 1, code := some k8c0 }
def k8c1 : Code := { maxStack := 2, maxLocals := 1, code := prog_50_method_5_code, exceptionTable := #[], attributes := #[] }
def k8m1 : Method := { name := "line", desc := "()J", sig := { parameters := [], returnType := some .long }, accessFlags := 1, code := some k8c1 }
def k8c2 : Code := { maxStack := 2, maxLocals := 1, code := prog_50_method_6_code, exceptionTable := #[], attributes := #[] }
def k8m2 : Method := { name := "column", desc := "()J", sig := { parameters := [], returnType := some .long }, accessFlags := 1, code := some k8c2 }
def k8c3 : Code := { maxStack := 2, maxLocals := 1, code := prog_50_method_7_code, exceptionTable := #[], attributes := #[] }
def k8m3 : Method := { name := "offset", desc := "()J", sig := { parameters := [], returnType := some .long }, accessFlags := 1, code := some k8c3 }
/-- com/example/fine_events/fineevents/Position -/
def k8 : Class := { plain "com/example/fine_events/fineevents/Position" (some 7) with
  accessFlags := 49
  interfaces := #[3]
  cf := some (fileOf pool8 8 #[] #[{ accessFlags := 1, nameIndex := 5, descriptorIndex := 33, attributes := #[] }, { accessFlags := 1, nameIndex := 11, descriptorIndex := 40, attributes := #[] }, { accessFlags := 1, nameIndex := 15, descriptorIndex := 40, attributes := #[] }, { accessFlags := 1, nameIndex := 18, descriptorIndex := 40, attributes := #[] }] 49 2 #[31] #[{ accessFlags := 18, nameIndex := 11, descriptorIndex := 12, attributes := #[] }, { accessFlags := 18, nameIndex := 15, descriptorIndex := 12, attributes := #[] }, { accessFlags := 18, nameIndex := 18, descriptorIndex := 12, attributes := #[] }])
  fields := #[{ name := "line", type := .long, accessFlags := 18, slot := 0, constantValue := 0 }, { name := "column", type := .long, accessFlags := 18, slot := 1, constantValue := 0 }, { name := "offset", type := .long, accessFlags := 18, slot := 2, constantValue := 0 }]
  methods := #[k8m0, k8m1, k8m2, k8m3]
  instanceTypes := #[.long, .long, .long]
  staticTypes := #[]
  resolved := Array.replicate 63 none
  statics := none }

def pool9 : Array CpInfo := pool [(1, u "java/lang/Cloneable"), (0, .class_ 1), (0, u "java/lang/Object"), (0, .class_ 3)] 3

/-- java/lang/Cloneable -/
def k9 : Class := { plain "java/lang/Cloneable" (some 0) with
  accessFlags := 1537
  interfaces := #[]
  cf := some (fileOf pool9 2 #[] #[] 1537 4 #[] #[])
  fields := #[]
  methods := #[]
  instanceTypes := #[]
  staticTypes := #[]
  resolved := Array.replicate 8 none
  statics := none }

/-- the primitive byte -/
def k10 : Class := { plain "byte" none with kind := .primitive 'B', accessFlags := 0x411 }
/-- [B -/
def k11 : Class := { plain "[B" (some 0) with kind := .array 10 .byte, interfaces := #[9, 3], accessFlags := 1041 }

/-- the primitive char -/
def k12 : Class := { plain "char" none with kind := .primitive 'C', accessFlags := 0x411 }
/-- [C -/
def k13 : Class := { plain "[C" (some 0) with kind := .array 12 .char, interfaces := #[9, 3], accessFlags := 1041 }

/-- the primitive int -/
def k14 : Class := { plain "int" none with kind := .primitive 'I', accessFlags := 0x411 }
/-- [I -/
def k15 : Class := { plain "[I" (some 0) with kind := .array 14 .int, interfaces := #[9, 3], accessFlags := 1041 }

def heap : Heap := #[]
def classes : Array Class := #[k0, k1, k2, k3, k4, k5, k6, k7, k8, k9, k10, k11, k12, k13, k14, k15]
def interned : List (Array UInt16 × Addr) := []
def slotsUsed : Nat := 0
def theMethod : MethodId := ⟨1, 2⟩
def args0 : Array Value := #[.int 3, .int 9, .int 5, .int 0, .int 7, .int 8]
def aboutOver (below : List Frame) : State where
  vm := { classes := classes, interned := interned.toArray }
  heap := heap
  slotsUsed := slotsUsed
  threads := #[{ frames := .invoking theMethod args0 :: below }]
def below0 : List Frame := [.native { method := ⟨0, 0⟩, args := #[] }]
def about1 : State := aboutOver below0
def p0 : Program := .bare "" "" ""
def e0 : Env := launch0.env 0 0 0
theorem w_frames : about1.frames = Frame.invoking theMethod args0 :: below0 := rfl
set_option maxRecDepth 65536 in
theorem w_args : argsFit about1.vm theMethod args0 = true := by decide +kernel
set_option maxRecDepth 65536 in
theorem w_heap : heapFits about1 = true := by decide +kernel
set_option maxRecDepth 65536 in
theorem w_runnable : about1.curStatus? = some .runnable := by decide +kernel
set_option maxRecDepth 65536 in
theorem w_alone : about1.alone = true := by decide +kernel
set_option maxRecDepth 65536 in
theorem w_named : about1.methodNamed? x = some theMethod := by decide +kernel
set_option maxRecDepth 65536 in
theorem w_hears : about1.hears theMethod below0 = true := by decide +kernel
set_option maxRecDepth 65536 in
theorem w_ripe : about1.ripe theMethod args0 below0 = true := by decide +kernel
theorem w_running : about1.status = .running := rfl
set_option maxRecDepth 65536 in
theorem w_room : about1.hasRoom e0.platform room_1 = true :=
  launch0.hasRoom_least _ room_1 (by decide +kernel) (by decide +kernel) (by decide +kernel) (by decide +kernel) (by decide +kernel) (by decide +kernel)
theorem allAtoms_all (ts : List Jvm.Cond) (a : Array Jvm.Value) (st : Jvm.State) : (allAtoms ts).before a st = ts.all (fun c => c.before a st) := by
  induction ts with
  | nil => rfl
  | cons c t ih =>
    show (Jvm.Cond.and c (allAtoms t)).before a st = _
    rw [Jvm.Cond.before_and, ih, List.all_cons]
def words1 : List Jvm.Cond := Jvm.Cond.code x code maxLocals ret :: tables_1
/-- a 'code' word, met by the world's own term for the bytes: nothing is compared byte by byte -/
theorem code_word {y : MethodName} {bytes : ByteArray} {mx : Nat} {rt : Option FieldType} {a : Array Value} {s : State} {m : MethodId} {meth : Method} {c : Code} (h1 : s.methodNamed? y = some m) (h2 : s.vm.method? m = some meth) (h3 : meth.code = some c) (h4 : c.code = bytes)
    (h5 : (c.maxLocals == mx && c.exceptionTable.isEmpty && decide (c.maxStack ≤ mostOperands) && decide (meth.sig.returnType = rt) && !meth.locks && decide (parseMethodDescriptor y.desc = some meth.sig)) = true) : (Jvm.Cond.code y bytes mx rt).before a s = true := by
  simp only [Bool.and_eq_true, beq_iff_eq, Bool.not_eq_true', decide_eq_true_eq] at h5
  obtain ⟨⟨⟨⟨⟨g1, g2⟩, g3⟩, g4⟩, g5⟩, g6⟩ := h5
  simp [Cond.before, Cond.holds, Cond.value, h1, h2, h3, h4, g1, g2, g3, g4, g5, g6]
def isCode : Jvm.Cond → Bool
  | .code _ _ _ _ => true
  | _ => false
theorem all_split {L : List Jvm.Cond} {P : Jvm.Cond → Bool} (h1 : L.all (fun c => isCode c || P c) = true) (h2 : ∀ c ∈ L.filter isCode, P c = true) : L.all P = true := by
  refine List.all_eq_true.mpr fun c hc => ?_
  have h := List.all_eq_true.mp h1 c hc
  rcases Bool.eq_false_or_eq_true (isCode c) with hi | hi
  · exact h2 c (List.mem_filter.mpr ⟨hc, hi⟩)
  · simpa [hi] using h
set_option maxRecDepth 65536 in
theorem w_c0 : (Jvm.Cond.code x code maxLocals ret).before args0 about1 = true := code_word (m := ⟨1, 2⟩) (meth := k1m2) (c := k1c2) (by decide +kernel) rfl rfl rfl (by decide +kernel)
set_option maxRecDepth 65536 in
theorem w_c1 : (Jvm.Cond.code ({ cls := "com/example/fine_events/fineevents/PositionTrackerStandWherePinLaw", name := "ch", desc := "(I)C" } : Jvm.MethodName) method_2_code (3 : Nat) (Option.some Jvm.ClassFile.FieldType.char)).before args0 about1 = true := code_word (m := ⟨1, 1⟩) (meth := k1m1) (c := k1c1) (by decide +kernel) rfl rfl rfl (by decide +kernel)
set_option maxRecDepth 65536 in
theorem w_c2 : (Jvm.Cond.code ({ cls := "com/example/fine_events/fineevents/PositionTracker", name := "<init>", desc := "()V" } : Jvm.MethodName) prog_51_method_1_code (1 : Nat) (Option.none : Option Jvm.ClassFile.FieldType)).before args0 about1 = true := code_word (m := ⟨2, 0⟩) (meth := k2m0) (c := k2c0) (by decide +kernel) rfl rfl rfl (by decide +kernel)
set_option maxRecDepth 65536 in
theorem w_c3 : (Jvm.Cond.code ({ cls := "java/lang/Object", name := "<init>", desc := "()V" } : Jvm.MethodName) object_method_1_code (1 : Nat) (Option.none : Option Jvm.ClassFile.FieldType)).before args0 about1 = true := code_word (m := ⟨0, 0⟩) (meth := k0m0) (c := k0c0) (by decide +kernel) rfl rfl rfl (by decide +kernel)
set_option maxRecDepth 65536 in
theorem w_c4 : (Jvm.Cond.code ({ cls := "com/example/fine_events/fineevents/PositionTracker", name := "advance", desc := "([CII)V" } : Jvm.MethodName) prog_51_method_5_code (6 : Nat) (Option.none : Option Jvm.ClassFile.FieldType)).before args0 about1 = true := code_word (m := ⟨2, 3⟩) (meth := k2m3) (c := k2c3) (by decide +kernel) rfl rfl rfl (by decide +kernel)
set_option maxRecDepth 65536 in
theorem w_c5 : (Jvm.Cond.code ({ cls := "com/example/fine_events/fineevents/PositionTracker", name := "isPlain", desc := "(C)Z" } : Jvm.MethodName) prog_51_method_4_code (1 : Nat) (Option.some Jvm.ClassFile.FieldType.boolean)).before args0 about1 = true := code_word (m := ⟨2, 2⟩) (meth := k2m2) (c := k2c2) (by decide +kernel) rfl rfl rfl (by decide +kernel)
set_option maxRecDepth 65536 in
theorem w_c6 : (Jvm.Cond.code ({ cls := "com/example/fine_events/fineevents/PositionTracker", name := "advanceOverPlain", desc := "([CII)V" } : Jvm.MethodName) prog_51_method_6_code (7 : Nat) (Option.none : Option Jvm.ClassFile.FieldType)).before args0 about1 = true := code_word (m := ⟨2, 4⟩) (meth := k2m4) (c := k2c4) (by decide +kernel) rfl rfl rfl (by decide +kernel)
set_option maxRecDepth 65536 in
theorem w_c7 : (Jvm.Cond.code ({ cls := "java/lang/Character", name := "isLowSurrogate", desc := "(C)Z" } : Jvm.MethodName) jdk_89_method_15_code (1 : Nat) (Option.some Jvm.ClassFile.FieldType.boolean)).before args0 about1 = true := code_word (m := ⟨6, 1⟩) (meth := k6m1) (c := k6c1) (by decide +kernel) rfl rfl rfl (by decide +kernel)
set_option maxRecDepth 65536 in
theorem w_c8 : (Jvm.Cond.code ({ cls := "java/lang/Character", name := "isHighSurrogate", desc := "(C)Z" } : Jvm.MethodName) jdk_89_method_14_code (1 : Nat) (Option.some Jvm.ClassFile.FieldType.boolean)).before args0 about1 = true := code_word (m := ⟨6, 0⟩) (meth := k6m0) (c := k6c0) (by decide +kernel) rfl rfl rfl (by decide +kernel)
set_option maxRecDepth 65536 in
theorem w_c9 : (Jvm.Cond.code ({ cls := "com/example/fine_events/fineevents/PositionTracker", name := "standWhere", desc := "(Lcom/example/fine_events/fineevents/PositionTracker;)V" } : Jvm.MethodName) prog_51_method_3_code (2 : Nat) (Option.none : Option Jvm.ClassFile.FieldType)).before args0 about1 = true := code_word (m := ⟨2, 1⟩) (meth := k2m1) (c := k2c1) (by decide +kernel) rfl rfl rfl (by decide +kernel)
set_option maxRecDepth 65536 in
theorem w_c10 : (Jvm.Cond.code ({ cls := "com/example/fine_events/fineevents/PositionTracker", name := "position", desc := "()Lcom/example/fine_events/fineevents/Position;" } : Jvm.MethodName) prog_51_method_7_code (1 : Nat) (Option.some (Jvm.ClassFile.FieldType.object "com/example/fine_events/fineevents/Position"))).before args0 about1 = true := code_word (m := ⟨2, 5⟩) (meth := k2m5) (c := k2c5) (by decide +kernel) rfl rfl rfl (by decide +kernel)
set_option maxRecDepth 65536 in
theorem w_c11 : (Jvm.Cond.code ({ cls := "com/example/fine_events/fineevents/PositionTracker", name := "unitColumn", desc := "()J" } : Jvm.MethodName) prog_51_method_10_code (1 : Nat) (Option.some Jvm.ClassFile.FieldType.long)).before args0 about1 = true := code_word (m := ⟨2, 6⟩) (meth := k2m6) (c := k2c6) (by decide +kernel) rfl rfl rfl (by decide +kernel)
set_option maxRecDepth 65536 in
theorem w_c12 : (Jvm.Cond.code ({ cls := "com/example/fine_events/fineevents/Position", name := "<init>", desc := "(JJJ)V" } : Jvm.MethodName) prog_50_method_1_code (7 : Nat) (Option.none : Option Jvm.ClassFile.FieldType)).before args0 about1 = true := code_word (m := ⟨8, 0⟩) (meth := k8m0) (c := k8c0) (by decide +kernel) rfl rfl rfl (by decide +kernel)
set_option maxRecDepth 65536 in
theorem w_c13 : (Jvm.Cond.code ({ cls := "java/lang/Record", name := "<init>", desc := "()V" } : Jvm.MethodName) jdk_30_method_1_code (1 : Nat) (Option.none : Option Jvm.ClassFile.FieldType)).before args0 about1 = true := code_word (m := ⟨7, 0⟩) (meth := k7m0) (c := k7c0) (by decide +kernel) rfl rfl rfl (by decide +kernel)
set_option maxRecDepth 65536 in
theorem w_c14 : (Jvm.Cond.code ({ cls := "com/example/fine_events/fineevents/Position", name := "line", desc := "()J" } : Jvm.MethodName) prog_50_method_5_code (1 : Nat) (Option.some Jvm.ClassFile.FieldType.long)).before args0 about1 = true := code_word (m := ⟨8, 1⟩) (meth := k8m1) (c := k8c1) (by decide +kernel) rfl rfl rfl (by decide +kernel)
set_option maxRecDepth 65536 in
theorem w_c15 : (Jvm.Cond.code ({ cls := "com/example/fine_events/fineevents/Position", name := "column", desc := "()J" } : Jvm.MethodName) prog_50_method_6_code (1 : Nat) (Option.some Jvm.ClassFile.FieldType.long)).before args0 about1 = true := code_word (m := ⟨8, 2⟩) (meth := k8m2) (c := k8c2) (by decide +kernel) rfl rfl rfl (by decide +kernel)
set_option maxRecDepth 65536 in
theorem w_c16 : (Jvm.Cond.code ({ cls := "com/example/fine_events/fineevents/Position", name := "offset", desc := "()J" } : Jvm.MethodName) prog_50_method_7_code (1 : Nat) (Option.some Jvm.ClassFile.FieldType.long)).before args0 about1 = true := code_word (m := ⟨8, 3⟩) (meth := k8m3) (c := k8c3) (by decide +kernel) rfl rfl rfl (by decide +kernel)
def codes1 : List Jvm.Cond := [Jvm.Cond.code x code maxLocals ret, Jvm.Cond.code ({ cls := "com/example/fine_events/fineevents/PositionTrackerStandWherePinLaw", name := "ch", desc := "(I)C" } : Jvm.MethodName) method_2_code (3 : Nat) (Option.some Jvm.ClassFile.FieldType.char), Jvm.Cond.code ({ cls := "com/example/fine_events/fineevents/PositionTracker", name := "<init>", desc := "()V" } : Jvm.MethodName) prog_51_method_1_code (1 : Nat) (Option.none : Option Jvm.ClassFile.FieldType), Jvm.Cond.code ({ cls := "java/lang/Object", name := "<init>", desc := "()V" } : Jvm.MethodName) object_method_1_code (1 : Nat) (Option.none : Option Jvm.ClassFile.FieldType), Jvm.Cond.code ({ cls := "com/example/fine_events/fineevents/PositionTracker", name := "advance", desc := "([CII)V" } : Jvm.MethodName) prog_51_method_5_code (6 : Nat) (Option.none : Option Jvm.ClassFile.FieldType), Jvm.Cond.code ({ cls := "com/example/fine_events/fineevents/PositionTracker", name := "isPlain", desc := "(C)Z" } : Jvm.MethodName) prog_51_method_4_code (1 : Nat) (Option.some Jvm.ClassFile.FieldType.boolean), Jvm.Cond.code ({ cls := "com/example/fine_events/fineevents/PositionTracker", name := "advanceOverPlain", desc := "([CII)V" } : Jvm.MethodName) prog_51_method_6_code (7 : Nat) (Option.none : Option Jvm.ClassFile.FieldType), Jvm.Cond.code ({ cls := "java/lang/Character", name := "isLowSurrogate", desc := "(C)Z" } : Jvm.MethodName) jdk_89_method_15_code (1 : Nat) (Option.some Jvm.ClassFile.FieldType.boolean), Jvm.Cond.code ({ cls := "java/lang/Character", name := "isHighSurrogate", desc := "(C)Z" } : Jvm.MethodName) jdk_89_method_14_code (1 : Nat) (Option.some Jvm.ClassFile.FieldType.boolean), Jvm.Cond.code ({ cls := "com/example/fine_events/fineevents/PositionTracker", name := "standWhere", desc := "(Lcom/example/fine_events/fineevents/PositionTracker;)V" } : Jvm.MethodName) prog_51_method_3_code (2 : Nat) (Option.none : Option Jvm.ClassFile.FieldType), Jvm.Cond.code ({ cls := "com/example/fine_events/fineevents/PositionTracker", name := "position", desc := "()Lcom/example/fine_events/fineevents/Position;" } : Jvm.MethodName) prog_51_method_7_code (1 : Nat) (Option.some (Jvm.ClassFile.FieldType.object "com/example/fine_events/fineevents/Position")), Jvm.Cond.code ({ cls := "com/example/fine_events/fineevents/PositionTracker", name := "unitColumn", desc := "()J" } : Jvm.MethodName) prog_51_method_10_code (1 : Nat) (Option.some Jvm.ClassFile.FieldType.long), Jvm.Cond.code ({ cls := "com/example/fine_events/fineevents/Position", name := "<init>", desc := "(JJJ)V" } : Jvm.MethodName) prog_50_method_1_code (7 : Nat) (Option.none : Option Jvm.ClassFile.FieldType), Jvm.Cond.code ({ cls := "java/lang/Record", name := "<init>", desc := "()V" } : Jvm.MethodName) jdk_30_method_1_code (1 : Nat) (Option.none : Option Jvm.ClassFile.FieldType), Jvm.Cond.code ({ cls := "com/example/fine_events/fineevents/Position", name := "line", desc := "()J" } : Jvm.MethodName) prog_50_method_5_code (1 : Nat) (Option.some Jvm.ClassFile.FieldType.long), Jvm.Cond.code ({ cls := "com/example/fine_events/fineevents/Position", name := "column", desc := "()J" } : Jvm.MethodName) prog_50_method_6_code (1 : Nat) (Option.some Jvm.ClassFile.FieldType.long), Jvm.Cond.code ({ cls := "com/example/fine_events/fineevents/Position", name := "offset", desc := "()J" } : Jvm.MethodName) prog_50_method_7_code (1 : Nat) (Option.some Jvm.ClassFile.FieldType.long)]
set_option maxRecDepth 65536 in
theorem codes_eq : words1.filter isCode = codes1 := rfl
theorem w_codes : ∀ c ∈ words1.filter isCode, c.before args0 about1 = true := by
  rw [codes_eq]
  intro c hc
  simp only [codes1, List.mem_cons, List.not_mem_nil, or_false] at hc
  rcases hc with rfl | rfl | rfl | rfl | rfl | rfl | rfl | rfl | rfl | rfl | rfl | rfl | rfl | rfl | rfl | rfl | rfl
  · exact w_c0
  · exact w_c1
  · exact w_c2
  · exact w_c3
  · exact w_c4
  · exact w_c5
  · exact w_c6
  · exact w_c7
  · exact w_c8
  · exact w_c9
  · exact w_c10
  · exact w_c11
  · exact w_c12
  · exact w_c13
  · exact w_c14
  · exact w_c15
  · exact w_c16
set_option maxRecDepth 65536 in
theorem w_t1 : (words1.take 24).all (fun c => isCode c || c.before args0 about1) = true := by decide +kernel
set_option maxRecDepth 65536 in
theorem w_t2 : ((words1.drop 24).take 24).all (fun c => isCode c || c.before args0 about1) = true := by decide +kernel
set_option maxRecDepth 65536 in
theorem w_t3 : (((words1.drop 24).drop 24).take 24).all (fun c => isCode c || c.before args0 about1) = true := by decide +kernel
set_option maxRecDepth 65536 in
theorem w_t4 : ((((words1.drop 24).drop 24).drop 24).take 24).all (fun c => isCode c || c.before args0 about1) = true := by decide +kernel
set_option maxRecDepth 65536 in
theorem w_t5 : ((((words1.drop 24).drop 24).drop 24).drop 24).all (fun c => isCode c || c.before args0 about1) = true := by decide +kernel
theorem w_tables : (allAtoms (Jvm.Cond.code x code maxLocals ret :: tables_1)).before args0 about1 = true := by
  rw [allAtoms_all]
  show words1.all (fun c => c.before args0 about1) = true
  refine all_split ?_ w_codes
  rw [← List.take_append_drop 24 words1, List.all_append, w_t1, ← List.take_append_drop 24 (words1.drop 24), List.all_append, w_t2, ← List.take_append_drop 24 ((words1.drop 24).drop 24), List.all_append, w_t3, ← List.take_append_drop 24 (((words1.drop 24).drop 24).drop 24), List.all_append, w_t4, w_t5]
  rfl
set_option maxRecDepth 65536 in
theorem w_case : (Jvm.Cond.and given_1 narrow_1).before args0 about1 = true := by decide +kernel
theorem w_applies : (headSpec (Jvm.Cond.code x code maxLocals ret :: tables_1) room_1).applies x e0.platform about1 = true :=
  (Spec.applies_iff w_frames).mpr ⟨w_running, w_runnable, w_alone, w_named, w_hears, w_ripe, w_room, w_tables⟩
theorem atStart : AtStart classFile x code maxLocals ret World_1 tables_1 room_1 Calls_1 rest_1 Pre_1 launch0 p0 e0 about1 theMethod args0 below0 :=
  ⟨lists_1, trivial, launch0.admits_env _ _ _, launch0.least_env, fairChoices_fair.cas, fairChoices_fair.clock, w_frames, w_args, w_heap, w_applies, trivial, trivial, w_case⟩
end start1
theorem witness_1 : WitnessClaimed_1 := ⟨start1.p0, start1.e0, start1.about1, start1.theMethod, start1.args0, start1.below0, start1.atStart⟩
end Jvm.Pilot.@@N@@
