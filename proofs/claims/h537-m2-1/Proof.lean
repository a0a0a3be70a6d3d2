import JvmDerived
import JvmDerived.Pilot.@@N@@Statement
import JvmDerived.Pilot.@@N@@Code
set_option linter.unusedVariables false
set_option linter.unusedSimpArgs false
@@BLOCK:NumsL.lean.txt@@
namespace Jvm.OwnWp
open Jvm Jvm.ClassFile Sem Op Lib Jvm.Free Jvm.Stand Jvm.LawKit Jvm.RoadKit
/-! The heap of a walk as a plain list of the objects that it may touch. -/
abbrev Fd := String × String × String × Value
abbrev Ob := (String × List Fd) ⊕ (FieldType × List Value)
abbrev Hs := List (Addr × Ob)
section Heaps
variable {Z : State} {a0 : Array Value} {h h' h0 : Heap} {a b : Addr} {sl : Nat} {v : Value} {o o' : Ob} {os os' rest : Hs} {dm fp fp2 : List Addr}
def ObAt (Z : State) (a0 : Array Value) (h : Heap) (a : Addr) : Ob → Prop
  | .inl x => Exa Z h a x.1 ∧ (x.2.map (·.2.1)).Nodup ∧ ∀ q ∈ x.2, Fld Z h a q.1 q.2.1 q.2.2.1 q.2.2.2 ∧ Laid Z a0 x.1 q.1 q.2.1 q.2.2.1 ∧ ∃ t, parseFieldDescriptor q.2.2.1 = some t
  | .inr x => ∃ c : Cell, Arr Z h a c x.1 ∧ c.slots.toList = x.2 ∧ Exa Z h a ("[" ++ x.1.toString) ∧ ∀ v ∈ x.2, fits x.1 v = true
theorem ObAt.lt (F : ObAt Z a0 h a o) : a < h.size := by
  cases o with
  | inl x => exact F.1.lt
  | inr x => obtain ⟨c, A, -⟩ := F; exact A.lt
theorem ObAt.move (hm : ∀ c, h[a]? = some c → h'[a]? = some c) (F : ObAt Z a0 h a o) : ObAt Z a0 h' a o := by
  cases o with
  | inl x =>
    obtain ⟨⟨cell, k, h1, r⟩, hn, hq⟩ := F
    refine ⟨⟨cell, k, hm _ h1, r⟩, hn, fun q hq' => ?_⟩
    obtain ⟨⟨cell, cf, k, i, f, h1, r⟩, L⟩ := hq q hq'
    exact ⟨⟨cell, cf, k, i, f, hm _ h1, r⟩, L⟩
  | inr x =>
    obtain ⟨c, A, e, ⟨cell, k, h1, r⟩, hf⟩ := F
    exact ⟨c, ⟨hm _ A.1, A.2⟩, e, ⟨cell, k, hm _ h1, r⟩, hf⟩
theorem ObAt.ext (E : Ext h h') (F : ObAt Z a0 h a o) : ObAt Z a0 h' a o := F.move fun c hc => E.2 _ _ hc
theorem wr_ne (W : Wr h h' a sl v) (hne : b ≠ a) {c : Cell} (hc : h[b]? = some c) : h'[b]? = some c := by
  obtain ⟨cb', h1, -, -, -, h5, -⟩ := wr_at W hc
  rw [h1, h5 hne]
/-- the cells that a walk may write: those of its footprint, and the new ones -/
def Dm (fp : List Addr) (n0 : Nat) (a : Addr) : Prop := a ∈ fp ∨ n0 ≤ a
def Hq (Z : State) (a0 : Array Value) (h : Heap) (os : Hs) : Prop := (os.map (·.1)).Nodup ∧ ∀ q ∈ os, ObAt Z a0 h q.1 q.2
def Hp (Z : State) (a0 : Array Value) (dm fp : List Addr) (h0 h : Heap) (os : Hs) : Prop :=
  Hq Z a0 h os ∧ (∀ q ∈ os, Dm dm h0.size q.1) ∧ h0.size ≤ h.size ∧ ∀ a c, h0[a]? = some c → a ∉ fp → h[a]? = some c
theorem Hp.start (H : Hq Z a0 h os) : Hp Z a0 (os.map (·.1)) fp h h os := ⟨H, fun q hq => Or.inl (List.mem_map.mpr ⟨q, hq, rfl⟩), Nat.le_refl _, fun _ _ q _ => q⟩
theorem Hp.ext (E : Ext h h') (H : Hp Z a0 dm fp h0 h os) : Hp Z a0 dm fp h0 h' os :=
  ⟨⟨H.1.1, fun q hq => (H.1.2 q hq).ext E⟩, H.2.1, Nat.le_trans H.2.2.1 E.1, fun a c q n => E.2 _ _ (H.2.2.2 a c q n)⟩
theorem Hp.push (E : Ext h h') (F : ObAt Z a0 h' h.size o) (H : Hp Z a0 dm fp h0 h os) : Hp Z a0 dm fp h0 h' (os ++ [(h.size, o)]) := by
  have H' := H.ext E
  refine ⟨⟨?_, fun q hq => ?_⟩, fun q hq => ?_, H'.2.2⟩
  · rw [List.map_append, List.nodup_append]
    refine ⟨H.1.1, by simp, fun x hx y hy => ?_⟩
    obtain ⟨q, hq, rfl⟩ := List.mem_map.mp hx
    have := (H.1.2 q hq).lt
    simp only [List.map_cons, List.map_nil, List.mem_singleton] at hy
    intro e
    rw [e, hy] at this
    exact Nat.lt_irrefl _ this
  · rcases List.mem_append.mp hq with hq | hq
    · exact H'.1.2 q hq
    · cases List.mem_singleton.mp hq; exact F
  · rcases List.mem_append.mp hq with hq | hq
    · exact H.2.1 q hq
    · cases List.mem_singleton.mp hq; exact Or.inr H.2.2.1
theorem mem_set {α : Type} {l : List α} {k : Nat} {x q : α} (hq : q ∈ l.set k x) : q = x ∨ ∃ i, i ≠ k ∧ l[i]? = some q := by
  obtain ⟨i, hi⟩ := List.mem_iff_getElem?.mp hq
  rw [List.getElem?_set] at hi
  by_cases e : k = i
  · rw [if_pos e] at hi
    split at hi
    · exact Or.inl (Option.some.inj hi).symm
    · cases hi
  · rw [if_neg e] at hi
    exact Or.inr ⟨i, fun z => e z.symm, hi⟩
theorem nodup_inj {α : Type} {l : List α} (hn : l.Nodup) {i j : Nat} {x : α} (hi : l[i]? = some x) (hj : l[j]? = some x) : i = j := by
  obtain ⟨h1, e1⟩ := List.getElem?_eq_some_iff.mp hi
  obtain ⟨h2, e2⟩ := List.getElem?_eq_some_iff.mp hj
  exact (List.getElem_inj hn).mp (e1.trans e2.symm)
theorem map_at {α β : Type} {l : List α} {f : α → β} {i : Nat} {x : α} (hi : l[i]? = some x) : (l.map f)[i]? = some (f x) := by rw [List.getElem?_map, hi]; rfl
theorem map_set_same {α β : Type} {l : List α} {f : α → β} {k : Nat} {x x' : α} (hk : l[k]? = some x) (e : f x' = f x) : (l.set k x').map f = l.map f := by
  apply List.ext_getElem?
  intro i
  rw [List.getElem?_map, List.getElem?_map, List.getElem?_set]
  by_cases z : k = i
  · subst z
    rw [if_pos rfl]
    have := (List.getElem?_eq_some_iff.mp hk).1
    rw [if_pos this, hk]
    exact congrArg some e
  · rw [if_neg z]
theorem Hp.wr {k : Nat} (hD : Dm fp h0.size a) (W : Wr h h' a sl v) (ho : os[k]? = some (a, o)) (F : ObAt Z a0 h' a o') (H : Hp Z a0 dm fp h0 h os) : Hp Z a0 dm fp h0 h' (os.set k (a, o')) := by
  have hM : Dm dm h0.size a := H.2.1 _ (List.mem_of_getElem? ho)
  refine ⟨⟨?_, fun q hq => ?_⟩, fun q hq => ?_, by rw [W.size]; exact H.2.2.1, fun x c hx hn => ?_⟩
  · rw [map_set_same (f := fun x : Addr × Ob => x.1) (x' := (a, o')) ho rfl]; exact H.1.1
  · rcases mem_set hq with rfl | ⟨i, hi, hq⟩
    · exact F
    · have hne : q.1 ≠ a := fun e => hi (nodup_inj H.1.1 (map_at hq) (by rw [map_at ho, e]))
      exact (H.1.2 q (List.mem_of_getElem? hq)).move fun c hc => wr_ne W hne hc
  · rcases mem_set hq with rfl | ⟨i, hi, hq⟩
    · exact hM
    · exact H.2.1 q (List.mem_of_getElem? hq)
  · refine wr_ne W (fun e => ?_) (H.2.2.2 x c hx hn)
    subst e
    rcases hD with hD | hD
    · exact hn hD
    · exact absurd (Array.getElem?_eq_some_iff.mp hx).1 (Nat.not_lt.mpr hD)
theorem Hp.fld {k : Nat} {C : String} {fs : List Fd} {j : Nat} {O n d : String} {w : Value} (ho : os[k]? = some (a, .inl (C, fs))) (hj : fs[j]? = some (O, n, d, w)) (H : Hp Z a0 dm fp h0 h os) : Fld Z h a O n d w :=
  ((H.1.2 _ (List.mem_of_getElem? ho)).2.2 _ (List.mem_of_getElem? hj)).1
theorem Hp.exa {k : Nat} {C : String} {fs : List Fd} (ho : os[k]? = some (a, .inl (C, fs))) (H : Hp Z a0 dm fp h0 h os) : Exa Z h a C := (H.1.2 _ (List.mem_of_getElem? ho)).1
theorem Hp.putf {k : Nat} {C : String} {fs : List Fd} {j : Nat} {O n d : String} {w : Value} (hD : Dm fp h0.size a) (ho : os[k]? = some (a, .inl (C, fs))) (hj : fs[j]? = some (O, n, d, w)) (W : Wr h h' a (RoadKit.slotOf Z O n d) v) (H : Hp Z a0 dm fp h0 h os) :
    Hp Z a0 dm fp h0 h' (os.set k (a, .inl (C, fs.set j (O, n, d, v)))) := by
  refine H.wr hD W ho ?_
  obtain ⟨hE, hN, hF⟩ := H.1.2 _ (List.mem_of_getElem? ho)
  dsimp only at hE hN hF
  obtain ⟨F, L, t, ht⟩ := hF _ (List.mem_of_getElem? hj)
  refine ⟨hE.wr W, ?_, fun q hq => ?_⟩
  · dsimp only
    rw [map_set_same (f := fun x : Fd => x.2.1) (x' := (O, n, d, v)) hj rfl]; exact hN
  · rcases mem_set hq with rfl | ⟨i, hi, hq⟩
    · exact ⟨F.same W, L, t, ht⟩
    · obtain ⟨F', L', t', ht'⟩ := hF _ (List.mem_of_getElem? hq)
      have hne : q.2.1 ≠ n := fun e => hi (nodup_inj hN (map_at hq) (by rw [map_at hj, e]))
      exact ⟨F'.other W (Or.inr (slot_ne L' L hne ht' ht)), L', t', ht'⟩
theorem Hp.arr {k : Nat} {ty : FieldType} {vs : List Value} (ho : os[k]? = some (a, .inr (ty, vs))) (H : Hp Z a0 dm fp h0 h os) : ∃ c : Cell, Arr Z h a c ty ∧ c.slots.toList = vs := by
  obtain ⟨c, A, e, -⟩ := H.1.2 _ (List.mem_of_getElem? ho)
  exact ⟨c, A, e⟩
theorem Hp.puta {k : Nat} {ty : FieldType} {vs : List Value} {j : Nat} (hD : Dm fp h0.size a) (hf : fits ty v = true) (ho : os[k]? = some (a, .inr (ty, vs))) (W : Wr h h' a j v) (H : Hp Z a0 dm fp h0 h os) : Hp Z a0 dm fp h0 h' (os.set k (a, .inr (ty, vs.set j v))) := by
  refine H.wr hD W ho ?_
  obtain ⟨c, A, e, E, F⟩ := H.1.2 _ (List.mem_of_getElem? ho)
  refine ⟨_, A.same W, ?_, E.wr W, fun q hq => ?_⟩
  · dsimp only at e ⊢
    rw [← e]
    simp [Cell.setSlot]
  · rcases mem_set hq with rfl | ⟨i, -, hq⟩
    · exact hf
    · exact F q (List.mem_of_getElem? hq)
theorem Hp.call (H : Hp Z a0 dm fp h0 h (rest ++ os)) (H' : Hp Z a0 (os.map (·.1)) fp2 h h' os') (hc : fp2 = [] ∨ (fp2 = os.map (·.1) ∧ dm = fp)) : Hp Z a0 dm fp h0 h' (rest ++ os') := by
  have hN := H.1.1
  rw [List.map_append, List.nodup_append] at hN
  have hsub : ∀ x ∈ fp2, x ∈ os.map (·.1) := fun x hx => by
    rcases hc with rfl | ⟨rfl, -⟩
    · exact absurd hx List.not_mem_nil
    · exact hx
  have hD : ∀ x, Dm (os.map (·.1)) h.size x → Dm dm h0.size x := fun x hx => by
    rcases hx with hx | hx
    · obtain ⟨q, hq, rfl⟩ := List.mem_map.mp hx
      exact H.2.1 q (List.mem_append.mpr (Or.inr hq))
    · exact Or.inr (Nat.le_trans H.2.2.1 hx)
  have hR : ∀ q ∈ rest, q.1 ∉ os.map (·.1) := fun q hq hm => hN.2.2 _ (List.mem_map.mpr ⟨q, hq, rfl⟩) _ hm rfl
  refine ⟨⟨?_, fun q hq => ?_⟩, fun q hq => ?_, Nat.le_trans H.2.2.1 H'.2.2.1, fun x c hx hn => ?_⟩
  · rw [List.map_append, List.nodup_append]
    refine ⟨hN.1, H'.1.1, fun x hx y hy e => ?_⟩
    subst e
    obtain ⟨q, hq, rfl⟩ := List.mem_map.mp hx
    obtain ⟨q', hq', e⟩ := List.mem_map.mp hy
    have := H'.2.1 q' hq'
    rw [e] at this
    rcases this with t | t
    · exact hR q hq t
    · exact absurd (H.1.2 q (List.mem_append.mpr (Or.inl hq))).lt (Nat.not_lt.mpr t)
  · rcases List.mem_append.mp hq with hq | hq
    · exact (H.1.2 q (List.mem_append.mpr (Or.inl hq))).move fun c hc => H'.2.2.2 _ _ hc (fun z => hR q hq (hsub _ z))
    · exact H'.1.2 q hq
  · rcases List.mem_append.mp hq with hq | hq
    · exact H.2.1 q (List.mem_append.mpr (Or.inl hq))
    · exact hD _ (H'.2.1 q hq)
  · refine H'.2.2.2 _ _ (H.2.2.2 x c hx hn) fun hm => ?_
    rcases hc with rfl | ⟨rfl, rfl⟩
    · exact absurd hm List.not_mem_nil
    · obtain ⟨q, hq, rfl⟩ := List.mem_map.mp hm
      rcases H.2.1 q (List.mem_append.mpr (Or.inr hq)) with t | t
      · exact hn t
      · exact absurd (Array.getElem?_eq_some_iff.mp hx).1 (Nat.not_lt.mpr t)
theorem pick_mem {is : List Nat} {os2 : Hs} (he : is.map (fun i => os[i]?) = os2.map some) {q : Addr × Ob} (hq : q ∈ os2) : ∃ i ∈ is, os[i]? = some q := by
  have : some q ∈ is.map (fun i => os[i]?) := by rw [he]; exact List.mem_map.mpr ⟨q, hq, rfl⟩
  obtain ⟨i, hi, e⟩ := List.mem_map.mp this
  exact ⟨i, hi, e⟩
theorem pick_nodup (hN : (os.map (·.1)).Nodup) : ∀ {is : List Nat} {os2 : Hs}, is.Nodup → is.map (fun i => os[i]?) = os2.map some → (os2.map (·.1)).Nodup
  | [], [], _, _ => List.nodup_nil
  | [], _ :: _, _, he => by cases he
  | _ :: _, [], _, he => by cases he
  | i :: is, q :: os2, hi, he => by
    simp only [List.map_cons, List.cons.injEq] at he
    rw [List.nodup_cons] at hi
    rw [List.map_cons, List.nodup_cons]
    refine ⟨fun hm => ?_, pick_nodup hN hi.2 he.2⟩
    obtain ⟨q', hq', e⟩ := List.mem_map.mp hm
    obtain ⟨i', hi', e'⟩ := pick_mem he.2 hq'
    have := nodup_inj hN (map_at he.1) (by rw [map_at e', e])
    exact hi.1 (this ▸ hi')
theorem Hp.pick {is : List Nat} {os2 : Hs} (H : Hp Z a0 dm fp h0 h os) (hn : is.Nodup) (he : is.map (fun i => os[i]?) = os2.map some) : Hp Z a0 dm fp h0 h os2 :=
  have hm : ∀ q ∈ os2, q ∈ os := fun q hq => by obtain ⟨i, -, e⟩ := pick_mem he hq; exact List.mem_of_getElem? e
  ⟨⟨pick_nodup H.1.1 hn he, fun q hq => H.1.2 q (hm q hq)⟩, fun q hq => H.2.1 q (hm q hq), H.2.2⟩
end Heaps
/-- what a walk holds at a point -/
def Here (p : Program) (l : Launch) (e : Env) (R : Room) (s : State) (m : MethodId) (args : Array Value) (below : List Frame) (meth : Method) (c : Code) (Z : State) (a0 : Array Value) (y : MethodName) (bytes : ByteArray) (ml : Nat) (ret : Option FieldType) (dm fp : List Addr) (T : State) (k n : Nat) (os : Hs) : Prop :=
  ∃ locs, Stand p l e R s m args below meth c T locs k n ∧ (∀ q ∈ locs, Dm fp s.heap.size q.base) ∧ Hp Z a0 dm fp s.heap T.heap os ∧ p.tables.exec = Jvm.exec ∧ Z.Warmed39 s.vm ∧ c.code = bytes ∧ c.maxLocals = ml ∧ s.vm.findClass y.cls = some m.cls ∧ meth.name = y.name ∧ meth.sig.returnType = ret ∧ meth.locks = false
/-- from here the body returns, and what it leaves is as Post says -/
def Wp (p : Program) (e : Env) (below : List Frame) (Z : State) (a0 : Array Value) (dm fp : List Addr) (R : Room) (s : State) (Post : Option Value → Hs → Prop) (T : State) (g : JFrame) : Prop :=
  ∃ s₂ o, Steps p.tables e below (T.setTop g) s₂ ∧ s₂.status = .running ∧ Ended s₂ below o ∧ ∃ v L, o = .returned v ∧ ((∀ q ∈ L, Dm fp s.heap.size q.base) ∧ ∃ os', Hp Z a0 dm fp s.heap s₂.heap os' ∧ Post v os') ∧ FrameEnd s o s₂ L R.cells R.slots
/-- a body's contract -/
def Pays (l : Launch) (Z : State) (a0 : Array Value) (y : MethodName) (bytes : ByteArray) (ml : Nat) (ret : Option FieldType) (R : Room) (args : Array Value) (os : Hs) (fp : List Addr) (Post : Option Value → Hs → Prop) : Prop :=
  ∀ (ws : List Jvm.Cond) (h0 : Heap), Hq Z a0 h0 os → MetFree l y (head1 (Jvm.Cond.code y bytes ml ret :: ws) R) (fun a U => a = args ∧ Z.Warmed39 U.vm ∧ U.heap = h0) (fun _ _ _ _ _ => True)
    (fun _ U o U' => ∃ v L, o = .returned v ∧ ((∀ q ∈ L, Dm fp h0.size q.base) ∧ ∃ os', Hp Z a0 (os.map (·.1)) fp h0 U'.heap os' ∧ Post v os') ∧ FrameEnd U o U' L R.cells R.slots)
section Walks
variable {p : Program} {l : Launch} {e : Env} {R : Room} {s : State} {m : MethodId} {args : Array Value} {below : List Frame} {meth : Method} {c : Code} {Z : State} {a0 : Array Value} {y : MethodName} {bytes : ByteArray} {ml : Nat} {ret : Option FieldType} {dm fp fp2 : List Addr} {T T' : State} {k n : Nat} {os : Hs} {Post : Option Value → Hs → Prop} {pc : Nat} {Ls : Array Slot} {st rest : List Value}
theorem Wp.go {g g' : JFrame} (hs : ∀ t, Steps p.tables e below (T'.setTop g') t → Steps p.tables e below (T.setTop g) t) (K : Wp p e below Z a0 dm fp R s Post T' g') : Wp p e below Z a0 dm fp R s Post T g := by
  obtain ⟨s₂, o, h1, r⟩ := K
  exact ⟨s₂, o, hs _ h1, r⟩
theorem Here.hr (A : Here p l e R s m args below meth c Z a0 y bytes ml ret dm fp T k n os) : At T m c below := by obtain ⟨_, X, -⟩ := A; exact X.here
theorem Here.hx (A : Here p l e R s m args below meth c Z a0 y bytes ml ret dm fp T k n os) : p.tables.exec = Jvm.exec := by obtain ⟨_, -, -, -, hx, -⟩ := A; exact hx
theorem Here.hb {r : Except DecodeError (Instr × Nat)} (A : Here p l e R s m args below meth c Z a0 y bytes ml ret dm fp T k n os) (hd : decode bytes pc = r) : decode c.code pc = r := by obtain ⟨_, -, -, -, -, -, hb, -⟩ := A; exact hb ▸ hd
theorem Here.pick {is : List Nat} {os2 : Hs} (A : Here p l e R s m args below meth c Z a0 y bytes ml ret dm fp T k n os) (hn : is.Nodup) (he : is.map (fun i => os[i]?) = os2.map some) : Here p l e R s m args below meth c Z a0 y bytes ml ret dm fp T k n os2 := by
  obtain ⟨locs, X, N, H, r⟩ := A
  exact ⟨locs, X, N, H.pick hn he, r⟩
theorem Here.cast {k2 n2 : Nat} {os2 : Hs} (A : Here p l e R s m args below meth c Z a0 y bytes ml ret dm fp T k n os) (h1 : k = k2) (h2 : n = n2) (h3 : os = os2) : Here p l e R s m args below meth c Z a0 y bytes ml ret dm fp T k2 n2 os2 := by
  subst h1 h2 h3
  exact A
theorem Here.more {k2 n2 : Nat} (A : Here p l e R s m args below meth c Z a0 y bytes ml ret dm fp T k n os) (h1 : k ≤ k2) (h2 : n ≤ n2) : Here p l e R s m args below meth c Z a0 y bytes ml ret dm fp T k2 n2 os := by
  obtain ⟨locs, X, r⟩ := A
  exact ⟨locs, X.more h1 h2, r⟩
theorem Here.irem {x z : Int32} (A : Here p l e R s m args below meth c Z a0 y bytes ml ret dm fp T k n os) (hd : decode bytes pc = .ok (.irem, 1)) (hz : z ≠ 0) {qn : Nat} (hq : pc + 1 = qn)
    (K : Wp p e below Z a0 dm fp R s Post T (mkF m qn Ls (.int (x % z) :: rest))) : Wp p e below Z a0 dm fp R s Post T (mkF m pc Ls (.int z :: .int x :: rest)) := by
  subst hq
  have q := irem_eq_mod x z
  exact Wp.go (fun t kt => XS.irem A.hr A.hx rfl (A.hb hd) rfl hz (by rw [q]; exact kt)) K
theorem lrem_eq (x z : Int64) : x - (x / z) * z = x % z := by
  apply Int64.toInt_inj.mp
  rw [Jvm.Kit.i64_rem, Int64.toInt_mod]
theorem Here.lrem {x z : Int64} (A : Here p l e R s m args below meth c Z a0 y bytes ml ret dm fp T k n os) (hd : decode bytes pc = .ok (.lrem, 1)) (hz : z ≠ 0) {qn : Nat} (hq : pc + 1 = qn)
    (K : Wp p e below Z a0 dm fp R s Post T (mkF m qn Ls (.long (x % z) :: rest))) : Wp p e below Z a0 dm fp R s Post T (mkF m pc Ls (.long z :: .long x :: rest)) := by
  subst hq
  have q := lrem_eq x z
  exact Wp.go (fun t kt => XS.lrem A.hr A.hx rfl (A.hb hd) rfl hz (by rw [q]; exact kt)) K
theorem Pays.of (hpl : plainFor y = true) (hef : ∀ m, entryFrame m args ml = mkF m 0 Ls [])
    (body : ∀ p e s m below meth c T, Here p l e R s m args below meth c Z a0 y bytes ml ret (os.map (·.1)) fp T 0 0 os → Wp p e below Z a0 (os.map (·.1)) fp R s Post T (mkF m 0 Ls [])) : Pays l Z a0 y bytes ml ret R args os fp Post := by
  intro ws h0 hq
  refine MetFree.of_bodySF hpl hisR ?_
  intro p e s m args' below meth c s₁ Bd hml0 hP hK
  obtain ⟨rfl, hZ, hh⟩ := hP
  have X0 : Stand p l e R s m args' below meth c s₁ [] 0 0 := Stand.of_body Bd
  have e0 : s₁.heap = s.heap := by rw [Bd.state]; rfl
  subst hh
  obtain ⟨s₂, o, h1, h2, h3, h4⟩ := body p e s m below meth c s₁ ⟨[], X0, fun _ q => (nomatch q), by rw [e0]; exact Hp.start hq, Bd.exec, hZ, Bd.bytes, hml0, findClass_of_methodNamed Bd.named, (name_of_methodNamed Bd.named Bd.method).1, Bd.returns, Bd.notSynchronized⟩
  exact ⟨s₂, o, castTop (hef m) h1, h2, h3, h4⟩
theorem Here.fin {v : Option Value} {g : JFrame} (A : Here p l e R s m args below meth c Z a0 y bytes ml ret dm fp T k n os) (hv : ret = none → v = none) (hk : k ≤ R.cells) (hn : n ≤ R.slots) (hP : Post v os)
    (hs : ∀ (locs : List Loc), Stand p l e R s m args below meth c T locs k n → meth.sig.returnType = ret → ∀ fs : List Frame, (∀ (f : JFrame) (acts : List Action), f.method = m → f.locked = none → f.entered = [] → (doReturn e (T.setTop f) acts v).1 = T.setFrames fs) → Steps p.tables e below (T.setTop g) (T.setFrames fs)) :
    Wp p e below Z a0 dm fp R s Post T g := by
  obtain ⟨locs, X, N, H, hx, hZ, hb, hml, hown, hnm, hret, hlk⟩ := A
  obtain ⟨fs, hr, hrun, hended, hW, hsame⟩ := X.leave (v := v) (fun h => hv (hret ▸ h)) hlk
  exact ⟨_, _, hs locs X hret fs hr, hrun, hended, v, locs, rfl, ⟨N, os, H, hP⟩, ⟨_, rfl⟩, hW, hsame.mono hk hn⟩
theorem Here.retV (A : Here p l e R s m args below meth c Z a0 y bytes ml none dm fp T k n os) (hd : decode bytes pc = .ok (.return_, 1)) (hk : k ≤ R.cells) (hn : n ≤ R.slots) (hP : Post none os) : Wp p e below Z a0 dm fp R s Post T (mkF m pc Ls []) :=
  A.fin (v := none) (fun _ => rfl) hk hn hP fun _ X hret _ hr => X.returnOut A.hx hret (A.hb hd) hr
theorem Here.retT {w : Value} {t : FieldType} {i : Instr} (A : Here p l e R s m args below meth c Z a0 y bytes ml (some t) dm fp T k n os) (hd : decode bytes pc = .ok (i, 1)) (hw : narrow t w = w)
    (hi : (i = .ireturn ∧ (t = .int ∨ t = .boolean ∨ t = .byte ∨ t = .char ∨ t = .short) ∧ ∃ z, w = .int z) ∨ (i = .lreturn ∧ t = .long ∧ ∃ z, w = .long z) ∨ (i = .dreturn ∧ t = .double ∧ ∃ z, w = .double z) ∨ (i = .freturn ∧ t = .float ∧ ∃ z, w = .float z) ∨ (i = .areturn ∧ t.isReference = true ∧ w.isRef = true))
    (hk : k ≤ R.cells) (hn : n ≤ R.slots) (hP : Post (some w) os) : Wp p e below Z a0 dm fp R s Post T (mkF m pc Ls (w :: rest)) :=
  A.fin (v := some w) (fun h => by cases h) hk hn hP fun _ X hret _ hr => retOut X A.hx hret hw hi (A.hb hd) hr
theorem Here.retI {z : Int32} (A : Here p l e R s m args below meth c Z a0 y bytes ml (some .int) dm fp T k n os) (hd : decode bytes pc = .ok (.ireturn, 1)) (hk : k ≤ R.cells) (hn : n ≤ R.slots) (hP : Post (some (.int z)) os) : Wp p e below Z a0 dm fp R s Post T (mkF m pc Ls (.int z :: rest)) :=
  A.retT hd rfl (Or.inl ⟨rfl, Or.inl rfl, z, rfl⟩) hk hn hP
theorem Here.retJ {z : Int64} (A : Here p l e R s m args below meth c Z a0 y bytes ml (some .long) dm fp T k n os) (hd : decode bytes pc = .ok (.lreturn, 1)) (hk : k ≤ R.cells) (hn : n ≤ R.slots) (hP : Post (some (.long z)) os) : Wp p e below Z a0 dm fp R s Post T (mkF m pc Ls (.long z :: rest)) :=
  A.retT hd rfl (Or.inr (Or.inl ⟨rfl, rfl, z, rfl⟩)) hk hn hP
theorem Here.retR {a : Addr} {t : FieldType} (A : Here p l e R s m args below meth c Z a0 y bytes ml (some t) dm fp T k n os) (hd : decode bytes pc = .ok (.areturn, 1)) (ht : t.isReference = true) (hk : k ≤ R.cells) (hn : n ≤ R.slots) (hP : Post (some (.ref a)) os) : Wp p e below Z a0 dm fp R s Post T (mkF m pc Ls (.ref a :: rest)) :=
  A.retT hd (by cases t <;> first | rfl | (cases ht)) (Or.inr (Or.inr (Or.inr (Or.inr ⟨rfl, ht, rfl⟩)))) hk hn hP
/-- of a boolean, byte, char, short: what comes out is narrowed -/
theorem Here.retN {z : Int32} {t : FieldType} (A : Here p l e R s m args below meth c Z a0 y bytes ml (some t) dm fp T k n os) (ht : t = .boolean ∨ t = .byte ∨ t = .char ∨ t = .short) (hd : decode bytes pc = .ok (.ireturn, 1)) (hk : k ≤ R.cells) (hn : n ≤ R.slots) (hP : Post (some (.int (nar t z))) os) : Wp p e below Z a0 dm fp R s Post T (mkF m pc Ls (.int z :: rest)) :=
  A.fin (v := some (.int (nar t z))) (fun h => by cases h) hk hn hP fun _ X hret _ hr => RoadKit.retN X A.hx hret ht (A.hb hd) hr
/-! single instructions (printed by mkops.py) -/
theorem Here.iloadN {j : Fin 4} {v : Int32} {q : Nat} (A : Here p l e R s m args below meth c Z a0 y bytes ml ret dm fp T k n os) (hd : decode bytes pc = .ok (.iload_n j, 1)) (hl : Ls[j.val]? = some (.val (.int v))) (hq : pc + 1 = q) (K : Wp p e below Z a0 dm fp R s Post T (mkF m q Ls (.int v :: st))) : Wp p e below Z a0 dm fp R s Post T (mkF m pc Ls st) := by
  subst hq
  exact Wp.go (fun t kt => XS.iloadN A.hr A.hx rfl (A.hb hd) hl kt) K
theorem Here.iload {j : Nat} {v : Int32} {q : Nat} (A : Here p l e R s m args below meth c Z a0 y bytes ml ret dm fp T k n os) (hd : decode bytes pc = .ok (.iload j, 2)) (hl : Ls[j]? = some (.val (.int v))) (hq : pc + 2 = q) (K : Wp p e below Z a0 dm fp R s Post T (mkF m q Ls (.int v :: st))) : Wp p e below Z a0 dm fp R s Post T (mkF m pc Ls st) := by
  subst hq
  exact Wp.go (fun t kt => XS.iload A.hr A.hx rfl (A.hb hd) hl kt) K
theorem Here.istoreN {j : Fin 4} {v : Int32} {l' : Array Slot} {q : Nat} (A : Here p l e R s m args below meth c Z a0 y bytes ml ret dm fp T k n os) (hd : decode bytes pc = .ok (.istore_n j, 1)) (hl : storeLocals Ls j.val (.int v) = some l') (hq : pc + 1 = q) (K : Wp p e below Z a0 dm fp R s Post T (mkF m q l' rest)) : Wp p e below Z a0 dm fp R s Post T (mkF m pc Ls (.int v :: rest)) := by
  subst hq
  exact Wp.go (fun t kt => XS.istoreN A.hr A.hx rfl (A.hb hd) rfl hl kt) K
theorem Here.istore {j : Nat} {v : Int32} {l' : Array Slot} {q : Nat} (A : Here p l e R s m args below meth c Z a0 y bytes ml ret dm fp T k n os) (hd : decode bytes pc = .ok (.istore j, 2)) (hl : storeLocals Ls j (.int v) = some l') (hq : pc + 2 = q) (K : Wp p e below Z a0 dm fp R s Post T (mkF m q l' rest)) : Wp p e below Z a0 dm fp R s Post T (mkF m pc Ls (.int v :: rest)) := by
  subst hq
  exact Wp.go (fun t kt => XS.istore A.hr A.hx rfl (A.hb hd) rfl hl kt) K
theorem Here.lloadN {j : Fin 4} {v : Int64} {q : Nat} (A : Here p l e R s m args below meth c Z a0 y bytes ml ret dm fp T k n os) (hd : decode bytes pc = .ok (.lload_n j, 1)) (hl : Ls[j.val]? = some (.val (.long v))) (hq : pc + 1 = q) (K : Wp p e below Z a0 dm fp R s Post T (mkF m q Ls (.long v :: st))) : Wp p e below Z a0 dm fp R s Post T (mkF m pc Ls st) := by
  subst hq
  exact Wp.go (fun t kt => XS.lloadN A.hr A.hx rfl (A.hb hd) hl kt) K
theorem Here.lload {j : Nat} {v : Int64} {q : Nat} (A : Here p l e R s m args below meth c Z a0 y bytes ml ret dm fp T k n os) (hd : decode bytes pc = .ok (.lload j, 2)) (hl : Ls[j]? = some (.val (.long v))) (hq : pc + 2 = q) (K : Wp p e below Z a0 dm fp R s Post T (mkF m q Ls (.long v :: st))) : Wp p e below Z a0 dm fp R s Post T (mkF m pc Ls st) := by
  subst hq
  exact Wp.go (fun t kt => XS.lload A.hr A.hx rfl (A.hb hd) hl kt) K
theorem Here.lstoreN {j : Fin 4} {v : Int64} {l' : Array Slot} {q : Nat} (A : Here p l e R s m args below meth c Z a0 y bytes ml ret dm fp T k n os) (hd : decode bytes pc = .ok (.lstore_n j, 1)) (hl : storeLocals Ls j.val (.long v) = some l') (hq : pc + 1 = q) (K : Wp p e below Z a0 dm fp R s Post T (mkF m q l' rest)) : Wp p e below Z a0 dm fp R s Post T (mkF m pc Ls (.long v :: rest)) := by
  subst hq
  exact Wp.go (fun t kt => XS.lstoreN A.hr A.hx rfl (A.hb hd) rfl hl kt) K
theorem Here.lstore {j : Nat} {v : Int64} {l' : Array Slot} {q : Nat} (A : Here p l e R s m args below meth c Z a0 y bytes ml ret dm fp T k n os) (hd : decode bytes pc = .ok (.lstore j, 2)) (hl : storeLocals Ls j (.long v) = some l') (hq : pc + 2 = q) (K : Wp p e below Z a0 dm fp R s Post T (mkF m q l' rest)) : Wp p e below Z a0 dm fp R s Post T (mkF m pc Ls (.long v :: rest)) := by
  subst hq
  exact Wp.go (fun t kt => XS.lstore A.hr A.hx rfl (A.hb hd) rfl hl kt) K
theorem Here.aloadN {j : Fin 4} {v : Value} {q : Nat} (A : Here p l e R s m args below meth c Z a0 y bytes ml ret dm fp T k n os) (hd : decode bytes pc = .ok (.aload_n j, 1)) (hl : Ls[j.val]? = some (.val v)) (hv : v.isRef = true) (hq : pc + 1 = q) (K : Wp p e below Z a0 dm fp R s Post T (mkF m q Ls (v :: st))) : Wp p e below Z a0 dm fp R s Post T (mkF m pc Ls st) := by
  subst hq
  exact Wp.go (fun t kt => XS.aloadN A.hr A.hx rfl (A.hb hd) hl hv kt) K
theorem Here.aload {j : Nat} {v : Value} {q : Nat} (A : Here p l e R s m args below meth c Z a0 y bytes ml ret dm fp T k n os) (hd : decode bytes pc = .ok (.aload j, 2)) (hl : Ls[j]? = some (.val v)) (hv : v.isRef = true) (hq : pc + 2 = q) (K : Wp p e below Z a0 dm fp R s Post T (mkF m q Ls (v :: st))) : Wp p e below Z a0 dm fp R s Post T (mkF m pc Ls st) := by
  subst hq
  exact Wp.go (fun t kt => XS.aload A.hr A.hx rfl (A.hb hd) hl hv kt) K
theorem Here.astoreN {j : Fin 4} {v : Value} {l' : Array Slot} {q : Nat} (A : Here p l e R s m args below meth c Z a0 y bytes ml ret dm fp T k n os) (hd : decode bytes pc = .ok (.astore_n j, 1)) (hv : v.isRef = true) (hl : storeLocals Ls j.val v = some l') (hq : pc + 1 = q) (K : Wp p e below Z a0 dm fp R s Post T (mkF m q l' rest)) : Wp p e below Z a0 dm fp R s Post T (mkF m pc Ls (v :: rest)) := by
  subst hq
  exact Wp.go (fun t kt => XS.astoreN A.hr A.hx rfl (A.hb hd) rfl hv hl kt) K
theorem Here.astore {j : Nat} {v : Value} {l' : Array Slot} {q : Nat} (A : Here p l e R s m args below meth c Z a0 y bytes ml ret dm fp T k n os) (hd : decode bytes pc = .ok (.astore j, 2)) (hv : v.isRef = true) (hl : storeLocals Ls j v = some l') (hq : pc + 2 = q) (K : Wp p e below Z a0 dm fp R s Post T (mkF m q l' rest)) : Wp p e below Z a0 dm fp R s Post T (mkF m pc Ls (v :: rest)) := by
  subst hq
  exact Wp.go (fun t kt => XS.astore A.hr A.hx rfl (A.hb hd) rfl hv hl kt) K
theorem Here.iconst {i : Int} {v : Int32} {q : Nat} (A : Here p l e R s m args below meth c Z a0 y bytes ml ret dm fp T k n os) (hd : decode bytes pc = .ok (.iconst i, 1)) (hv : Int32.ofInt i = v) (hq : pc + 1 = q) (K : Wp p e below Z a0 dm fp R s Post T (mkF m q Ls (.int v :: st))) : Wp p e below Z a0 dm fp R s Post T (mkF m pc Ls st) := by
  subst hq hv
  exact Wp.go (fun t kt => XS.iconst A.hr A.hx rfl (A.hb hd) kt) K
theorem Here.bipush {i : Int} {v : Int32} {q : Nat} (A : Here p l e R s m args below meth c Z a0 y bytes ml ret dm fp T k n os) (hd : decode bytes pc = .ok (.bipush i, 2)) (hv : (Int8.ofInt i).toInt32 = v) (hq : pc + 2 = q) (K : Wp p e below Z a0 dm fp R s Post T (mkF m q Ls (.int v :: st))) : Wp p e below Z a0 dm fp R s Post T (mkF m pc Ls st) := by
  subst hq hv
  exact Wp.go (fun t kt => XS.bipush A.hr A.hx rfl (A.hb hd) kt) K
theorem Here.sipush {i : Int} {v : Int32} {q : Nat} (A : Here p l e R s m args below meth c Z a0 y bytes ml ret dm fp T k n os) (hd : decode bytes pc = .ok (.sipush i, 3)) (hv : (Int16.ofInt i).toInt32 = v) (hq : pc + 3 = q) (K : Wp p e below Z a0 dm fp R s Post T (mkF m q Ls (.int v :: st))) : Wp p e below Z a0 dm fp R s Post T (mkF m pc Ls st) := by
  subst hq hv
  exact Wp.go (fun t kt => XS.sipush A.hr A.hx rfl (A.hb hd) kt) K
theorem Here.lconst {i : Fin 2} {v : Int64} {q : Nat} (A : Here p l e R s m args below meth c Z a0 y bytes ml ret dm fp T k n os) (hd : decode bytes pc = .ok (.lconst i, 1)) (hv : Int64.ofNat i.val = v) (hq : pc + 1 = q) (K : Wp p e below Z a0 dm fp R s Post T (mkF m q Ls (.long v :: st))) : Wp p e below Z a0 dm fp R s Post T (mkF m pc Ls st) := by
  subst hq hv
  exact Wp.go (fun t kt => XS.lconst A.hr A.hx rfl (A.hb hd) kt) K
theorem Here.aconstNull  {q : Nat} (A : Here p l e R s m args below meth c Z a0 y bytes ml ret dm fp T k n os) (hd : decode bytes pc = .ok (.aconst_null, 1)) (hq : pc + 1 = q) (K : Wp p e below Z a0 dm fp R s Post T (mkF m q Ls (.null :: st))) : Wp p e below Z a0 dm fp R s Post T (mkF m pc Ls st) := by
  subst hq
  exact Wp.go (fun t kt => XS.aconstNull A.hr A.hx rfl (A.hb hd)  kt) K
theorem Here.iadd {x z : Int32} {q : Nat} (A : Here p l e R s m args below meth c Z a0 y bytes ml ret dm fp T k n os) (hd : decode bytes pc = .ok (.iadd, 1)) (hq : pc + 1 = q) (K : Wp p e below Z a0 dm fp R s Post T (mkF m q Ls (.int (x + z) :: rest))) : Wp p e below Z a0 dm fp R s Post T (mkF m pc Ls (.int z :: .int x :: rest)) := by
  subst hq
  exact Wp.go (fun t kt => XS.iadd A.hr A.hx rfl (A.hb hd) rfl kt) K
theorem Here.ladd {x z : Int64} {q : Nat} (A : Here p l e R s m args below meth c Z a0 y bytes ml ret dm fp T k n os) (hd : decode bytes pc = .ok (.ladd, 1)) (hq : pc + 1 = q) (K : Wp p e below Z a0 dm fp R s Post T (mkF m q Ls (.long (x + z) :: rest))) : Wp p e below Z a0 dm fp R s Post T (mkF m pc Ls (.long z :: .long x :: rest)) := by
  subst hq
  exact Wp.go (fun t kt => XS.ladd A.hr A.hx rfl (A.hb hd) rfl kt) K
theorem Here.isub {x z : Int32} {q : Nat} (A : Here p l e R s m args below meth c Z a0 y bytes ml ret dm fp T k n os) (hd : decode bytes pc = .ok (.isub, 1)) (hq : pc + 1 = q) (K : Wp p e below Z a0 dm fp R s Post T (mkF m q Ls (.int (x - z) :: rest))) : Wp p e below Z a0 dm fp R s Post T (mkF m pc Ls (.int z :: .int x :: rest)) := by
  subst hq
  exact Wp.go (fun t kt => XS.isub A.hr A.hx rfl (A.hb hd) rfl kt) K
theorem Here.lsub {x z : Int64} {q : Nat} (A : Here p l e R s m args below meth c Z a0 y bytes ml ret dm fp T k n os) (hd : decode bytes pc = .ok (.lsub, 1)) (hq : pc + 1 = q) (K : Wp p e below Z a0 dm fp R s Post T (mkF m q Ls (.long (x - z) :: rest))) : Wp p e below Z a0 dm fp R s Post T (mkF m pc Ls (.long z :: .long x :: rest)) := by
  subst hq
  exact Wp.go (fun t kt => XS.lsub A.hr A.hx rfl (A.hb hd) rfl kt) K
theorem Here.imul {x z : Int32} {q : Nat} (A : Here p l e R s m args below meth c Z a0 y bytes ml ret dm fp T k n os) (hd : decode bytes pc = .ok (.imul, 1)) (hq : pc + 1 = q) (K : Wp p e below Z a0 dm fp R s Post T (mkF m q Ls (.int (x * z) :: rest))) : Wp p e below Z a0 dm fp R s Post T (mkF m pc Ls (.int z :: .int x :: rest)) := by
  subst hq
  exact Wp.go (fun t kt => XS.imul A.hr A.hx rfl (A.hb hd) rfl kt) K
theorem Here.lmul {x z : Int64} {q : Nat} (A : Here p l e R s m args below meth c Z a0 y bytes ml ret dm fp T k n os) (hd : decode bytes pc = .ok (.lmul, 1)) (hq : pc + 1 = q) (K : Wp p e below Z a0 dm fp R s Post T (mkF m q Ls (.long (x * z) :: rest))) : Wp p e below Z a0 dm fp R s Post T (mkF m pc Ls (.long z :: .long x :: rest)) := by
  subst hq
  exact Wp.go (fun t kt => XS.lmul A.hr A.hx rfl (A.hb hd) rfl kt) K
theorem Here.iand {x z : Int32} {q : Nat} (A : Here p l e R s m args below meth c Z a0 y bytes ml ret dm fp T k n os) (hd : decode bytes pc = .ok (.iand, 1)) (hq : pc + 1 = q) (K : Wp p e below Z a0 dm fp R s Post T (mkF m q Ls (.int (x &&& z) :: rest))) : Wp p e below Z a0 dm fp R s Post T (mkF m pc Ls (.int z :: .int x :: rest)) := by
  subst hq
  exact Wp.go (fun t kt => XS.iand A.hr A.hx rfl (A.hb hd) rfl kt) K
theorem Here.land {x z : Int64} {q : Nat} (A : Here p l e R s m args below meth c Z a0 y bytes ml ret dm fp T k n os) (hd : decode bytes pc = .ok (.land, 1)) (hq : pc + 1 = q) (K : Wp p e below Z a0 dm fp R s Post T (mkF m q Ls (.long (x &&& z) :: rest))) : Wp p e below Z a0 dm fp R s Post T (mkF m pc Ls (.long z :: .long x :: rest)) := by
  subst hq
  exact Wp.go (fun t kt => XS.land A.hr A.hx rfl (A.hb hd) rfl kt) K
theorem Here.ior {x z : Int32} {q : Nat} (A : Here p l e R s m args below meth c Z a0 y bytes ml ret dm fp T k n os) (hd : decode bytes pc = .ok (.ior, 1)) (hq : pc + 1 = q) (K : Wp p e below Z a0 dm fp R s Post T (mkF m q Ls (.int (x ||| z) :: rest))) : Wp p e below Z a0 dm fp R s Post T (mkF m pc Ls (.int z :: .int x :: rest)) := by
  subst hq
  exact Wp.go (fun t kt => XS.ior A.hr A.hx rfl (A.hb hd) rfl kt) K
theorem Here.lor {x z : Int64} {q : Nat} (A : Here p l e R s m args below meth c Z a0 y bytes ml ret dm fp T k n os) (hd : decode bytes pc = .ok (.lor, 1)) (hq : pc + 1 = q) (K : Wp p e below Z a0 dm fp R s Post T (mkF m q Ls (.long (x ||| z) :: rest))) : Wp p e below Z a0 dm fp R s Post T (mkF m pc Ls (.long z :: .long x :: rest)) := by
  subst hq
  exact Wp.go (fun t kt => XS.lor A.hr A.hx rfl (A.hb hd) rfl kt) K
theorem Here.ixor {x z : Int32} {q : Nat} (A : Here p l e R s m args below meth c Z a0 y bytes ml ret dm fp T k n os) (hd : decode bytes pc = .ok (.ixor, 1)) (hq : pc + 1 = q) (K : Wp p e below Z a0 dm fp R s Post T (mkF m q Ls (.int (x ^^^ z) :: rest))) : Wp p e below Z a0 dm fp R s Post T (mkF m pc Ls (.int z :: .int x :: rest)) := by
  subst hq
  exact Wp.go (fun t kt => XS.ixor A.hr A.hx rfl (A.hb hd) rfl kt) K
theorem Here.lxor {x z : Int64} {q : Nat} (A : Here p l e R s m args below meth c Z a0 y bytes ml ret dm fp T k n os) (hd : decode bytes pc = .ok (.lxor, 1)) (hq : pc + 1 = q) (K : Wp p e below Z a0 dm fp R s Post T (mkF m q Ls (.long (x ^^^ z) :: rest))) : Wp p e below Z a0 dm fp R s Post T (mkF m pc Ls (.long z :: .long x :: rest)) := by
  subst hq
  exact Wp.go (fun t kt => XS.lxor A.hr A.hx rfl (A.hb hd) rfl kt) K
theorem Here.idiv {x z : Int32} {q : Nat} (A : Here p l e R s m args below meth c Z a0 y bytes ml ret dm fp T k n os) (hd : decode bytes pc = .ok (.idiv, 1)) (hz : z ≠ 0) (hq : pc + 1 = q) (K : Wp p e below Z a0 dm fp R s Post T (mkF m q Ls (.int (x / z) :: rest))) : Wp p e below Z a0 dm fp R s Post T (mkF m pc Ls (.int z :: .int x :: rest)) := by
  subst hq
  exact Wp.go (fun t kt => XS.idiv A.hr A.hx rfl (A.hb hd) rfl hz kt) K
theorem Here.ineg {x : Int32} {q : Nat} (A : Here p l e R s m args below meth c Z a0 y bytes ml ret dm fp T k n os) (hd : decode bytes pc = .ok (.ineg, 1)) (hq : pc + 1 = q) (K : Wp p e below Z a0 dm fp R s Post T (mkF m q Ls (.int (-x) :: rest))) : Wp p e below Z a0 dm fp R s Post T (mkF m pc Ls (.int x :: rest)) := by
  subst hq
  exact Wp.go (fun t kt => XS.ineg A.hr A.hx rfl (A.hb hd) rfl kt) K
theorem Here.ldiv {x z : Int64} {q : Nat} (A : Here p l e R s m args below meth c Z a0 y bytes ml ret dm fp T k n os) (hd : decode bytes pc = .ok (.ldiv, 1)) (hz : z ≠ 0) (hq : pc + 1 = q) (K : Wp p e below Z a0 dm fp R s Post T (mkF m q Ls (.long (x / z) :: rest))) : Wp p e below Z a0 dm fp R s Post T (mkF m pc Ls (.long z :: .long x :: rest)) := by
  subst hq
  exact Wp.go (fun t kt => XS.ldiv A.hr A.hx rfl (A.hb hd) rfl hz kt) K
theorem Here.lneg {x : Int64} {q : Nat} (A : Here p l e R s m args below meth c Z a0 y bytes ml ret dm fp T k n os) (hd : decode bytes pc = .ok (.lneg, 1)) (hq : pc + 1 = q) (K : Wp p e below Z a0 dm fp R s Post T (mkF m q Ls (.long (-x) :: rest))) : Wp p e below Z a0 dm fp R s Post T (mkF m pc Ls (.long x :: rest)) := by
  subst hq
  exact Wp.go (fun t kt => XS.lneg A.hr A.hx rfl (A.hb hd) rfl kt) K
theorem Here.i2l {x : Int32} {q : Nat} (A : Here p l e R s m args below meth c Z a0 y bytes ml ret dm fp T k n os) (hd : decode bytes pc = .ok (.i2l, 1)) (hq : pc + 1 = q) (K : Wp p e below Z a0 dm fp R s Post T (mkF m q Ls (.long (x.toInt64) :: rest))) : Wp p e below Z a0 dm fp R s Post T (mkF m pc Ls (.int x :: rest)) := by
  subst hq
  exact Wp.go (fun t kt => XS.i2l A.hr A.hx rfl (A.hb hd) rfl kt) K
theorem Here.l2i {x : Int64} {q : Nat} (A : Here p l e R s m args below meth c Z a0 y bytes ml ret dm fp T k n os) (hd : decode bytes pc = .ok (.l2i, 1)) (hq : pc + 1 = q) (K : Wp p e below Z a0 dm fp R s Post T (mkF m q Ls (.int (x.toInt32) :: rest))) : Wp p e below Z a0 dm fp R s Post T (mkF m pc Ls (.long x :: rest)) := by
  subst hq
  exact Wp.go (fun t kt => XS.l2i A.hr A.hx rfl (A.hb hd) rfl kt) K
theorem Here.i2b {x : Int32} {q : Nat} (A : Here p l e R s m args below meth c Z a0 y bytes ml ret dm fp T k n os) (hd : decode bytes pc = .ok (.i2b, 1)) (hq : pc + 1 = q) (K : Wp p e below Z a0 dm fp R s Post T (mkF m q Ls (.int (x.toInt8.toInt32) :: rest))) : Wp p e below Z a0 dm fp R s Post T (mkF m pc Ls (.int x :: rest)) := by
  subst hq
  exact Wp.go (fun t kt => XS.i2b A.hr A.hx rfl (A.hb hd) rfl kt) K
theorem Here.i2s {x : Int32} {q : Nat} (A : Here p l e R s m args below meth c Z a0 y bytes ml ret dm fp T k n os) (hd : decode bytes pc = .ok (.i2s, 1)) (hq : pc + 1 = q) (K : Wp p e below Z a0 dm fp R s Post T (mkF m q Ls (.int (x.toInt16.toInt32) :: rest))) : Wp p e below Z a0 dm fp R s Post T (mkF m pc Ls (.int x :: rest)) := by
  subst hq
  exact Wp.go (fun t kt => XS.i2s A.hr A.hx rfl (A.hb hd) rfl kt) K
theorem Here.i2c {x : Int32} {q : Nat} (A : Here p l e R s m args below meth c Z a0 y bytes ml ret dm fp T k n os) (hd : decode bytes pc = .ok (.i2c, 1)) (hq : pc + 1 = q) (K : Wp p e below Z a0 dm fp R s Post T (mkF m q Ls (.int (x.toUInt32.toUInt16.toUInt32.toInt32) :: rest))) : Wp p e below Z a0 dm fp R s Post T (mkF m pc Ls (.int x :: rest)) := by
  subst hq
  exact Wp.go (fun t kt => XS.i2c A.hr A.hx rfl (A.hb hd) rfl kt) K
theorem Here.ishl {x : Int32} {z : Int32} {q : Nat} (A : Here p l e R s m args below meth c Z a0 y bytes ml ret dm fp T k n os) (hd : decode bytes pc = .ok (.ishl, 1)) (hq : pc + 1 = q) (K : Wp p e below Z a0 dm fp R s Post T (mkF m q Ls (.int (x <<< (z &&& 31)) :: rest))) : Wp p e below Z a0 dm fp R s Post T (mkF m pc Ls (.int z :: .int x :: rest)) := by
  subst hq
  exact Wp.go (fun t kt => XS.ishl A.hr A.hx rfl (A.hb hd) rfl kt) K
theorem Here.ishr {x : Int32} {z : Int32} {q : Nat} (A : Here p l e R s m args below meth c Z a0 y bytes ml ret dm fp T k n os) (hd : decode bytes pc = .ok (.ishr, 1)) (hq : pc + 1 = q) (K : Wp p e below Z a0 dm fp R s Post T (mkF m q Ls (.int (x >>> (z &&& 31)) :: rest))) : Wp p e below Z a0 dm fp R s Post T (mkF m pc Ls (.int z :: .int x :: rest)) := by
  subst hq
  exact Wp.go (fun t kt => XS.ishr A.hr A.hx rfl (A.hb hd) rfl kt) K
theorem Here.iushr {x : Int32} {z : Int32} {q : Nat} (A : Here p l e R s m args below meth c Z a0 y bytes ml ret dm fp T k n os) (hd : decode bytes pc = .ok (.iushr, 1)) (hq : pc + 1 = q) (K : Wp p e below Z a0 dm fp R s Post T (mkF m q Ls (.int ((x.toUInt32 >>> (z &&& 31).toUInt32).toInt32) :: rest))) : Wp p e below Z a0 dm fp R s Post T (mkF m pc Ls (.int z :: .int x :: rest)) := by
  subst hq
  exact Wp.go (fun t kt => XS.iushr A.hr A.hx rfl (A.hb hd) rfl kt) K
theorem Here.lshl {x : Int64} {z : Int32} {q : Nat} (A : Here p l e R s m args below meth c Z a0 y bytes ml ret dm fp T k n os) (hd : decode bytes pc = .ok (.lshl, 1)) (hq : pc + 1 = q) (K : Wp p e below Z a0 dm fp R s Post T (mkF m q Ls (.long (x <<< (z &&& 0x3f).toInt64) :: rest))) : Wp p e below Z a0 dm fp R s Post T (mkF m pc Ls (.int z :: .long x :: rest)) := by
  subst hq
  exact Wp.go (fun t kt => XS.lshl A.hr A.hx rfl (A.hb hd) rfl kt) K
theorem Here.lshr {x : Int64} {z : Int32} {q : Nat} (A : Here p l e R s m args below meth c Z a0 y bytes ml ret dm fp T k n os) (hd : decode bytes pc = .ok (.lshr, 1)) (hq : pc + 1 = q) (K : Wp p e below Z a0 dm fp R s Post T (mkF m q Ls (.long (x >>> (z &&& 0x3f).toInt64) :: rest))) : Wp p e below Z a0 dm fp R s Post T (mkF m pc Ls (.int z :: .long x :: rest)) := by
  subst hq
  exact Wp.go (fun t kt => XS.lshr A.hr A.hx rfl (A.hb hd) rfl kt) K
theorem Here.lushr {x : Int64} {z : Int32} {q : Nat} (A : Here p l e R s m args below meth c Z a0 y bytes ml ret dm fp T k n os) (hd : decode bytes pc = .ok (.lushr, 1)) (hq : pc + 1 = q) (K : Wp p e below Z a0 dm fp R s Post T (mkF m q Ls (.long ((x.toUInt64 >>> (z &&& 0x3f).toInt64.toUInt64).toInt64) :: rest))) : Wp p e below Z a0 dm fp R s Post T (mkF m pc Ls (.int z :: .long x :: rest)) := by
  subst hq
  exact Wp.go (fun t kt => XS.lushr A.hr A.hx rfl (A.hb hd) rfl kt) K
theorem Here.lcmp {x z : Int64} {q : Nat} (A : Here p l e R s m args below meth c Z a0 y bytes ml ret dm fp T k n os) (hd : decode bytes pc = .ok (.lcmp, 1)) (hq : pc + 1 = q) (K : Wp p e below Z a0 dm fp R s Post T (mkF m q Ls (.int (lcmpW x z) :: rest))) : Wp p e below Z a0 dm fp R s Post T (mkF m pc Ls (.long z :: .long x :: rest)) := by
  subst hq
  exact Wp.go (fun t kt => XS.lcmp A.hr A.hx rfl (A.hb hd) rfl kt) K
theorem Here.iinc {j : Nat} {i : Int} {x : Int32} {l' : Array Slot} {q : Nat} (A : Here p l e R s m args below meth c Z a0 y bytes ml ret dm fp T k n os) (hd : decode bytes pc = .ok (.iinc j i, 3)) (hl : Ls[j]? = some (.val (.int x))) (hl' : storeLocals Ls j (.int (x + Int32.ofInt i)) = some l') (hq : pc + 3 = q) (K : Wp p e below Z a0 dm fp R s Post T (mkF m q l' st)) : Wp p e below Z a0 dm fp R s Post T (mkF m pc Ls st) := by
  subst hq
  exact Wp.go (fun t kt => XS.iinc A.hr A.hx rfl (A.hb hd) hl hl' kt) K
theorem Here.dup {v : Value} {q : Nat} (A : Here p l e R s m args below meth c Z a0 y bytes ml ret dm fp T k n os) (hd : decode bytes pc = .ok (.dup, 1)) (hv : v.category = 1) (hq : pc + 1 = q) (K : Wp p e below Z a0 dm fp R s Post T (mkF m q Ls (v :: v :: rest))) : Wp p e below Z a0 dm fp R s Post T (mkF m pc Ls (v :: rest)) := by
  subst hq
  exact Wp.go (fun t kt => XS.dup A.hr A.hx rfl (A.hb hd) rfl hv kt) K
theorem Here.pop {v : Value} {q : Nat} (A : Here p l e R s m args below meth c Z a0 y bytes ml ret dm fp T k n os) (hd : decode bytes pc = .ok (.pop, 1)) (hv : v.category = 1) (hq : pc + 1 = q) (K : Wp p e below Z a0 dm fp R s Post T (mkF m q Ls rest)) : Wp p e below Z a0 dm fp R s Post T (mkF m pc Ls (v :: rest)) := by
  subst hq
  exact Wp.go (fun t kt => XS.pop A.hr A.hx rfl (A.hb hd) rfl hv kt) K
theorem Here.dup_x1 {v w : Value} {q : Nat} (A : Here p l e R s m args below meth c Z a0 y bytes ml ret dm fp T k n os) (hd : decode bytes pc = .ok (.dup_x1, 1)) (hv : v.category = 1) (hw : w.category = 1) (hq : pc + 1 = q) (K : Wp p e below Z a0 dm fp R s Post T (mkF m q Ls (v :: w :: v :: rest))) : Wp p e below Z a0 dm fp R s Post T (mkF m pc Ls (v :: w :: rest)) := by
  subst hq
  exact Wp.go (fun t kt => XS.dupX1 A.hr A.hx rfl (A.hb hd) rfl hv hw kt) K
theorem Here.dup2 {v w : Value} {q : Nat} (A : Here p l e R s m args below meth c Z a0 y bytes ml ret dm fp T k n os) (hd : decode bytes pc = .ok (.dup2, 1)) (hv : v.category = 1) (hw : w.category = 1) (hq : pc + 1 = q) (K : Wp p e below Z a0 dm fp R s Post T (mkF m q Ls (v :: w :: v :: w :: rest))) : Wp p e below Z a0 dm fp R s Post T (mkF m pc Ls (v :: w :: rest)) := by
  subst hq
  exact Wp.go (fun t kt => Jvm.Free.XT.dup2 A.hr A.hx rfl (A.hb hd) rfl hv hw kt) K
theorem Here.dup2L {x : Int64} {q : Nat} (A : Here p l e R s m args below meth c Z a0 y bytes ml ret dm fp T k n os) (hd : decode bytes pc = .ok (.dup2, 1)) (hq : pc + 1 = q) (K : Wp p e below Z a0 dm fp R s Post T (mkF m q Ls (.long x :: .long x :: rest))) : Wp p e below Z a0 dm fp R s Post T (mkF m pc Ls (.long x :: rest)) := by
  subst hq
  exact Wp.go (fun t kt => Jvm.Free.XT.dup2L A.hr A.hx rfl (A.hb hd) rfl kt) K
theorem Here.goto {o : Int} {q : Nat} (A : Here p l e R s m args below meth c Z a0 y bytes ml ret dm fp T k n os) (hd : decode bytes pc = .ok (.goto o, 3)) (ho : 0 ≤ (pc : Int) + o) (hq : ((pc : Int) + o).toNat = q) (K : Wp p e below Z a0 dm fp R s Post T (mkF m q Ls st)) : Wp p e below Z a0 dm fp R s Post T (mkF m pc Ls st) :=
  Wp.go (fun t kt => XS.goto A.hr A.hx rfl (pc0 := pc) (pc' := q) rfl (A.hb hd) ho hq kt) K
theorem Here.ifYes {cd : ClassFile.Cond} {o : Int} {x : Int32} {q : Nat} (A : Here p l e R s m args below meth c Z a0 y bytes ml ret dm fp T k n os) (hd : decode bytes pc = .ok (.ifCond cd o, 3)) (hc : ifCond.holds cd x = true) (ho : 0 ≤ (pc : Int) + o) (hq : ((pc : Int) + o).toNat = q) (K : Wp p e below Z a0 dm fp R s Post T (mkF m q Ls rest)) : Wp p e below Z a0 dm fp R s Post T (mkF m pc Ls (.int x :: rest)) :=
  Wp.go (fun t kt => XS.ifYes A.hr A.hx rfl (pc0 := pc) (pc' := q) rfl (A.hb hd) rfl hc ho hq kt) K
theorem Here.ifNo {cd : ClassFile.Cond} {o : Int} {x : Int32} {q : Nat} (A : Here p l e R s m args below meth c Z a0 y bytes ml ret dm fp T k n os) (hd : decode bytes pc = .ok (.ifCond cd o, 3)) (hc : ifCond.holds cd x = false) (hq : pc + 3 = q) (K : Wp p e below Z a0 dm fp R s Post T (mkF m q Ls rest)) : Wp p e below Z a0 dm fp R s Post T (mkF m pc Ls (.int x :: rest)) := by
  subst hq
  exact Wp.go (fun t kt => XS.ifNo A.hr A.hx rfl (A.hb hd) rfl hc kt) K
theorem Here.icmpYes {cd : ClassFile.Cond} {o : Int} {x z : Int32} {q : Nat} (A : Here p l e R s m args below meth c Z a0 y bytes ml ret dm fp T k n os) (hd : decode bytes pc = .ok (.if_icmp cd o, 3)) (hc : if_icmp.holds cd x z = true) (ho : 0 ≤ (pc : Int) + o) (hq : ((pc : Int) + o).toNat = q) (K : Wp p e below Z a0 dm fp R s Post T (mkF m q Ls rest)) : Wp p e below Z a0 dm fp R s Post T (mkF m pc Ls (.int z :: .int x :: rest)) :=
  Wp.go (fun t kt => XS.icmpYes A.hr A.hx rfl (pc0 := pc) (pc' := q) rfl (A.hb hd) rfl hc ho hq kt) K
theorem Here.icmpNo {cd : ClassFile.Cond} {o : Int} {x z : Int32} {q : Nat} (A : Here p l e R s m args below meth c Z a0 y bytes ml ret dm fp T k n os) (hd : decode bytes pc = .ok (.if_icmp cd o, 3)) (hc : if_icmp.holds cd x z = false) (hq : pc + 3 = q) (K : Wp p e below Z a0 dm fp R s Post T (mkF m q Ls rest)) : Wp p e below Z a0 dm fp R s Post T (mkF m pc Ls (.int z :: .int x :: rest)) := by
  subst hq
  exact Wp.go (fun t kt => XS.icmpNo A.hr A.hx rfl (A.hb hd) rfl hc kt) K
theorem Wp.top {v v' : Value} (h : v = v') (K : Wp p e below Z a0 dm fp R s Post T (mkF m pc Ls (v' :: st))) : Wp p e below Z a0 dm fp R s Post T (mkF m pc Ls (v :: st)) := by
  subst h
  exact K
/-! reads and writes -/
theorem Here.getF {O f d R0 : String} {idx i j : Nat} {a : Addr} {C : String} {fs : List Fd} {v : Value} (A : Here p l e R s m args below meth c Z a0 y bytes ml ret dm fp T k n os) (w : (Jvm.Cond.fieldLink y.cls idx R0 f d).before a0 Z = true) (via : Via Z R0 O f d) (hd : decode bytes pc = .ok (.getfield idx, 3)) (ho : os[i]? = some (a, .inl (C, fs))) (hj : fs[j]? = some (O, f, d, v)) {qn : Nat} (hq : pc + 3 = qn)
    (K : ∀ T', Here p l e R s m args below meth c Z a0 y bytes ml ret dm fp T' k n os → Wp p e below Z a0 dm fp R s Post T' (mkF m qn Ls (v :: rest))) : Wp p e below Z a0 dm fp R s Post T (mkF m pc Ls (.ref a :: rest)) := by
  subst hq
  have A' := A
  obtain ⟨locs, X, N, H, hx, hZ, hb, hml, hown, q⟩ := A
  obtain ⟨T1, X1, e1, st1⟩ := RoadKit.getF X hx hZ hown (host := "") (Or.inl w) via rfl (H.fld ho hj) (g := mkF m pc Ls (.ref a :: rest)) rfl rfl (A'.hb hd)
  exact Wp.go st1 (K T1 ⟨locs, X1, N, by rw [e1]; exact H, hx, hZ, hb, hml, hown, q⟩)
theorem Here.putF {O f d R0 : String} {idx i j kk : Nat} {a : Addr} {C : String} {fs : List Fd} {v old : Value} {ty : FieldType} (A : Here p l e R s m args below meth c Z a0 y bytes ml ret dm fp T k n os) (w : (Jvm.Cond.fieldLink y.cls idx R0 f d).before a0 Z = true) (via : Via Z R0 O f d)
    (hL : (Jvm.Cond.lays C O f d).before a0 Z = true ∨ ((Jvm.Cond.laysFinal C O f d).before a0 Z = true ∧ y.cls = O ∧ y.name = "<init>")) (wi : (Jvm.Cond.instantiable C kk).before a0 Z = true) (hty : parseFieldDescriptor d = some ty) (hnw : narrow ty v = v) (hf : fits ty v = true)
    (hd : decode bytes pc = .ok (.putfield idx, 3)) (ho : os[i]? = some (a, .inl (C, fs))) (hj : fs[j]? = some (O, f, d, old)) (hdf : dm = fp) {qn : Nat} (hq : pc + 3 = qn)
    (K : ∀ T', Here p l e R s m args below meth c Z a0 y bytes ml ret dm fp T' k n (os.set i (a, .inl (C, fs.set j (O, f, d, v)))) → Wp p e below Z a0 dm fp R s Post T' (mkF m qn Ls rest)) : Wp p e below Z a0 dm fp R s Post T (mkF m pc Ls (v :: .ref a :: rest)) := by
  subst hq
  have A' := A
  obtain ⟨locs, X, N, H, hx, hZ, hb, hml, hown, hnm, q⟩ := A
  have hD : Dm fp s.heap.size a := hdf ▸ H.2.1 _ (List.mem_of_getElem? ho)
  obtain ⟨T1, h1, X1, e1, W1, st1⟩ := RoadKit.putF X hx hZ hown (host := "") (Or.inl w) via rfl (H.fld ho hj) (H.exa ho) (hL.imp id fun z => ⟨z.1, z.2.1, hnm.trans z.2.2⟩) wi hty hnw hf (g := mkF m pc Ls (v :: .ref a :: rest)) rfl rfl (A'.hb hd)
  refine Wp.go st1 (K T1 ⟨_, X1, fun q hq => ?_, by rw [e1]; exact H.putf hD ho hj W1, hx, hZ, hb, hml, hown, hnm, q⟩)
  rcases List.mem_append.mp hq with hq | hq
  · exact N q hq
  · cases List.mem_singleton.mp hq; exact hD
theorem Here.putFN {O f d R0 : String} {idx i j kk : Nat} {a : Addr} {C : String} {fs : List Fd} {v v' old : Value} {ty : FieldType} (A : Here p l e R s m args below meth c Z a0 y bytes ml ret dm fp T k n os) (w : (Jvm.Cond.fieldLink y.cls idx R0 f d).before a0 Z = true) (via : Via Z R0 O f d)
    (hL : (Jvm.Cond.lays C O f d).before a0 Z = true ∨ ((Jvm.Cond.laysFinal C O f d).before a0 Z = true ∧ y.cls = O ∧ y.name = "<init>")) (wi : (Jvm.Cond.instantiable C kk).before a0 Z = true) (hty : parseFieldDescriptor d = some ty) (hnw : narrow ty v = v') (hf : fits ty v' = true)
    (hd : decode bytes pc = .ok (.putfield idx, 3)) (ho : os[i]? = some (a, .inl (C, fs))) (hj : fs[j]? = some (O, f, d, old)) (hdf : dm = fp) {qn : Nat} (hq : pc + 3 = qn)
    (K : ∀ T', Here p l e R s m args below meth c Z a0 y bytes ml ret dm fp T' k n (os.set i (a, .inl (C, fs.set j (O, f, d, v')))) → Wp p e below Z a0 dm fp R s Post T' (mkF m qn Ls rest)) : Wp p e below Z a0 dm fp R s Post T (mkF m pc Ls (v :: .ref a :: rest)) := by
  subst hq
  have A' := A
  obtain ⟨locs, X, N, H, hx, hZ, hb, hml, hown, hnm, q⟩ := A
  have hD : Dm fp s.heap.size a := hdf ▸ H.2.1 _ (List.mem_of_getElem? ho)
  obtain ⟨T1, h1, X1, e1, W1, st1⟩ := RoadKit.putFN X hx hZ hown w via rfl (H.fld ho hj) (H.exa ho) (hL.imp id fun z => ⟨z.1, z.2.1, hnm.trans z.2.2⟩) wi hty hnw hf (g := mkF m pc Ls (v :: .ref a :: rest)) rfl rfl (A'.hb hd)
  refine Wp.go st1 (K T1 ⟨_, X1, fun q hq => ?_, by rw [e1]; exact H.putf hD ho hj W1, hx, hZ, hb, hml, hown, hnm, q⟩)
  rcases List.mem_append.mp hq with hq | hq
  · exact N q hq
  · cases List.mem_singleton.mp hq; exact hD
theorem Here.newO {idx nn : Nat} {C : String} {fs : List Fd} (A : Here p l e R s m args below meth c Z a0 y bytes ml ret dm fp T k n os) (w : (Jvm.Cond.classLink y.cls idx C).before a0 Z = true) (wi : (Jvm.Cond.instantiable C nn).before a0 Z = true) (wz : (Jvm.Cond.initialized C).before a0 Z = true) (hd : decode bytes pc = .ok (.new idx, 3)) (hc : k + 1 ≤ R.cells) (hl : n + nn ≤ R.slots)
    (hnd : (fs.map (·.2.1)).Nodup) (hfs : ∀ q ∈ fs, Laid Z a0 C q.1 q.2.1 q.2.2.1 ∧ ∃ t, parseFieldDescriptor q.2.2.1 = some t ∧ q.2.2.2 = defaultValue t) {qn : Nat} (hq : pc + 3 = qn)
    (K : ∀ T' a, Here p l e R s m args below meth c Z a0 y bytes ml ret dm fp T' (k + 1) (n + nn) (os ++ [(a, .inl (C, fs))]) → Wp p e below Z a0 dm fp R s Post T' (mkF m qn Ls (.ref a :: st))) : Wp p e below Z a0 dm fp R s Post T (mkF m pc Ls st) := by
  subst hq
  have A' := A
  obtain ⟨locs, X, N, H, hx, hZ, hb, hml, hown, q⟩ := A
  obtain ⟨T1, h1, X1, e1, E1, A1, D1, -, st1⟩ := RoadKit.newO X hx hZ hown w wi wz rfl (g := mkF m pc Ls st) rfl (A'.hb hd) hc hl
  have F1 : ObAt Z a0 h1 T.heap.size (.inl (C, fs)) := ⟨A1, hnd, fun q hq => by
    obtain ⟨L, t, ht, hv⟩ := hfs q hq
    refine ⟨?_, L, t, ht⟩
    rw [hv]
    exact D1 L ht⟩
  exact Wp.go st1 (K T1 _ ⟨_, X1, N, by rw [e1]; exact H.push E1 F1, hx, hZ, hb, hml, hown, q⟩)
theorem Here.newP {aty : ArrayType} {z : Int32} {cap : Nat} (A : Here p l e R s m args below meth c Z a0 y bytes ml ret dm fp T k n os) (w : (Jvm.Cond.arrayClass (newarray.typeOf aty)).before a0 Z = true) (hd : decode bytes pc = .ok (.newarray aty, 2)) (hz : ¬ z < 0) (hcap : z.toNatClampNeg ≤ cap) (hb8 : cap * 8 ≤ 536870912) (hc : k + 1 ≤ R.cells) (hl : n + cap ≤ R.slots) {qn : Nat} (hq : pc + 2 = qn)
    (K : ∀ T' a, Here p l e R s m args below meth c Z a0 y bytes ml ret dm fp T' (k + 1) (n + cap) (os ++ [(a, .inr (newarray.typeOf aty, List.replicate z.toNatClampNeg (defaultValue (newarray.typeOf aty))))]) → Wp p e below Z a0 dm fp R s Post T' (mkF m qn Ls (.ref a :: st))) : Wp p e below Z a0 dm fp R s Post T (mkF m pc Ls (.int z :: st)) := by
  subst hq
  have A' := A
  obtain ⟨locs, X, N, H, hx, hZ, hb, hml, hown, q⟩ := A
  obtain ⟨T1, h1, cA, X1, e1, E1, A1, B1, st1⟩ := RoadKit.newPE X hx hZ w rfl (g := mkF m pc Ls (.int z :: st)) rfl (A'.hb hd) rfl hz hcap hb8 hc hl rfl
  have F1 : ObAt Z a0 h1 T.heap.size (.inr (newarray.typeOf aty, List.replicate z.toNatClampNeg (defaultValue (newarray.typeOf aty)))) := ⟨_, A1, by simp [newA], B1, fun v hv => by
    rw [(List.mem_replicate.mp hv).2]
    cases aty <;> rfl⟩
  exact Wp.go st1 (K T1 _ ⟨_, X1, N, by rw [e1]; exact H.push E1 F1, hx, hZ, hb, hml, hown, q⟩)
theorem inb {vs : List Value} {cl : Cell} {j : Int32} (e : cl.slots.toList = vs) (hj : ¬ j < 0) (hl : j.toNatClampNeg < vs.length) : ¬ (j < 0 ∨ cl.slots.size ≤ j.toNatClampNeg) := by
  subst e
  rw [Array.length_toList] at hl
  rintro (h | h)
  · exact hj h
  · exact absurd hl (Nat.not_lt.mpr h)
theorem Here.stOf {i : Nat} {a : Addr} {ty : FieldType} {vs : List Value} {j : Int32} {v : Value} {g : JFrame} (hf : fits ty v = true) (A : Here p l e R s m args below meth c Z a0 y bytes ml ret dm fp T k n os) (ho : os[i]? = some (a, .inr (ty, vs))) (hj : ¬ j < 0) (hl : j.toNatClampNeg < vs.length) (hdf : dm = fp)
    (S : ∀ (locs : List Loc) (cl : Cell), Stand p l e R s m args below meth c T locs k n → Arr Z T.heap a cl ty → ¬ (j < 0 ∨ cl.slots.size ≤ j.toNatClampNeg) → ∃ T' h', Stand p l e R s m args below meth c T' (locs ++ [⟨a, j.toNatClampNeg⟩]) k n ∧ T'.heap = h' ∧ Wr T.heap h' a j.toNatClampNeg v ∧ ∀ target, Steps p.tables e below (T'.setTop (mkF m (pc + 1) Ls rest)) target → Steps p.tables e below (T.setTop g) target)
    (K : ∀ T', Here p l e R s m args below meth c Z a0 y bytes ml ret dm fp T' k n (os.set i (a, .inr (ty, vs.set j.toNatClampNeg v))) → Wp p e below Z a0 dm fp R s Post T' (mkF m (pc + 1) Ls rest)) : Wp p e below Z a0 dm fp R s Post T g := by
  obtain ⟨locs, X, N, H, q⟩ := A
  obtain ⟨cl, Ar, ec⟩ := H.arr ho
  have hD : Dm fp s.heap.size a := hdf ▸ H.2.1 _ (List.mem_of_getElem? ho)
  obtain ⟨T1, h1, X1, e1, W1, st1⟩ := S locs cl X Ar (inb ec hj hl)
  refine Wp.go st1 (K T1 ⟨_, X1, fun q hq => ?_, by rw [e1]; exact H.puta hD hf ho W1, q⟩)
  rcases List.mem_append.mp hq with hq | hq
  · exact N q hq
  · cases List.mem_singleton.mp hq; exact hD
theorem Here.hz (A : Here p l e R s m args below meth c Z a0 y bytes ml ret dm fp T k n os) : Z.Warmed39 s.vm := by obtain ⟨_, -, -, -, -, hZ, -⟩ := A; exact hZ
theorem Here.stI {i : Nat} {a : Addr} {vs : List Value} {j x : Int32} (A : Here p l e R s m args below meth c Z a0 y bytes ml ret dm fp T k n os) (hd : decode bytes pc = .ok (.iastore, 1)) (ho : os[i]? = some (a, .inr (.int, vs))) (hj : ¬ j < 0) (hl : j.toNatClampNeg < vs.length) (hdf : dm = fp) {qn : Nat} (hq : pc + 1 = qn)
    (K : ∀ T', Here p l e R s m args below meth c Z a0 y bytes ml ret dm fp T' k n (os.set i (a, .inr (.int, vs.set j.toNatClampNeg (.int x)))) → Wp p e below Z a0 dm fp R s Post T' (mkF m qn Ls rest)) : Wp p e below Z a0 dm fp R s Post T (mkF m pc Ls (.int x :: .int j :: .ref a :: rest)) := by
  subst hq
  exact Here.stOf rfl A ho hj hl hdf (fun _ _ X Ar hin => RoadKit.stI X A.hx A.hz rfl Ar hin (g := mkF m pc Ls (.int x :: .int j :: .ref a :: rest)) rfl rfl (A.hb hd)) K
theorem Here.stJ {i : Nat} {a : Addr} {vs : List Value} {j : Int32} {x : Int64} (A : Here p l e R s m args below meth c Z a0 y bytes ml ret dm fp T k n os) (hd : decode bytes pc = .ok (.lastore, 1)) (ho : os[i]? = some (a, .inr (.long, vs))) (hj : ¬ j < 0) (hl : j.toNatClampNeg < vs.length) (hdf : dm = fp) {qn : Nat} (hq : pc + 1 = qn)
    (K : ∀ T', Here p l e R s m args below meth c Z a0 y bytes ml ret dm fp T' k n (os.set i (a, .inr (.long, vs.set j.toNatClampNeg (.long x)))) → Wp p e below Z a0 dm fp R s Post T' (mkF m qn Ls rest)) : Wp p e below Z a0 dm fp R s Post T (mkF m pc Ls (.long x :: .int j :: .ref a :: rest)) := by
  subst hq
  exact Here.stOf rfl A ho hj hl hdf (fun _ _ X Ar hin => RoadKit.stJ X A.hx A.hz rfl Ar hin (g := mkF m pc Ls (.long x :: .int j :: .ref a :: rest)) rfl rfl (A.hb hd)) K
theorem Here.stC {i : Nat} {a : Addr} {vs : List Value} {j x : Int32} (A : Here p l e R s m args below meth c Z a0 y bytes ml ret dm fp T k n os) (hd : decode bytes pc = .ok (.castore, 1)) (ho : os[i]? = some (a, .inr (.char, vs))) (hj : ¬ j < 0) (hl : j.toNatClampNeg < vs.length) (hdf : dm = fp) {qn : Nat} (hq : pc + 1 = qn)
    (K : ∀ T', Here p l e R s m args below meth c Z a0 y bytes ml ret dm fp T' k n (os.set i (a, .inr (.char, vs.set j.toNatClampNeg (.int (nar .char x))))) → Wp p e below Z a0 dm fp R s Post T' (mkF m qn Ls rest)) : Wp p e below Z a0 dm fp R s Post T (mkF m pc Ls (.int x :: .int j :: .ref a :: rest)) := by
  subst hq
  exact Here.stOf (fits_nar_char _) A ho hj hl hdf (fun _ _ X Ar hin => RoadKit.stC X A.hx A.hz rfl Ar hin (g := mkF m pc Ls (.int x :: .int j :: .ref a :: rest)) rfl rfl (A.hb hd)) K
theorem Here.stB {i : Nat} {a : Addr} {vs : List Value} {j x : Int32} (A : Here p l e R s m args below meth c Z a0 y bytes ml ret dm fp T k n os) (hd : decode bytes pc = .ok (.bastore, 1)) (ho : os[i]? = some (a, .inr (.byte, vs))) (hj : ¬ j < 0) (hl : j.toNatClampNeg < vs.length) (hdf : dm = fp) {qn : Nat} (hq : pc + 1 = qn)
    (K : ∀ T', Here p l e R s m args below meth c Z a0 y bytes ml ret dm fp T' k n (os.set i (a, .inr (.byte, vs.set j.toNatClampNeg (.int (nar .byte x))))) → Wp p e below Z a0 dm fp R s Post T' (mkF m qn Ls rest)) : Wp p e below Z a0 dm fp R s Post T (mkF m pc Ls (.int x :: .int j :: .ref a :: rest)) := by
  subst hq
  exact Here.stOf (fits_nar_byte _) A ho hj hl hdf (fun _ _ X Ar hin => RoadKit.stB X A.hx A.hz rfl Ar hin (g := mkF m pc Ls (.int x :: .int j :: .ref a :: rest)) rfl rfl (A.hb hd)) K
theorem Here.ldOf {i : Nat} {a : Addr} {ty : FieldType} {vs : List Value} {j : Int32} {v : Value} {g g' : JFrame} (A : Here p l e R s m args below meth c Z a0 y bytes ml ret dm fp T k n os) (ho : os[i]? = some (a, .inr (ty, vs))) (hj : ¬ j < 0) (hv : vs[j.toNatClampNeg]? = some v)
    (S : ∀ (locs : List Loc) (cl : Cell), Stand p l e R s m args below meth c T locs k n → T.heap[a]? = some cl → s.isArrayOf cl ty → cl.vm ≠ .unknown → ¬ (j < 0 ∨ cl.slots.size ≤ j.toNatClampNeg) → cl.slots[j.toNatClampNeg]? = some v → ∀ target, Steps p.tables e below (T.setTop g') target → Steps p.tables e below (T.setTop g) target)
    (K : Wp p e below Z a0 dm fp R s Post T g') : Wp p e below Z a0 dm fp R s Post T g := by
  have hz := A.hz
  obtain ⟨locs, X, N, H, q⟩ := A
  obtain ⟨cl, Ar, ec⟩ := H.arr ho
  refine Wp.go (S locs cl X Ar.1 (State.isArrayOf_alike hz.alike Ar.2.1) Ar.2.2 (inb ec hj (List.getElem?_eq_some_iff.mp hv).1) ?_) K
  rw [← ec, Array.getElem?_toList] at hv
  exact hv
theorem Here.ldI {i : Nat} {a : Addr} {vs : List Value} {j : Int32} {v : Value} (A : Here p l e R s m args below meth c Z a0 y bytes ml ret dm fp T k n os) (hd : decode bytes pc = .ok (.iaload, 1)) (ho : os[i]? = some (a, .inr (.int, vs))) (hj : ¬ j < 0) (hv : vs[j.toNatClampNeg]? = some v) {qn : Nat} (hq : pc + 1 = qn)
    (K : Wp p e below Z a0 dm fp R s Post T (mkF m qn Ls (v :: rest))) : Wp p e below Z a0 dm fp R s Post T (mkF m pc Ls (.int j :: .ref a :: rest)) := by
  subst hq
  exact A.ldOf ho hj hv (fun _ _ X h1 h2 h3 h4 h5 t kt => X.iaload A.hx h1 h2 h3 h4 h5 (g := mkF m pc Ls (.int j :: .ref a :: rest)) rfl rfl (A.hb hd) t kt) K
theorem Here.ldJ {i : Nat} {a : Addr} {vs : List Value} {j : Int32} {v : Value} (A : Here p l e R s m args below meth c Z a0 y bytes ml ret dm fp T k n os) (hd : decode bytes pc = .ok (.laload, 1)) (ho : os[i]? = some (a, .inr (.long, vs))) (hj : ¬ j < 0) (hv : vs[j.toNatClampNeg]? = some v) {qn : Nat} (hq : pc + 1 = qn)
    (K : Wp p e below Z a0 dm fp R s Post T (mkF m qn Ls (v :: rest))) : Wp p e below Z a0 dm fp R s Post T (mkF m pc Ls (.int j :: .ref a :: rest)) := by
  subst hq
  exact A.ldOf ho hj hv (fun _ _ X h1 h2 h3 h4 h5 t kt => X.laload A.hx h1 h2 h3 h4 h5 (g := mkF m pc Ls (.int j :: .ref a :: rest)) rfl rfl (A.hb hd) t kt) K
theorem Here.ldC {i : Nat} {a : Addr} {vs : List Value} {j : Int32} {v : Value} (A : Here p l e R s m args below meth c Z a0 y bytes ml ret dm fp T k n os) (hd : decode bytes pc = .ok (.caload, 1)) (ho : os[i]? = some (a, .inr (.char, vs))) (hj : ¬ j < 0) (hv : vs[j.toNatClampNeg]? = some v) {qn : Nat} (hq : pc + 1 = qn)
    (K : Wp p e below Z a0 dm fp R s Post T (mkF m qn Ls (v :: rest))) : Wp p e below Z a0 dm fp R s Post T (mkF m pc Ls (.int j :: .ref a :: rest)) := by
  subst hq
  exact A.ldOf ho hj hv (fun _ _ X h1 h2 h3 h4 h5 t kt => X.caload A.hx h1 h2 h3 h4 h5 (g := mkF m pc Ls (.int j :: .ref a :: rest)) rfl rfl (A.hb hd) t kt) K
theorem Here.ldB {i : Nat} {a : Addr} {vs : List Value} {j : Int32} {v : Value} (A : Here p l e R s m args below meth c Z a0 y bytes ml ret dm fp T k n os) (hd : decode bytes pc = .ok (.baload, 1)) (ho : os[i]? = some (a, .inr (.byte, vs))) (hj : ¬ j < 0) (hv : vs[j.toNatClampNeg]? = some v) {qn : Nat} (hq : pc + 1 = qn)
    (K : Wp p e below Z a0 dm fp R s Post T (mkF m qn Ls (v :: rest))) : Wp p e below Z a0 dm fp R s Post T (mkF m pc Ls (.int j :: .ref a :: rest)) := by
  subst hq
  exact A.ldOf ho hj hv (fun _ _ X h1 h2 h3 h4 h5 t kt => X.baloadBytes A.hx h1 h2 h3 h4 h5 (g := mkF m pc Ls (.int j :: .ref a :: rest)) rfl rfl (A.hb hd) t kt) K
theorem Here.len {i : Nat} {a : Addr} {ty : FieldType} {vs : List Value} {z : Int32} (A : Here p l e R s m args below meth c Z a0 y bytes ml ret dm fp T k n os) (hd : decode bytes pc = .ok (.arraylength, 1)) (ho : os[i]? = some (a, .inr (ty, vs))) (hz : vs.length.toInt32 = z) {qn : Nat} (hq : pc + 1 = qn)
    (K : Wp p e below Z a0 dm fp R s Post T (mkF m qn Ls (.int z :: rest))) : Wp p e below Z a0 dm fp R s Post T (mkF m pc Ls (.ref a :: rest)) := by
  subst hq
  have A' := A
  obtain ⟨locs, X, N, H, q⟩ := A
  obtain ⟨cl, Ar, ec⟩ := H.arr ho
  subst hz
  rw [← ec, Array.length_toList] at K
  exact Wp.go (fun t kt => X.arraylength A'.hx Ar.1 (State.isArrayOf_alike A'.hz.alike Ar.2.1) (g := mkF m pc Ls (.ref a :: rest)) rfl rfl (A'.hb hd) t kt) K
theorem Here.ldc {idx : Nat} {v : Int32} (A : Here p l e R s m args below meth c Z a0 y bytes ml ret dm fp T k n os) (w : (Jvm.Cond.constant y.cls idx v).before a0 Z = true) (hd : decode bytes pc = .ok (.ldc idx, 2)) {qn : Nat} (hq : pc + 2 = qn)
    (K : Wp p e below Z a0 dm fp R s Post T (mkF m qn Ls (.int v :: st))) : Wp p e below Z a0 dm fp R s Post T (mkF m pc Ls st) := by
  subst hq
  have A' := A
  obtain ⟨locs, X, N, H, hx, hZ, hb, hml, hown, q⟩ := A
  exact Wp.go (X.ldcInt hx hown (mvT hZ w) (g := mkF m pc Ls st) rfl (A'.hb hd)) K
theorem Here.ldcw {idx : Nat} {v : Int32} (A : Here p l e R s m args below meth c Z a0 y bytes ml ret dm fp T k n os) (w : (Jvm.Cond.constant y.cls idx v).before a0 Z = true) (hd : decode bytes pc = .ok (.ldc_w idx, 3)) {qn : Nat} (hq : pc + 3 = qn)
    (K : Wp p e below Z a0 dm fp R s Post T (mkF m qn Ls (.int v :: st))) : Wp p e below Z a0 dm fp R s Post T (mkF m pc Ls st) := by
  subst hq
  have A' := A
  obtain ⟨locs, X, N, H, hx, hZ, hb, hml, hown, q⟩ := A
  exact Wp.go (X.ldcwInt hx hown (mvT hZ w) (g := mkF m pc Ls st) rfl (A'.hb hd)) K
theorem Here.ldc2 {idx : Nat} {v : Int64} (A : Here p l e R s m args below meth c Z a0 y bytes ml ret dm fp T k n os) (w : (Jvm.Cond.constantLong y.cls idx v).before a0 Z = true) (hd : decode bytes pc = .ok (.ldc2_w idx, 3)) {qn : Nat} (hq : pc + 3 = qn)
    (K : Wp p e below Z a0 dm fp R s Post T (mkF m qn Ls (.long v :: st))) : Wp p e below Z a0 dm fp R s Post T (mkF m pc Ls st) := by
  subst hq
  have A' := A
  obtain ⟨locs, X, N, H, hx, hZ, hb, hml, hown, q⟩ := A
  exact Wp.go (X.ldc2Long hx hown (mvT hZ w) (g := mkF m pc Ls st) rfl (A'.hb hd)) K
/-- a primitive array's clone -/
theorem Here.clone {idx W i cap : Nat} {a : Addr} {ty : FieldType} {vs : List Value} {ad : String} (A : Here p l e R s m args below meth c Z a0 y bytes ml ret dm fp T k n os)
    (w1 : (Jvm.Cond.methodLink y.cls idx ⟨ad, "clone", "()Ljava/lang/Object;"⟩).before a0 Z = true) (w2 : (Jvm.Cond.sameMethod ad "java/lang/Object" "clone" "()Ljava/lang/Object;").before a0 Z = true) (w3 : (Jvm.Cond.native ⟨"java/lang/Object", "clone", "()Ljava/lang/Object;"⟩).before a0 Z = true)
    (w4 : (Jvm.Cond.instanceMethod ⟨"java/lang/Object", "clone", "()Ljava/lang/Object;"⟩).before a0 Z = true) (w5 : (Jvm.Cond.selects ad ⟨ad, "clone", "()Ljava/lang/Object;"⟩ ⟨"java/lang/Object", "clone", "()Ljava/lang/Object;"⟩).before a0 Z = true) (w6 : (Jvm.Cond.castable ad "java/lang/Cloneable").before a0 Z = true)
    (had : "[" ++ ty.toString = ad) (hd : decode bytes pc = .ok (.invokevirtual idx, 3)) (hsz : Ls.size = ml) (ho : os[i]? = some (a, .inr (ty, vs))) (hW : (rest.map fun v => v.category).sum ≤ W) (hf : 1 ≤ R.frames) (hl : W + 14 ≤ R.locals) (hcap : vs.length ≤ cap) (hc : k + 1 ≤ R.cells) (hs : n + cap ≤ R.slots) {qn : Nat} (hq : pc + 3 = qn)
    (K : ∀ T' b, Here p l e R s m args below meth c Z a0 y bytes ml ret dm fp T' (k + 1) (n + cap) (os ++ [(b, .inr (ty, vs))]) → Wp p e below Z a0 dm fp R s Post T' (mkF m qn Ls (.ref b :: rest))) : Wp p e below Z a0 dm fp R s Post T (mkF m pc Ls (.ref a :: rest)) := by
  subst hq
  have A' := A
  obtain ⟨locs, X, N, H, hx, hZ, hb, hml, hown, q⟩ := A
  obtain ⟨cl, Ar, ec, E, F⟩ := H.1.2 _ (List.mem_of_getElem? ho)
  dsimp only at ec E F Ar
  subst had
  have FC : FitC Z cl := fitC_of Ar fun j hj v hv => F v (by rw [← ec, Array.mem_toList_iff]; exact Array.mem_of_getElem? hv)
  obtain ⟨T1, h1, X1, e1, E1, A1, B1, st1⟩ := cloneA X hx hZ hown w1 w2 w3 w4 w5 w6 rfl Ar E FC (g := mkF m pc Ls (.ref a :: rest)) rfl (hsz.trans hml.symm) rfl (A'.hb hd) hf (W := W) (by show 2 * 0 + _ ≤ _; rw [Nat.mul_zero, Nat.zero_add]; exact hW) hl (cap := cap) (by rw [← Array.length_toList, ec]; exact hcap) hc hs
  exact Wp.go st1 (K T1 _ ⟨_, X1, N, by rw [e1]; exact H.push E1 ⟨_, A1, ec, B1, F⟩, hx, hZ, hb, hml, hown, q⟩)
theorem Here.ccast {idx i : Nat} {a : Addr} {ty : FieldType} {vs : List Value} {K0 : String} (A : Here p l e R s m args below meth c Z a0 y bytes ml ret dm fp T k n os) (w : (Jvm.Cond.classLink y.cls idx K0).before a0 Z = true) (had : "[" ++ ty.toString = K0) (hd : decode bytes pc = .ok (.checkcast idx, 3)) (ho : os[i]? = some (a, .inr (ty, vs))) {qn : Nat} (hq : pc + 3 = qn)
    (K : ∀ T', Here p l e R s m args below meth c Z a0 y bytes ml ret dm fp T' k n os → Wp p e below Z a0 dm fp R s Post T' (mkF m qn Ls (.ref a :: rest))) : Wp p e below Z a0 dm fp R s Post T (mkF m pc Ls (.ref a :: rest)) := by
  subst hq
  have A' := A
  obtain ⟨locs, X, N, H, hx, hZ, hb, hml, hown, q⟩ := A
  obtain ⟨cl, Ar, ec, E, F⟩ := H.1.2 _ (List.mem_of_getElem? ho)
  subst had
  obtain ⟨T1, X1, e1, st1⟩ := castY X hx hZ hown w rfl (Ins.self E) (g := mkF m pc Ls (.ref a :: rest)) rfl rfl (A'.hb hd)
  exact Wp.go st1 (K T1 ⟨locs, X1, N, by rw [e1]; exact H, hx, hZ, hb, hml, hown, q⟩)
/-! calls -/
theorem Here.initO {idx W : Nat} {a : Addr} (A : Here p l e R s m args below meth c Z a0 y bytes ml ret dm fp T k n os) (w1 : (Jvm.Cond.methodLink y.cls idx Lib.objectInit).before a0 Z = true) (w2 : (Jvm.Cond.instanceMethod Lib.objectInit).before a0 Z = true) (w3 : (Jvm.Cond.code Lib.objectInit Jvm.Example.Point.objCode 1 none).before a0 Z = true)
    (hd : decode bytes pc = .ok (.invokespecial idx, 3)) (hsz : Ls.size = ml) (hW : (rest.map fun v => v.category).sum ≤ W) (hf : 1 ≤ R.frames) (hl : W + 12 ≤ R.locals) {qn : Nat} (hq : pc + 3 = qn)
    (K : ∀ T', Here p l e R s m args below meth c Z a0 y bytes ml ret dm fp T' k n os → Wp p e below Z a0 dm fp R s Post T' (mkF m qn Ls rest)) : Wp p e below Z a0 dm fp R s Post T (mkF m pc Ls (.ref a :: rest)) := by
  subst hq
  have A' := A
  obtain ⟨locs, X, N, H, hx, hZ, hb, hml, hown, q⟩ := A
  obtain ⟨T1, X1, e1, st1⟩ := RoadKit.initO X hx hZ hown w1 w2 w3 rfl (g := mkF m pc Ls (.ref a :: rest)) rfl (hsz.trans hml.symm) rfl (A'.hb hd) hf (W := W) (by show 2 * 0 + _ ≤ _; rw [Nat.mul_zero, Nat.zero_add]; exact hW) hl
  exact Wp.go st1 (K T1 ⟨locs, X1, N, by rw [e1]; exact H, hx, hZ, hb, hml, hown, q⟩)
theorem dm_call {h0 h : Heap} {os1 os2 : Hs} (H : Hp Z a0 dm fp h0 h (os1 ++ os2)) (hc : fp2 = [] ∨ (fp2 = os2.map (·.1) ∧ dm = fp)) {x : Addr} (hx : Dm fp2 h.size x) : Dm fp h0.size x := by
  rcases hx with hx | hx
  · rcases hc with rfl | ⟨rfl, rfl⟩
    · exact absurd hx List.not_mem_nil
    · obtain ⟨q, hq, rfl⟩ := List.mem_map.mp hx
      exact H.2.1 q (List.mem_append.mpr (Or.inr hq))
  · exact Or.inr (Nat.le_trans H.2.2.1 hx)
theorem Here.callS {idx W : Nat} {y' : MethodName} {bytes' : ByteArray} {ml' : Nat} {ret' : Option FieldType} {R' : Room} {argsL : List Value} {os1 os2 : Hs} {Post' : Option Value → Hs → Prop}
    (A : Here p l e R s m args below meth c Z a0 y bytes ml ret dm fp T k n (os1 ++ os2)) (M : Pays l Z a0 y' bytes' ml' ret' R' argsL.toArray os2 fp2 Post') (hcc : fp2 = [] ∨ (fp2 = os2.map (·.1) ∧ dm = fp))
    (w1 : (Jvm.Cond.methodLink y.cls idx y').before a0 Z = true) (w2 : (Jvm.Cond.static y').before a0 Z = true) (w3 : (Jvm.Cond.initialized y'.cls).before a0 Z = true) (w4 : (Jvm.Cond.code y' bytes' ml' ret').before a0 Z = true) (hy : y'.cls ≠ "java/lang/invoke/MethodHandle" ∧ y'.cls ≠ "java/lang/invoke/VarHandle")
    (hd : decode bytes pc = .ok (.invokestatic idx, 3)) (hsz : Ls.size = ml) (hlen : ∀ sig, parseMethodDescriptor y'.desc = some sig → argsL.length = sig.parameters.length) (hst : st = argsL.reverse ++ rest) (hW : (rest.map fun v => v.category).sum ≤ W) (hf : R'.frames + 1 ≤ R.frames) (hl : W + (ml' + 11) + R'.locals ≤ R.locals) (hc : k + R'.cells ≤ R.cells) (hs : n + R'.slots ≤ R.slots) {qn : Nat} (hq : pc + 3 = qn)
    (K : ∀ T' v os', Here p l e R s m args below meth c Z a0 y bytes ml ret dm fp T' (k + R'.cells) (n + R'.slots) (os1 ++ os') → Post' v os' → Wp p e below Z a0 dm fp R s Post T' (mkF m qn Ls (v.toList ++ rest))) : Wp p e below Z a0 dm fp R s Post T (mkF m pc Ls st) := by
  subst hq
  have A' := A
  obtain ⟨locs, X, N, H, hx, hZ, hb, hml, hown, q⟩ := A
  have hq : Hq Z a0 T.heap os2 := ⟨by have := H.1.1; rw [List.map_append, List.nodup_append] at this; exact this.2.1, fun q hq => H.1.2 q (List.mem_append.mpr (Or.inr hq))⟩
  obtain ⟨v, _, ⟨T1, L1, k1, n1⟩, -, X1, ⟨Lc, hQ, l1, y1, z1⟩, st1⟩ := Jvm.LawKit.callS X hx (y := y') hown (mvT hZ w1) (mvT hZ w2) (mvT hZ w3) (mvT hZ w4) hy (backOf (W := W) (h := T.heap) (Q := fun v h L => (∀ q ∈ L, Dm fp2 T.heap.size q.base) ∧ ∃ os', Hp Z a0 (os2.map (·.1)) fp2 T.heap h os' ∧ Post' v os') (M [] T.heap hq) hZ w4 w3 hf hl) (g := mkF m pc Ls st) rfl (hsz.trans hml.symm) (argsL := argsL) (rest := rest) hlen hst (by show 2 * 0 + _ ≤ _; rw [Nat.mul_zero, Nat.zero_add]; exact hW) (A'.hb hd) (fun _ _ => ⟨rfl, rfl, hc, hs⟩)
  dsimp only [Pt.U, Pt.locs, Pt.cells, Pt.slots] at X1 l1 y1 z1 st1 hQ
  subst l1 y1 z1
  obtain ⟨N1, os', H1, hP⟩ := hQ
  refine Wp.go st1 (K T1 v os' ⟨_, X1, fun q hq => ?_, H.call H1 hcc, hx, hZ, hb, hml, hown, q⟩ hP)
  rcases List.mem_append.mp hq with hq | hq
  · exact N q hq
  · exact dm_call H hcc (N1 q hq)
theorem Here.callI {idx W : Nat} {y' : MethodName} {bytes' : ByteArray} {ml' : Nat} {R' : Room} {argsL : List Value} {a : Addr} {os1 os2 : Hs} {Post' : Option Value → Hs → Prop}
    (A : Here p l e R s m args below meth c Z a0 y bytes ml ret dm fp T k n (os1 ++ os2)) (M : Pays l Z a0 y' bytes' ml' none R' (.ref a :: argsL).toArray os2 fp2 Post') (hcc : fp2 = [] ∨ (fp2 = os2.map (·.1) ∧ dm = fp)) (hini : y'.name = "<init>")
    (w1 : (Jvm.Cond.methodLink y.cls idx y').before a0 Z = true) (w2 : (Jvm.Cond.instanceMethod y').before a0 Z = true) (w3 : (Jvm.Cond.initialized y'.cls).before a0 Z = true) (w4 : (Jvm.Cond.code y' bytes' ml' none).before a0 Z = true) (hy : y'.cls ≠ "java/lang/invoke/MethodHandle" ∧ y'.cls ≠ "java/lang/invoke/VarHandle")
    (hd : decode bytes pc = .ok (.invokespecial idx, 3)) (hsz : Ls.size = ml) (hlen : ∀ sig, parseMethodDescriptor y'.desc = some sig → argsL.length = sig.parameters.length) (hst : st = argsL.reverse ++ .ref a :: rest) (hW : (rest.map fun v => v.category).sum ≤ W) (hf : R'.frames + 1 ≤ R.frames) (hl : W + (ml' + 11) + R'.locals ≤ R.locals) (hc : k + R'.cells ≤ R.cells) (hs : n + R'.slots ≤ R.slots) {qn : Nat} (hq : pc + 3 = qn)
    (K : ∀ T' v os', Here p l e R s m args below meth c Z a0 y bytes ml ret dm fp T' (k + R'.cells) (n + R'.slots) (os1 ++ os') → Post' v os' → Wp p e below Z a0 dm fp R s Post T' (mkF m qn Ls (v.toList ++ rest))) : Wp p e below Z a0 dm fp R s Post T (mkF m pc Ls st) := by
  subst hq
  have A' := A
  obtain ⟨locs, X, N, H, hx, hZ, hb, hml, hown, q⟩ := A
  have hq : Hq Z a0 T.heap os2 := ⟨by have := H.1.1; rw [List.map_append, List.nodup_append] at this; exact this.2.1, fun q hq => H.1.2 q (List.mem_append.mpr (Or.inr hq))⟩
  obtain ⟨v, _, ⟨T1, L1, k1, n1⟩, -, X1, ⟨Lc, hQ, l1, y1, z1⟩, st1⟩ := X.specialBack hx (y := y') hini hown (mvT hZ w1) (mvT hZ w2) (mvT hZ w4) hy (backOf (W := W) (h := T.heap) (Q := fun v h L => (∀ q ∈ L, Dm fp2 T.heap.size q.base) ∧ ∃ os', Hp Z a0 (os2.map (·.1)) fp2 T.heap h os' ∧ Post' v os') (M [] T.heap hq) hZ w4 w3 hf hl) (g := mkF m pc Ls st) rfl (hsz.trans hml.symm) (Steps.refl _) (a := a) (argsL := argsL) (rest := rest) hlen hst (by show 2 * 0 + _ ≤ _; rw [Nat.mul_zero, Nat.zero_add]; exact hW) (A'.hb hd) (fun _ _ => ⟨rfl, rfl, hc, hs⟩)
  dsimp only [Pt.U, Pt.locs, Pt.cells, Pt.slots] at X1 l1 y1 z1 st1 hQ
  subst l1 y1 z1
  obtain ⟨N1, os', H1, hP⟩ := hQ
  refine Wp.go (fun t kt => st1.trans kt) (K T1 v os' ⟨_, X1, fun q hq => ?_, H.call H1 hcc, hx, hZ, hb, hml, hown, q⟩ hP)
  rcases List.mem_append.mp hq with hq | hq
  · exact N q hq
  · exact dm_call H hcc (N1 q hq)
theorem Here.callV {idx W i : Nat} {y' : MethodName} {bytes' : ByteArray} {ml' : Nat} {ret' : Option FieldType} {R' : Room} {argsL : List Value} {a : Addr} {C : String} {fs : List Fd} {os1 os2 : Hs} {Post' : Option Value → Hs → Prop}
    (A : Here p l e R s m args below meth c Z a0 y bytes ml ret dm fp T k n (os1 ++ os2)) (M : Pays l Z a0 y' bytes' ml' ret' R' (.ref a :: argsL).toArray os2 fp2 Post') (hcc : fp2 = [] ∨ (fp2 = os2.map (·.1) ∧ dm = fp)) (ho : (os1 ++ os2)[i]? = some (a, .inl (C, fs)))
    (w1 : (Jvm.Cond.methodLink y.cls idx y').before a0 Z = true) (wd : (Jvm.Cond.declares y').before a0 Z = true) (ws : (Jvm.Cond.selects C y' y').before a0 Z = true) (w2 : (Jvm.Cond.instanceMethod y').before a0 Z = true) (w3 : (Jvm.Cond.initialized y'.cls).before a0 Z = true) (w4 : (Jvm.Cond.code y' bytes' ml' ret').before a0 Z = true) (hy : y'.cls ≠ "java/lang/invoke/MethodHandle" ∧ y'.cls ≠ "java/lang/invoke/VarHandle")
    (hd : decode bytes pc = .ok (.invokevirtual idx, 3)) (hsz : Ls.size = ml) (hlen : ∀ sig, parseMethodDescriptor y'.desc = some sig → argsL.length = sig.parameters.length) (hst : st = argsL.reverse ++ .ref a :: rest) (hW : (rest.map fun v => v.category).sum ≤ W) (hf : R'.frames + 1 ≤ R.frames) (hl : W + (ml' + 11) + R'.locals ≤ R.locals) (hc : k + R'.cells ≤ R.cells) (hs : n + R'.slots ≤ R.slots) {qn : Nat} (hq : pc + 3 = qn)
    (K : ∀ T' v os', Here p l e R s m args below meth c Z a0 y bytes ml ret dm fp T' (k + R'.cells) (n + R'.slots) (os1 ++ os') → Post' v os' → Wp p e below Z a0 dm fp R s Post T' (mkF m qn Ls (v.toList ++ rest))) : Wp p e below Z a0 dm fp R s Post T (mkF m pc Ls st) := by
  subst hq
  have A' := A
  obtain ⟨locs, X, N, H, hx, hZ, hb, hml, hown, q⟩ := A
  have hq : Hq Z a0 T.heap os2 := ⟨by have := H.1.1; rw [List.map_append, List.nodup_append] at this; exact this.2.1, fun q hq => H.1.2 q (List.mem_append.mpr (Or.inr hq))⟩
  obtain ⟨cq, kq, qa, qb, qc⟩ := isOf (T := T) hZ rfl (H.exa ho)
  obtain ⟨v, _, ⟨T1, L1, k1, n1⟩, -, X1, ⟨Lc, hQ, l1, y1, z1⟩, st1⟩ := X.virtualBack hx (y := y') (z := y') hown (mvT hZ w1) (mvT hZ wd) (notFace_of_selects (args := #[]) (mvT hZ ws)) (mvT hZ ws) (mvT hZ w2) hy (backOf (W := W) (h := T.heap) (Q := fun v h L => (∀ q ∈ L, Dm fp2 T.heap.size q.base) ∧ ∃ os', Hp Z a0 (os2.map (·.1)) fp2 T.heap h os' ∧ Post' v os') (M [] T.heap hq) hZ w4 w3 hf hl) qa qc (g := mkF m pc Ls st) rfl (hsz.trans hml.symm) (Steps.refl _) (argsL := argsL) (rest := rest) hlen hst (by show 2 * 0 + _ ≤ _; rw [Nat.mul_zero, Nat.zero_add]; exact hW) (A'.hb hd) (fun _ _ => ⟨rfl, rfl, hc, hs⟩)
  dsimp only [Pt.U, Pt.locs, Pt.cells, Pt.slots] at X1 l1 y1 z1 st1 hQ
  subst l1 y1 z1
  obtain ⟨N1, os', H1, hP⟩ := hQ
  refine Wp.go (fun t kt => st1.trans kt) (K T1 v os' ⟨_, X1, fun q hq => ?_, H.call H1 hcc, hx, hZ, hb, hml, hown, q⟩ hP)
  rcases List.mem_append.mp hq with hq | hq
  · exact N q hq
  · exact dm_call H hcc (N1 q hq)
end Walks
end Jvm.OwnWp
namespace Jvm.Pilot.@@N@@
open Jvm Jvm.ClassFile Sem Op Lib Jvm.Free Jvm.Stand Jvm.LawKit Jvm.RoadKit Bundle Jvm.OwnWp Jvm.Pilot.@@N@@.Jvm.D
theorem tw {a0 : Array Value} {Z : State} (hw : ∀ d ∈ tables_1, d.before a0 Z = true) (k : Nat) {d : Jvm.Cond} (h : tables_1[k]? = some d) : d.before a0 Z = true := hw d (List.mem_of_getElem? h)
theorem bm32 (x : Int) : x.bmod (2 ^ 32) = (x + 2147483648) % 4294967296 - 2147483648 := by
  rw [Int.bmod_def]; split <;> omega
theorem bm64 (x : Int) : x.bmod (2 ^ 64) = (x + 9223372036854775808) % 18446744073709551616 - 9223372036854775808 := by
  rw [Int.bmod_def]; split <;> omega
theorem l32_m128 : (-128 : Int32).toInt = -128 := by decide
theorem l32_0 : (0 : Int32).toInt = 0 := by decide
theorem l32_1 : (1 : Int32).toInt = 1 := by decide
theorem l32_2 : (2 : Int32).toInt = 2 := by decide
theorem l32_3 : (3 : Int32).toInt = 3 := by decide
theorem l32_4 : (4 : Int32).toInt = 4 := by decide
theorem l32_5 : (5 : Int32).toInt = 5 := by decide
theorem l32_7 : (7 : Int32).toInt = 7 := by decide
theorem l32_8 : (8 : Int32).toInt = 8 := by decide
theorem l32_32 : (32 : Int32).toInt = 32 := by decide
theorem l32_55 : (55 : Int32).toInt = 55 := by decide
theorem l32_56 : (56 : Int32).toInt = 56 := by decide
theorem l32_127 : (127 : Int32).toInt = 127 := by decide
theorem l32_128 : (128 : Int32).toInt = 128 := by decide
theorem l32_192 : (192 : Int32).toInt = 192 := by decide
theorem l32_255 : (255 : Int32).toInt = 255 := by decide
theorem l32_2147483647 : (2147483647 : Int32).toInt = 2147483647 := by decide
def own_n4 (z n : Int32) : Int32 := n - ((z.toUInt32 >>> ((1 : Int32) &&& 31).toUInt32).toInt32)
def own_n3 (z n : Int32) : Int32 := if z < 4 then own_n4 z n else own_n4 ((z.toUInt32 >>> ((2 : Int32) &&& 31).toUInt32).toInt32) (n + -2)
def own_n2 (z n : Int32) : Int32 := if z < 16 then own_n3 z n else own_n3 ((z.toUInt32 >>> ((4 : Int32) &&& 31).toUInt32).toInt32) (n + -4)
def own_n1 (z n : Int32) : Int32 := if z < 256 then own_n2 z n else own_n2 ((z.toUInt32 >>> ((8 : Int32) &&& 31).toUInt32).toInt32) (n + -8)
def own_nlz (z : Int32) : Int32 := if 0 < z then (if z < 65536 then own_n1 z 31 else own_n1 ((z.toUInt32 >>> ((16 : Int32) &&& 31).toUInt32).toInt32) (31 + -16)) else if z = 0 then 32 else 0
def own_length (z : Int32) : Int32 := if z < 56 then 1 else (1 : Int32) + (((32 : Int32) - own_nlz z) + (7 : Int32)) / (8 : Int32)
def own_hb (o z n : Int32) : Int32 := nar .byte ((if n = 1 then o + z else ((o + (56 : Int32)) - (1 : Int32)) + (n - (1 : Int32))).toInt8.toInt32)
theorem own_ushr1 (z : Int32) (h : 0 ≤ z.toInt) : ((z.toUInt32 >>> ((1 : Int32) &&& 31).toUInt32).toInt32).toInt = z.toInt / 2 := by
  rw [Jvm.Kit.i32_iushr (Jvm.Kit.i32_nonneg.mpr h) (k := 1) (by decide) (by decide)]
  omega

theorem own_ushr2 (z : Int32) (h : 0 ≤ z.toInt) : ((z.toUInt32 >>> ((2 : Int32) &&& 31).toUInt32).toInt32).toInt = z.toInt / 4 := by
  rw [Jvm.Kit.i32_iushr (Jvm.Kit.i32_nonneg.mpr h) (k := 2) (by decide) (by decide)]
  omega

theorem own_ushr4 (z : Int32) (h : 0 ≤ z.toInt) : ((z.toUInt32 >>> ((4 : Int32) &&& 31).toUInt32).toInt32).toInt = z.toInt / 16 := by
  rw [Jvm.Kit.i32_iushr (Jvm.Kit.i32_nonneg.mpr h) (k := 4) (by decide) (by decide)]
  omega

theorem own_ushr8 (z : Int32) (h : 0 ≤ z.toInt) : ((z.toUInt32 >>> ((8 : Int32) &&& 31).toUInt32).toInt32).toInt = z.toInt / 256 := by
  rw [Jvm.Kit.i32_iushr (Jvm.Kit.i32_nonneg.mpr h) (k := 8) (by decide) (by decide)]
  omega

theorem own_ushr16 (z : Int32) (h : 0 ≤ z.toInt) : ((z.toUInt32 >>> ((16 : Int32) &&& 31).toUInt32).toInt32).toInt = z.toInt / 65536 := by
  rw [Jvm.Kit.i32_iushr (Jvm.Kit.i32_nonneg.mpr h) (k := 16) (by decide) (by decide)]
  omega
theorem own_n4_k (z n : Int32) (h0 : 0 ≤ z.toInt) (h1 : z.toInt < 4) (hn : 1 ≤ n.toInt) : ∃ k : Nat, k ≤ 1 ∧ (own_n4 z n).toInt = n.toInt - k ∧ z.toInt < 2 ^ (k + 1) := by
  have e := own_ushr1 z h0
  have b := n.toInt_lt
  refine ⟨(z.toInt / 2).toNat, by omega, ?_, ?_⟩
  · show (n - ((z.toUInt32 >>> ((1 : Int32) &&& 31).toUInt32).toInt32)).toInt = _
    rw [Jvm.Kit.i32_sub (by omega) (by omega), e]
    omega
  · rcases (show (z.toInt / 2).toNat = 0 ∨ (z.toInt / 2).toNat = 1 by omega) with q | q <;> rw [q] <;> omega
theorem own_step_k {z zz n nn r : Int32} {c s : Nat} (hz : zz.toInt = z.toInt / 2 ^ s) (hn : nn.toInt = n.toInt - s) (h : ∃ k : Nat, k ≤ c ∧ r.toInt = nn.toInt - k ∧ zz.toInt < 2 ^ (k + 1)) : ∃ k : Nat, k ≤ c + s ∧ r.toInt = n.toInt - k ∧ z.toInt < 2 ^ (k + 1) := by
  obtain ⟨k, h1, h2, h3⟩ := h
  refine ⟨k + s, by omega, by omega, ?_⟩
  rw [hz] at h3
  have h4 : z.toInt < 2 ^ (k + 1) * 2 ^ s := (Int.ediv_lt_iff_lt_mul (by exact Int.pow_pos (by decide))).mp h3
  rw [← Int.pow_add] at h4
  rw [show k + s + 1 = k + 1 + s by omega]
  exact h4
theorem own_weak_k {z n r : Int32} {c c' : Nat} (hc : c ≤ c') (h : ∃ k : Nat, k ≤ c ∧ r.toInt = n.toInt - k ∧ z.toInt < 2 ^ (k + 1)) : ∃ k : Nat, k ≤ c' ∧ r.toInt = n.toInt - k ∧ z.toInt < 2 ^ (k + 1) := by
  obtain ⟨k, h1, h2⟩ := h
  exact ⟨k, Nat.le_trans h1 hc, h2⟩
theorem own_sub_k (n : Int32) (s : Int32) (v : Nat) (hs : s.toInt = -v) (h : v ≤ n.toInt) : (n + s).toInt = n.toInt - v := by
  have := n.toInt_lt
  rw [Jvm.Kit.i32_add (by omega) (by omega), hs]
  omega
theorem own_n3_k (z n : Int32) (h0 : 0 ≤ z.toInt) (h1 : z.toInt < 16) (hn : 3 ≤ n.toInt) : ∃ k : Nat, k ≤ 3 ∧ (own_n3 z n).toInt = n.toInt - k ∧ z.toInt < 2 ^ (k + 1) := by
  unfold own_n3
  by_cases h : z < 4
  · rw [if_pos h]
    rw [Int32.lt_iff_toInt_lt, show (4 : Int32).toInt = 4 by decide] at h
    exact own_weak_k (by decide) (own_n4_k z n h0 h (by omega))
  · rw [if_neg h]
    have e := own_ushr2 z h0
    have e2 := own_sub_k n (-2) 2 (by decide) (by omega)
    exact own_step_k (s := 2) (c := 1) e e2 (own_n4_k _ _ (by omega) (by omega) (by omega))
theorem own_n2_k (z n : Int32) (h0 : 0 ≤ z.toInt) (h1 : z.toInt < 256) (hn : 7 ≤ n.toInt) : ∃ k : Nat, k ≤ 7 ∧ (own_n2 z n).toInt = n.toInt - k ∧ z.toInt < 2 ^ (k + 1) := by
  unfold own_n2
  by_cases h : z < 16
  · rw [if_pos h]
    rw [Int32.lt_iff_toInt_lt, show (16 : Int32).toInt = 16 by decide] at h
    exact own_weak_k (by decide) (own_n3_k z n h0 h (by omega))
  · rw [if_neg h]
    have e := own_ushr4 z h0
    have e2 := own_sub_k n (-4) 4 (by decide) (by omega)
    exact own_step_k (s := 4) (c := 3) e e2 (own_n3_k _ _ (by omega) (by omega) (by omega))
theorem own_n1_k (z n : Int32) (h0 : 0 ≤ z.toInt) (h1 : z.toInt < 65536) (hn : 15 ≤ n.toInt) : ∃ k : Nat, k ≤ 15 ∧ (own_n1 z n).toInt = n.toInt - k ∧ z.toInt < 2 ^ (k + 1) := by
  unfold own_n1
  by_cases h : z < 256
  · rw [if_pos h]
    rw [Int32.lt_iff_toInt_lt, show (256 : Int32).toInt = 256 by decide] at h
    exact own_weak_k (by decide) (own_n2_k z n h0 h (by omega))
  · rw [if_neg h]
    have e := own_ushr8 z h0
    have e2 := own_sub_k n (-8) 8 (by decide) (by omega)
    exact own_step_k (s := 8) (c := 7) e e2 (own_n2_k _ _ (by omega) (by omega) (by omega))
theorem own_nlz_k (z : Int32) (h : 0 < z.toInt) : ∃ k : Nat, k ≤ 31 ∧ (own_nlz z).toInt = 31 - k ∧ z.toInt < 2 ^ (k + 1) := by
  have b := z.toInt_lt
  have h31 : (31 : Int32).toInt = 31 := by decide
  unfold own_nlz
  rw [if_pos (by rw [Int32.lt_iff_toInt_lt, show (0 : Int32).toInt = 0 by decide]; exact h)]
  by_cases h' : z < 65536
  · rw [if_pos h']
    rw [Int32.lt_iff_toInt_lt, show (65536 : Int32).toInt = 65536 by decide] at h'
    have := own_weak_k (c' := 31) (by decide) (own_n1_k z 31 (by omega) h' (by omega))
    rwa [h31] at this
  · rw [if_neg h']
    have e := own_ushr16 z (by omega)
    have e2 := own_sub_k 31 (-16) 16 (by decide) (by omega)
    have := own_step_k (s := 16) (c := 15) e e2 (own_n1_k _ _ (by omega) (by omega) (by omega))
    rwa [h31] at this
theorem own_nlz_b (z : Int32) (h : 0 < z.toInt) : 0 ≤ (own_nlz z).toInt ∧ (own_nlz z).toInt ≤ 31 := by
  obtain ⟨k, h1, h2, -⟩ := own_nlz_k z h
  omega
theorem own_length_b (z : Int32) (h : 0 ≤ z.toInt) : (z.toInt < 56 ∧ own_length z = 1) ∨ (56 ≤ z.toInt ∧ (own_length z = 2 ∨ own_length z = 3 ∨ own_length z = 4 ∨ own_length z = 5)) := by
  have e56 : (56 : Int32).toInt = 56 := by decide
  unfold own_length
  by_cases hz : z < 56
  · rw [if_pos hz]
    rw [Int32.lt_iff_toInt_lt, e56] at hz
    exact Or.inl ⟨hz, rfl⟩
  · rw [if_neg hz]
    rw [Int32.lt_iff_toInt_lt, e56] at hz
    refine Or.inr ⟨by omega, ?_⟩
    have b := own_nlz_b z (by omega)
    generalize own_nlz z = r at b ⊢
    have e32 : (32 : Int32).toInt = 32 := by decide
    have e7 : (7 : Int32).toInt = 7 := by decide
    have e8 : (8 : Int32).toInt = 8 := by decide
    have e1 : (1 : Int32).toInt = 1 := by decide
    have h1 : ((32 : Int32) - r).toInt = 32 - r.toInt := by rw [Jvm.Kit.i32_sub (by omega) (by omega), e32]
    have h2 : (((32 : Int32) - r) + 7).toInt = 39 - r.toInt := by rw [Jvm.Kit.i32_add (by omega) (by omega), h1, e7]; omega
    have h3 : ((((32 : Int32) - r) + 7) / 8).toInt = (39 - r.toInt) / 8 := by rw [Jvm.Kit.i32_div (by omega), h2, e8, Int.tdiv_eq_ediv_of_nonneg (by omega)]
    have h4 : ((1 : Int32) + (((32 : Int32) - r) + 7) / 8).toInt = 1 + (39 - r.toInt) / 8 := by rw [Jvm.Kit.i32_add (by omega) (by omega), h3, e1]
    rcases (show 1 + (39 - r.toInt) / 8 = 2 ∨ 1 + (39 - r.toInt) / 8 = 3 ∨ 1 + (39 - r.toInt) / 8 = 4 ∨ 1 + (39 - r.toInt) / 8 = 5 by omega) with e | e | e | e <;> rw [e] at h4
    · exact Or.inl (Int32.toInt_inj.mp h4)
    · exact Or.inr (Or.inl (Int32.toInt_inj.mp h4))
    · exact Or.inr (Or.inr (Or.inl (Int32.toInt_inj.mp h4)))
    · exact Or.inr (Or.inr (Or.inr (Int32.toInt_inj.mp h4)))
theorem bm8 (x : Int) : x.bmod (2 ^ 8) = (x + 128) % 256 - 128 := by
  rw [Int.bmod_def]; split <;> omega
theorem own_by8 (y : Int32) : (y.toInt8.toInt32).toInt = (y.toInt + 128) % 256 - 128 := by
  rw [Int8.toInt_toInt32, Int32.toInt_toInt8, bm8]
theorem own_pref (x : Int32) : ((nar .byte (nar .byte x.toInt8.toInt32)) &&& 255).toInt = x.toInt % 256 := by
  rw [Jvm.Kit.i32_mask _ 255 (k := 8) (by decide) (by decide)]
  show ((((x.toInt8.toInt32).toInt8.toInt32).toInt8.toInt32).toInt) % 2 ^ 8 = _
  rw [own_by8, own_by8, own_by8]
  omega
theorem own_and31 (x : Int32) : 0 ≤ (x &&& 2147483647).toInt := by
  rw [Jvm.Kit.i32_mask x 2147483647 (k := 31) (by decide) (by decide)]
  omega
theorem own_and127 (x : Int32) : 0 ≤ (x &&& 127).toInt ∧ (x &&& 127).toInt < 128 := by
  rw [Jvm.Kit.i32_mask x 127 (k := 7) (by decide) (by decide)]
  omega
theorem own_r56 (x : Int32) (h : 0 ≤ x.toInt) : 0 ≤ (x % 56).toInt := by
  rw [Jvm.Kit.i32_rem_nonneg h, show (56 : Int32).toInt = 56 by decide]
  omega
theorem d_jdk_33_method_47_0 : decode jdk_33_method_47_code 0 = .ok (.iload_n 0, 1) := by decide +kernel
theorem d_jdk_33_method_47_1 : decode jdk_33_method_47_code 1 = .ok (.ifCond .gt 14, 3) := by decide +kernel
theorem d_jdk_33_method_47_15 : decode jdk_33_method_47_code 15 = .ok (.bipush 31, 2) := by decide +kernel
theorem d_jdk_33_method_47_17 : decode jdk_33_method_47_code 17 = .ok (.istore_n 1, 1) := by decide +kernel
theorem d_jdk_33_method_47_18 : decode jdk_33_method_47_code 18 = .ok (.iload_n 0, 1) := by decide +kernel
theorem d_jdk_33_method_47_19 : decode jdk_33_method_47_code 19 = .ok (.ldc_w 264, 3) := by decide +kernel
theorem d_jdk_33_method_47_22 : decode jdk_33_method_47_code 22 = .ok (.if_icmp .lt 11, 3) := by decide +kernel
theorem d_jdk_33_method_47_33 : decode jdk_33_method_47_code 33 = .ok (.iload_n 0, 1) := by decide +kernel
theorem d_jdk_33_method_47_34 : decode jdk_33_method_47_code 34 = .ok (.sipush 256, 3) := by decide +kernel
theorem d_jdk_33_method_47_37 : decode jdk_33_method_47_code 37 = .ok (.if_icmp .lt 11, 3) := by decide +kernel
theorem d_jdk_33_method_47_48 : decode jdk_33_method_47_code 48 = .ok (.iload_n 0, 1) := by decide +kernel
theorem d_jdk_33_method_47_49 : decode jdk_33_method_47_code 49 = .ok (.bipush 16, 2) := by decide +kernel
theorem d_jdk_33_method_47_51 : decode jdk_33_method_47_code 51 = .ok (.if_icmp .lt 10, 3) := by decide +kernel
theorem d_jdk_33_method_47_61 : decode jdk_33_method_47_code 61 = .ok (.iload_n 0, 1) := by decide +kernel
theorem d_jdk_33_method_47_62 : decode jdk_33_method_47_code 62 = .ok (.iconst 4, 1) := by decide +kernel
theorem d_jdk_33_method_47_63 : decode jdk_33_method_47_code 63 = .ok (.if_icmp .lt 10, 3) := by decide +kernel
theorem d_jdk_33_method_47_73 : decode jdk_33_method_47_code 73 = .ok (.iload_n 1, 1) := by decide +kernel
theorem d_jdk_33_method_47_74 : decode jdk_33_method_47_code 74 = .ok (.iload_n 0, 1) := by decide +kernel
theorem d_jdk_33_method_47_75 : decode jdk_33_method_47_code 75 = .ok (.iconst 1, 1) := by decide +kernel
theorem d_jdk_33_method_47_76 : decode jdk_33_method_47_code 76 = .ok (.iushr, 1) := by decide +kernel
theorem d_jdk_33_method_47_77 : decode jdk_33_method_47_code 77 = .ok (.isub, 1) := by decide +kernel
theorem d_jdk_33_method_47_78 : decode jdk_33_method_47_code 78 = .ok (.ireturn, 1) := by decide +kernel
theorem d_jdk_33_method_47_66 : decode jdk_33_method_47_code 66 = .ok (.iinc 1 (-2), 3) := by decide +kernel
theorem d_jdk_33_method_47_69 : decode jdk_33_method_47_code 69 = .ok (.iload_n 0, 1) := by decide +kernel
theorem d_jdk_33_method_47_70 : decode jdk_33_method_47_code 70 = .ok (.iconst 2, 1) := by decide +kernel
theorem d_jdk_33_method_47_71 : decode jdk_33_method_47_code 71 = .ok (.iushr, 1) := by decide +kernel
theorem d_jdk_33_method_47_72 : decode jdk_33_method_47_code 72 = .ok (.istore_n 0, 1) := by decide +kernel
theorem d_jdk_33_method_47_54 : decode jdk_33_method_47_code 54 = .ok (.iinc 1 (-4), 3) := by decide +kernel
theorem d_jdk_33_method_47_57 : decode jdk_33_method_47_code 57 = .ok (.iload_n 0, 1) := by decide +kernel
theorem d_jdk_33_method_47_58 : decode jdk_33_method_47_code 58 = .ok (.iconst 4, 1) := by decide +kernel
theorem d_jdk_33_method_47_59 : decode jdk_33_method_47_code 59 = .ok (.iushr, 1) := by decide +kernel
theorem d_jdk_33_method_47_60 : decode jdk_33_method_47_code 60 = .ok (.istore_n 0, 1) := by decide +kernel
theorem d_jdk_33_method_47_40 : decode jdk_33_method_47_code 40 = .ok (.iinc 1 (-8), 3) := by decide +kernel
theorem d_jdk_33_method_47_43 : decode jdk_33_method_47_code 43 = .ok (.iload_n 0, 1) := by decide +kernel
theorem d_jdk_33_method_47_44 : decode jdk_33_method_47_code 44 = .ok (.bipush 8, 2) := by decide +kernel
theorem d_jdk_33_method_47_46 : decode jdk_33_method_47_code 46 = .ok (.iushr, 1) := by decide +kernel
theorem d_jdk_33_method_47_47 : decode jdk_33_method_47_code 47 = .ok (.istore_n 0, 1) := by decide +kernel
theorem d_jdk_33_method_47_25 : decode jdk_33_method_47_code 25 = .ok (.iinc 1 (-16), 3) := by decide +kernel
theorem d_jdk_33_method_47_28 : decode jdk_33_method_47_code 28 = .ok (.iload_n 0, 1) := by decide +kernel
theorem d_jdk_33_method_47_29 : decode jdk_33_method_47_code 29 = .ok (.bipush 16, 2) := by decide +kernel
theorem d_jdk_33_method_47_31 : decode jdk_33_method_47_code 31 = .ok (.iushr, 1) := by decide +kernel
theorem d_jdk_33_method_47_32 : decode jdk_33_method_47_code 32 = .ok (.istore_n 0, 1) := by decide +kernel
theorem d_jdk_33_method_47_4 : decode jdk_33_method_47_code 4 = .ok (.iload_n 0, 1) := by decide +kernel
theorem d_jdk_33_method_47_5 : decode jdk_33_method_47_code 5 = .ok (.ifCond .ne 8, 3) := by decide +kernel
theorem d_jdk_33_method_47_8 : decode jdk_33_method_47_code 8 = .ok (.bipush 32, 2) := by decide +kernel
theorem d_jdk_33_method_47_10 : decode jdk_33_method_47_code 10 = .ok (.goto 4, 3) := by decide +kernel
theorem d_jdk_33_method_47_14 : decode jdk_33_method_47_code 14 = .ok (.ireturn, 1) := by decide +kernel
theorem d_jdk_33_method_47_13 : decode jdk_33_method_47_code 13 = .ok (.iconst 0, 1) := by decide +kernel
theorem pn_0 : plainName "java/lang/Integer" = true := by first | (simp [plainName, overriddenIn]; done) | decide +kernel
theorem ef_m_nlz (m : MethodId) (x0 : Int32) : entryFrame m #[(.int x0)] 2 = mkF m 0 #[.val (.int x0), .unset] [] := by first | (simp [entryFrame, mkF, argsToLocals, Value.category]; done) | rfl
set_option maxRecDepth 65536 in
set_option maxHeartbeats 40000000 in
theorem m_nlz (l : Launch) (Z : State) (a0 : Array Value) (hw : ∀ d ∈ tables_1, d.before a0 Z = true) (z : Int32) :
    Pays l Z a0 (⟨"java/lang/Integer", "numberOfLeadingZeros", "(I)I"⟩ : MethodName) jdk_33_method_47_code 2 (some .int) ({ frames := 0, cells := 0, slots := 0, locals := 0 } : Room) #[(.int z)] [] (([] : Hs).map (·.1)) (fun v os' => ∃ (r : Int32), v = some (.int r) ∧ os' = [] ∧ r = own_nlz z) := by
  refine Pays.of (Ls := #[.val (.int z), .unset]) (plainFor_of_name pn_0) (fun m => ef_m_nlz m z) ?_
  intro p e s m below meth c T0 A0
  refine A0.iloadN (q := 1) d_jdk_33_method_47_0 rfl rfl ?_
  by_cases hc1_1 : (0 : Int32) < z
  · refine A0.ifYes (q := 15) d_jdk_33_method_47_1 ((if0 _ _).trans (tlt hc1_1).2.2.1) (by decide) (by decide) ?_
    refine A0.bipush (q := 17) (v := 31) d_jdk_33_method_47_15 rfl rfl ?_
    refine A0.istoreN (q := 18) (l' := #[.val (.int z), .val (.int 31)]) d_jdk_33_method_47_17 rfl rfl ?_
    refine A0.iloadN (q := 19) d_jdk_33_method_47_18 rfl rfl ?_
    refine A0.ldcw (qn := 22) (v := 65536) (tw hw 20 rfl) d_jdk_33_method_47_19 rfl ?_
    by_cases hc22_2 : z < (65536 : Int32)
    · refine A0.icmpYes (q := 33) d_jdk_33_method_47_22 (tlt hc22_2).1 (by decide) (by decide) ?_
      refine A0.iloadN (q := 34) d_jdk_33_method_47_33 rfl rfl ?_
      refine A0.sipush (q := 37) (v := 256) d_jdk_33_method_47_34 rfl rfl ?_
      by_cases hc37_3 : z < (256 : Int32)
      · refine A0.icmpYes (q := 48) d_jdk_33_method_47_37 (tlt hc37_3).1 (by decide) (by decide) ?_
        refine A0.iloadN (q := 49) d_jdk_33_method_47_48 rfl rfl ?_
        refine A0.bipush (q := 51) (v := 16) d_jdk_33_method_47_49 rfl rfl ?_
        by_cases hc51_4 : z < (16 : Int32)
        · refine A0.icmpYes (q := 61) d_jdk_33_method_47_51 (tlt hc51_4).1 (by decide) (by decide) ?_
          refine A0.iloadN (q := 62) d_jdk_33_method_47_61 rfl rfl ?_
          refine A0.iconst (q := 63) (v := 4) d_jdk_33_method_47_62 rfl rfl ?_
          by_cases hc63_5 : z < (4 : Int32)
          · refine A0.icmpYes (q := 73) d_jdk_33_method_47_63 (tlt hc63_5).1 (by decide) (by decide) ?_
            refine A0.iloadN (q := 74) d_jdk_33_method_47_73 rfl rfl ?_
            refine A0.iloadN (q := 75) d_jdk_33_method_47_74 rfl rfl ?_
            refine A0.iconst (q := 76) (v := 1) d_jdk_33_method_47_75 rfl rfl ?_
            refine A0.iushr (q := 77) d_jdk_33_method_47_76 rfl ?_
            refine A0.isub (q := 78) d_jdk_33_method_47_77 rfl ?_
            refine A0.retI d_jdk_33_method_47_78 (by decide) (by decide) ⟨((31 : Int32) - ((z.toUInt32 >>> ((1 : Int32) &&& 31).toUInt32).toInt32)), rfl, rfl, ?_⟩
            clear hw A0
            (simp only [own_nlz, own_n1, own_n2, own_n3, own_n4, hc1_1, hc22_2, hc37_3, hc51_4, hc63_5, if_true, if_false]) <;> rfl
          · refine A0.icmpNo (q := 66) d_jdk_33_method_47_63 (flt hc63_5).1 rfl ?_
            refine A0.iinc (q := 69) (l' := #[.val (.int z), .val (.int 29)]) d_jdk_33_method_47_66 rfl rfl rfl ?_
            refine A0.iloadN (q := 70) d_jdk_33_method_47_69 rfl rfl ?_
            refine A0.iconst (q := 71) (v := 2) d_jdk_33_method_47_70 rfl rfl ?_
            refine A0.iushr (q := 72) d_jdk_33_method_47_71 rfl ?_
            refine A0.istoreN (q := 73) (l' := #[.val (.int ((z.toUInt32 >>> ((2 : Int32) &&& 31).toUInt32).toInt32)), .val (.int 29)]) d_jdk_33_method_47_72 rfl rfl ?_
            refine A0.iloadN (q := 74) d_jdk_33_method_47_73 rfl rfl ?_
            refine A0.iloadN (q := 75) d_jdk_33_method_47_74 rfl rfl ?_
            refine A0.iconst (q := 76) (v := 1) d_jdk_33_method_47_75 rfl rfl ?_
            refine A0.iushr (q := 77) d_jdk_33_method_47_76 rfl ?_
            refine A0.isub (q := 78) d_jdk_33_method_47_77 rfl ?_
            refine A0.retI d_jdk_33_method_47_78 (by decide) (by decide) ⟨((29 : Int32) - ((((z.toUInt32 >>> ((2 : Int32) &&& 31).toUInt32).toInt32).toUInt32 >>> ((1 : Int32) &&& 31).toUInt32).toInt32)), rfl, rfl, ?_⟩
            clear hw A0
            (simp only [own_nlz, own_n1, own_n2, own_n3, own_n4, hc1_1, hc22_2, hc37_3, hc51_4, hc63_5, if_true, if_false]) <;> rfl
        · refine A0.icmpNo (q := 54) d_jdk_33_method_47_51 (flt hc51_4).1 rfl ?_
          refine A0.iinc (q := 57) (l' := #[.val (.int z), .val (.int 27)]) d_jdk_33_method_47_54 rfl rfl rfl ?_
          refine A0.iloadN (q := 58) d_jdk_33_method_47_57 rfl rfl ?_
          refine A0.iconst (q := 59) (v := 4) d_jdk_33_method_47_58 rfl rfl ?_
          refine A0.iushr (q := 60) d_jdk_33_method_47_59 rfl ?_
          refine A0.istoreN (q := 61) (l' := #[.val (.int ((z.toUInt32 >>> ((4 : Int32) &&& 31).toUInt32).toInt32)), .val (.int 27)]) d_jdk_33_method_47_60 rfl rfl ?_
          refine A0.iloadN (q := 62) d_jdk_33_method_47_61 rfl rfl ?_
          refine A0.iconst (q := 63) (v := 4) d_jdk_33_method_47_62 rfl rfl ?_
          by_cases hc63_6 : ((z.toUInt32 >>> ((4 : Int32) &&& 31).toUInt32).toInt32) < (4 : Int32)
          · refine A0.icmpYes (q := 73) d_jdk_33_method_47_63 (tlt hc63_6).1 (by decide) (by decide) ?_
            refine A0.iloadN (q := 74) d_jdk_33_method_47_73 rfl rfl ?_
            refine A0.iloadN (q := 75) d_jdk_33_method_47_74 rfl rfl ?_
            refine A0.iconst (q := 76) (v := 1) d_jdk_33_method_47_75 rfl rfl ?_
            refine A0.iushr (q := 77) d_jdk_33_method_47_76 rfl ?_
            refine A0.isub (q := 78) d_jdk_33_method_47_77 rfl ?_
            refine A0.retI d_jdk_33_method_47_78 (by decide) (by decide) ⟨((27 : Int32) - ((((z.toUInt32 >>> ((4 : Int32) &&& 31).toUInt32).toInt32).toUInt32 >>> ((1 : Int32) &&& 31).toUInt32).toInt32)), rfl, rfl, ?_⟩
            clear hw A0
            (simp only [own_nlz, own_n1, own_n2, own_n3, own_n4, hc1_1, hc22_2, hc37_3, hc51_4, hc63_6, if_true, if_false]) <;> rfl
          · refine A0.icmpNo (q := 66) d_jdk_33_method_47_63 (flt hc63_6).1 rfl ?_
            refine A0.iinc (q := 69) (l' := #[.val (.int ((z.toUInt32 >>> ((4 : Int32) &&& 31).toUInt32).toInt32)), .val (.int 25)]) d_jdk_33_method_47_66 rfl rfl rfl ?_
            refine A0.iloadN (q := 70) d_jdk_33_method_47_69 rfl rfl ?_
            refine A0.iconst (q := 71) (v := 2) d_jdk_33_method_47_70 rfl rfl ?_
            refine A0.iushr (q := 72) d_jdk_33_method_47_71 rfl ?_
            refine A0.istoreN (q := 73) (l' := #[.val (.int ((((z.toUInt32 >>> ((4 : Int32) &&& 31).toUInt32).toInt32).toUInt32 >>> ((2 : Int32) &&& 31).toUInt32).toInt32)), .val (.int 25)]) d_jdk_33_method_47_72 rfl rfl ?_
            refine A0.iloadN (q := 74) d_jdk_33_method_47_73 rfl rfl ?_
            refine A0.iloadN (q := 75) d_jdk_33_method_47_74 rfl rfl ?_
            refine A0.iconst (q := 76) (v := 1) d_jdk_33_method_47_75 rfl rfl ?_
            refine A0.iushr (q := 77) d_jdk_33_method_47_76 rfl ?_
            refine A0.isub (q := 78) d_jdk_33_method_47_77 rfl ?_
            refine A0.retI d_jdk_33_method_47_78 (by decide) (by decide) ⟨((25 : Int32) - ((((((z.toUInt32 >>> ((4 : Int32) &&& 31).toUInt32).toInt32).toUInt32 >>> ((2 : Int32) &&& 31).toUInt32).toInt32).toUInt32 >>> ((1 : Int32) &&& 31).toUInt32).toInt32)), rfl, rfl, ?_⟩
            clear hw A0
            (simp only [own_nlz, own_n1, own_n2, own_n3, own_n4, hc1_1, hc22_2, hc37_3, hc51_4, hc63_6, if_true, if_false]) <;> rfl
      · refine A0.icmpNo (q := 40) d_jdk_33_method_47_37 (flt hc37_3).1 rfl ?_
        refine A0.iinc (q := 43) (l' := #[.val (.int z), .val (.int 23)]) d_jdk_33_method_47_40 rfl rfl rfl ?_
        refine A0.iloadN (q := 44) d_jdk_33_method_47_43 rfl rfl ?_
        refine A0.bipush (q := 46) (v := 8) d_jdk_33_method_47_44 rfl rfl ?_
        refine A0.iushr (q := 47) d_jdk_33_method_47_46 rfl ?_
        refine A0.istoreN (q := 48) (l' := #[.val (.int ((z.toUInt32 >>> ((8 : Int32) &&& 31).toUInt32).toInt32)), .val (.int 23)]) d_jdk_33_method_47_47 rfl rfl ?_
        refine A0.iloadN (q := 49) d_jdk_33_method_47_48 rfl rfl ?_
        refine A0.bipush (q := 51) (v := 16) d_jdk_33_method_47_49 rfl rfl ?_
        by_cases hc51_7 : ((z.toUInt32 >>> ((8 : Int32) &&& 31).toUInt32).toInt32) < (16 : Int32)
        · refine A0.icmpYes (q := 61) d_jdk_33_method_47_51 (tlt hc51_7).1 (by decide) (by decide) ?_
          refine A0.iloadN (q := 62) d_jdk_33_method_47_61 rfl rfl ?_
          refine A0.iconst (q := 63) (v := 4) d_jdk_33_method_47_62 rfl rfl ?_
          by_cases hc63_8 : ((z.toUInt32 >>> ((8 : Int32) &&& 31).toUInt32).toInt32) < (4 : Int32)
          · refine A0.icmpYes (q := 73) d_jdk_33_method_47_63 (tlt hc63_8).1 (by decide) (by decide) ?_
            refine A0.iloadN (q := 74) d_jdk_33_method_47_73 rfl rfl ?_
            refine A0.iloadN (q := 75) d_jdk_33_method_47_74 rfl rfl ?_
            refine A0.iconst (q := 76) (v := 1) d_jdk_33_method_47_75 rfl rfl ?_
            refine A0.iushr (q := 77) d_jdk_33_method_47_76 rfl ?_
            refine A0.isub (q := 78) d_jdk_33_method_47_77 rfl ?_
            refine A0.retI d_jdk_33_method_47_78 (by decide) (by decide) ⟨((23 : Int32) - ((((z.toUInt32 >>> ((8 : Int32) &&& 31).toUInt32).toInt32).toUInt32 >>> ((1 : Int32) &&& 31).toUInt32).toInt32)), rfl, rfl, ?_⟩
            clear hw A0
            (simp only [own_nlz, own_n1, own_n2, own_n3, own_n4, hc1_1, hc22_2, hc37_3, hc51_7, hc63_8, if_true, if_false]) <;> rfl
          · refine A0.icmpNo (q := 66) d_jdk_33_method_47_63 (flt hc63_8).1 rfl ?_
            refine A0.iinc (q := 69) (l' := #[.val (.int ((z.toUInt32 >>> ((8 : Int32) &&& 31).toUInt32).toInt32)), .val (.int 21)]) d_jdk_33_method_47_66 rfl rfl rfl ?_
            refine A0.iloadN (q := 70) d_jdk_33_method_47_69 rfl rfl ?_
            refine A0.iconst (q := 71) (v := 2) d_jdk_33_method_47_70 rfl rfl ?_
            refine A0.iushr (q := 72) d_jdk_33_method_47_71 rfl ?_
            refine A0.istoreN (q := 73) (l' := #[.val (.int ((((z.toUInt32 >>> ((8 : Int32) &&& 31).toUInt32).toInt32).toUInt32 >>> ((2 : Int32) &&& 31).toUInt32).toInt32)), .val (.int 21)]) d_jdk_33_method_47_72 rfl rfl ?_
            refine A0.iloadN (q := 74) d_jdk_33_method_47_73 rfl rfl ?_
            refine A0.iloadN (q := 75) d_jdk_33_method_47_74 rfl rfl ?_
            refine A0.iconst (q := 76) (v := 1) d_jdk_33_method_47_75 rfl rfl ?_
            refine A0.iushr (q := 77) d_jdk_33_method_47_76 rfl ?_
            refine A0.isub (q := 78) d_jdk_33_method_47_77 rfl ?_
            refine A0.retI d_jdk_33_method_47_78 (by decide) (by decide) ⟨((21 : Int32) - ((((((z.toUInt32 >>> ((8 : Int32) &&& 31).toUInt32).toInt32).toUInt32 >>> ((2 : Int32) &&& 31).toUInt32).toInt32).toUInt32 >>> ((1 : Int32) &&& 31).toUInt32).toInt32)), rfl, rfl, ?_⟩
            clear hw A0
            (simp only [own_nlz, own_n1, own_n2, own_n3, own_n4, hc1_1, hc22_2, hc37_3, hc51_7, hc63_8, if_true, if_false]) <;> rfl
        · refine A0.icmpNo (q := 54) d_jdk_33_method_47_51 (flt hc51_7).1 rfl ?_
          refine A0.iinc (q := 57) (l' := #[.val (.int ((z.toUInt32 >>> ((8 : Int32) &&& 31).toUInt32).toInt32)), .val (.int 19)]) d_jdk_33_method_47_54 rfl rfl rfl ?_
          refine A0.iloadN (q := 58) d_jdk_33_method_47_57 rfl rfl ?_
          refine A0.iconst (q := 59) (v := 4) d_jdk_33_method_47_58 rfl rfl ?_
          refine A0.iushr (q := 60) d_jdk_33_method_47_59 rfl ?_
          refine A0.istoreN (q := 61) (l' := #[.val (.int ((((z.toUInt32 >>> ((8 : Int32) &&& 31).toUInt32).toInt32).toUInt32 >>> ((4 : Int32) &&& 31).toUInt32).toInt32)), .val (.int 19)]) d_jdk_33_method_47_60 rfl rfl ?_
          refine A0.iloadN (q := 62) d_jdk_33_method_47_61 rfl rfl ?_
          refine A0.iconst (q := 63) (v := 4) d_jdk_33_method_47_62 rfl rfl ?_
          by_cases hc63_9 : ((((z.toUInt32 >>> ((8 : Int32) &&& 31).toUInt32).toInt32).toUInt32 >>> ((4 : Int32) &&& 31).toUInt32).toInt32) < (4 : Int32)
          · refine A0.icmpYes (q := 73) d_jdk_33_method_47_63 (tlt hc63_9).1 (by decide) (by decide) ?_
            refine A0.iloadN (q := 74) d_jdk_33_method_47_73 rfl rfl ?_
            refine A0.iloadN (q := 75) d_jdk_33_method_47_74 rfl rfl ?_
            refine A0.iconst (q := 76) (v := 1) d_jdk_33_method_47_75 rfl rfl ?_
            refine A0.iushr (q := 77) d_jdk_33_method_47_76 rfl ?_
            refine A0.isub (q := 78) d_jdk_33_method_47_77 rfl ?_
            refine A0.retI d_jdk_33_method_47_78 (by decide) (by decide) ⟨((19 : Int32) - ((((((z.toUInt32 >>> ((8 : Int32) &&& 31).toUInt32).toInt32).toUInt32 >>> ((4 : Int32) &&& 31).toUInt32).toInt32).toUInt32 >>> ((1 : Int32) &&& 31).toUInt32).toInt32)), rfl, rfl, ?_⟩
            clear hw A0
            (simp only [own_nlz, own_n1, own_n2, own_n3, own_n4, hc1_1, hc22_2, hc37_3, hc51_7, hc63_9, if_true, if_false]) <;> rfl
          · refine A0.icmpNo (q := 66) d_jdk_33_method_47_63 (flt hc63_9).1 rfl ?_
            refine A0.iinc (q := 69) (l' := #[.val (.int ((((z.toUInt32 >>> ((8 : Int32) &&& 31).toUInt32).toInt32).toUInt32 >>> ((4 : Int32) &&& 31).toUInt32).toInt32)), .val (.int 17)]) d_jdk_33_method_47_66 rfl rfl rfl ?_
            refine A0.iloadN (q := 70) d_jdk_33_method_47_69 rfl rfl ?_
            refine A0.iconst (q := 71) (v := 2) d_jdk_33_method_47_70 rfl rfl ?_
            refine A0.iushr (q := 72) d_jdk_33_method_47_71 rfl ?_
            refine A0.istoreN (q := 73) (l' := #[.val (.int ((((((z.toUInt32 >>> ((8 : Int32) &&& 31).toUInt32).toInt32).toUInt32 >>> ((4 : Int32) &&& 31).toUInt32).toInt32).toUInt32 >>> ((2 : Int32) &&& 31).toUInt32).toInt32)), .val (.int 17)]) d_jdk_33_method_47_72 rfl rfl ?_
            refine A0.iloadN (q := 74) d_jdk_33_method_47_73 rfl rfl ?_
            refine A0.iloadN (q := 75) d_jdk_33_method_47_74 rfl rfl ?_
            refine A0.iconst (q := 76) (v := 1) d_jdk_33_method_47_75 rfl rfl ?_
            refine A0.iushr (q := 77) d_jdk_33_method_47_76 rfl ?_
            refine A0.isub (q := 78) d_jdk_33_method_47_77 rfl ?_
            refine A0.retI d_jdk_33_method_47_78 (by decide) (by decide) ⟨((17 : Int32) - ((((((((z.toUInt32 >>> ((8 : Int32) &&& 31).toUInt32).toInt32).toUInt32 >>> ((4 : Int32) &&& 31).toUInt32).toInt32).toUInt32 >>> ((2 : Int32) &&& 31).toUInt32).toInt32).toUInt32 >>> ((1 : Int32) &&& 31).toUInt32).toInt32)), rfl, rfl, ?_⟩
            clear hw A0
            (simp only [own_nlz, own_n1, own_n2, own_n3, own_n4, hc1_1, hc22_2, hc37_3, hc51_7, hc63_9, if_true, if_false]) <;> rfl
    · refine A0.icmpNo (q := 25) d_jdk_33_method_47_22 (flt hc22_2).1 rfl ?_
      refine A0.iinc (q := 28) (l' := #[.val (.int z), .val (.int 15)]) d_jdk_33_method_47_25 rfl rfl rfl ?_
      refine A0.iloadN (q := 29) d_jdk_33_method_47_28 rfl rfl ?_
      refine A0.bipush (q := 31) (v := 16) d_jdk_33_method_47_29 rfl rfl ?_
      refine A0.iushr (q := 32) d_jdk_33_method_47_31 rfl ?_
      refine A0.istoreN (q := 33) (l' := #[.val (.int ((z.toUInt32 >>> ((16 : Int32) &&& 31).toUInt32).toInt32)), .val (.int 15)]) d_jdk_33_method_47_32 rfl rfl ?_
      refine A0.iloadN (q := 34) d_jdk_33_method_47_33 rfl rfl ?_
      refine A0.sipush (q := 37) (v := 256) d_jdk_33_method_47_34 rfl rfl ?_
      by_cases hc37_10 : ((z.toUInt32 >>> ((16 : Int32) &&& 31).toUInt32).toInt32) < (256 : Int32)
      · refine A0.icmpYes (q := 48) d_jdk_33_method_47_37 (tlt hc37_10).1 (by decide) (by decide) ?_
        refine A0.iloadN (q := 49) d_jdk_33_method_47_48 rfl rfl ?_
        refine A0.bipush (q := 51) (v := 16) d_jdk_33_method_47_49 rfl rfl ?_
        by_cases hc51_11 : ((z.toUInt32 >>> ((16 : Int32) &&& 31).toUInt32).toInt32) < (16 : Int32)
        · refine A0.icmpYes (q := 61) d_jdk_33_method_47_51 (tlt hc51_11).1 (by decide) (by decide) ?_
          refine A0.iloadN (q := 62) d_jdk_33_method_47_61 rfl rfl ?_
          refine A0.iconst (q := 63) (v := 4) d_jdk_33_method_47_62 rfl rfl ?_
          by_cases hc63_12 : ((z.toUInt32 >>> ((16 : Int32) &&& 31).toUInt32).toInt32) < (4 : Int32)
          · refine A0.icmpYes (q := 73) d_jdk_33_method_47_63 (tlt hc63_12).1 (by decide) (by decide) ?_
            refine A0.iloadN (q := 74) d_jdk_33_method_47_73 rfl rfl ?_
            refine A0.iloadN (q := 75) d_jdk_33_method_47_74 rfl rfl ?_
            refine A0.iconst (q := 76) (v := 1) d_jdk_33_method_47_75 rfl rfl ?_
            refine A0.iushr (q := 77) d_jdk_33_method_47_76 rfl ?_
            refine A0.isub (q := 78) d_jdk_33_method_47_77 rfl ?_
            refine A0.retI d_jdk_33_method_47_78 (by decide) (by decide) ⟨((15 : Int32) - ((((z.toUInt32 >>> ((16 : Int32) &&& 31).toUInt32).toInt32).toUInt32 >>> ((1 : Int32) &&& 31).toUInt32).toInt32)), rfl, rfl, ?_⟩
            clear hw A0
            (simp only [own_nlz, own_n1, own_n2, own_n3, own_n4, hc1_1, hc22_2, hc37_10, hc51_11, hc63_12, if_true, if_false]) <;> rfl
          · refine A0.icmpNo (q := 66) d_jdk_33_method_47_63 (flt hc63_12).1 rfl ?_
            refine A0.iinc (q := 69) (l' := #[.val (.int ((z.toUInt32 >>> ((16 : Int32) &&& 31).toUInt32).toInt32)), .val (.int 13)]) d_jdk_33_method_47_66 rfl rfl rfl ?_
            refine A0.iloadN (q := 70) d_jdk_33_method_47_69 rfl rfl ?_
            refine A0.iconst (q := 71) (v := 2) d_jdk_33_method_47_70 rfl rfl ?_
            refine A0.iushr (q := 72) d_jdk_33_method_47_71 rfl ?_
            refine A0.istoreN (q := 73) (l' := #[.val (.int ((((z.toUInt32 >>> ((16 : Int32) &&& 31).toUInt32).toInt32).toUInt32 >>> ((2 : Int32) &&& 31).toUInt32).toInt32)), .val (.int 13)]) d_jdk_33_method_47_72 rfl rfl ?_
            refine A0.iloadN (q := 74) d_jdk_33_method_47_73 rfl rfl ?_
            refine A0.iloadN (q := 75) d_jdk_33_method_47_74 rfl rfl ?_
            refine A0.iconst (q := 76) (v := 1) d_jdk_33_method_47_75 rfl rfl ?_
            refine A0.iushr (q := 77) d_jdk_33_method_47_76 rfl ?_
            refine A0.isub (q := 78) d_jdk_33_method_47_77 rfl ?_
            refine A0.retI d_jdk_33_method_47_78 (by decide) (by decide) ⟨((13 : Int32) - ((((((z.toUInt32 >>> ((16 : Int32) &&& 31).toUInt32).toInt32).toUInt32 >>> ((2 : Int32) &&& 31).toUInt32).toInt32).toUInt32 >>> ((1 : Int32) &&& 31).toUInt32).toInt32)), rfl, rfl, ?_⟩
            clear hw A0
            (simp only [own_nlz, own_n1, own_n2, own_n3, own_n4, hc1_1, hc22_2, hc37_10, hc51_11, hc63_12, if_true, if_false]) <;> rfl
        · refine A0.icmpNo (q := 54) d_jdk_33_method_47_51 (flt hc51_11).1 rfl ?_
          refine A0.iinc (q := 57) (l' := #[.val (.int ((z.toUInt32 >>> ((16 : Int32) &&& 31).toUInt32).toInt32)), .val (.int 11)]) d_jdk_33_method_47_54 rfl rfl rfl ?_
          refine A0.iloadN (q := 58) d_jdk_33_method_47_57 rfl rfl ?_
          refine A0.iconst (q := 59) (v := 4) d_jdk_33_method_47_58 rfl rfl ?_
          refine A0.iushr (q := 60) d_jdk_33_method_47_59 rfl ?_
          refine A0.istoreN (q := 61) (l' := #[.val (.int ((((z.toUInt32 >>> ((16 : Int32) &&& 31).toUInt32).toInt32).toUInt32 >>> ((4 : Int32) &&& 31).toUInt32).toInt32)), .val (.int 11)]) d_jdk_33_method_47_60 rfl rfl ?_
          refine A0.iloadN (q := 62) d_jdk_33_method_47_61 rfl rfl ?_
          refine A0.iconst (q := 63) (v := 4) d_jdk_33_method_47_62 rfl rfl ?_
          by_cases hc63_13 : ((((z.toUInt32 >>> ((16 : Int32) &&& 31).toUInt32).toInt32).toUInt32 >>> ((4 : Int32) &&& 31).toUInt32).toInt32) < (4 : Int32)
          · refine A0.icmpYes (q := 73) d_jdk_33_method_47_63 (tlt hc63_13).1 (by decide) (by decide) ?_
            refine A0.iloadN (q := 74) d_jdk_33_method_47_73 rfl rfl ?_
            refine A0.iloadN (q := 75) d_jdk_33_method_47_74 rfl rfl ?_
            refine A0.iconst (q := 76) (v := 1) d_jdk_33_method_47_75 rfl rfl ?_
            refine A0.iushr (q := 77) d_jdk_33_method_47_76 rfl ?_
            refine A0.isub (q := 78) d_jdk_33_method_47_77 rfl ?_
            refine A0.retI d_jdk_33_method_47_78 (by decide) (by decide) ⟨((11 : Int32) - ((((((z.toUInt32 >>> ((16 : Int32) &&& 31).toUInt32).toInt32).toUInt32 >>> ((4 : Int32) &&& 31).toUInt32).toInt32).toUInt32 >>> ((1 : Int32) &&& 31).toUInt32).toInt32)), rfl, rfl, ?_⟩
            clear hw A0
            (simp only [own_nlz, own_n1, own_n2, own_n3, own_n4, hc1_1, hc22_2, hc37_10, hc51_11, hc63_13, if_true, if_false]) <;> rfl
          · refine A0.icmpNo (q := 66) d_jdk_33_method_47_63 (flt hc63_13).1 rfl ?_
            refine A0.iinc (q := 69) (l' := #[.val (.int ((((z.toUInt32 >>> ((16 : Int32) &&& 31).toUInt32).toInt32).toUInt32 >>> ((4 : Int32) &&& 31).toUInt32).toInt32)), .val (.int 9)]) d_jdk_33_method_47_66 rfl rfl rfl ?_
            refine A0.iloadN (q := 70) d_jdk_33_method_47_69 rfl rfl ?_
            refine A0.iconst (q := 71) (v := 2) d_jdk_33_method_47_70 rfl rfl ?_
            refine A0.iushr (q := 72) d_jdk_33_method_47_71 rfl ?_
            refine A0.istoreN (q := 73) (l' := #[.val (.int ((((((z.toUInt32 >>> ((16 : Int32) &&& 31).toUInt32).toInt32).toUInt32 >>> ((4 : Int32) &&& 31).toUInt32).toInt32).toUInt32 >>> ((2 : Int32) &&& 31).toUInt32).toInt32)), .val (.int 9)]) d_jdk_33_method_47_72 rfl rfl ?_
            refine A0.iloadN (q := 74) d_jdk_33_method_47_73 rfl rfl ?_
            refine A0.iloadN (q := 75) d_jdk_33_method_47_74 rfl rfl ?_
            refine A0.iconst (q := 76) (v := 1) d_jdk_33_method_47_75 rfl rfl ?_
            refine A0.iushr (q := 77) d_jdk_33_method_47_76 rfl ?_
            refine A0.isub (q := 78) d_jdk_33_method_47_77 rfl ?_
            refine A0.retI d_jdk_33_method_47_78 (by decide) (by decide) ⟨((9 : Int32) - ((((((((z.toUInt32 >>> ((16 : Int32) &&& 31).toUInt32).toInt32).toUInt32 >>> ((4 : Int32) &&& 31).toUInt32).toInt32).toUInt32 >>> ((2 : Int32) &&& 31).toUInt32).toInt32).toUInt32 >>> ((1 : Int32) &&& 31).toUInt32).toInt32)), rfl, rfl, ?_⟩
            clear hw A0
            (simp only [own_nlz, own_n1, own_n2, own_n3, own_n4, hc1_1, hc22_2, hc37_10, hc51_11, hc63_13, if_true, if_false]) <;> rfl
      · refine A0.icmpNo (q := 40) d_jdk_33_method_47_37 (flt hc37_10).1 rfl ?_
        refine A0.iinc (q := 43) (l' := #[.val (.int ((z.toUInt32 >>> ((16 : Int32) &&& 31).toUInt32).toInt32)), .val (.int 7)]) d_jdk_33_method_47_40 rfl rfl rfl ?_
        refine A0.iloadN (q := 44) d_jdk_33_method_47_43 rfl rfl ?_
        refine A0.bipush (q := 46) (v := 8) d_jdk_33_method_47_44 rfl rfl ?_
        refine A0.iushr (q := 47) d_jdk_33_method_47_46 rfl ?_
        refine A0.istoreN (q := 48) (l' := #[.val (.int ((((z.toUInt32 >>> ((16 : Int32) &&& 31).toUInt32).toInt32).toUInt32 >>> ((8 : Int32) &&& 31).toUInt32).toInt32)), .val (.int 7)]) d_jdk_33_method_47_47 rfl rfl ?_
        refine A0.iloadN (q := 49) d_jdk_33_method_47_48 rfl rfl ?_
        refine A0.bipush (q := 51) (v := 16) d_jdk_33_method_47_49 rfl rfl ?_
        by_cases hc51_14 : ((((z.toUInt32 >>> ((16 : Int32) &&& 31).toUInt32).toInt32).toUInt32 >>> ((8 : Int32) &&& 31).toUInt32).toInt32) < (16 : Int32)
        · refine A0.icmpYes (q := 61) d_jdk_33_method_47_51 (tlt hc51_14).1 (by decide) (by decide) ?_
          refine A0.iloadN (q := 62) d_jdk_33_method_47_61 rfl rfl ?_
          refine A0.iconst (q := 63) (v := 4) d_jdk_33_method_47_62 rfl rfl ?_
          by_cases hc63_15 : ((((z.toUInt32 >>> ((16 : Int32) &&& 31).toUInt32).toInt32).toUInt32 >>> ((8 : Int32) &&& 31).toUInt32).toInt32) < (4 : Int32)
          · refine A0.icmpYes (q := 73) d_jdk_33_method_47_63 (tlt hc63_15).1 (by decide) (by decide) ?_
            refine A0.iloadN (q := 74) d_jdk_33_method_47_73 rfl rfl ?_
            refine A0.iloadN (q := 75) d_jdk_33_method_47_74 rfl rfl ?_
            refine A0.iconst (q := 76) (v := 1) d_jdk_33_method_47_75 rfl rfl ?_
            refine A0.iushr (q := 77) d_jdk_33_method_47_76 rfl ?_
            refine A0.isub (q := 78) d_jdk_33_method_47_77 rfl ?_
            refine A0.retI d_jdk_33_method_47_78 (by decide) (by decide) ⟨((7 : Int32) - ((((((z.toUInt32 >>> ((16 : Int32) &&& 31).toUInt32).toInt32).toUInt32 >>> ((8 : Int32) &&& 31).toUInt32).toInt32).toUInt32 >>> ((1 : Int32) &&& 31).toUInt32).toInt32)), rfl, rfl, ?_⟩
            clear hw A0
            (simp only [own_nlz, own_n1, own_n2, own_n3, own_n4, hc1_1, hc22_2, hc37_10, hc51_14, hc63_15, if_true, if_false]) <;> rfl
          · refine A0.icmpNo (q := 66) d_jdk_33_method_47_63 (flt hc63_15).1 rfl ?_
            refine A0.iinc (q := 69) (l' := #[.val (.int ((((z.toUInt32 >>> ((16 : Int32) &&& 31).toUInt32).toInt32).toUInt32 >>> ((8 : Int32) &&& 31).toUInt32).toInt32)), .val (.int 5)]) d_jdk_33_method_47_66 rfl rfl rfl ?_
            refine A0.iloadN (q := 70) d_jdk_33_method_47_69 rfl rfl ?_
            refine A0.iconst (q := 71) (v := 2) d_jdk_33_method_47_70 rfl rfl ?_
            refine A0.iushr (q := 72) d_jdk_33_method_47_71 rfl ?_
            refine A0.istoreN (q := 73) (l' := #[.val (.int ((((((z.toUInt32 >>> ((16 : Int32) &&& 31).toUInt32).toInt32).toUInt32 >>> ((8 : Int32) &&& 31).toUInt32).toInt32).toUInt32 >>> ((2 : Int32) &&& 31).toUInt32).toInt32)), .val (.int 5)]) d_jdk_33_method_47_72 rfl rfl ?_
            refine A0.iloadN (q := 74) d_jdk_33_method_47_73 rfl rfl ?_
            refine A0.iloadN (q := 75) d_jdk_33_method_47_74 rfl rfl ?_
            refine A0.iconst (q := 76) (v := 1) d_jdk_33_method_47_75 rfl rfl ?_
            refine A0.iushr (q := 77) d_jdk_33_method_47_76 rfl ?_
            refine A0.isub (q := 78) d_jdk_33_method_47_77 rfl ?_
            refine A0.retI d_jdk_33_method_47_78 (by decide) (by decide) ⟨((5 : Int32) - ((((((((z.toUInt32 >>> ((16 : Int32) &&& 31).toUInt32).toInt32).toUInt32 >>> ((8 : Int32) &&& 31).toUInt32).toInt32).toUInt32 >>> ((2 : Int32) &&& 31).toUInt32).toInt32).toUInt32 >>> ((1 : Int32) &&& 31).toUInt32).toInt32)), rfl, rfl, ?_⟩
            clear hw A0
            (simp only [own_nlz, own_n1, own_n2, own_n3, own_n4, hc1_1, hc22_2, hc37_10, hc51_14, hc63_15, if_true, if_false]) <;> rfl
        · refine A0.icmpNo (q := 54) d_jdk_33_method_47_51 (flt hc51_14).1 rfl ?_
          refine A0.iinc (q := 57) (l' := #[.val (.int ((((z.toUInt32 >>> ((16 : Int32) &&& 31).toUInt32).toInt32).toUInt32 >>> ((8 : Int32) &&& 31).toUInt32).toInt32)), .val (.int 3)]) d_jdk_33_method_47_54 rfl rfl rfl ?_
          refine A0.iloadN (q := 58) d_jdk_33_method_47_57 rfl rfl ?_
          refine A0.iconst (q := 59) (v := 4) d_jdk_33_method_47_58 rfl rfl ?_
          refine A0.iushr (q := 60) d_jdk_33_method_47_59 rfl ?_
          refine A0.istoreN (q := 61) (l' := #[.val (.int ((((((z.toUInt32 >>> ((16 : Int32) &&& 31).toUInt32).toInt32).toUInt32 >>> ((8 : Int32) &&& 31).toUInt32).toInt32).toUInt32 >>> ((4 : Int32) &&& 31).toUInt32).toInt32)), .val (.int 3)]) d_jdk_33_method_47_60 rfl rfl ?_
          refine A0.iloadN (q := 62) d_jdk_33_method_47_61 rfl rfl ?_
          refine A0.iconst (q := 63) (v := 4) d_jdk_33_method_47_62 rfl rfl ?_
          by_cases hc63_16 : ((((((z.toUInt32 >>> ((16 : Int32) &&& 31).toUInt32).toInt32).toUInt32 >>> ((8 : Int32) &&& 31).toUInt32).toInt32).toUInt32 >>> ((4 : Int32) &&& 31).toUInt32).toInt32) < (4 : Int32)
          · refine A0.icmpYes (q := 73) d_jdk_33_method_47_63 (tlt hc63_16).1 (by decide) (by decide) ?_
            refine A0.iloadN (q := 74) d_jdk_33_method_47_73 rfl rfl ?_
            refine A0.iloadN (q := 75) d_jdk_33_method_47_74 rfl rfl ?_
            refine A0.iconst (q := 76) (v := 1) d_jdk_33_method_47_75 rfl rfl ?_
            refine A0.iushr (q := 77) d_jdk_33_method_47_76 rfl ?_
            refine A0.isub (q := 78) d_jdk_33_method_47_77 rfl ?_
            refine A0.retI d_jdk_33_method_47_78 (by decide) (by decide) ⟨((3 : Int32) - ((((((((z.toUInt32 >>> ((16 : Int32) &&& 31).toUInt32).toInt32).toUInt32 >>> ((8 : Int32) &&& 31).toUInt32).toInt32).toUInt32 >>> ((4 : Int32) &&& 31).toUInt32).toInt32).toUInt32 >>> ((1 : Int32) &&& 31).toUInt32).toInt32)), rfl, rfl, ?_⟩
            clear hw A0
            (simp only [own_nlz, own_n1, own_n2, own_n3, own_n4, hc1_1, hc22_2, hc37_10, hc51_14, hc63_16, if_true, if_false]) <;> rfl
          · refine A0.icmpNo (q := 66) d_jdk_33_method_47_63 (flt hc63_16).1 rfl ?_
            refine A0.iinc (q := 69) (l' := #[.val (.int ((((((z.toUInt32 >>> ((16 : Int32) &&& 31).toUInt32).toInt32).toUInt32 >>> ((8 : Int32) &&& 31).toUInt32).toInt32).toUInt32 >>> ((4 : Int32) &&& 31).toUInt32).toInt32)), .val (.int 1)]) d_jdk_33_method_47_66 rfl rfl rfl ?_
            refine A0.iloadN (q := 70) d_jdk_33_method_47_69 rfl rfl ?_
            refine A0.iconst (q := 71) (v := 2) d_jdk_33_method_47_70 rfl rfl ?_
            refine A0.iushr (q := 72) d_jdk_33_method_47_71 rfl ?_
            refine A0.istoreN (q := 73) (l' := #[.val (.int ((((((((z.toUInt32 >>> ((16 : Int32) &&& 31).toUInt32).toInt32).toUInt32 >>> ((8 : Int32) &&& 31).toUInt32).toInt32).toUInt32 >>> ((4 : Int32) &&& 31).toUInt32).toInt32).toUInt32 >>> ((2 : Int32) &&& 31).toUInt32).toInt32)), .val (.int 1)]) d_jdk_33_method_47_72 rfl rfl ?_
            refine A0.iloadN (q := 74) d_jdk_33_method_47_73 rfl rfl ?_
            refine A0.iloadN (q := 75) d_jdk_33_method_47_74 rfl rfl ?_
            refine A0.iconst (q := 76) (v := 1) d_jdk_33_method_47_75 rfl rfl ?_
            refine A0.iushr (q := 77) d_jdk_33_method_47_76 rfl ?_
            refine A0.isub (q := 78) d_jdk_33_method_47_77 rfl ?_
            refine A0.retI d_jdk_33_method_47_78 (by decide) (by decide) ⟨((1 : Int32) - ((((((((((z.toUInt32 >>> ((16 : Int32) &&& 31).toUInt32).toInt32).toUInt32 >>> ((8 : Int32) &&& 31).toUInt32).toInt32).toUInt32 >>> ((4 : Int32) &&& 31).toUInt32).toInt32).toUInt32 >>> ((2 : Int32) &&& 31).toUInt32).toInt32).toUInt32 >>> ((1 : Int32) &&& 31).toUInt32).toInt32)), rfl, rfl, ?_⟩
            clear hw A0
            (simp only [own_nlz, own_n1, own_n2, own_n3, own_n4, hc1_1, hc22_2, hc37_10, hc51_14, hc63_16, if_true, if_false]) <;> rfl
  · refine A0.ifNo (q := 4) d_jdk_33_method_47_1 ((if0 _ _).trans (flt hc1_1).2.2.1) rfl ?_
    refine A0.iloadN (q := 5) d_jdk_33_method_47_4 rfl rfl ?_
    by_cases hc5_17 : z = (0 : Int32)
    · refine A0.ifNo (q := 8) d_jdk_33_method_47_5 ((if0 _ _).trans (teq hc5_17).2) rfl ?_
      refine A0.bipush (q := 10) (v := 32) d_jdk_33_method_47_8 rfl rfl ?_
      refine A0.goto (q := 14) d_jdk_33_method_47_10 (by decide) (by decide) ?_
      refine A0.retI d_jdk_33_method_47_14 (by decide) (by decide) ⟨(32 : Int32), rfl, rfl, ?_⟩
      clear hw A0
      (simp only [own_nlz, own_n1, own_n2, own_n3, own_n4, hc1_1, hc5_17, if_true, if_false]) <;> rfl
    · refine A0.ifYes (q := 13) d_jdk_33_method_47_5 ((if0 _ _).trans (feq hc5_17).2) (by decide) (by decide) ?_
      refine A0.iconst (q := 14) (v := 0) d_jdk_33_method_47_13 rfl rfl ?_
      refine A0.retI d_jdk_33_method_47_14 (by decide) (by decide) ⟨(0 : Int32), rfl, rfl, ?_⟩
      clear hw A0
      (simp only [own_nlz, own_n1, own_n2, own_n3, own_n4, hc1_1, hc5_17, if_true, if_false]) <;> rfl
theorem d_prog_109_method_4_0 : decode prog_109_method_4_code 0 = .ok (.iconst 1, 1) := by decide +kernel
theorem d_prog_109_method_4_1 : decode prog_109_method_4_code 1 = .ok (.istore_n 1, 1) := by decide +kernel
theorem d_prog_109_method_4_2 : decode prog_109_method_4_code 2 = .ok (.iload_n 0, 1) := by decide +kernel
theorem d_prog_109_method_4_3 : decode prog_109_method_4_code 3 = .ok (.bipush 56, 2) := by decide +kernel
theorem d_prog_109_method_4_5 : decode prog_109_method_4_code 5 = .ok (.if_icmp .lt 19, 3) := by decide +kernel
theorem d_prog_109_method_4_24 : decode prog_109_method_4_code 24 = .ok (.iload_n 1, 1) := by decide +kernel
theorem d_prog_109_method_4_25 : decode prog_109_method_4_code 25 = .ok (.ireturn, 1) := by decide +kernel
theorem d_prog_109_method_4_8 : decode prog_109_method_4_code 8 = .ok (.iload_n 1, 1) := by decide +kernel
theorem d_prog_109_method_4_9 : decode prog_109_method_4_code 9 = .ok (.bipush 32, 2) := by decide +kernel
theorem d_prog_109_method_4_11 : decode prog_109_method_4_code 11 = .ok (.iload_n 0, 1) := by decide +kernel
theorem d_prog_109_method_4_12 : decode prog_109_method_4_code 12 = .ok (.invokestatic 11, 3) := by decide +kernel
theorem pd_1 : parseMethodDescriptor "(I)I" = some ⟨[.int], some .int⟩ := by decide +kernel
theorem d_prog_109_method_4_15 : decode prog_109_method_4_code 15 = .ok (.isub, 1) := by decide +kernel
theorem d_prog_109_method_4_16 : decode prog_109_method_4_code 16 = .ok (.bipush 7, 2) := by decide +kernel
theorem d_prog_109_method_4_18 : decode prog_109_method_4_code 18 = .ok (.iadd, 1) := by decide +kernel
theorem d_prog_109_method_4_19 : decode prog_109_method_4_code 19 = .ok (.bipush 8, 2) := by decide +kernel
theorem d_prog_109_method_4_21 : decode prog_109_method_4_code 21 = .ok (.idiv, 1) := by decide +kernel
theorem d_prog_109_method_4_22 : decode prog_109_method_4_code 22 = .ok (.iadd, 1) := by decide +kernel
theorem d_prog_109_method_4_23 : decode prog_109_method_4_code 23 = .ok (.istore_n 1, 1) := by decide +kernel
theorem pn_2 : plainName "com/example/wirecall/wirecall/RlpHeader" = true := by first | (simp [plainName, overriddenIn]; done) | decide +kernel
theorem ef_m_len (m : MethodId) (x0 : Int32) : entryFrame m #[(.int x0)] 2 = mkF m 0 #[.val (.int x0), .unset] [] := by first | (simp [entryFrame, mkF, argsToLocals, Value.category]; done) | rfl
set_option maxRecDepth 65536 in
set_option maxHeartbeats 40000000 in
theorem m_len (l : Launch) (Z : State) (a0 : Array Value) (hw : ∀ d ∈ tables_1, d.before a0 Z = true) (z : Int32) :
    Pays l Z a0 (⟨"com/example/wirecall/wirecall/RlpHeader", "length", "(I)I"⟩ : MethodName) prog_109_method_4_code 2 (some .int) ({ frames := 1, cells := 0, slots := 0, locals := 15 } : Room) #[(.int z)] [] (([] : Hs).map (·.1)) (fun v os' => ∃ (r : Int32), v = some (.int r) ∧ os' = [] ∧ r = own_length z) := by
  refine Pays.of (Ls := #[.val (.int z), .unset]) (plainFor_of_name pn_2) (fun m => ef_m_len m z) ?_
  intro p e s m below meth c T0 A0
  refine A0.iconst (q := 1) (v := 1) d_prog_109_method_4_0 rfl rfl ?_
  refine A0.istoreN (q := 2) (l' := #[.val (.int z), .val (.int 1)]) d_prog_109_method_4_1 rfl rfl ?_
  refine A0.iloadN (q := 3) d_prog_109_method_4_2 rfl rfl ?_
  refine A0.bipush (q := 5) (v := 56) d_prog_109_method_4_3 rfl rfl ?_
  by_cases hc5_1 : z < (56 : Int32)
  · refine A0.icmpYes (q := 24) d_prog_109_method_4_5 (tlt hc5_1).1 (by decide) (by decide) ?_
    refine A0.iloadN (q := 25) d_prog_109_method_4_24 rfl rfl ?_
    refine A0.retI d_prog_109_method_4_25 (by decide) (by decide) ⟨(1 : Int32), rfl, rfl, ?_⟩
    clear hw A0
    (simp only [own_length, hc5_1, if_true, if_false]) <;> rfl
  · refine A0.icmpNo (q := 8) d_prog_109_method_4_5 (flt hc5_1).1 rfl ?_
    refine A0.iloadN (q := 9) d_prog_109_method_4_8 rfl rfl ?_
    refine A0.bipush (q := 11) (v := 32) d_prog_109_method_4_9 rfl rfl ?_
    refine A0.iloadN (q := 12) d_prog_109_method_4_11 rfl rfl ?_
    refine Here.callS (qn := 15) (os1 := []) (os2 := []) (rest := [(.int 32), (.int 1)]) (W := 2) (argsL := [(.int z)]) A0 (m_nlz l Z a0 hw z) (Or.inl rfl) (tw hw 16 rfl) (tw hw 17 rfl) (tw hw 18 rfl) (tw hw 19 rfl) (by decide) d_prog_109_method_4_12 rfl (lenOf pd_1 rfl) rfl (Nat.le_of_eq rfl) (by decide) (by decide) (by decide) (by decide) rfl (fun T2 v3 os4 A5 P6 => ?_)
    obtain ⟨r_12, rfl, rfl, hq_12⟩ := P6
    have A7 := A5.cast (k2 := 0) (n2 := 0) (os2 := []) rfl rfl rfl
    refine A7.isub (q := 16) d_prog_109_method_4_15 rfl ?_
    refine A7.bipush (q := 18) (v := 7) d_prog_109_method_4_16 rfl rfl ?_
    refine A7.iadd (q := 19) d_prog_109_method_4_18 rfl ?_
    refine A7.bipush (q := 21) (v := 8) d_prog_109_method_4_19 rfl rfl ?_
    refine A7.idiv (q := 22) d_prog_109_method_4_21 (by decide) rfl ?_
    refine A7.iadd (q := 23) d_prog_109_method_4_22 rfl ?_
    refine A7.istoreN (q := 24) (l' := #[.val (.int z), .val (.int ((1 : Int32) + ((((32 : Int32) - r_12) + (7 : Int32)) / (8 : Int32))))]) d_prog_109_method_4_23 rfl rfl ?_
    refine A7.iloadN (q := 25) d_prog_109_method_4_24 rfl rfl ?_
    refine A7.retI d_prog_109_method_4_25 (by decide) (by decide) ⟨((1 : Int32) + ((((32 : Int32) - r_12) + (7 : Int32)) / (8 : Int32))), rfl, rfl, ?_⟩
    clear hw A0 A5 A7
    (simp only [own_length, hc5_1, hq_12, if_true, if_false]) <;> rfl
theorem d_prog_109_method_2_0 : decode prog_109_method_2_code 0 = .ok (.iload_n 0, 1) := by decide +kernel
theorem d_prog_109_method_2_1 : decode prog_109_method_2_code 1 = .ok (.sipush 192, 3) := by decide +kernel
theorem d_prog_109_method_2_4 : decode prog_109_method_2_code 4 = .ok (.if_icmp .ge 11, 3) := by decide +kernel
theorem d_prog_109_method_2_7 : decode prog_109_method_2_code 7 = .ok (.iload_n 0, 1) := by decide +kernel
theorem d_prog_109_method_2_8 : decode prog_109_method_2_code 8 = .ok (.sipush 128, 3) := by decide +kernel
theorem d_prog_109_method_2_11 : decode prog_109_method_2_code 11 = .ok (.isub, 1) := by decide +kernel
theorem d_prog_109_method_2_12 : decode prog_109_method_2_code 12 = .ok (.goto 8, 3) := by decide +kernel
theorem d_prog_109_method_2_20 : decode prog_109_method_2_code 20 = .ok (.ireturn, 1) := by decide +kernel
theorem d_prog_109_method_2_15 : decode prog_109_method_2_code 15 = .ok (.iload_n 0, 1) := by decide +kernel
theorem d_prog_109_method_2_16 : decode prog_109_method_2_code 16 = .ok (.sipush 192, 3) := by decide +kernel
theorem d_prog_109_method_2_19 : decode prog_109_method_2_code 19 = .ok (.isub, 1) := by decide +kernel
theorem ef_m_code (m : MethodId) (x0 : Int32) : entryFrame m #[(.int x0)] 1 = mkF m 0 #[.val (.int x0)] [] := by first | (simp [entryFrame, mkF, argsToLocals, Value.category]; done) | rfl
set_option maxRecDepth 65536 in
set_option maxHeartbeats 40000000 in
theorem m_code (l : Launch) (Z : State) (a0 : Array Value) (hw : ∀ d ∈ tables_1, d.before a0 Z = true) (z : Int32) (hz : 0 ≤ z.toInt ∧ z.toInt ≤ 255) :
    Pays l Z a0 (⟨"com/example/wirecall/wirecall/RlpHeader", "code", "(I)I"⟩ : MethodName) prog_109_method_2_code 1 (some .int) ({ frames := 0, cells := 0, slots := 0, locals := 0 } : Room) #[(.int z)] [] (([] : Hs).map (·.1)) (fun v os' => ∃ (r : Int32), v = some (.int r) ∧ os' = [] ∧ ((z.toInt < 192 ∧ r.toInt = z.toInt - 128) ∨ (192 ≤ z.toInt ∧ r.toInt = z.toInt - 192))) := by
  refine Pays.of (Ls := #[.val (.int z)]) (plainFor_of_name pn_2) (fun m => ef_m_code m z) ?_
  intro p e s m below meth c T0 A0
  refine A0.iloadN (q := 1) d_prog_109_method_2_0 rfl rfl ?_
  refine A0.sipush (q := 4) (v := 192) d_prog_109_method_2_1 rfl rfl ?_
  by_cases hc4_1 : z < (192 : Int32)
  · refine A0.icmpNo (q := 7) d_prog_109_method_2_4 (tlt hc4_1).2.1 rfl ?_
    refine A0.iloadN (q := 8) d_prog_109_method_2_7 rfl rfl ?_
    refine A0.sipush (q := 11) (v := 128) d_prog_109_method_2_8 rfl rfl ?_
    refine A0.isub (q := 12) d_prog_109_method_2_11 rfl ?_
    refine A0.goto (q := 20) d_prog_109_method_2_12 (by decide) (by decide) ?_
    refine A0.retI d_prog_109_method_2_20 (by decide) (by decide) ⟨(z - (128 : Int32)), rfl, rfl, ?_⟩
    clear hw A0
    (try simp only [true_and, and_true, false_and, and_false, true_or, or_true, false_or, or_false, not_true_eq_false, not_false_eq_true, Int32.lt_iff_toInt_lt, Int64.lt_iff_toInt_lt, Int32.le_iff_toInt_le, Int64.le_iff_toInt_le, ← Int32.toInt_inj, ← Int64.toInt_inj, Int32.toInt_add, Int32.toInt_sub, Int32.toInt_neg, Int64.toInt_add, Int64.toInt_sub, Int64.toInt_neg, Int64.toInt_mul, Int32.toInt_toInt64, bm32, bm64, l32_m128, l32_0, l32_1, l32_2, l32_5, l32_7, l32_8, l32_32, l32_55, l32_56, l32_127, l32_128, l32_192, l32_255, l32_2147483647] at hc4_1 hz ⊢) <;> omega
  · refine A0.icmpYes (q := 15) d_prog_109_method_2_4 (flt hc4_1).2.1 (by decide) (by decide) ?_
    refine A0.iloadN (q := 16) d_prog_109_method_2_15 rfl rfl ?_
    refine A0.sipush (q := 19) (v := 192) d_prog_109_method_2_16 rfl rfl ?_
    refine A0.isub (q := 20) d_prog_109_method_2_19 rfl ?_
    refine A0.retI d_prog_109_method_2_20 (by decide) (by decide) ⟨(z - (192 : Int32)), rfl, rfl, ?_⟩
    clear hw A0
    (try simp only [true_and, and_true, false_and, and_false, true_or, or_true, false_or, or_false, not_true_eq_false, not_false_eq_true, Int32.lt_iff_toInt_lt, Int64.lt_iff_toInt_lt, Int32.le_iff_toInt_le, Int64.le_iff_toInt_le, ← Int32.toInt_inj, ← Int64.toInt_inj, Int32.toInt_add, Int32.toInt_sub, Int32.toInt_neg, Int64.toInt_add, Int64.toInt_sub, Int64.toInt_neg, Int64.toInt_mul, Int32.toInt_toInt64, bm32, bm64, l32_m128, l32_0, l32_1, l32_2, l32_5, l32_7, l32_8, l32_32, l32_55, l32_56, l32_127, l32_128, l32_192, l32_255, l32_2147483647] at hc4_1 hz ⊢) <;> omega
theorem d_prog_109_method_3_0 : decode prog_109_method_3_code 0 = .ok (.iload_n 0, 1) := by decide +kernel
theorem d_prog_109_method_3_1 : decode prog_109_method_3_code 1 = .ok (.bipush 56, 2) := by decide +kernel
theorem d_prog_109_method_3_3 : decode prog_109_method_3_code 3 = .ok (.if_icmp .ge 7, 3) := by decide +kernel
theorem d_prog_109_method_3_6 : decode prog_109_method_3_code 6 = .ok (.iconst 0, 1) := by decide +kernel
theorem d_prog_109_method_3_7 : decode prog_109_method_3_code 7 = .ok (.goto 7, 3) := by decide +kernel
theorem d_prog_109_method_3_14 : decode prog_109_method_3_code 14 = .ok (.ireturn, 1) := by decide +kernel
theorem d_prog_109_method_3_10 : decode prog_109_method_3_code 10 = .ok (.iload_n 0, 1) := by decide +kernel
theorem d_prog_109_method_3_11 : decode prog_109_method_3_code 11 = .ok (.bipush 55, 2) := by decide +kernel
theorem d_prog_109_method_3_13 : decode prog_109_method_3_code 13 = .ok (.isub, 1) := by decide +kernel
theorem ef_m_lb (m : MethodId) (x0 : Int32) : entryFrame m #[(.int x0)] 1 = mkF m 0 #[.val (.int x0)] [] := by first | (simp [entryFrame, mkF, argsToLocals, Value.category]; done) | rfl
set_option maxRecDepth 65536 in
set_option maxHeartbeats 40000000 in
theorem m_lb (l : Launch) (Z : State) (a0 : Array Value) (hw : ∀ d ∈ tables_1, d.before a0 Z = true) (z : Int32) (hz : z.toInt ≤ 255) :
    Pays l Z a0 (⟨"com/example/wirecall/wirecall/RlpHeader", "lengthBytes", "(I)I"⟩ : MethodName) prog_109_method_3_code 1 (some .int) ({ frames := 0, cells := 0, slots := 0, locals := 0 } : Room) #[(.int z)] [] (([] : Hs).map (·.1)) (fun v os' => ∃ (r : Int32), v = some (.int r) ∧ os' = [] ∧ ((z.toInt < 56 ∧ r = 0) ∨ (56 ≤ z.toInt ∧ r.toInt = z.toInt - 55))) := by
  refine Pays.of (Ls := #[.val (.int z)]) (plainFor_of_name pn_2) (fun m => ef_m_lb m z) ?_
  intro p e s m below meth c T0 A0
  refine A0.iloadN (q := 1) d_prog_109_method_3_0 rfl rfl ?_
  refine A0.bipush (q := 3) (v := 56) d_prog_109_method_3_1 rfl rfl ?_
  by_cases hc3_1 : z < (56 : Int32)
  · refine A0.icmpNo (q := 6) d_prog_109_method_3_3 (tlt hc3_1).2.1 rfl ?_
    refine A0.iconst (q := 7) (v := 0) d_prog_109_method_3_6 rfl rfl ?_
    refine A0.goto (q := 14) d_prog_109_method_3_7 (by decide) (by decide) ?_
    refine A0.retI d_prog_109_method_3_14 (by decide) (by decide) ⟨(0 : Int32), rfl, rfl, ?_⟩
    clear hw A0
    (try simp only [true_and, and_true, false_and, and_false, true_or, or_true, false_or, or_false, not_true_eq_false, not_false_eq_true, Int32.lt_iff_toInt_lt, Int64.lt_iff_toInt_lt, Int32.le_iff_toInt_le, Int64.le_iff_toInt_le, ← Int32.toInt_inj, ← Int64.toInt_inj, Int32.toInt_add, Int32.toInt_sub, Int32.toInt_neg, Int64.toInt_add, Int64.toInt_sub, Int64.toInt_neg, Int64.toInt_mul, Int32.toInt_toInt64, bm32, bm64, l32_m128, l32_0, l32_1, l32_2, l32_5, l32_7, l32_8, l32_32, l32_55, l32_56, l32_127, l32_128, l32_192, l32_255, l32_2147483647] at hc3_1 hz ⊢) <;> omega
  · refine A0.icmpYes (q := 10) d_prog_109_method_3_3 (flt hc3_1).2.1 (by decide) (by decide) ?_
    refine A0.iloadN (q := 11) d_prog_109_method_3_10 rfl rfl ?_
    refine A0.bipush (q := 13) (v := 55) d_prog_109_method_3_11 rfl rfl ?_
    refine A0.isub (q := 14) d_prog_109_method_3_13 rfl ?_
    refine A0.retI d_prog_109_method_3_14 (by decide) (by decide) ⟨(z - (55 : Int32)), rfl, rfl, ?_⟩
    clear hw A0
    (try simp only [true_and, and_true, false_and, and_false, true_or, or_true, false_or, or_false, not_true_eq_false, not_false_eq_true, Int32.lt_iff_toInt_lt, Int64.lt_iff_toInt_lt, Int32.le_iff_toInt_le, Int64.le_iff_toInt_le, ← Int32.toInt_inj, ← Int64.toInt_inj, Int32.toInt_add, Int32.toInt_sub, Int32.toInt_neg, Int64.toInt_add, Int64.toInt_sub, Int64.toInt_neg, Int64.toInt_mul, Int32.toInt_toInt64, bm32, bm64, l32_m128, l32_0, l32_1, l32_2, l32_5, l32_7, l32_8, l32_32, l32_55, l32_56, l32_127, l32_128, l32_192, l32_255, l32_2147483647] at hc3_1 hz ⊢) <;> omega
theorem d_prog_109_method_7_0 : decode prog_109_method_7_code 0 = .ok (.iload_n 2, 1) := by decide +kernel
theorem d_prog_109_method_7_1 : decode prog_109_method_7_code 1 = .ok (.iconst 1, 1) := by decide +kernel
theorem d_prog_109_method_7_2 : decode prog_109_method_7_code 2 = .ok (.if_icmp .ne 11, 3) := by decide +kernel
theorem d_prog_109_method_7_5 : decode prog_109_method_7_code 5 = .ok (.iload_n 0, 1) := by decide +kernel
theorem d_prog_109_method_7_6 : decode prog_109_method_7_code 6 = .ok (.iload_n 1, 1) := by decide +kernel
theorem d_prog_109_method_7_7 : decode prog_109_method_7_code 7 = .ok (.iadd, 1) := by decide +kernel
theorem d_prog_109_method_7_8 : decode prog_109_method_7_code 8 = .ok (.istore 4, 2) := by decide +kernel
theorem d_prog_109_method_7_10 : decode prog_109_method_7_code 10 = .ok (.goto 34, 3) := by decide +kernel
theorem d_prog_109_method_7_44 : decode prog_109_method_7_code 44 = .ok (.iload 4, 2) := by decide +kernel
theorem d_prog_109_method_7_46 : decode prog_109_method_7_code 46 = .ok (.i2b, 1) := by decide +kernel
theorem d_prog_109_method_7_47 : decode prog_109_method_7_code 47 = .ok (.ireturn, 1) := by decide +kernel
theorem d_prog_109_method_7_13 : decode prog_109_method_7_code 13 = .ok (.iload_n 3, 1) := by decide +kernel
theorem d_prog_109_method_7_14 : decode prog_109_method_7_code 14 = .ok (.ifCond .ne 18, 3) := by decide +kernel
theorem d_prog_109_method_7_17 : decode prog_109_method_7_code 17 = .ok (.iload_n 0, 1) := by decide +kernel
theorem d_prog_109_method_7_18 : decode prog_109_method_7_code 18 = .ok (.bipush 56, 2) := by decide +kernel
theorem d_prog_109_method_7_20 : decode prog_109_method_7_code 20 = .ok (.iadd, 1) := by decide +kernel
theorem d_prog_109_method_7_21 : decode prog_109_method_7_code 21 = .ok (.iconst 1, 1) := by decide +kernel
theorem d_prog_109_method_7_22 : decode prog_109_method_7_code 22 = .ok (.isub, 1) := by decide +kernel
theorem d_prog_109_method_7_23 : decode prog_109_method_7_code 23 = .ok (.iload_n 2, 1) := by decide +kernel
theorem d_prog_109_method_7_24 : decode prog_109_method_7_code 24 = .ok (.iconst 1, 1) := by decide +kernel
theorem d_prog_109_method_7_25 : decode prog_109_method_7_code 25 = .ok (.isub, 1) := by decide +kernel
theorem d_prog_109_method_7_26 : decode prog_109_method_7_code 26 = .ok (.iadd, 1) := by decide +kernel
theorem d_prog_109_method_7_27 : decode prog_109_method_7_code 27 = .ok (.istore 4, 2) := by decide +kernel
theorem d_prog_109_method_7_29 : decode prog_109_method_7_code 29 = .ok (.goto 15, 3) := by decide +kernel
theorem d_prog_109_method_7_32 : decode prog_109_method_7_code 32 = .ok (.iload_n 1, 1) := by decide +kernel
theorem d_prog_109_method_7_33 : decode prog_109_method_7_code 33 = .ok (.bipush 8, 2) := by decide +kernel
theorem d_prog_109_method_7_35 : decode prog_109_method_7_code 35 = .ok (.iload_n 2, 1) := by decide +kernel
theorem d_prog_109_method_7_36 : decode prog_109_method_7_code 36 = .ok (.iconst 1, 1) := by decide +kernel
theorem d_prog_109_method_7_37 : decode prog_109_method_7_code 37 = .ok (.isub, 1) := by decide +kernel
theorem d_prog_109_method_7_38 : decode prog_109_method_7_code 38 = .ok (.iload_n 3, 1) := by decide +kernel
theorem d_prog_109_method_7_39 : decode prog_109_method_7_code 39 = .ok (.isub, 1) := by decide +kernel
theorem d_prog_109_method_7_40 : decode prog_109_method_7_code 40 = .ok (.imul, 1) := by decide +kernel
theorem d_prog_109_method_7_41 : decode prog_109_method_7_code 41 = .ok (.iushr, 1) := by decide +kernel
theorem d_prog_109_method_7_42 : decode prog_109_method_7_code 42 = .ok (.istore 4, 2) := by decide +kernel
theorem ef_m_hb (m : MethodId) (x0 : Int32) (x1 : Int32) (x2 : Int32) (x3 : Int32) : entryFrame m #[(.int x0), (.int x1), (.int x2), (.int x3)] 5 = mkF m 0 #[.val (.int x0), .val (.int x1), .val (.int x2), .val (.int x3), .unset] [] := by first | (simp [entryFrame, mkF, argsToLocals, Value.category]; done) | rfl
set_option maxRecDepth 65536 in
set_option maxHeartbeats 40000000 in
theorem m_hb (l : Launch) (Z : State) (a0 : Array Value) (hw : ∀ d ∈ tables_1, d.before a0 Z = true) (o : Int32) (z : Int32) (n : Int32) (k : Int32) :
    Pays l Z a0 (⟨"com/example/wirecall/wirecall/RlpHeader", "headerByte", "(IIII)B"⟩ : MethodName) prog_109_method_7_code 5 (some .byte) ({ frames := 0, cells := 0, slots := 0, locals := 0 } : Room) #[(.int o), (.int z), (.int n), (.int k)] [] (([] : Hs).map (·.1)) (fun v os' => ∃ (r : Int32), v = some (.int r) ∧ os' = [] ∧ (k = 0 → r = own_hb o z n)) := by
  refine Pays.of (Ls := #[.val (.int o), .val (.int z), .val (.int n), .val (.int k), .unset]) (plainFor_of_name pn_2) (fun m => ef_m_hb m o z n k) ?_
  intro p e s m below meth c T0 A0
  refine A0.iloadN (q := 1) d_prog_109_method_7_0 rfl rfl ?_
  refine A0.iconst (q := 2) (v := 1) d_prog_109_method_7_1 rfl rfl ?_
  by_cases hc2_1 : n = (1 : Int32)
  · refine A0.icmpNo (q := 5) d_prog_109_method_7_2 (teq hc2_1).2 rfl ?_
    refine A0.iloadN (q := 6) d_prog_109_method_7_5 rfl rfl ?_
    refine A0.iloadN (q := 7) d_prog_109_method_7_6 rfl rfl ?_
    refine A0.iadd (q := 8) d_prog_109_method_7_7 rfl ?_
    refine A0.istore (q := 10) (l' := #[.val (.int o), .val (.int z), .val (.int n), .val (.int k), .val (.int (o + z))]) d_prog_109_method_7_8 rfl rfl ?_
    refine A0.goto (q := 44) d_prog_109_method_7_10 (by decide) (by decide) ?_
    refine A0.iload (q := 46) d_prog_109_method_7_44 rfl rfl ?_
    refine A0.i2b (q := 47) d_prog_109_method_7_46 rfl ?_
    refine A0.retN (by simp) d_prog_109_method_7_47 (by decide) (by decide) ⟨(nar .byte (o + z).toInt8.toInt32), rfl, rfl, ?_⟩
    clear hw A0
    intro h0
    (first | exact absurd h0 (by assumption) | ((simp only [own_hb, hc2_1, if_true, if_false]) <;> rfl))
  · refine A0.icmpYes (q := 13) d_prog_109_method_7_2 (feq hc2_1).2 (by decide) (by decide) ?_
    refine A0.iloadN (q := 14) d_prog_109_method_7_13 rfl rfl ?_
    by_cases hc14_2 : k = (0 : Int32)
    · refine A0.ifNo (q := 17) d_prog_109_method_7_14 ((if0 _ _).trans (teq hc14_2).2) rfl ?_
      refine A0.iloadN (q := 18) d_prog_109_method_7_17 rfl rfl ?_
      refine A0.bipush (q := 20) (v := 56) d_prog_109_method_7_18 rfl rfl ?_
      refine A0.iadd (q := 21) d_prog_109_method_7_20 rfl ?_
      refine A0.iconst (q := 22) (v := 1) d_prog_109_method_7_21 rfl rfl ?_
      refine A0.isub (q := 23) d_prog_109_method_7_22 rfl ?_
      refine A0.iloadN (q := 24) d_prog_109_method_7_23 rfl rfl ?_
      refine A0.iconst (q := 25) (v := 1) d_prog_109_method_7_24 rfl rfl ?_
      refine A0.isub (q := 26) d_prog_109_method_7_25 rfl ?_
      refine A0.iadd (q := 27) d_prog_109_method_7_26 rfl ?_
      refine A0.istore (q := 29) (l' := #[.val (.int o), .val (.int z), .val (.int n), .val (.int k), .val (.int (((o + (56 : Int32)) - (1 : Int32)) + (n - (1 : Int32))))]) d_prog_109_method_7_27 rfl rfl ?_
      refine A0.goto (q := 44) d_prog_109_method_7_29 (by decide) (by decide) ?_
      refine A0.iload (q := 46) d_prog_109_method_7_44 rfl rfl ?_
      refine A0.i2b (q := 47) d_prog_109_method_7_46 rfl ?_
      refine A0.retN (by simp) d_prog_109_method_7_47 (by decide) (by decide) ⟨(nar .byte (((o + (56 : Int32)) - (1 : Int32)) + (n - (1 : Int32))).toInt8.toInt32), rfl, rfl, ?_⟩
      clear hw A0
      intro h0
      (first | exact absurd h0 (by assumption) | ((simp only [own_hb, hc2_1, hc14_2, if_true, if_false]) <;> rfl))
    · refine A0.ifYes (q := 32) d_prog_109_method_7_14 ((if0 _ _).trans (feq hc14_2).2) (by decide) (by decide) ?_
      refine A0.iloadN (q := 33) d_prog_109_method_7_32 rfl rfl ?_
      refine A0.bipush (q := 35) (v := 8) d_prog_109_method_7_33 rfl rfl ?_
      refine A0.iloadN (q := 36) d_prog_109_method_7_35 rfl rfl ?_
      refine A0.iconst (q := 37) (v := 1) d_prog_109_method_7_36 rfl rfl ?_
      refine A0.isub (q := 38) d_prog_109_method_7_37 rfl ?_
      refine A0.iloadN (q := 39) d_prog_109_method_7_38 rfl rfl ?_
      refine A0.isub (q := 40) d_prog_109_method_7_39 rfl ?_
      refine A0.imul (q := 41) d_prog_109_method_7_40 rfl ?_
      refine A0.iushr (q := 42) d_prog_109_method_7_41 rfl ?_
      refine A0.istore (q := 44) (l' := #[.val (.int o), .val (.int z), .val (.int n), .val (.int k), .val (.int ((z.toUInt32 >>> (((8 : Int32) * ((n - (1 : Int32)) - k)) &&& 31).toUInt32).toInt32))]) d_prog_109_method_7_42 rfl rfl ?_
      refine A0.iload (q := 46) d_prog_109_method_7_44 rfl rfl ?_
      refine A0.i2b (q := 47) d_prog_109_method_7_46 rfl ?_
      refine A0.retN (by simp) d_prog_109_method_7_47 (by decide) (by decide) ⟨(nar .byte ((z.toUInt32 >>> (((8 : Int32) * ((n - (1 : Int32)) - k)) &&& 31).toUInt32).toInt32).toInt8.toInt32), rfl, rfl, ?_⟩
      clear hw A0
      intro h0
      (first | exact absurd h0 (by assumption) | ((simp only [own_hb, hc2_1, hc14_2, if_true, if_false]) <;> rfl))
theorem d_prog_109_method_5_0 : decode prog_109_method_5_code 0 = .ok (.iload_n 1, 1) := by decide +kernel
theorem d_prog_109_method_5_1 : decode prog_109_method_5_code 1 = .ok (.invokestatic 15, 3) := by decide +kernel
theorem d_prog_109_method_5_4 : decode prog_109_method_5_code 4 = .ok (.istore 4, 2) := by decide +kernel
theorem d_prog_109_method_5_6 : decode prog_109_method_5_code 6 = .ok (.iconst 0, 1) := by decide +kernel
theorem d_prog_109_method_5_7 : decode prog_109_method_5_code 7 = .ok (.istore 5, 2) := by decide +kernel
theorem d_prog_109_method_5_9 : decode prog_109_method_5_code 9 = .ok (.iload 5, 2) := by decide +kernel
theorem d_prog_109_method_5_11 : decode prog_109_method_5_code 11 = .ok (.iload 4, 2) := by decide +kernel
theorem d_prog_109_method_5_13 : decode prog_109_method_5_code 13 = .ok (.if_icmp .ge 24, 3) := by decide +kernel
theorem d_prog_109_method_5_16 : decode prog_109_method_5_code 16 = .ok (.aload_n 2, 1) := by decide +kernel
theorem d_prog_109_method_5_17 : decode prog_109_method_5_code 17 = .ok (.iload_n 3, 1) := by decide +kernel
theorem d_prog_109_method_5_18 : decode prog_109_method_5_code 18 = .ok (.iload 5, 2) := by decide +kernel
theorem d_prog_109_method_5_20 : decode prog_109_method_5_code 20 = .ok (.iadd, 1) := by decide +kernel
theorem d_prog_109_method_5_21 : decode prog_109_method_5_code 21 = .ok (.iload_n 0, 1) := by decide +kernel
theorem d_prog_109_method_5_22 : decode prog_109_method_5_code 22 = .ok (.iload_n 1, 1) := by decide +kernel
theorem d_prog_109_method_5_23 : decode prog_109_method_5_code 23 = .ok (.iload 4, 2) := by decide +kernel
theorem d_prog_109_method_5_25 : decode prog_109_method_5_code 25 = .ok (.iload 5, 2) := by decide +kernel
theorem d_prog_109_method_5_27 : decode prog_109_method_5_code 27 = .ok (.invokestatic 18, 3) := by decide +kernel
theorem pd_3 : parseMethodDescriptor "(IIII)B" = some ⟨[.int, .int, .int, .int], some .byte⟩ := by decide +kernel
theorem d_prog_109_method_5_30 : decode prog_109_method_5_code 30 = .ok (.bastore, 1) := by decide +kernel
theorem d_prog_109_method_5_31 : decode prog_109_method_5_code 31 = .ok (.iinc 5 1, 3) := by decide +kernel
theorem d_prog_109_method_5_34 : decode prog_109_method_5_code 34 = .ok (.goto (-25), 3) := by decide +kernel
theorem d_prog_109_method_5_37 : decode prog_109_method_5_code 37 = .ok (.iload_n 3, 1) := by decide +kernel
theorem d_prog_109_method_5_38 : decode prog_109_method_5_code 38 = .ok (.iload 4, 2) := by decide +kernel
theorem d_prog_109_method_5_40 : decode prog_109_method_5_code 40 = .ok (.iadd, 1) := by decide +kernel
theorem d_prog_109_method_5_41 : decode prog_109_method_5_code 41 = .ok (.ireturn, 1) := by decide +kernel
theorem ef_m_wr (m : MethodId) (x0 : Int32) (x1 : Int32) (x2 : Addr) : entryFrame m #[(.int x0), (.int x1), (.ref x2), (.int 0)] 6 = mkF m 0 #[.val (.int x0), .val (.int x1), .val (.ref x2), .val (.int 0), .unset, .unset] [] := by first | (simp [entryFrame, mkF, argsToLocals, Value.category]; done) | rfl
set_option maxRecDepth 65536 in
set_option maxHeartbeats 40000000 in
theorem m_wr (l : Launch) (Z : State) (a0 : Array Value) (hw : ∀ d ∈ tables_1, d.before a0 Z = true) (o : Int32) (z : Int32) (b : Addr) (u0 : Int32) (u1 : Int32) (u2 : Int32) (u3 : Int32) (u4 : Int32) (hz : 0 ≤ z.toInt) :
    Pays l Z a0 (⟨"com/example/wirecall/wirecall/RlpHeader", "write", "(II[BI)I"⟩ : MethodName) prog_109_method_5_code 6 (some .int) ({ frames := 2, cells := 0, slots := 0, locals := 28 } : Room) #[(.int o), (.int z), (.ref b), (.int 0)] [(b, .inr (.byte, [(.int u0), (.int u1), (.int u2), (.int u3), (.int u4)]))] (([(b, .inr (.byte, [(.int u0), (.int u1), (.int u2), (.int u3), (.int u4)]))] : Hs).map (·.1)) (fun v os' => ∃ (r : Int32), ∃ (e0 : Int32), ∃ (e1 : Int32), ∃ (e2 : Int32), ∃ (e3 : Int32), ∃ (e4 : Int32), v = some (.int r) ∧ os' = [(b, .inr (.byte, [(.int e0), (.int e1), (.int e2), (.int e3), (.int e4)]))] ∧ (r = own_length z ∧ e0 = nar .byte (own_hb o z (own_length z)))) := by
  refine Pays.of (Ls := #[.val (.int o), .val (.int z), .val (.ref b), .val (.int 0), .unset, .unset]) (plainFor_of_name pn_2) (fun m => ef_m_wr m o z b) ?_
  intro p e s m below meth c T0 A0
  refine A0.iloadN (q := 1) d_prog_109_method_5_0 rfl rfl ?_
  refine Here.callS (qn := 4) (os1 := [(b, .inr (.byte, [(.int u0), (.int u1), (.int u2), (.int u3), (.int u4)]))]) (os2 := []) (rest := []) (W := 0) (argsL := [(.int z)]) A0 (m_len l Z a0 hw z) (Or.inl rfl) (tw hw 6 rfl) (tw hw 7 rfl) (tw hw 4 rfl) (tw hw 8 rfl) (by decide) d_prog_109_method_5_1 rfl (lenOf pd_1 rfl) rfl (Nat.le_of_eq rfl) (by decide) (by decide) (by decide) (by decide) rfl (fun T1 v2 os3 A4 P5 => ?_)
  obtain ⟨r_1, rfl, rfl, hq_1⟩ := P5
  have A6 := A4.cast (k2 := 0) (n2 := 0) (os2 := [(b, .inr (.byte, [(.int u0), (.int u1), (.int u2), (.int u3), (.int u4)]))]) rfl rfl rfl
  refine A6.istore (q := 6) (l' := #[.val (.int o), .val (.int z), .val (.ref b), .val (.int 0), .val (.int r_1), .unset]) d_prog_109_method_5_4 rfl rfl ?_
  refine A6.iconst (q := 7) (v := 0) d_prog_109_method_5_6 rfl rfl ?_
  refine A6.istore (q := 9) (l' := #[.val (.int o), .val (.int z), .val (.ref b), .val (.int 0), .val (.int r_1), .val (.int 0)]) d_prog_109_method_5_7 rfl rfl ?_
  have hL : r_1 = 1 ∨ r_1 = 2 ∨ r_1 = 3 ∨ r_1 = 4 ∨ r_1 = 5 := by
    rw [hq_1]
    rcases own_length_b z hz with ⟨-, h⟩ | ⟨-, h | h | h | h⟩ <;> simp [h]
  rcases hL with rfl | rfl | rfl | rfl | rfl
  · show Wp _ _ _ _ _ _ _ _ _ _ T1 (mkF m 9 #[.val (.int o), .val (.int z), .val (.ref b), .val (.int 0), .val (.int 1), .val (.int 0)] [])
    refine A6.iload (q := 11) d_prog_109_method_5_9 rfl rfl ?_
    refine A6.iload (q := 13) d_prog_109_method_5_11 rfl rfl ?_
    refine A6.icmpNo (q := 16) d_prog_109_method_5_13 (by decide) rfl ?_
    refine A6.aloadN (q := 17) d_prog_109_method_5_16 rfl rfl rfl ?_
    refine A6.iloadN (q := 18) d_prog_109_method_5_17 rfl rfl ?_
    refine A6.iload (q := 20) d_prog_109_method_5_18 rfl rfl ?_
    refine A6.iadd (q := 21) d_prog_109_method_5_20 rfl ?_
    refine Wp.top (v' := (.int 0)) rfl ?_
    refine A6.iloadN (q := 22) d_prog_109_method_5_21 rfl rfl ?_
    refine A6.iloadN (q := 23) d_prog_109_method_5_22 rfl rfl ?_
    refine A6.iload (q := 25) d_prog_109_method_5_23 rfl rfl ?_
    refine A6.iload (q := 27) d_prog_109_method_5_25 rfl rfl ?_
    refine Here.callS (qn := 30) (os1 := [(b, .inr (.byte, [(.int u0), (.int u1), (.int u2), (.int u3), (.int u4)]))]) (os2 := []) (rest := [(.int 0), (.ref b)]) (W := 2) (argsL := [(.int o), (.int z), (.int 1), (.int 0)]) A6 (m_hb l Z a0 hw o z ((1 : Int32)) ((0 : Int32))) (Or.inl rfl) (tw hw 9 rfl) (tw hw 10 rfl) (tw hw 4 rfl) (tw hw 11 rfl) (by decide) d_prog_109_method_5_27 rfl (lenOf pd_3 rfl) rfl (Nat.le_of_eq rfl) (by decide) (by decide) (by decide) (by decide) rfl (fun T7 v8 os9 A10 P11 => ?_)
    obtain ⟨r_27, rfl, rfl, hq_27⟩ := P11
    have A12 := A10.cast (k2 := 0) (n2 := 0) (os2 := [(b, .inr (.byte, [(.int u0), (.int u1), (.int u2), (.int u3), (.int u4)]))]) rfl rfl rfl
    refine A12.stB (qn := 31) (i := 0) d_prog_109_method_5_30 rfl (by decide) (show (0 : Int32).toNatClampNeg < 5 from by decide) rfl rfl (fun T13 A14 => ?_)
    have A15 := A14.cast (k2 := 0) (n2 := 0) (os2 := [(b, .inr (.byte, [(.int (nar .byte r_27)), (.int u1), (.int u2), (.int u3), (.int u4)]))]) rfl rfl rfl
    refine A15.iinc (q := 34) (l' := #[.val (.int o), .val (.int z), .val (.ref b), .val (.int 0), .val (.int 1), .val (.int 1)]) d_prog_109_method_5_31 rfl rfl rfl ?_
    refine A15.goto (q := 9) d_prog_109_method_5_34 (by decide) (by decide) ?_
    refine A15.iload (q := 11) d_prog_109_method_5_9 rfl rfl ?_
    refine A15.iload (q := 13) d_prog_109_method_5_11 rfl rfl ?_
    refine A15.icmpYes (q := 37) d_prog_109_method_5_13 (by decide) (by decide) (by decide) ?_
    refine A15.iloadN (q := 38) d_prog_109_method_5_37 rfl rfl ?_
    refine A15.iload (q := 40) d_prog_109_method_5_38 rfl rfl ?_
    refine A15.iadd (q := 41) d_prog_109_method_5_40 rfl ?_
    refine Wp.top (v' := (.int 1)) rfl ?_
    refine A15.retI d_prog_109_method_5_41 (by decide) (by decide) ⟨(1 : Int32), (nar .byte r_27), u1, u2, u3, u4, rfl, rfl, ?_⟩
    clear hw A0 A4 A6 A10 A12 A14 A15
    refine ⟨hq_1, ?_⟩
    rw [← hq_1]
    rw [hq_27 rfl]
  · show Wp _ _ _ _ _ _ _ _ _ _ T1 (mkF m 9 #[.val (.int o), .val (.int z), .val (.ref b), .val (.int 0), .val (.int 2), .val (.int 0)] [])
    refine A6.iload (q := 11) d_prog_109_method_5_9 rfl rfl ?_
    refine A6.iload (q := 13) d_prog_109_method_5_11 rfl rfl ?_
    refine A6.icmpNo (q := 16) d_prog_109_method_5_13 (by decide) rfl ?_
    refine A6.aloadN (q := 17) d_prog_109_method_5_16 rfl rfl rfl ?_
    refine A6.iloadN (q := 18) d_prog_109_method_5_17 rfl rfl ?_
    refine A6.iload (q := 20) d_prog_109_method_5_18 rfl rfl ?_
    refine A6.iadd (q := 21) d_prog_109_method_5_20 rfl ?_
    refine Wp.top (v' := (.int 0)) rfl ?_
    refine A6.iloadN (q := 22) d_prog_109_method_5_21 rfl rfl ?_
    refine A6.iloadN (q := 23) d_prog_109_method_5_22 rfl rfl ?_
    refine A6.iload (q := 25) d_prog_109_method_5_23 rfl rfl ?_
    refine A6.iload (q := 27) d_prog_109_method_5_25 rfl rfl ?_
    refine Here.callS (qn := 30) (os1 := [(b, .inr (.byte, [(.int u0), (.int u1), (.int u2), (.int u3), (.int u4)]))]) (os2 := []) (rest := [(.int 0), (.ref b)]) (W := 2) (argsL := [(.int o), (.int z), (.int 2), (.int 0)]) A6 (m_hb l Z a0 hw o z ((2 : Int32)) ((0 : Int32))) (Or.inl rfl) (tw hw 9 rfl) (tw hw 10 rfl) (tw hw 4 rfl) (tw hw 11 rfl) (by decide) d_prog_109_method_5_27 rfl (lenOf pd_3 rfl) rfl (Nat.le_of_eq rfl) (by decide) (by decide) (by decide) (by decide) rfl (fun T16 v17 os18 A19 P20 => ?_)
    obtain ⟨r_27, rfl, rfl, hq_27⟩ := P20
    have A21 := A19.cast (k2 := 0) (n2 := 0) (os2 := [(b, .inr (.byte, [(.int u0), (.int u1), (.int u2), (.int u3), (.int u4)]))]) rfl rfl rfl
    refine A21.stB (qn := 31) (i := 0) d_prog_109_method_5_30 rfl (by decide) (show (0 : Int32).toNatClampNeg < 5 from by decide) rfl rfl (fun T22 A23 => ?_)
    have A24 := A23.cast (k2 := 0) (n2 := 0) (os2 := [(b, .inr (.byte, [(.int (nar .byte r_27)), (.int u1), (.int u2), (.int u3), (.int u4)]))]) rfl rfl rfl
    refine A24.iinc (q := 34) (l' := #[.val (.int o), .val (.int z), .val (.ref b), .val (.int 0), .val (.int 2), .val (.int 1)]) d_prog_109_method_5_31 rfl rfl rfl ?_
    refine A24.goto (q := 9) d_prog_109_method_5_34 (by decide) (by decide) ?_
    refine A24.iload (q := 11) d_prog_109_method_5_9 rfl rfl ?_
    refine A24.iload (q := 13) d_prog_109_method_5_11 rfl rfl ?_
    refine A24.icmpNo (q := 16) d_prog_109_method_5_13 (by decide) rfl ?_
    refine A24.aloadN (q := 17) d_prog_109_method_5_16 rfl rfl rfl ?_
    refine A24.iloadN (q := 18) d_prog_109_method_5_17 rfl rfl ?_
    refine A24.iload (q := 20) d_prog_109_method_5_18 rfl rfl ?_
    refine A24.iadd (q := 21) d_prog_109_method_5_20 rfl ?_
    refine Wp.top (v' := (.int 1)) rfl ?_
    refine A24.iloadN (q := 22) d_prog_109_method_5_21 rfl rfl ?_
    refine A24.iloadN (q := 23) d_prog_109_method_5_22 rfl rfl ?_
    refine A24.iload (q := 25) d_prog_109_method_5_23 rfl rfl ?_
    refine A24.iload (q := 27) d_prog_109_method_5_25 rfl rfl ?_
    refine Here.callS (qn := 30) (os1 := [(b, .inr (.byte, [(.int (nar .byte r_27)), (.int u1), (.int u2), (.int u3), (.int u4)]))]) (os2 := []) (rest := [(.int 1), (.ref b)]) (W := 2) (argsL := [(.int o), (.int z), (.int 2), (.int 1)]) A24 (m_hb l Z a0 hw o z ((2 : Int32)) ((1 : Int32))) (Or.inl rfl) (tw hw 9 rfl) (tw hw 10 rfl) (tw hw 4 rfl) (tw hw 11 rfl) (by decide) d_prog_109_method_5_27 rfl (lenOf pd_3 rfl) rfl (Nat.le_of_eq rfl) (by decide) (by decide) (by decide) (by decide) rfl (fun T25 v26 os27 A28 P29 => ?_)
    obtain ⟨r_27_2, rfl, rfl, hq_27_2⟩ := P29
    have A30 := A28.cast (k2 := 0) (n2 := 0) (os2 := [(b, .inr (.byte, [(.int (nar .byte r_27)), (.int u1), (.int u2), (.int u3), (.int u4)]))]) rfl rfl rfl
    refine A30.stB (qn := 31) (i := 0) d_prog_109_method_5_30 rfl (by decide) (show (1 : Int32).toNatClampNeg < 5 from by decide) rfl rfl (fun T31 A32 => ?_)
    have A33 := A32.cast (k2 := 0) (n2 := 0) (os2 := [(b, .inr (.byte, [(.int (nar .byte r_27)), (.int (nar .byte r_27_2)), (.int u2), (.int u3), (.int u4)]))]) rfl rfl rfl
    refine A33.iinc (q := 34) (l' := #[.val (.int o), .val (.int z), .val (.ref b), .val (.int 0), .val (.int 2), .val (.int 2)]) d_prog_109_method_5_31 rfl rfl rfl ?_
    refine A33.goto (q := 9) d_prog_109_method_5_34 (by decide) (by decide) ?_
    refine A33.iload (q := 11) d_prog_109_method_5_9 rfl rfl ?_
    refine A33.iload (q := 13) d_prog_109_method_5_11 rfl rfl ?_
    refine A33.icmpYes (q := 37) d_prog_109_method_5_13 (by decide) (by decide) (by decide) ?_
    refine A33.iloadN (q := 38) d_prog_109_method_5_37 rfl rfl ?_
    refine A33.iload (q := 40) d_prog_109_method_5_38 rfl rfl ?_
    refine A33.iadd (q := 41) d_prog_109_method_5_40 rfl ?_
    refine Wp.top (v' := (.int 2)) rfl ?_
    refine A33.retI d_prog_109_method_5_41 (by decide) (by decide) ⟨(2 : Int32), (nar .byte r_27), (nar .byte r_27_2), u2, u3, u4, rfl, rfl, ?_⟩
    clear hw A0 A4 A6 A19 A21 A23 A24 A28 A30 A32 A33
    refine ⟨hq_1, ?_⟩
    rw [← hq_1]
    rw [hq_27 rfl]
  · show Wp _ _ _ _ _ _ _ _ _ _ T1 (mkF m 9 #[.val (.int o), .val (.int z), .val (.ref b), .val (.int 0), .val (.int 3), .val (.int 0)] [])
    refine A6.iload (q := 11) d_prog_109_method_5_9 rfl rfl ?_
    refine A6.iload (q := 13) d_prog_109_method_5_11 rfl rfl ?_
    refine A6.icmpNo (q := 16) d_prog_109_method_5_13 (by decide) rfl ?_
    refine A6.aloadN (q := 17) d_prog_109_method_5_16 rfl rfl rfl ?_
    refine A6.iloadN (q := 18) d_prog_109_method_5_17 rfl rfl ?_
    refine A6.iload (q := 20) d_prog_109_method_5_18 rfl rfl ?_
    refine A6.iadd (q := 21) d_prog_109_method_5_20 rfl ?_
    refine Wp.top (v' := (.int 0)) rfl ?_
    refine A6.iloadN (q := 22) d_prog_109_method_5_21 rfl rfl ?_
    refine A6.iloadN (q := 23) d_prog_109_method_5_22 rfl rfl ?_
    refine A6.iload (q := 25) d_prog_109_method_5_23 rfl rfl ?_
    refine A6.iload (q := 27) d_prog_109_method_5_25 rfl rfl ?_
    refine Here.callS (qn := 30) (os1 := [(b, .inr (.byte, [(.int u0), (.int u1), (.int u2), (.int u3), (.int u4)]))]) (os2 := []) (rest := [(.int 0), (.ref b)]) (W := 2) (argsL := [(.int o), (.int z), (.int 3), (.int 0)]) A6 (m_hb l Z a0 hw o z ((3 : Int32)) ((0 : Int32))) (Or.inl rfl) (tw hw 9 rfl) (tw hw 10 rfl) (tw hw 4 rfl) (tw hw 11 rfl) (by decide) d_prog_109_method_5_27 rfl (lenOf pd_3 rfl) rfl (Nat.le_of_eq rfl) (by decide) (by decide) (by decide) (by decide) rfl (fun T34 v35 os36 A37 P38 => ?_)
    obtain ⟨r_27, rfl, rfl, hq_27⟩ := P38
    have A39 := A37.cast (k2 := 0) (n2 := 0) (os2 := [(b, .inr (.byte, [(.int u0), (.int u1), (.int u2), (.int u3), (.int u4)]))]) rfl rfl rfl
    refine A39.stB (qn := 31) (i := 0) d_prog_109_method_5_30 rfl (by decide) (show (0 : Int32).toNatClampNeg < 5 from by decide) rfl rfl (fun T40 A41 => ?_)
    have A42 := A41.cast (k2 := 0) (n2 := 0) (os2 := [(b, .inr (.byte, [(.int (nar .byte r_27)), (.int u1), (.int u2), (.int u3), (.int u4)]))]) rfl rfl rfl
    refine A42.iinc (q := 34) (l' := #[.val (.int o), .val (.int z), .val (.ref b), .val (.int 0), .val (.int 3), .val (.int 1)]) d_prog_109_method_5_31 rfl rfl rfl ?_
    refine A42.goto (q := 9) d_prog_109_method_5_34 (by decide) (by decide) ?_
    refine A42.iload (q := 11) d_prog_109_method_5_9 rfl rfl ?_
    refine A42.iload (q := 13) d_prog_109_method_5_11 rfl rfl ?_
    refine A42.icmpNo (q := 16) d_prog_109_method_5_13 (by decide) rfl ?_
    refine A42.aloadN (q := 17) d_prog_109_method_5_16 rfl rfl rfl ?_
    refine A42.iloadN (q := 18) d_prog_109_method_5_17 rfl rfl ?_
    refine A42.iload (q := 20) d_prog_109_method_5_18 rfl rfl ?_
    refine A42.iadd (q := 21) d_prog_109_method_5_20 rfl ?_
    refine Wp.top (v' := (.int 1)) rfl ?_
    refine A42.iloadN (q := 22) d_prog_109_method_5_21 rfl rfl ?_
    refine A42.iloadN (q := 23) d_prog_109_method_5_22 rfl rfl ?_
    refine A42.iload (q := 25) d_prog_109_method_5_23 rfl rfl ?_
    refine A42.iload (q := 27) d_prog_109_method_5_25 rfl rfl ?_
    refine Here.callS (qn := 30) (os1 := [(b, .inr (.byte, [(.int (nar .byte r_27)), (.int u1), (.int u2), (.int u3), (.int u4)]))]) (os2 := []) (rest := [(.int 1), (.ref b)]) (W := 2) (argsL := [(.int o), (.int z), (.int 3), (.int 1)]) A42 (m_hb l Z a0 hw o z ((3 : Int32)) ((1 : Int32))) (Or.inl rfl) (tw hw 9 rfl) (tw hw 10 rfl) (tw hw 4 rfl) (tw hw 11 rfl) (by decide) d_prog_109_method_5_27 rfl (lenOf pd_3 rfl) rfl (Nat.le_of_eq rfl) (by decide) (by decide) (by decide) (by decide) rfl (fun T43 v44 os45 A46 P47 => ?_)
    obtain ⟨r_27_2, rfl, rfl, hq_27_2⟩ := P47
    have A48 := A46.cast (k2 := 0) (n2 := 0) (os2 := [(b, .inr (.byte, [(.int (nar .byte r_27)), (.int u1), (.int u2), (.int u3), (.int u4)]))]) rfl rfl rfl
    refine A48.stB (qn := 31) (i := 0) d_prog_109_method_5_30 rfl (by decide) (show (1 : Int32).toNatClampNeg < 5 from by decide) rfl rfl (fun T49 A50 => ?_)
    have A51 := A50.cast (k2 := 0) (n2 := 0) (os2 := [(b, .inr (.byte, [(.int (nar .byte r_27)), (.int (nar .byte r_27_2)), (.int u2), (.int u3), (.int u4)]))]) rfl rfl rfl
    refine A51.iinc (q := 34) (l' := #[.val (.int o), .val (.int z), .val (.ref b), .val (.int 0), .val (.int 3), .val (.int 2)]) d_prog_109_method_5_31 rfl rfl rfl ?_
    refine A51.goto (q := 9) d_prog_109_method_5_34 (by decide) (by decide) ?_
    refine A51.iload (q := 11) d_prog_109_method_5_9 rfl rfl ?_
    refine A51.iload (q := 13) d_prog_109_method_5_11 rfl rfl ?_
    refine A51.icmpNo (q := 16) d_prog_109_method_5_13 (by decide) rfl ?_
    refine A51.aloadN (q := 17) d_prog_109_method_5_16 rfl rfl rfl ?_
    refine A51.iloadN (q := 18) d_prog_109_method_5_17 rfl rfl ?_
    refine A51.iload (q := 20) d_prog_109_method_5_18 rfl rfl ?_
    refine A51.iadd (q := 21) d_prog_109_method_5_20 rfl ?_
    refine Wp.top (v' := (.int 2)) rfl ?_
    refine A51.iloadN (q := 22) d_prog_109_method_5_21 rfl rfl ?_
    refine A51.iloadN (q := 23) d_prog_109_method_5_22 rfl rfl ?_
    refine A51.iload (q := 25) d_prog_109_method_5_23 rfl rfl ?_
    refine A51.iload (q := 27) d_prog_109_method_5_25 rfl rfl ?_
    refine Here.callS (qn := 30) (os1 := [(b, .inr (.byte, [(.int (nar .byte r_27)), (.int (nar .byte r_27_2)), (.int u2), (.int u3), (.int u4)]))]) (os2 := []) (rest := [(.int 2), (.ref b)]) (W := 2) (argsL := [(.int o), (.int z), (.int 3), (.int 2)]) A51 (m_hb l Z a0 hw o z ((3 : Int32)) ((2 : Int32))) (Or.inl rfl) (tw hw 9 rfl) (tw hw 10 rfl) (tw hw 4 rfl) (tw hw 11 rfl) (by decide) d_prog_109_method_5_27 rfl (lenOf pd_3 rfl) rfl (Nat.le_of_eq rfl) (by decide) (by decide) (by decide) (by decide) rfl (fun T52 v53 os54 A55 P56 => ?_)
    obtain ⟨r_27_3, rfl, rfl, hq_27_3⟩ := P56
    have A57 := A55.cast (k2 := 0) (n2 := 0) (os2 := [(b, .inr (.byte, [(.int (nar .byte r_27)), (.int (nar .byte r_27_2)), (.int u2), (.int u3), (.int u4)]))]) rfl rfl rfl
    refine A57.stB (qn := 31) (i := 0) d_prog_109_method_5_30 rfl (by decide) (show (2 : Int32).toNatClampNeg < 5 from by decide) rfl rfl (fun T58 A59 => ?_)
    have A60 := A59.cast (k2 := 0) (n2 := 0) (os2 := [(b, .inr (.byte, [(.int (nar .byte r_27)), (.int (nar .byte r_27_2)), (.int (nar .byte r_27_3)), (.int u3), (.int u4)]))]) rfl rfl rfl
    refine A60.iinc (q := 34) (l' := #[.val (.int o), .val (.int z), .val (.ref b), .val (.int 0), .val (.int 3), .val (.int 3)]) d_prog_109_method_5_31 rfl rfl rfl ?_
    refine A60.goto (q := 9) d_prog_109_method_5_34 (by decide) (by decide) ?_
    refine A60.iload (q := 11) d_prog_109_method_5_9 rfl rfl ?_
    refine A60.iload (q := 13) d_prog_109_method_5_11 rfl rfl ?_
    refine A60.icmpYes (q := 37) d_prog_109_method_5_13 (by decide) (by decide) (by decide) ?_
    refine A60.iloadN (q := 38) d_prog_109_method_5_37 rfl rfl ?_
    refine A60.iload (q := 40) d_prog_109_method_5_38 rfl rfl ?_
    refine A60.iadd (q := 41) d_prog_109_method_5_40 rfl ?_
    refine Wp.top (v' := (.int 3)) rfl ?_
    refine A60.retI d_prog_109_method_5_41 (by decide) (by decide) ⟨(3 : Int32), (nar .byte r_27), (nar .byte r_27_2), (nar .byte r_27_3), u3, u4, rfl, rfl, ?_⟩
    clear hw A0 A4 A6 A37 A39 A41 A42 A46 A48 A50 A51 A55 A57 A59 A60
    refine ⟨hq_1, ?_⟩
    rw [← hq_1]
    rw [hq_27 rfl]
  · show Wp _ _ _ _ _ _ _ _ _ _ T1 (mkF m 9 #[.val (.int o), .val (.int z), .val (.ref b), .val (.int 0), .val (.int 4), .val (.int 0)] [])
    refine A6.iload (q := 11) d_prog_109_method_5_9 rfl rfl ?_
    refine A6.iload (q := 13) d_prog_109_method_5_11 rfl rfl ?_
    refine A6.icmpNo (q := 16) d_prog_109_method_5_13 (by decide) rfl ?_
    refine A6.aloadN (q := 17) d_prog_109_method_5_16 rfl rfl rfl ?_
    refine A6.iloadN (q := 18) d_prog_109_method_5_17 rfl rfl ?_
    refine A6.iload (q := 20) d_prog_109_method_5_18 rfl rfl ?_
    refine A6.iadd (q := 21) d_prog_109_method_5_20 rfl ?_
    refine Wp.top (v' := (.int 0)) rfl ?_
    refine A6.iloadN (q := 22) d_prog_109_method_5_21 rfl rfl ?_
    refine A6.iloadN (q := 23) d_prog_109_method_5_22 rfl rfl ?_
    refine A6.iload (q := 25) d_prog_109_method_5_23 rfl rfl ?_
    refine A6.iload (q := 27) d_prog_109_method_5_25 rfl rfl ?_
    refine Here.callS (qn := 30) (os1 := [(b, .inr (.byte, [(.int u0), (.int u1), (.int u2), (.int u3), (.int u4)]))]) (os2 := []) (rest := [(.int 0), (.ref b)]) (W := 2) (argsL := [(.int o), (.int z), (.int 4), (.int 0)]) A6 (m_hb l Z a0 hw o z ((4 : Int32)) ((0 : Int32))) (Or.inl rfl) (tw hw 9 rfl) (tw hw 10 rfl) (tw hw 4 rfl) (tw hw 11 rfl) (by decide) d_prog_109_method_5_27 rfl (lenOf pd_3 rfl) rfl (Nat.le_of_eq rfl) (by decide) (by decide) (by decide) (by decide) rfl (fun T61 v62 os63 A64 P65 => ?_)
    obtain ⟨r_27, rfl, rfl, hq_27⟩ := P65
    have A66 := A64.cast (k2 := 0) (n2 := 0) (os2 := [(b, .inr (.byte, [(.int u0), (.int u1), (.int u2), (.int u3), (.int u4)]))]) rfl rfl rfl
    refine A66.stB (qn := 31) (i := 0) d_prog_109_method_5_30 rfl (by decide) (show (0 : Int32).toNatClampNeg < 5 from by decide) rfl rfl (fun T67 A68 => ?_)
    have A69 := A68.cast (k2 := 0) (n2 := 0) (os2 := [(b, .inr (.byte, [(.int (nar .byte r_27)), (.int u1), (.int u2), (.int u3), (.int u4)]))]) rfl rfl rfl
    refine A69.iinc (q := 34) (l' := #[.val (.int o), .val (.int z), .val (.ref b), .val (.int 0), .val (.int 4), .val (.int 1)]) d_prog_109_method_5_31 rfl rfl rfl ?_
    refine A69.goto (q := 9) d_prog_109_method_5_34 (by decide) (by decide) ?_
    refine A69.iload (q := 11) d_prog_109_method_5_9 rfl rfl ?_
    refine A69.iload (q := 13) d_prog_109_method_5_11 rfl rfl ?_
    refine A69.icmpNo (q := 16) d_prog_109_method_5_13 (by decide) rfl ?_
    refine A69.aloadN (q := 17) d_prog_109_method_5_16 rfl rfl rfl ?_
    refine A69.iloadN (q := 18) d_prog_109_method_5_17 rfl rfl ?_
    refine A69.iload (q := 20) d_prog_109_method_5_18 rfl rfl ?_
    refine A69.iadd (q := 21) d_prog_109_method_5_20 rfl ?_
    refine Wp.top (v' := (.int 1)) rfl ?_
    refine A69.iloadN (q := 22) d_prog_109_method_5_21 rfl rfl ?_
    refine A69.iloadN (q := 23) d_prog_109_method_5_22 rfl rfl ?_
    refine A69.iload (q := 25) d_prog_109_method_5_23 rfl rfl ?_
    refine A69.iload (q := 27) d_prog_109_method_5_25 rfl rfl ?_
    refine Here.callS (qn := 30) (os1 := [(b, .inr (.byte, [(.int (nar .byte r_27)), (.int u1), (.int u2), (.int u3), (.int u4)]))]) (os2 := []) (rest := [(.int 1), (.ref b)]) (W := 2) (argsL := [(.int o), (.int z), (.int 4), (.int 1)]) A69 (m_hb l Z a0 hw o z ((4 : Int32)) ((1 : Int32))) (Or.inl rfl) (tw hw 9 rfl) (tw hw 10 rfl) (tw hw 4 rfl) (tw hw 11 rfl) (by decide) d_prog_109_method_5_27 rfl (lenOf pd_3 rfl) rfl (Nat.le_of_eq rfl) (by decide) (by decide) (by decide) (by decide) rfl (fun T70 v71 os72 A73 P74 => ?_)
    obtain ⟨r_27_2, rfl, rfl, hq_27_2⟩ := P74
    have A75 := A73.cast (k2 := 0) (n2 := 0) (os2 := [(b, .inr (.byte, [(.int (nar .byte r_27)), (.int u1), (.int u2), (.int u3), (.int u4)]))]) rfl rfl rfl
    refine A75.stB (qn := 31) (i := 0) d_prog_109_method_5_30 rfl (by decide) (show (1 : Int32).toNatClampNeg < 5 from by decide) rfl rfl (fun T76 A77 => ?_)
    have A78 := A77.cast (k2 := 0) (n2 := 0) (os2 := [(b, .inr (.byte, [(.int (nar .byte r_27)), (.int (nar .byte r_27_2)), (.int u2), (.int u3), (.int u4)]))]) rfl rfl rfl
    refine A78.iinc (q := 34) (l' := #[.val (.int o), .val (.int z), .val (.ref b), .val (.int 0), .val (.int 4), .val (.int 2)]) d_prog_109_method_5_31 rfl rfl rfl ?_
    refine A78.goto (q := 9) d_prog_109_method_5_34 (by decide) (by decide) ?_
    refine A78.iload (q := 11) d_prog_109_method_5_9 rfl rfl ?_
    refine A78.iload (q := 13) d_prog_109_method_5_11 rfl rfl ?_
    refine A78.icmpNo (q := 16) d_prog_109_method_5_13 (by decide) rfl ?_
    refine A78.aloadN (q := 17) d_prog_109_method_5_16 rfl rfl rfl ?_
    refine A78.iloadN (q := 18) d_prog_109_method_5_17 rfl rfl ?_
    refine A78.iload (q := 20) d_prog_109_method_5_18 rfl rfl ?_
    refine A78.iadd (q := 21) d_prog_109_method_5_20 rfl ?_
    refine Wp.top (v' := (.int 2)) rfl ?_
    refine A78.iloadN (q := 22) d_prog_109_method_5_21 rfl rfl ?_
    refine A78.iloadN (q := 23) d_prog_109_method_5_22 rfl rfl ?_
    refine A78.iload (q := 25) d_prog_109_method_5_23 rfl rfl ?_
    refine A78.iload (q := 27) d_prog_109_method_5_25 rfl rfl ?_
    refine Here.callS (qn := 30) (os1 := [(b, .inr (.byte, [(.int (nar .byte r_27)), (.int (nar .byte r_27_2)), (.int u2), (.int u3), (.int u4)]))]) (os2 := []) (rest := [(.int 2), (.ref b)]) (W := 2) (argsL := [(.int o), (.int z), (.int 4), (.int 2)]) A78 (m_hb l Z a0 hw o z ((4 : Int32)) ((2 : Int32))) (Or.inl rfl) (tw hw 9 rfl) (tw hw 10 rfl) (tw hw 4 rfl) (tw hw 11 rfl) (by decide) d_prog_109_method_5_27 rfl (lenOf pd_3 rfl) rfl (Nat.le_of_eq rfl) (by decide) (by decide) (by decide) (by decide) rfl (fun T79 v80 os81 A82 P83 => ?_)
    obtain ⟨r_27_3, rfl, rfl, hq_27_3⟩ := P83
    have A84 := A82.cast (k2 := 0) (n2 := 0) (os2 := [(b, .inr (.byte, [(.int (nar .byte r_27)), (.int (nar .byte r_27_2)), (.int u2), (.int u3), (.int u4)]))]) rfl rfl rfl
    refine A84.stB (qn := 31) (i := 0) d_prog_109_method_5_30 rfl (by decide) (show (2 : Int32).toNatClampNeg < 5 from by decide) rfl rfl (fun T85 A86 => ?_)
    have A87 := A86.cast (k2 := 0) (n2 := 0) (os2 := [(b, .inr (.byte, [(.int (nar .byte r_27)), (.int (nar .byte r_27_2)), (.int (nar .byte r_27_3)), (.int u3), (.int u4)]))]) rfl rfl rfl
    refine A87.iinc (q := 34) (l' := #[.val (.int o), .val (.int z), .val (.ref b), .val (.int 0), .val (.int 4), .val (.int 3)]) d_prog_109_method_5_31 rfl rfl rfl ?_
    refine A87.goto (q := 9) d_prog_109_method_5_34 (by decide) (by decide) ?_
    refine A87.iload (q := 11) d_prog_109_method_5_9 rfl rfl ?_
    refine A87.iload (q := 13) d_prog_109_method_5_11 rfl rfl ?_
    refine A87.icmpNo (q := 16) d_prog_109_method_5_13 (by decide) rfl ?_
    refine A87.aloadN (q := 17) d_prog_109_method_5_16 rfl rfl rfl ?_
    refine A87.iloadN (q := 18) d_prog_109_method_5_17 rfl rfl ?_
    refine A87.iload (q := 20) d_prog_109_method_5_18 rfl rfl ?_
    refine A87.iadd (q := 21) d_prog_109_method_5_20 rfl ?_
    refine Wp.top (v' := (.int 3)) rfl ?_
    refine A87.iloadN (q := 22) d_prog_109_method_5_21 rfl rfl ?_
    refine A87.iloadN (q := 23) d_prog_109_method_5_22 rfl rfl ?_
    refine A87.iload (q := 25) d_prog_109_method_5_23 rfl rfl ?_
    refine A87.iload (q := 27) d_prog_109_method_5_25 rfl rfl ?_
    refine Here.callS (qn := 30) (os1 := [(b, .inr (.byte, [(.int (nar .byte r_27)), (.int (nar .byte r_27_2)), (.int (nar .byte r_27_3)), (.int u3), (.int u4)]))]) (os2 := []) (rest := [(.int 3), (.ref b)]) (W := 2) (argsL := [(.int o), (.int z), (.int 4), (.int 3)]) A87 (m_hb l Z a0 hw o z ((4 : Int32)) ((3 : Int32))) (Or.inl rfl) (tw hw 9 rfl) (tw hw 10 rfl) (tw hw 4 rfl) (tw hw 11 rfl) (by decide) d_prog_109_method_5_27 rfl (lenOf pd_3 rfl) rfl (Nat.le_of_eq rfl) (by decide) (by decide) (by decide) (by decide) rfl (fun T88 v89 os90 A91 P92 => ?_)
    obtain ⟨r_27_4, rfl, rfl, hq_27_4⟩ := P92
    have A93 := A91.cast (k2 := 0) (n2 := 0) (os2 := [(b, .inr (.byte, [(.int (nar .byte r_27)), (.int (nar .byte r_27_2)), (.int (nar .byte r_27_3)), (.int u3), (.int u4)]))]) rfl rfl rfl
    refine A93.stB (qn := 31) (i := 0) d_prog_109_method_5_30 rfl (by decide) (show (3 : Int32).toNatClampNeg < 5 from by decide) rfl rfl (fun T94 A95 => ?_)
    have A96 := A95.cast (k2 := 0) (n2 := 0) (os2 := [(b, .inr (.byte, [(.int (nar .byte r_27)), (.int (nar .byte r_27_2)), (.int (nar .byte r_27_3)), (.int (nar .byte r_27_4)), (.int u4)]))]) rfl rfl rfl
    refine A96.iinc (q := 34) (l' := #[.val (.int o), .val (.int z), .val (.ref b), .val (.int 0), .val (.int 4), .val (.int 4)]) d_prog_109_method_5_31 rfl rfl rfl ?_
    refine A96.goto (q := 9) d_prog_109_method_5_34 (by decide) (by decide) ?_
    refine A96.iload (q := 11) d_prog_109_method_5_9 rfl rfl ?_
    refine A96.iload (q := 13) d_prog_109_method_5_11 rfl rfl ?_
    refine A96.icmpYes (q := 37) d_prog_109_method_5_13 (by decide) (by decide) (by decide) ?_
    refine A96.iloadN (q := 38) d_prog_109_method_5_37 rfl rfl ?_
    refine A96.iload (q := 40) d_prog_109_method_5_38 rfl rfl ?_
    refine A96.iadd (q := 41) d_prog_109_method_5_40 rfl ?_
    refine Wp.top (v' := (.int 4)) rfl ?_
    refine A96.retI d_prog_109_method_5_41 (by decide) (by decide) ⟨(4 : Int32), (nar .byte r_27), (nar .byte r_27_2), (nar .byte r_27_3), (nar .byte r_27_4), u4, rfl, rfl, ?_⟩
    clear hw A0 A4 A6 A64 A66 A68 A69 A73 A75 A77 A78 A82 A84 A86 A87 A91 A93 A95 A96
    refine ⟨hq_1, ?_⟩
    rw [← hq_1]
    rw [hq_27 rfl]
  · show Wp _ _ _ _ _ _ _ _ _ _ T1 (mkF m 9 #[.val (.int o), .val (.int z), .val (.ref b), .val (.int 0), .val (.int 5), .val (.int 0)] [])
    refine A6.iload (q := 11) d_prog_109_method_5_9 rfl rfl ?_
    refine A6.iload (q := 13) d_prog_109_method_5_11 rfl rfl ?_
    refine A6.icmpNo (q := 16) d_prog_109_method_5_13 (by decide) rfl ?_
    refine A6.aloadN (q := 17) d_prog_109_method_5_16 rfl rfl rfl ?_
    refine A6.iloadN (q := 18) d_prog_109_method_5_17 rfl rfl ?_
    refine A6.iload (q := 20) d_prog_109_method_5_18 rfl rfl ?_
    refine A6.iadd (q := 21) d_prog_109_method_5_20 rfl ?_
    refine Wp.top (v' := (.int 0)) rfl ?_
    refine A6.iloadN (q := 22) d_prog_109_method_5_21 rfl rfl ?_
    refine A6.iloadN (q := 23) d_prog_109_method_5_22 rfl rfl ?_
    refine A6.iload (q := 25) d_prog_109_method_5_23 rfl rfl ?_
    refine A6.iload (q := 27) d_prog_109_method_5_25 rfl rfl ?_
    refine Here.callS (qn := 30) (os1 := [(b, .inr (.byte, [(.int u0), (.int u1), (.int u2), (.int u3), (.int u4)]))]) (os2 := []) (rest := [(.int 0), (.ref b)]) (W := 2) (argsL := [(.int o), (.int z), (.int 5), (.int 0)]) A6 (m_hb l Z a0 hw o z ((5 : Int32)) ((0 : Int32))) (Or.inl rfl) (tw hw 9 rfl) (tw hw 10 rfl) (tw hw 4 rfl) (tw hw 11 rfl) (by decide) d_prog_109_method_5_27 rfl (lenOf pd_3 rfl) rfl (Nat.le_of_eq rfl) (by decide) (by decide) (by decide) (by decide) rfl (fun T97 v98 os99 A100 P101 => ?_)
    obtain ⟨r_27, rfl, rfl, hq_27⟩ := P101
    have A102 := A100.cast (k2 := 0) (n2 := 0) (os2 := [(b, .inr (.byte, [(.int u0), (.int u1), (.int u2), (.int u3), (.int u4)]))]) rfl rfl rfl
    refine A102.stB (qn := 31) (i := 0) d_prog_109_method_5_30 rfl (by decide) (show (0 : Int32).toNatClampNeg < 5 from by decide) rfl rfl (fun T103 A104 => ?_)
    have A105 := A104.cast (k2 := 0) (n2 := 0) (os2 := [(b, .inr (.byte, [(.int (nar .byte r_27)), (.int u1), (.int u2), (.int u3), (.int u4)]))]) rfl rfl rfl
    refine A105.iinc (q := 34) (l' := #[.val (.int o), .val (.int z), .val (.ref b), .val (.int 0), .val (.int 5), .val (.int 1)]) d_prog_109_method_5_31 rfl rfl rfl ?_
    refine A105.goto (q := 9) d_prog_109_method_5_34 (by decide) (by decide) ?_
    refine A105.iload (q := 11) d_prog_109_method_5_9 rfl rfl ?_
    refine A105.iload (q := 13) d_prog_109_method_5_11 rfl rfl ?_
    refine A105.icmpNo (q := 16) d_prog_109_method_5_13 (by decide) rfl ?_
    refine A105.aloadN (q := 17) d_prog_109_method_5_16 rfl rfl rfl ?_
    refine A105.iloadN (q := 18) d_prog_109_method_5_17 rfl rfl ?_
    refine A105.iload (q := 20) d_prog_109_method_5_18 rfl rfl ?_
    refine A105.iadd (q := 21) d_prog_109_method_5_20 rfl ?_
    refine Wp.top (v' := (.int 1)) rfl ?_
    refine A105.iloadN (q := 22) d_prog_109_method_5_21 rfl rfl ?_
    refine A105.iloadN (q := 23) d_prog_109_method_5_22 rfl rfl ?_
    refine A105.iload (q := 25) d_prog_109_method_5_23 rfl rfl ?_
    refine A105.iload (q := 27) d_prog_109_method_5_25 rfl rfl ?_
    refine Here.callS (qn := 30) (os1 := [(b, .inr (.byte, [(.int (nar .byte r_27)), (.int u1), (.int u2), (.int u3), (.int u4)]))]) (os2 := []) (rest := [(.int 1), (.ref b)]) (W := 2) (argsL := [(.int o), (.int z), (.int 5), (.int 1)]) A105 (m_hb l Z a0 hw o z ((5 : Int32)) ((1 : Int32))) (Or.inl rfl) (tw hw 9 rfl) (tw hw 10 rfl) (tw hw 4 rfl) (tw hw 11 rfl) (by decide) d_prog_109_method_5_27 rfl (lenOf pd_3 rfl) rfl (Nat.le_of_eq rfl) (by decide) (by decide) (by decide) (by decide) rfl (fun T106 v107 os108 A109 P110 => ?_)
    obtain ⟨r_27_2, rfl, rfl, hq_27_2⟩ := P110
    have A111 := A109.cast (k2 := 0) (n2 := 0) (os2 := [(b, .inr (.byte, [(.int (nar .byte r_27)), (.int u1), (.int u2), (.int u3), (.int u4)]))]) rfl rfl rfl
    refine A111.stB (qn := 31) (i := 0) d_prog_109_method_5_30 rfl (by decide) (show (1 : Int32).toNatClampNeg < 5 from by decide) rfl rfl (fun T112 A113 => ?_)
    have A114 := A113.cast (k2 := 0) (n2 := 0) (os2 := [(b, .inr (.byte, [(.int (nar .byte r_27)), (.int (nar .byte r_27_2)), (.int u2), (.int u3), (.int u4)]))]) rfl rfl rfl
    refine A114.iinc (q := 34) (l' := #[.val (.int o), .val (.int z), .val (.ref b), .val (.int 0), .val (.int 5), .val (.int 2)]) d_prog_109_method_5_31 rfl rfl rfl ?_
    refine A114.goto (q := 9) d_prog_109_method_5_34 (by decide) (by decide) ?_
    refine A114.iload (q := 11) d_prog_109_method_5_9 rfl rfl ?_
    refine A114.iload (q := 13) d_prog_109_method_5_11 rfl rfl ?_
    refine A114.icmpNo (q := 16) d_prog_109_method_5_13 (by decide) rfl ?_
    refine A114.aloadN (q := 17) d_prog_109_method_5_16 rfl rfl rfl ?_
    refine A114.iloadN (q := 18) d_prog_109_method_5_17 rfl rfl ?_
    refine A114.iload (q := 20) d_prog_109_method_5_18 rfl rfl ?_
    refine A114.iadd (q := 21) d_prog_109_method_5_20 rfl ?_
    refine Wp.top (v' := (.int 2)) rfl ?_
    refine A114.iloadN (q := 22) d_prog_109_method_5_21 rfl rfl ?_
    refine A114.iloadN (q := 23) d_prog_109_method_5_22 rfl rfl ?_
    refine A114.iload (q := 25) d_prog_109_method_5_23 rfl rfl ?_
    refine A114.iload (q := 27) d_prog_109_method_5_25 rfl rfl ?_
    refine Here.callS (qn := 30) (os1 := [(b, .inr (.byte, [(.int (nar .byte r_27)), (.int (nar .byte r_27_2)), (.int u2), (.int u3), (.int u4)]))]) (os2 := []) (rest := [(.int 2), (.ref b)]) (W := 2) (argsL := [(.int o), (.int z), (.int 5), (.int 2)]) A114 (m_hb l Z a0 hw o z ((5 : Int32)) ((2 : Int32))) (Or.inl rfl) (tw hw 9 rfl) (tw hw 10 rfl) (tw hw 4 rfl) (tw hw 11 rfl) (by decide) d_prog_109_method_5_27 rfl (lenOf pd_3 rfl) rfl (Nat.le_of_eq rfl) (by decide) (by decide) (by decide) (by decide) rfl (fun T115 v116 os117 A118 P119 => ?_)
    obtain ⟨r_27_3, rfl, rfl, hq_27_3⟩ := P119
    have A120 := A118.cast (k2 := 0) (n2 := 0) (os2 := [(b, .inr (.byte, [(.int (nar .byte r_27)), (.int (nar .byte r_27_2)), (.int u2), (.int u3), (.int u4)]))]) rfl rfl rfl
    refine A120.stB (qn := 31) (i := 0) d_prog_109_method_5_30 rfl (by decide) (show (2 : Int32).toNatClampNeg < 5 from by decide) rfl rfl (fun T121 A122 => ?_)
    have A123 := A122.cast (k2 := 0) (n2 := 0) (os2 := [(b, .inr (.byte, [(.int (nar .byte r_27)), (.int (nar .byte r_27_2)), (.int (nar .byte r_27_3)), (.int u3), (.int u4)]))]) rfl rfl rfl
    refine A123.iinc (q := 34) (l' := #[.val (.int o), .val (.int z), .val (.ref b), .val (.int 0), .val (.int 5), .val (.int 3)]) d_prog_109_method_5_31 rfl rfl rfl ?_
    refine A123.goto (q := 9) d_prog_109_method_5_34 (by decide) (by decide) ?_
    refine A123.iload (q := 11) d_prog_109_method_5_9 rfl rfl ?_
    refine A123.iload (q := 13) d_prog_109_method_5_11 rfl rfl ?_
    refine A123.icmpNo (q := 16) d_prog_109_method_5_13 (by decide) rfl ?_
    refine A123.aloadN (q := 17) d_prog_109_method_5_16 rfl rfl rfl ?_
    refine A123.iloadN (q := 18) d_prog_109_method_5_17 rfl rfl ?_
    refine A123.iload (q := 20) d_prog_109_method_5_18 rfl rfl ?_
    refine A123.iadd (q := 21) d_prog_109_method_5_20 rfl ?_
    refine Wp.top (v' := (.int 3)) rfl ?_
    refine A123.iloadN (q := 22) d_prog_109_method_5_21 rfl rfl ?_
    refine A123.iloadN (q := 23) d_prog_109_method_5_22 rfl rfl ?_
    refine A123.iload (q := 25) d_prog_109_method_5_23 rfl rfl ?_
    refine A123.iload (q := 27) d_prog_109_method_5_25 rfl rfl ?_
    refine Here.callS (qn := 30) (os1 := [(b, .inr (.byte, [(.int (nar .byte r_27)), (.int (nar .byte r_27_2)), (.int (nar .byte r_27_3)), (.int u3), (.int u4)]))]) (os2 := []) (rest := [(.int 3), (.ref b)]) (W := 2) (argsL := [(.int o), (.int z), (.int 5), (.int 3)]) A123 (m_hb l Z a0 hw o z ((5 : Int32)) ((3 : Int32))) (Or.inl rfl) (tw hw 9 rfl) (tw hw 10 rfl) (tw hw 4 rfl) (tw hw 11 rfl) (by decide) d_prog_109_method_5_27 rfl (lenOf pd_3 rfl) rfl (Nat.le_of_eq rfl) (by decide) (by decide) (by decide) (by decide) rfl (fun T124 v125 os126 A127 P128 => ?_)
    obtain ⟨r_27_4, rfl, rfl, hq_27_4⟩ := P128
    have A129 := A127.cast (k2 := 0) (n2 := 0) (os2 := [(b, .inr (.byte, [(.int (nar .byte r_27)), (.int (nar .byte r_27_2)), (.int (nar .byte r_27_3)), (.int u3), (.int u4)]))]) rfl rfl rfl
    refine A129.stB (qn := 31) (i := 0) d_prog_109_method_5_30 rfl (by decide) (show (3 : Int32).toNatClampNeg < 5 from by decide) rfl rfl (fun T130 A131 => ?_)
    have A132 := A131.cast (k2 := 0) (n2 := 0) (os2 := [(b, .inr (.byte, [(.int (nar .byte r_27)), (.int (nar .byte r_27_2)), (.int (nar .byte r_27_3)), (.int (nar .byte r_27_4)), (.int u4)]))]) rfl rfl rfl
    refine A132.iinc (q := 34) (l' := #[.val (.int o), .val (.int z), .val (.ref b), .val (.int 0), .val (.int 5), .val (.int 4)]) d_prog_109_method_5_31 rfl rfl rfl ?_
    refine A132.goto (q := 9) d_prog_109_method_5_34 (by decide) (by decide) ?_
    refine A132.iload (q := 11) d_prog_109_method_5_9 rfl rfl ?_
    refine A132.iload (q := 13) d_prog_109_method_5_11 rfl rfl ?_
    refine A132.icmpNo (q := 16) d_prog_109_method_5_13 (by decide) rfl ?_
    refine A132.aloadN (q := 17) d_prog_109_method_5_16 rfl rfl rfl ?_
    refine A132.iloadN (q := 18) d_prog_109_method_5_17 rfl rfl ?_
    refine A132.iload (q := 20) d_prog_109_method_5_18 rfl rfl ?_
    refine A132.iadd (q := 21) d_prog_109_method_5_20 rfl ?_
    refine Wp.top (v' := (.int 4)) rfl ?_
    refine A132.iloadN (q := 22) d_prog_109_method_5_21 rfl rfl ?_
    refine A132.iloadN (q := 23) d_prog_109_method_5_22 rfl rfl ?_
    refine A132.iload (q := 25) d_prog_109_method_5_23 rfl rfl ?_
    refine A132.iload (q := 27) d_prog_109_method_5_25 rfl rfl ?_
    refine Here.callS (qn := 30) (os1 := [(b, .inr (.byte, [(.int (nar .byte r_27)), (.int (nar .byte r_27_2)), (.int (nar .byte r_27_3)), (.int (nar .byte r_27_4)), (.int u4)]))]) (os2 := []) (rest := [(.int 4), (.ref b)]) (W := 2) (argsL := [(.int o), (.int z), (.int 5), (.int 4)]) A132 (m_hb l Z a0 hw o z ((5 : Int32)) ((4 : Int32))) (Or.inl rfl) (tw hw 9 rfl) (tw hw 10 rfl) (tw hw 4 rfl) (tw hw 11 rfl) (by decide) d_prog_109_method_5_27 rfl (lenOf pd_3 rfl) rfl (Nat.le_of_eq rfl) (by decide) (by decide) (by decide) (by decide) rfl (fun T133 v134 os135 A136 P137 => ?_)
    obtain ⟨r_27_5, rfl, rfl, hq_27_5⟩ := P137
    have A138 := A136.cast (k2 := 0) (n2 := 0) (os2 := [(b, .inr (.byte, [(.int (nar .byte r_27)), (.int (nar .byte r_27_2)), (.int (nar .byte r_27_3)), (.int (nar .byte r_27_4)), (.int u4)]))]) rfl rfl rfl
    refine A138.stB (qn := 31) (i := 0) d_prog_109_method_5_30 rfl (by decide) (show (4 : Int32).toNatClampNeg < 5 from by decide) rfl rfl (fun T139 A140 => ?_)
    have A141 := A140.cast (k2 := 0) (n2 := 0) (os2 := [(b, .inr (.byte, [(.int (nar .byte r_27)), (.int (nar .byte r_27_2)), (.int (nar .byte r_27_3)), (.int (nar .byte r_27_4)), (.int (nar .byte r_27_5))]))]) rfl rfl rfl
    refine A141.iinc (q := 34) (l' := #[.val (.int o), .val (.int z), .val (.ref b), .val (.int 0), .val (.int 5), .val (.int 5)]) d_prog_109_method_5_31 rfl rfl rfl ?_
    refine A141.goto (q := 9) d_prog_109_method_5_34 (by decide) (by decide) ?_
    refine A141.iload (q := 11) d_prog_109_method_5_9 rfl rfl ?_
    refine A141.iload (q := 13) d_prog_109_method_5_11 rfl rfl ?_
    refine A141.icmpYes (q := 37) d_prog_109_method_5_13 (by decide) (by decide) (by decide) ?_
    refine A141.iloadN (q := 38) d_prog_109_method_5_37 rfl rfl ?_
    refine A141.iload (q := 40) d_prog_109_method_5_38 rfl rfl ?_
    refine A141.iadd (q := 41) d_prog_109_method_5_40 rfl ?_
    refine Wp.top (v' := (.int 5)) rfl ?_
    refine A141.retI d_prog_109_method_5_41 (by decide) (by decide) ⟨(5 : Int32), (nar .byte r_27), (nar .byte r_27_2), (nar .byte r_27_3), (nar .byte r_27_4), (nar .byte r_27_5), rfl, rfl, ?_⟩
    clear hw A0 A4 A6 A100 A102 A104 A105 A109 A111 A113 A114 A118 A120 A122 A123 A127 A129 A131 A132 A136 A138 A140 A141
    refine ⟨hq_1, ?_⟩
    rw [← hq_1]
    rw [hq_27 rfl]
theorem pd_4 : parseMethodDescriptor "(II[BI)I" = some ⟨[.int, .int, (.array .byte), .int], some .int⟩ := by decide +kernel
theorem pn_5 : plainName "com/example/wirecall/wirecall/RlpHeaderCodePinLaw" = true := by first | (simp [plainName, overriddenIn]; done) | decide +kernel
theorem ef_m_law (m : MethodId) (x0 : Int32) (x1 : Int32) (x2 : Int32) : entryFrame m #[(.int x0), (.int x1), (.int x2)] maxLocals = mkF m 0 #[.val (.int x0), .val (.int x1), .val (.int x2), .unset, .unset, .unset, .unset, .unset, .unset, .unset, .unset, .unset, .unset, .unset] [] := by first | (simp [entryFrame, mkF, argsToLocals, Value.category, maxLocals]; done) | rfl
set_option maxRecDepth 65536 in
set_option maxHeartbeats 40000000 in
theorem m_law (l : Launch) (Z : State) (a0 : Array Value) (hw : ∀ d ∈ tables_1, d.before a0 Z = true) (x0 : Int32) (x1 : Int32) (x2 : Int32) :
    Pays l Z a0 x code maxLocals ret room_1 #[(.int x0), (.int x1), (.int x2)] [] (([] : Hs).map (·.1)) (fun v os' => v = some (.int 1) ∧ True) := by
  refine Pays.of (Ls := #[.val (.int x0), .val (.int x1), .val (.int x2), .unset, .unset, .unset, .unset, .unset, .unset, .unset, .unset, .unset, .unset, .unset]) (plainFor_of_name pn_5) (fun m => ef_m_law m x0 x1 x2) ?_
  intro p e s m below meth c T0 A0
  have J15 : ∀ (T1 : State) (o : Int32), Here p l e room_1 s m #[(.int x0), (.int x1), (.int x2)] below meth c Z a0 x code maxLocals ret (([] : Hs).map (·.1)) (([] : Hs).map (·.1)) T1 0 0 [] → (o = 128 ∨ o = 192) → Wp p e below Z a0 (([] : Hs).map (·.1)) (([] : Hs).map (·.1)) room_1 s (fun v os' => v = some (.int 1) ∧ True) T1 (mkF m 15 #[.val (.int x0), .val (.int x1), .val (.int x2), .unset, .unset, .unset, .unset, .unset, .unset, .unset, .unset, .unset, .unset, .unset] [(.int o)]) := by
    intro T1 o A2 hJ15
    refine A2.istoreN (q := 16) (l' := #[.val (.int x0), .val (.int x1), .val (.int x2), .val (.int o), .unset, .unset, .unset, .unset, .unset, .unset, .unset, .unset, .unset, .unset]) at_15 rfl rfl ?_
    refine A2.iloadN (q := 17) at_16 rfl rfl ?_
    refine A2.ldc (qn := 19) (v := 2147483647) (tw hw 0 rfl) at_17 rfl ?_
    refine A2.iand (q := 20) at_19 rfl ?_
    refine A2.istore (q := 22) (l' := #[.val (.int x0), .val (.int x1), .val (.int x2), .val (.int o), .val (.int (x1 &&& (2147483647 : Int32))), .unset, .unset, .unset, .unset, .unset, .unset, .unset, .unset, .unset]) at_20 rfl rfl ?_
    have J35 : ∀ (T3 : State) (pl : Int32), Here p l e room_1 s m #[(.int x0), (.int x1), (.int x2)] below meth c Z a0 x code maxLocals ret (([] : Hs).map (·.1)) (([] : Hs).map (·.1)) T3 0 0 [] → (0 ≤ pl.toInt) → Wp p e below Z a0 (([] : Hs).map (·.1)) (([] : Hs).map (·.1)) room_1 s (fun v os' => v = some (.int 1) ∧ True) T3 (mkF m 35 #[.val (.int x0), .val (.int x1), .val (.int x2), .val (.int o), .val (.int pl), .unset, .unset, .unset, .unset, .unset, .unset, .unset, .unset, .unset] []) := by
      intro T3 pl A4 hJ35
      refine A4.iconst (q := 36) (v := 5) at_35 rfl rfl ?_
      refine A4.newP (qn := 38) (cap := 5) (tw hw 1 rfl) at_36 (by decide) (by decide) (by decide) (by decide) (by decide) rfl (fun T5 b7 A6 => ?_)
      have A8 := A6.cast (k2 := 1) (n2 := 5) (os2 := [(b7, .inr (.byte, [(.int 0), (.int 0), (.int 0), (.int 0), (.int 0)]))]) rfl rfl rfl
      refine A8.astore (q := 40) (l' := #[.val (.int x0), .val (.int x1), .val (.int x2), .val (.int o), .val (.int pl), .val (.ref b7), .unset, .unset, .unset, .unset, .unset, .unset, .unset, .unset]) at_38 rfl rfl rfl ?_
      refine A8.iloadN (q := 41) at_40 rfl rfl ?_
      refine A8.iload (q := 43) at_41 rfl rfl ?_
      refine A8.aload (q := 45) at_43 rfl rfl rfl ?_
      refine A8.iconst (q := 46) (v := 0) at_45 rfl rfl ?_
      refine Here.callS (qn := 49) (os1 := []) (os2 := [(b7, .inr (.byte, [(.int 0), (.int 0), (.int 0), (.int 0), (.int 0)]))]) (rest := []) (W := 0) (argsL := [(.int o), (.int pl), (.ref b7), (.int 0)]) A8 (m_wr l Z a0 hw o pl b7 ((0 : Int32)) ((0 : Int32)) ((0 : Int32)) ((0 : Int32)) ((0 : Int32)) (hJ35)) (Or.inr ⟨rfl, rfl⟩) (tw hw 2 rfl) (tw hw 3 rfl) (tw hw 4 rfl) (tw hw 5 rfl) (by decide) at_46 rfl (lenOf pd_4 rfl) rfl (Nat.le_of_eq rfl) (by decide) (by decide) (by decide) (by decide) rfl (fun T9 v10 os11 A12 P13 => ?_)
      obtain ⟨r_46, e0_46, e1_46, e2_46, e3_46, e4_46, rfl, rfl, hq_46⟩ := P13
      have A14 := A12.cast (k2 := 1) (n2 := 5) (os2 := [(b7, .inr (.byte, [(.int e0_46), (.int e1_46), (.int e2_46), (.int e3_46), (.int e4_46)]))]) rfl rfl rfl
      refine A14.istore (q := 51) (l' := #[.val (.int x0), .val (.int x1), .val (.int x2), .val (.int o), .val (.int pl), .val (.ref b7), .val (.int r_46), .unset, .unset, .unset, .unset, .unset, .unset, .unset]) at_49 rfl rfl ?_
      refine A14.iload (q := 53) at_51 rfl rfl ?_
      refine Here.callS (qn := 56) (os1 := [(b7, .inr (.byte, [(.int e0_46), (.int e1_46), (.int e2_46), (.int e3_46), (.int e4_46)]))]) (os2 := []) (rest := []) (W := 0) (argsL := [(.int pl)]) A14 (m_len l Z a0 hw pl) (Or.inl rfl) (tw hw 12 rfl) (tw hw 7 rfl) (tw hw 4 rfl) (tw hw 8 rfl) (by decide) at_53 rfl (lenOf pd_1 rfl) rfl (Nat.le_of_eq rfl) (by decide) (by decide) (by decide) (by decide) rfl (fun T15 v16 os17 A18 P19 => ?_)
      obtain ⟨r_53, rfl, rfl, hq_53⟩ := P19
      have A20 := A18.cast (k2 := 1) (n2 := 5) (os2 := [(b7, .inr (.byte, [(.int e0_46), (.int e1_46), (.int e2_46), (.int e3_46), (.int e4_46)]))]) rfl rfl rfl
      refine A20.istore (q := 58) (l' := #[.val (.int x0), .val (.int x1), .val (.int x2), .val (.int o), .val (.int pl), .val (.ref b7), .val (.int r_46), .val (.int r_53), .unset, .unset, .unset, .unset, .unset, .unset]) at_56 rfl rfl ?_
      refine A20.aload (q := 60) at_58 rfl rfl rfl ?_
      refine A20.iconst (q := 61) (v := 0) at_60 rfl rfl ?_
      refine A20.ldB (qn := 62) (i := 0) at_61 rfl (by decide) rfl rfl ?_
      refine A20.sipush (q := 65) (v := 255) at_62 rfl rfl ?_
      refine A20.iand (q := 66) at_65 rfl ?_
      have hpf : ((e0_46 &&& (255 : Int32))).toInt = (if own_length pl = 1 then o + pl else ((o + (56 : Int32)) - (1 : Int32)) + (own_length pl - (1 : Int32))).toInt % 256 := by
        rw [hq_46.2]
        exact own_pref _
      have hlb := own_length_b pl hJ35
      have hl1 := hq_46.1
      have hl2 := hq_53
      generalize hpx : (e0_46 &&& (255 : Int32)) = px at hpf ⊢
      clear hpx
      have hpp : (pl.toInt < 56 ∧ px.toInt = o.toInt + pl.toInt) ∨ (56 ≤ pl.toInt ∧ px.toInt = o.toInt + 54 + (own_length pl).toInt) := by
        rcases hlb with ⟨h, h'⟩ | ⟨h, h' | h' | h' | h'⟩ <;> rw [h'] at hpf ⊢ <;> (first | rw [if_pos rfl] at hpf | rw [if_neg (by decide)] at hpf)
        all_goals rcases hJ15 with rfl | rfl
        all_goals (try simp only [true_and, and_true, false_and, and_false, true_or, or_true, false_or, or_false, not_true_eq_false, not_false_eq_true, Int32.lt_iff_toInt_lt, Int64.lt_iff_toInt_lt, Int32.le_iff_toInt_le, Int64.le_iff_toInt_le, ← Int32.toInt_inj, ← Int64.toInt_inj, Int32.toInt_add, Int32.toInt_sub, Int32.toInt_neg, Int64.toInt_add, Int64.toInt_sub, Int64.toInt_neg, Int64.toInt_mul, Int32.toInt_toInt64, bm32, bm64, l32_m128, l32_0, l32_1, l32_2, l32_3, l32_4, l32_5, l32_7, l32_8, l32_32, l32_55, l32_56, l32_127, l32_128, l32_192, l32_255, l32_2147483647] at h hpf ⊢) <;> omega
      clear hpf
      show Wp _ _ _ _ _ _ _ _ _ _ T15 (mkF m 66 #[.val (.int x0), .val (.int x1), .val (.int x2), .val (.int o), .val (.int pl), .val (.ref b7), .val (.int r_46), .val (.int r_53), .unset, .unset, .unset, .unset, .unset, .unset] [(.int px)])
      refine A20.istore (q := 68) (l' := #[.val (.int x0), .val (.int x1), .val (.int x2), .val (.int o), .val (.int pl), .val (.ref b7), .val (.int r_46), .val (.int r_53), .val (.int px), .unset, .unset, .unset, .unset, .unset]) at_66 rfl rfl ?_
      refine A20.iload (q := 70) at_68 rfl rfl ?_
      refine Here.callS (qn := 73) (os1 := [(b7, .inr (.byte, [(.int e0_46), (.int e1_46), (.int e2_46), (.int e3_46), (.int e4_46)]))]) (os2 := []) (rest := []) (W := 0) (argsL := [(.int px)]) A20 (m_code l Z a0 hw px ((by (try simp only [true_and, and_true, false_and, and_false, true_or, or_true, false_or, or_false, not_true_eq_false, not_false_eq_true, Int32.lt_iff_toInt_lt, Int64.lt_iff_toInt_lt, Int32.le_iff_toInt_le, Int64.le_iff_toInt_le, ← Int32.toInt_inj, ← Int64.toInt_inj, Int32.toInt_add, Int32.toInt_sub, Int32.toInt_neg, Int64.toInt_add, Int64.toInt_sub, Int64.toInt_neg, Int64.toInt_mul, Int32.toInt_toInt64, bm32, bm64, l32_m128, l32_0, l32_1, l32_2, l32_3, l32_4, l32_5, l32_7, l32_8, l32_32, l32_55, l32_56, l32_127, l32_128, l32_192, l32_255, l32_2147483647] at hJ15 hJ35 hlb hl1 hl2 hpp ⊢) <;> omega))) (Or.inl rfl) (tw hw 13 rfl) (tw hw 14 rfl) (tw hw 4 rfl) (tw hw 15 rfl) (by decide) at_70 rfl (lenOf pd_1 rfl) rfl (Nat.le_of_eq rfl) (by decide) (by decide) (by decide) (by decide) rfl (fun T21 v22 os23 A24 P25 => ?_)
      obtain ⟨r_70, rfl, rfl, hq_70⟩ := P25
      have A26 := A24.cast (k2 := 1) (n2 := 5) (os2 := [(b7, .inr (.byte, [(.int e0_46), (.int e1_46), (.int e2_46), (.int e3_46), (.int e4_46)]))]) rfl rfl rfl
      refine A26.istore (q := 75) (l' := #[.val (.int x0), .val (.int x1), .val (.int x2), .val (.int o), .val (.int pl), .val (.ref b7), .val (.int r_46), .val (.int r_53), .val (.int px), .val (.int r_70), .unset, .unset, .unset, .unset]) at_73 rfl rfl ?_
      refine A26.iload (q := 77) at_75 rfl rfl ?_
      refine A26.bipush (q := 79) (v := 56) at_77 rfl rfl ?_
      by_cases hc79_27 : pl < (56 : Int32)
      · refine A26.icmpNo (q := 82) at_79 (tlt hc79_27).2.1 rfl ?_
        refine A26.iload (q := 84) at_82 rfl rfl ?_
        refine A26.iload (q := 86) at_84 rfl rfl ?_
        have hc86_28 : r_70 = pl := by
          clear hw A0 A2 A4 A6 A8 A12 A14 A18 A20 A24 A26
          (try simp only [true_and, and_true, false_and, and_false, true_or, or_true, false_or, or_false, not_true_eq_false, not_false_eq_true, Int32.lt_iff_toInt_lt, Int64.lt_iff_toInt_lt, Int32.le_iff_toInt_le, Int64.le_iff_toInt_le, ← Int32.toInt_inj, ← Int64.toInt_inj, Int32.toInt_add, Int32.toInt_sub, Int32.toInt_neg, Int64.toInt_add, Int64.toInt_sub, Int64.toInt_neg, Int64.toInt_mul, Int32.toInt_toInt64, bm32, bm64, l32_m128, l32_0, l32_1, l32_2, l32_3, l32_4, l32_5, l32_7, l32_8, l32_32, l32_55, l32_56, l32_127, l32_128, l32_192, l32_255, l32_2147483647] at hJ15 hJ35 hlb hl1 hl2 hpp hq_70 hc79_27 ⊢) <;> omega
        refine A26.icmpNo (q := 89) at_86 (teq hc86_28).2 rfl ?_
        refine A26.iconst (q := 90) (v := 1) at_89 rfl rfl ?_
        refine A26.goto (q := 94) at_90 (by decide) (by decide) ?_
        refine A26.istore (q := 96) (l' := #[.val (.int x0), .val (.int x1), .val (.int x2), .val (.int o), .val (.int pl), .val (.ref b7), .val (.int r_46), .val (.int r_53), .val (.int px), .val (.int r_70), .val (.int 1), .unset, .unset, .unset]) at_94 rfl rfl ?_
        refine A26.goto (q := 130) at_96 (by decide) (by decide) ?_
        refine A26.iloadN (q := 131) at_130 rfl rfl ?_
        refine A26.bipush (q := 133) (v := 127) at_131 rfl rfl ?_
        refine A26.iand (q := 134) at_133 rfl ?_
        generalize hlo : (x2 &&& (127 : Int32)) = lo
        have hlw : 0 ≤ lo.toInt ∧ lo.toInt < 128 := by rw [← hlo]; exact own_and127 _
        clear hlo
        refine A26.istore (q := 136) (l' := #[.val (.int x0), .val (.int x1), .val (.int x2), .val (.int o), .val (.int pl), .val (.ref b7), .val (.int r_46), .val (.int r_53), .val (.int px), .val (.int r_70), .val (.int 1), .val (.int lo), .unset, .unset]) at_134 rfl rfl ?_
        refine A26.iload (q := 138) at_136 rfl rfl ?_
        refine Here.callS (qn := 141) (os1 := [(b7, .inr (.byte, [(.int e0_46), (.int e1_46), (.int e2_46), (.int e3_46), (.int e4_46)]))]) (os2 := []) (rest := []) (W := 0) (argsL := [(.int lo)]) A26 (m_code l Z a0 hw lo ((by (try simp only [true_and, and_true, false_and, and_false, true_or, or_true, false_or, or_false, not_true_eq_false, not_false_eq_true, Int32.lt_iff_toInt_lt, Int64.lt_iff_toInt_lt, Int32.le_iff_toInt_le, Int64.le_iff_toInt_le, ← Int32.toInt_inj, ← Int64.toInt_inj, Int32.toInt_add, Int32.toInt_sub, Int32.toInt_neg, Int64.toInt_add, Int64.toInt_sub, Int64.toInt_neg, Int64.toInt_mul, Int32.toInt_toInt64, bm32, bm64, l32_m128, l32_0, l32_1, l32_2, l32_3, l32_4, l32_5, l32_7, l32_8, l32_32, l32_55, l32_56, l32_127, l32_128, l32_192, l32_255, l32_2147483647] at hJ15 hJ35 hlb hl1 hl2 hpp hq_70 hc79_27 hc86_28 hlw ⊢) <;> omega))) (Or.inl rfl) (tw hw 13 rfl) (tw hw 14 rfl) (tw hw 4 rfl) (tw hw 15 rfl) (by decide) at_138 rfl (lenOf pd_1 rfl) rfl (Nat.le_of_eq rfl) (by decide) (by decide) (by decide) (by decide) rfl (fun T29 v30 os31 A32 P33 => ?_)
        obtain ⟨r_138, rfl, rfl, hq_138⟩ := P33
        have A34 := A32.cast (k2 := 1) (n2 := 5) (os2 := [(b7, .inr (.byte, [(.int e0_46), (.int e1_46), (.int e2_46), (.int e3_46), (.int e4_46)]))]) rfl rfl rfl
        refine A34.istore (q := 143) (l' := #[.val (.int x0), .val (.int x1), .val (.int x2), .val (.int o), .val (.int pl), .val (.ref b7), .val (.int r_46), .val (.int r_53), .val (.int px), .val (.int r_70), .val (.int 1), .val (.int lo), .val (.int r_138), .unset]) at_141 rfl rfl ?_
        refine A34.iload (q := 145) at_143 rfl rfl ?_
        have hc145_35 : r_138 < (0 : Int32) := by
          clear hw A0 A2 A4 A6 A8 A12 A14 A18 A20 A24 A26 A32 A34
          (try simp only [true_and, and_true, false_and, and_false, true_or, or_true, false_or, or_false, not_true_eq_false, not_false_eq_true, Int32.lt_iff_toInt_lt, Int64.lt_iff_toInt_lt, Int32.le_iff_toInt_le, Int64.le_iff_toInt_le, ← Int32.toInt_inj, ← Int64.toInt_inj, Int32.toInt_add, Int32.toInt_sub, Int32.toInt_neg, Int64.toInt_add, Int64.toInt_sub, Int64.toInt_neg, Int64.toInt_mul, Int32.toInt_toInt64, bm32, bm64, l32_m128, l32_0, l32_1, l32_2, l32_3, l32_4, l32_5, l32_7, l32_8, l32_32, l32_55, l32_56, l32_127, l32_128, l32_192, l32_255, l32_2147483647] at hJ15 hJ35 hlb hl1 hl2 hpp hq_70 hc79_27 hc86_28 hlw hq_138 ⊢) <;> omega
        refine A34.ifNo (q := 148) at_145 ((if0 _ _).trans (tlt hc145_35).2.1) rfl ?_
        refine A34.iload (q := 150) at_148 rfl rfl ?_
        refine A34.bipush (q := 152) (v := -128) at_150 rfl rfl ?_
        have hc152_36 : ¬ (r_138 < (-128 : Int32)) := by
          clear hw A0 A2 A4 A6 A8 A12 A14 A18 A20 A24 A26 A32 A34
          (try simp only [true_and, and_true, false_and, and_false, true_or, or_true, false_or, or_false, not_true_eq_false, not_false_eq_true, Int32.lt_iff_toInt_lt, Int64.lt_iff_toInt_lt, Int32.le_iff_toInt_le, Int64.le_iff_toInt_le, ← Int32.toInt_inj, ← Int64.toInt_inj, Int32.toInt_add, Int32.toInt_sub, Int32.toInt_neg, Int64.toInt_add, Int64.toInt_sub, Int64.toInt_neg, Int64.toInt_mul, Int32.toInt_toInt64, bm32, bm64, l32_m128, l32_0, l32_1, l32_2, l32_3, l32_4, l32_5, l32_7, l32_8, l32_32, l32_55, l32_56, l32_127, l32_128, l32_192, l32_255, l32_2147483647] at hJ15 hJ35 hlb hl1 hl2 hpp hq_70 hc79_27 hc86_28 hlw hq_138 hc145_35 ⊢) <;> omega
        refine A34.icmpNo (q := 155) at_152 (flt hc152_36).1 rfl ?_
        refine A34.iconst (q := 156) (v := 1) at_155 rfl rfl ?_
        refine A34.goto (q := 160) at_156 (by decide) (by decide) ?_
        refine A34.istore (q := 162) (l' := #[.val (.int x0), .val (.int x1), .val (.int x2), .val (.int o), .val (.int pl), .val (.ref b7), .val (.int r_46), .val (.int r_53), .val (.int px), .val (.int r_70), .val (.int 1), .val (.int lo), .val (.int r_138), .val (.int 1)]) at_160 rfl rfl ?_
        refine A34.iload (q := 164) at_162 rfl rfl ?_
        refine A34.ifNo (q := 167) at_164 (by decide) rfl ?_
        refine A34.iload (q := 169) at_167 rfl rfl ?_
        refine A34.iload (q := 171) at_169 rfl rfl ?_
        have hc171_37 : r_46 = r_53 := by
          clear hw A0 A2 A4 A6 A8 A12 A14 A18 A20 A24 A26 A32 A34
          (try simp only [true_and, and_true, false_and, and_false, true_or, or_true, false_or, or_false, not_true_eq_false, not_false_eq_true, Int32.lt_iff_toInt_lt, Int64.lt_iff_toInt_lt, Int32.le_iff_toInt_le, Int64.le_iff_toInt_le, ← Int32.toInt_inj, ← Int64.toInt_inj, Int32.toInt_add, Int32.toInt_sub, Int32.toInt_neg, Int64.toInt_add, Int64.toInt_sub, Int64.toInt_neg, Int64.toInt_mul, Int32.toInt_toInt64, bm32, bm64, l32_m128, l32_0, l32_1, l32_2, l32_3, l32_4, l32_5, l32_7, l32_8, l32_32, l32_55, l32_56, l32_127, l32_128, l32_192, l32_255, l32_2147483647] at hJ15 hJ35 hlb hl1 hl2 hpp hq_70 hc79_27 hc86_28 hlw hq_138 hc145_35 hc152_36 ⊢) <;> omega
        refine A34.icmpNo (q := 174) at_171 (teq hc171_37).2 rfl ?_
        refine A34.iload (q := 176) at_174 rfl rfl ?_
        refine A34.ifNo (q := 179) at_176 (by decide) rfl ?_
        refine A34.iconst (q := 180) (v := 1) at_179 rfl rfl ?_
        refine A34.goto (q := 184) at_180 (by decide) (by decide) ?_
        exact A34.retN (by simp) at_184 (by decide) (by decide) ⟨rfl, trivial⟩
      · refine A26.icmpYes (q := 99) at_79 (flt hc79_27).2.1 (by decide) (by decide) ?_
        refine A26.iload (q := 101) at_99 rfl rfl ?_
        refine A26.bipush (q := 103) (v := 55) at_101 rfl rfl ?_
        refine A26.iload (q := 105) at_103 rfl rfl ?_
        refine A26.iconst (q := 106) (v := 1) at_105 rfl rfl ?_
        refine A26.isub (q := 107) at_106 rfl ?_
        refine A26.iadd (q := 108) at_107 rfl ?_
        have hc108_38 : r_70 = ((55 : Int32) + (r_53 - (1 : Int32))) := by
          clear hw A0 A2 A4 A6 A8 A12 A14 A18 A20 A24 A26
          (try simp only [true_and, and_true, false_and, and_false, true_or, or_true, false_or, or_false, not_true_eq_false, not_false_eq_true, Int32.lt_iff_toInt_lt, Int64.lt_iff_toInt_lt, Int32.le_iff_toInt_le, Int64.le_iff_toInt_le, ← Int32.toInt_inj, ← Int64.toInt_inj, Int32.toInt_add, Int32.toInt_sub, Int32.toInt_neg, Int64.toInt_add, Int64.toInt_sub, Int64.toInt_neg, Int64.toInt_mul, Int32.toInt_toInt64, bm32, bm64, l32_m128, l32_0, l32_1, l32_2, l32_3, l32_4, l32_5, l32_7, l32_8, l32_32, l32_55, l32_56, l32_127, l32_128, l32_192, l32_255, l32_2147483647] at hJ15 hJ35 hlb hl1 hl2 hpp hq_70 hc79_27 ⊢) <;> omega
        refine A26.icmpNo (q := 111) at_108 (teq hc108_38).2 rfl ?_
        refine A26.iload (q := 113) at_111 rfl rfl ?_
        refine Here.callS (qn := 116) (os1 := [(b7, .inr (.byte, [(.int e0_46), (.int e1_46), (.int e2_46), (.int e3_46), (.int e4_46)]))]) (os2 := []) (rest := []) (W := 0) (argsL := [(.int r_70)]) A26 (m_lb l Z a0 hw r_70 ((by (try simp only [true_and, and_true, false_and, and_false, true_or, or_true, false_or, or_false, not_true_eq_false, not_false_eq_true, Int32.lt_iff_toInt_lt, Int64.lt_iff_toInt_lt, Int32.le_iff_toInt_le, Int64.le_iff_toInt_le, ← Int32.toInt_inj, ← Int64.toInt_inj, Int32.toInt_add, Int32.toInt_sub, Int32.toInt_neg, Int64.toInt_add, Int64.toInt_sub, Int64.toInt_neg, Int64.toInt_mul, Int32.toInt_toInt64, bm32, bm64, l32_m128, l32_0, l32_1, l32_2, l32_3, l32_4, l32_5, l32_7, l32_8, l32_32, l32_55, l32_56, l32_127, l32_128, l32_192, l32_255, l32_2147483647] at hJ15 hJ35 hlb hl1 hl2 hpp hq_70 hc79_27 hc108_38 ⊢) <;> omega))) (Or.inl rfl) (tw hw 21 rfl) (tw hw 22 rfl) (tw hw 4 rfl) (tw hw 23 rfl) (by decide) at_113 rfl (lenOf pd_1 rfl) rfl (Nat.le_of_eq rfl) (by decide) (by decide) (by decide) (by decide) rfl (fun T39 v40 os41 A42 P43 => ?_)
        obtain ⟨r_113, rfl, rfl, hq_113⟩ := P43
        have A44 := A42.cast (k2 := 1) (n2 := 5) (os2 := [(b7, .inr (.byte, [(.int e0_46), (.int e1_46), (.int e2_46), (.int e3_46), (.int e4_46)]))]) rfl rfl rfl
        refine A44.iload (q := 118) at_116 rfl rfl ?_
        refine A44.iconst (q := 119) (v := 1) at_118 rfl rfl ?_
        refine A44.isub (q := 120) at_119 rfl ?_
        have hc120_45 : r_113 = (r_53 - (1 : Int32)) := by
          clear hw A0 A2 A4 A6 A8 A12 A14 A18 A20 A24 A26 A42 A44
          (try simp only [true_and, and_true, false_and, and_false, true_or, or_true, false_or, or_false, not_true_eq_false, not_false_eq_true, Int32.lt_iff_toInt_lt, Int64.lt_iff_toInt_lt, Int32.le_iff_toInt_le, Int64.le_iff_toInt_le, ← Int32.toInt_inj, ← Int64.toInt_inj, Int32.toInt_add, Int32.toInt_sub, Int32.toInt_neg, Int64.toInt_add, Int64.toInt_sub, Int64.toInt_neg, Int64.toInt_mul, Int32.toInt_toInt64, bm32, bm64, l32_m128, l32_0, l32_1, l32_2, l32_3, l32_4, l32_5, l32_7, l32_8, l32_32, l32_55, l32_56, l32_127, l32_128, l32_192, l32_255, l32_2147483647] at hJ15 hJ35 hlb hl1 hl2 hpp hq_70 hc79_27 hc108_38 hq_113 ⊢) <;> omega
        refine A44.icmpNo (q := 123) at_120 (teq hc120_45).2 rfl ?_
        refine A44.iconst (q := 124) (v := 1) at_123 rfl rfl ?_
        refine A44.goto (q := 128) at_124 (by decide) (by decide) ?_
        refine A44.istore (q := 130) (l' := #[.val (.int x0), .val (.int x1), .val (.int x2), .val (.int o), .val (.int pl), .val (.ref b7), .val (.int r_46), .val (.int r_53), .val (.int px), .val (.int r_70), .val (.int 1), .unset, .unset, .unset]) at_128 rfl rfl ?_
        refine A44.iloadN (q := 131) at_130 rfl rfl ?_
        refine A44.bipush (q := 133) (v := 127) at_131 rfl rfl ?_
        refine A44.iand (q := 134) at_133 rfl ?_
        generalize hlo : (x2 &&& (127 : Int32)) = lo
        have hlw : 0 ≤ lo.toInt ∧ lo.toInt < 128 := by rw [← hlo]; exact own_and127 _
        clear hlo
        refine A44.istore (q := 136) (l' := #[.val (.int x0), .val (.int x1), .val (.int x2), .val (.int o), .val (.int pl), .val (.ref b7), .val (.int r_46), .val (.int r_53), .val (.int px), .val (.int r_70), .val (.int 1), .val (.int lo), .unset, .unset]) at_134 rfl rfl ?_
        refine A44.iload (q := 138) at_136 rfl rfl ?_
        refine Here.callS (qn := 141) (os1 := [(b7, .inr (.byte, [(.int e0_46), (.int e1_46), (.int e2_46), (.int e3_46), (.int e4_46)]))]) (os2 := []) (rest := []) (W := 0) (argsL := [(.int lo)]) A44 (m_code l Z a0 hw lo ((by (try simp only [true_and, and_true, false_and, and_false, true_or, or_true, false_or, or_false, not_true_eq_false, not_false_eq_true, Int32.lt_iff_toInt_lt, Int64.lt_iff_toInt_lt, Int32.le_iff_toInt_le, Int64.le_iff_toInt_le, ← Int32.toInt_inj, ← Int64.toInt_inj, Int32.toInt_add, Int32.toInt_sub, Int32.toInt_neg, Int64.toInt_add, Int64.toInt_sub, Int64.toInt_neg, Int64.toInt_mul, Int32.toInt_toInt64, bm32, bm64, l32_m128, l32_0, l32_1, l32_2, l32_3, l32_4, l32_5, l32_7, l32_8, l32_32, l32_55, l32_56, l32_127, l32_128, l32_192, l32_255, l32_2147483647] at hJ15 hJ35 hlb hl1 hl2 hpp hq_70 hc79_27 hc108_38 hq_113 hc120_45 hlw ⊢) <;> omega))) (Or.inl rfl) (tw hw 13 rfl) (tw hw 14 rfl) (tw hw 4 rfl) (tw hw 15 rfl) (by decide) at_138 rfl (lenOf pd_1 rfl) rfl (Nat.le_of_eq rfl) (by decide) (by decide) (by decide) (by decide) rfl (fun T46 v47 os48 A49 P50 => ?_)
        obtain ⟨r_138, rfl, rfl, hq_138⟩ := P50
        have A51 := A49.cast (k2 := 1) (n2 := 5) (os2 := [(b7, .inr (.byte, [(.int e0_46), (.int e1_46), (.int e2_46), (.int e3_46), (.int e4_46)]))]) rfl rfl rfl
        refine A51.istore (q := 143) (l' := #[.val (.int x0), .val (.int x1), .val (.int x2), .val (.int o), .val (.int pl), .val (.ref b7), .val (.int r_46), .val (.int r_53), .val (.int px), .val (.int r_70), .val (.int 1), .val (.int lo), .val (.int r_138), .unset]) at_141 rfl rfl ?_
        refine A51.iload (q := 145) at_143 rfl rfl ?_
        have hc145_52 : r_138 < (0 : Int32) := by
          clear hw A0 A2 A4 A6 A8 A12 A14 A18 A20 A24 A26 A42 A44 A49 A51
          (try simp only [true_and, and_true, false_and, and_false, true_or, or_true, false_or, or_false, not_true_eq_false, not_false_eq_true, Int32.lt_iff_toInt_lt, Int64.lt_iff_toInt_lt, Int32.le_iff_toInt_le, Int64.le_iff_toInt_le, ← Int32.toInt_inj, ← Int64.toInt_inj, Int32.toInt_add, Int32.toInt_sub, Int32.toInt_neg, Int64.toInt_add, Int64.toInt_sub, Int64.toInt_neg, Int64.toInt_mul, Int32.toInt_toInt64, bm32, bm64, l32_m128, l32_0, l32_1, l32_2, l32_3, l32_4, l32_5, l32_7, l32_8, l32_32, l32_55, l32_56, l32_127, l32_128, l32_192, l32_255, l32_2147483647] at hJ15 hJ35 hlb hl1 hl2 hpp hq_70 hc79_27 hc108_38 hq_113 hc120_45 hlw hq_138 ⊢) <;> omega
        refine A51.ifNo (q := 148) at_145 ((if0 _ _).trans (tlt hc145_52).2.1) rfl ?_
        refine A51.iload (q := 150) at_148 rfl rfl ?_
        refine A51.bipush (q := 152) (v := -128) at_150 rfl rfl ?_
        have hc152_53 : ¬ (r_138 < (-128 : Int32)) := by
          clear hw A0 A2 A4 A6 A8 A12 A14 A18 A20 A24 A26 A42 A44 A49 A51
          (try simp only [true_and, and_true, false_and, and_false, true_or, or_true, false_or, or_false, not_true_eq_false, not_false_eq_true, Int32.lt_iff_toInt_lt, Int64.lt_iff_toInt_lt, Int32.le_iff_toInt_le, Int64.le_iff_toInt_le, ← Int32.toInt_inj, ← Int64.toInt_inj, Int32.toInt_add, Int32.toInt_sub, Int32.toInt_neg, Int64.toInt_add, Int64.toInt_sub, Int64.toInt_neg, Int64.toInt_mul, Int32.toInt_toInt64, bm32, bm64, l32_m128, l32_0, l32_1, l32_2, l32_3, l32_4, l32_5, l32_7, l32_8, l32_32, l32_55, l32_56, l32_127, l32_128, l32_192, l32_255, l32_2147483647] at hJ15 hJ35 hlb hl1 hl2 hpp hq_70 hc79_27 hc108_38 hq_113 hc120_45 hlw hq_138 hc145_52 ⊢) <;> omega
        refine A51.icmpNo (q := 155) at_152 (flt hc152_53).1 rfl ?_
        refine A51.iconst (q := 156) (v := 1) at_155 rfl rfl ?_
        refine A51.goto (q := 160) at_156 (by decide) (by decide) ?_
        refine A51.istore (q := 162) (l' := #[.val (.int x0), .val (.int x1), .val (.int x2), .val (.int o), .val (.int pl), .val (.ref b7), .val (.int r_46), .val (.int r_53), .val (.int px), .val (.int r_70), .val (.int 1), .val (.int lo), .val (.int r_138), .val (.int 1)]) at_160 rfl rfl ?_
        refine A51.iload (q := 164) at_162 rfl rfl ?_
        refine A51.ifNo (q := 167) at_164 (by decide) rfl ?_
        refine A51.iload (q := 169) at_167 rfl rfl ?_
        refine A51.iload (q := 171) at_169 rfl rfl ?_
        have hc171_54 : r_46 = r_53 := by
          clear hw A0 A2 A4 A6 A8 A12 A14 A18 A20 A24 A26 A42 A44 A49 A51
          (try simp only [true_and, and_true, false_and, and_false, true_or, or_true, false_or, or_false, not_true_eq_false, not_false_eq_true, Int32.lt_iff_toInt_lt, Int64.lt_iff_toInt_lt, Int32.le_iff_toInt_le, Int64.le_iff_toInt_le, ← Int32.toInt_inj, ← Int64.toInt_inj, Int32.toInt_add, Int32.toInt_sub, Int32.toInt_neg, Int64.toInt_add, Int64.toInt_sub, Int64.toInt_neg, Int64.toInt_mul, Int32.toInt_toInt64, bm32, bm64, l32_m128, l32_0, l32_1, l32_2, l32_3, l32_4, l32_5, l32_7, l32_8, l32_32, l32_55, l32_56, l32_127, l32_128, l32_192, l32_255, l32_2147483647] at hJ15 hJ35 hlb hl1 hl2 hpp hq_70 hc79_27 hc108_38 hq_113 hc120_45 hlw hq_138 hc145_52 hc152_53 ⊢) <;> omega
        refine A51.icmpNo (q := 174) at_171 (teq hc171_54).2 rfl ?_
        refine A51.iload (q := 176) at_174 rfl rfl ?_
        refine A51.ifNo (q := 179) at_176 (by decide) rfl ?_
        refine A51.iconst (q := 180) (v := 1) at_179 rfl rfl ?_
        refine A51.goto (q := 184) at_180 (by decide) (by decide) ?_
        exact A51.retN (by simp) at_184 (by decide) (by decide) ⟨rfl, trivial⟩
    refine A2.iloadN (q := 23) at_22 rfl rfl ?_
    refine A2.iconst (q := 24) (v := 2) at_23 rfl rfl ?_
    refine A2.iand (q := 25) at_24 rfl ?_
    by_cases hc25_55 : (x0 &&& (2 : Int32)) = (0 : Int32)
    · refine A2.ifYes (q := 35) at_25 ((if0 _ _).trans (teq hc25_55).1) (by decide) (by decide) ?_
      refine J35 T1 ((x1 &&& (2147483647 : Int32))) A2 ?_
      clear hw J35 A0 A2
      exact own_and31 _
    · refine A2.ifNo (q := 28) at_25 ((if0 _ _).trans (feq hc25_55).1) rfl ?_
      refine A2.iload (q := 30) at_28 rfl rfl ?_
      refine A2.bipush (q := 32) (v := 56) at_30 rfl rfl ?_
      refine A2.irem (qn := 33) at_32 (by decide) rfl ?_
      refine A2.istore (q := 35) (l' := #[.val (.int x0), .val (.int x1), .val (.int x2), .val (.int o), .val (.int ((x1 &&& (2147483647 : Int32)) % (56 : Int32))), .unset, .unset, .unset, .unset, .unset, .unset, .unset, .unset, .unset]) at_33 rfl rfl ?_
      refine J35 T1 (((x1 &&& (2147483647 : Int32)) % (56 : Int32))) A2 ?_
      clear hw J35 A0 A2
      exact own_r56 _ (own_and31 _)
  refine A0.iloadN (q := 1) at_0 rfl rfl ?_
  refine A0.iconst (q := 2) (v := 1) at_1 rfl rfl ?_
  refine A0.iand (q := 3) at_2 rfl ?_
  by_cases hc3_56 : (x0 &&& (1 : Int32)) = (0 : Int32)
  · refine A0.ifNo (q := 6) at_3 ((if0 _ _).trans (teq hc3_56).2) rfl ?_
    refine A0.sipush (q := 9) (v := 128) at_6 rfl rfl ?_
    refine A0.goto (q := 15) at_9 (by decide) (by decide) ?_
    refine J15 T0 ((128 : Int32)) A0 ?_
    clear hw J15 A0
    simp
  · refine A0.ifYes (q := 12) at_3 ((if0 _ _).trans (feq hc3_56).2) (by decide) (by decide) ?_
    refine A0.sipush (q := 15) (v := 192) at_12 rfl rfl ?_
    refine J15 T0 ((192 : Int32)) A0 ?_
    clear hw J15 A0
    simp
set_option maxRecDepth 65536 in
set_option maxHeartbeats 40000000 in
theorem comes_1 {Post : Tables → Env → Array Value → State → Outcome → State → Prop} (hpost : ∀ tb e args s v u, (limb_1_1.after args s (.returned v) u = true ∧ limb_1_2.after args s (.returned v) u = true ∧ True) → FrameEnd s (.returned v) u (Jvm.fieldLocs frame_1_writes args s ++ Jvm.arrayLocs frame_1_arrays args s ++ Jvm.staticLocs frame_1_statics s) 16 128 → Post tb e args s (.returned v) u) :
    ArmFor flags0 classFile x code maxLocals ret World_1 tables_1 room_1 Calls_1 rest_1 Pre_1 Post := by
  intro l hfl _ _ p e ha hc hk s m args below hf hA hF happ hP
  obtain ⟨hcalls, hrest, hpre⟩ := hP
  obtain ⟨-, -, -, hnamed, -, -, -, hat⟩ := (Spec.applies_iff hf).mp happ
  obtain ⟨hg, hn⟩ := and_e (Cond.before_iff.mp (show (Jvm.Cond.and given_1 narrow_1).before args s = true from hpre))
  obtain ⟨g11, g12⟩ := and_e hg
  obtain ⟨g13, g14⟩ := and_e g12
  obtain ⟨g15, g16⟩ := and_e g14
  obtain ⟨w0, w1, w2, rfl⟩ : ∃ w0 w1 w2 : Value, args = #[w0, w1, w2] := by
    have hs : args.size = 3 := by simpa [Cond.value, given_1] using g11
    obtain ⟨L⟩ := args
    match L, hs with
    | [w0, w1, w2], _ => exact ⟨w0, w1, w2, rfl⟩
  have hw := fun d (hd : d ∈ tables_1) => atoms_spec (ws := Jvm.Cond.code x code maxLocals ret :: tables_1) hat d (List.mem_cons_of_mem _ hd)
  obtain ⟨i0, ei0⟩ := is_v g13
  obtain rfl : w0 = (.int i0) := Option.some.inj ei0
  obtain ⟨i1, ei1⟩ := is_v g15
  obtain rfl : w1 = (.int i1) := Option.some.inj ei1
  obtain ⟨i2, ei2⟩ := is_v g16
  obtain rfl : w2 = (.int i2) := Option.some.inj ei2
  obtain ⟨n, o, h1, h2, h3, _, L, rfl, ⟨N, _, _, rfl, _⟩, hq⟩ := m_law l s _ hw i0 i1 i2 tables_1 s.heap ⟨List.nodup_nil, fun _ q => (nomatch q)⟩ p e ha hc hk s m _ below hf ((Spec.applies_iff_loose hf).mp happ).1 ⟨rfl, State.Warmed39.refl s, rfl⟩ trivial
  refine ⟨n, _, h1, h2, h3, hpost _ _ _ _ _ _ ⟨Cond.after_iff.mpr rfl, Cond.after_iff.mpr (eq_i res_at (Term.int_eval (1)) rfl), trivial⟩ ⟨hq.1, hq.2.1, (hq.2.2.sift fun y hy => Or.inr ((N y hy).elim (fun q => absurd q List.not_mem_nil) id)).mono (by decide) (by decide)⟩⟩
theorem main_1_1 : Claimed_1_1 := comes_1 fun _ _ _ _ _ _ h hF => ⟨h.1, hF⟩
theorem main_1_2 : Claimed_1_2 := comes_1 fun _ _ _ _ _ _ h hF => ⟨h.2.1, hF⟩
end Jvm.Pilot.@@N@@
namespace Jvm.Pilot.@@N@@
open Jvm Jvm.ClassFile Sem Op Lib Jvm.Free Jvm.Stand Jvm.Pilot.@@N@@.Jvm.D
/-! MADE BY PROGRAM (witnessworld.py) out of the Statement's table words and the real class files: 14 classes; the members and pool entries that the words name. The judged class is class 1, her method 1. -/
namespace start1
open Jvm.ClassFile
def u (s : String) : CpInfo := .utf8 (stringToUtf16 s)
/-- a pool by its gaps: so many unusable entries, then the entry; so many at the end -/
def gap : Nat → List CpInfo → List CpInfo
  | 0, r => r
  | n + 1, r => .unusable :: gap n r
def poolList (es : List (Nat × CpInfo)) (last : Nat) : List CpInfo := es.foldr (fun e r => gap e.1 (e.2 :: r)) (gap last [])
def pool (es : List (Nat × CpInfo)) (last : Nat) : Array CpInfo := ⟨poolList es last⟩
def fileOf (pool : Array CpInfo) (this : Nat) (attrs : Array Attribute := #[]) (ms : Array MethodInfo := #[]) (fl : Nat := 33) (sup : Nat := 0) (ifs : Array Nat := #[]) (fds : Array FieldInfo := #[]) : ClassFile where
  minorVersion := 0
  majorVersion := 65
  constantPool := pool
  accessFlags := fl
  thisClass := this
  superClass := sup
  interfaces := ifs
  fields := fds
  methods := ms
  attributes := attrs
def plain (name : String) (sup : Option ClassId) : Class where
  name := name
  kind := .ordinary
  loader := none
  accessFlags := 33
  super := sup
  interfaces := #[]
  cf := none
  fields := #[]
  methods := #[]
  instanceTypes := #[]
  staticTypes := #[]
  resolved := #[]
  callSites := []
  init := .initialized
  statics := none
  mirror := none

def pool0 : Array CpInfo := pool [(5, u "<init>"), (0, u "()V"), (1, .class_ 10), (1, u "java/lang/Object")] 113

def k0m0 : Method := { name := "<init>", desc := "()V", sig := { parameters := [], returnType := none }, accessFlags := 1, code := none }
/-- java/lang/Object -/
def k0 : Class := { plain "java/lang/Object" none with
  accessFlags := 33
  interfaces := #[]
  cf := some (fileOf pool0 8 #[] #[{ accessFlags := 1, nameIndex := 5, descriptorIndex := 6, attributes := #[] }] 33 0 #[] #[])
  fields := #[]
  methods := #[k0m0]
  instanceTypes := #[]
  staticTypes := #[]
  resolved := Array.replicate 124 none
  statics := none }

def pool1 : Array CpInfo := pool [(2, .class_ 4), (1, u "java/lang/Object"), (0, u "<init>"), (0, u "()V"), (0, .integer 2147483647), (0, .methodref 9 10), (0, .class_ 11), (0, .nameAndType 12 13), (0, u "com/example/wirecall/wirecall/RlpHeader"), (0, u "write"), (0, u "(II[BI)I"), (0, .methodref 9 15), (0, .nameAndType 16 17), (0, u "length"), (0, u "(I)I"), (0, .methodref 9 19), (0, .nameAndType 20 17), (0, u "code"), (0, .methodref 9 22), (0, .nameAndType 23 17), (0, u "lengthBytes"), (0, .class_ 25), (0, u "com/example/wirecall/wirecall/RlpHeaderCodePinLaw"), (2, u "law"), (0, u "(III)Z")] 5

def k1m0 : Method := { name := "<init>", desc := "()V", sig := { parameters := [], returnType := none }, accessFlags := 1, code := none }
def k1c1 : Code := { maxStack := 4, maxLocals := 14, code := code, exceptionTable := #[], attributes := #[] }
def k1m1 : Method := { name := "law", desc := "(III)Z", sig := { parameters := [.int, .int, .int], returnType := some .boolean }, accessFlags := 9, code := some k1c1 }
/-- com/example/wirecall/wirecall/RlpHeaderCodePinLaw -/
def k1 : Class := { plain "com/example/wirecall/wirecall/RlpHeaderCodePinLaw" (some 0) with
  accessFlags := 49
  interfaces := #[]
  cf := some (fileOf pool1 24 #[] #[{ accessFlags := 1, nameIndex := 5, descriptorIndex := 6, attributes := #[] }, { accessFlags := 9, nameIndex := 28, descriptorIndex := 29, attributes := #[] }] 49 2 #[] #[])
  fields := #[]
  methods := #[k1m0, k1m1]
  instanceTypes := #[]
  staticTypes := #[]
  resolved := Array.replicate 35 none
  statics := none }

def pool2 : Array CpInfo := pool [(2, .class_ 4), (1, u "java/lang/Object"), (0, u "<init>"), (0, u "()V"), (0, .class_ 8), (0, u "com/example/wirecall/wirecall/RlpHeader"), (0, .class_ 10), (0, u "java/lang/Integer"), (0, .methodref 9 12), (0, .nameAndType 13 14), (0, u "numberOfLeadingZeros"), (0, u "(I)I"), (0, .methodref 7 16), (0, .nameAndType 17 14), (0, u "length"), (0, .methodref 7 19), (0, .nameAndType 20 21), (0, u "headerByte"), (0, u "(IIII)B"), (2, u "STRING_OFFSET"), (0, u "I"), (2, u "LIST_OFFSET"), (1, u "SHORT_LIMIT"), (3, u "code"), (1, u "lengthBytes"), (0, u "write"), (0, u "(II[BI)I")] 4

def k2m0 : Method := { name := "<init>", desc := "()V", sig := { parameters := [], returnType := none }, accessFlags := 2, code := none }
def k2c1 : Code := { maxStack := 2, maxLocals := 1, code := prog_109_method_2_code, exceptionTable := #[], attributes := #[] }
def k2m1 : Method := { name := "code", desc := "(I)I", sig := { parameters := [.int], returnType := some .int }, accessFlags := 8, code := some k2c1 }
def k2c2 : Code := { maxStack := 2, maxLocals := 1, code := prog_109_method_3_code, exceptionTable := #[], attributes := #[] }
def k2m2 : Method := { name := "lengthBytes", desc := "(I)I", sig := { parameters := [.int], returnType := some .int }, accessFlags := 8, code := some k2c2 }
def k2c3 : Code := { maxStack := 3, maxLocals := 2, code := prog_109_method_4_code, exceptionTable := #[], attributes := #[] }
def k2m3 : Method := { name := "length", desc := "(I)I", sig := { parameters := [.int], returnType := some .int }, accessFlags := 8, code := some k2c3 }
def k2c4 : Code := { maxStack := 6, maxLocals := 6, code := prog_109_method_5_code, exceptionTable := #[], attributes := #[] }
def k2m4 : Method := { name := "write", desc := "(II[BI)I", sig := { parameters := [.int, .int, (.array .byte), .int], returnType := some .int }, accessFlags := 8, code := some k2c4 }
def k2c5 : Code := { maxStack := 4, maxLocals := 5, code := prog_109_method_7_code, exceptionTable := #[], attributes := #[] }
def k2m5 : Method := { name := "headerByte", desc := "(IIII)B", sig := { parameters := [.int, .int, .int, .int], returnType := some .byte }, accessFlags := 10, code := some k2c5 }
/-- com/example/wirecall/wirecall/RlpHeader -/
def k2 : Class := { plain "com/example/wirecall/wirecall/RlpHeader" (some 0) with
  accessFlags := 48
  interfaces := #[]
  cf := some (fileOf pool2 7 #[] #[{ accessFlags := 2, nameIndex := 5, descriptorIndex := 6, attributes := #[] }, { accessFlags := 8, nameIndex := 34, descriptorIndex := 14, attributes := #[] }, { accessFlags := 8, nameIndex := 36, descriptorIndex := 14, attributes := #[] }, { accessFlags := 8, nameIndex := 17, descriptorIndex := 14, attributes := #[] }, { accessFlags := 8, nameIndex := 37, descriptorIndex := 38, attributes := #[] }, { accessFlags := 10, nameIndex := 20, descriptorIndex := 21, attributes := #[] }] 48 2 #[] #[{ accessFlags := 24, nameIndex := 24, descriptorIndex := 25, attributes := #[] }, { accessFlags := 24, nameIndex := 28, descriptorIndex := 25, attributes := #[] }, { accessFlags := 24, nameIndex := 30, descriptorIndex := 25, attributes := #[] }])
  fields := #[{ name := "STRING_OFFSET", type := .int, accessFlags := 24, slot := 0, constantValue := 0 }, { name := "LIST_OFFSET", type := .int, accessFlags := 24, slot := 1, constantValue := 0 }, { name := "SHORT_LIMIT", type := .int, accessFlags := 24, slot := 2, constantValue := 0 }]
  methods := #[k2m0, k2m1, k2m2, k2m3, k2m4, k2m5]
  instanceTypes := #[]
  staticTypes := #[.int, .int, .int]
  resolved := Array.replicate 43 none
  statics := none }

def pool3 : Array CpInfo := pool [(1, .class_ 2), (0, u "java/io/Serializable"), (0, .class_ 4), (0, u "java/lang/Object")] 2

/-- java/io/Serializable -/
def k3 : Class := { plain "java/io/Serializable" (some 0) with
  accessFlags := 1537
  interfaces := #[]
  cf := some (fileOf pool3 1 #[] #[] 1537 3 #[] #[])
  fields := #[]
  methods := #[]
  instanceTypes := #[]
  staticTypes := #[]
  resolved := Array.replicate 7 none
  statics := none }

def pool4 : Array CpInfo := pool [(2, .class_ 4), (1, u "java/lang/Object"), (0, u "<init>"), (0, u "()V"), (1, .class_ 10), (1, u "java/lang/Number"), (2, .class_ 14), (0, u "java/io/Serializable"), (0, u "serialVersionUID"), (0, u "J")] 20

def k4m0 : Method := { name := "<init>", desc := "()V", sig := { parameters := [], returnType := none }, accessFlags := 1, code := none }
/-- java/lang/Number -/
def k4 : Class := { plain "java/lang/Number" (some 0) with
  accessFlags := 1057
  interfaces := #[3]
  cf := some (fileOf pool4 8 #[] #[{ accessFlags := 1, nameIndex := 5, descriptorIndex := 6, attributes := #[] }] 1057 2 #[13] #[{ accessFlags := 26, nameIndex := 15, descriptorIndex := 16, attributes := #[] }])
  fields := #[{ name := "serialVersionUID", type := .long, accessFlags := 26, slot := 0, constantValue := 0 }]
  methods := #[k4m0]
  instanceTypes := #[]
  staticTypes := #[.long]
  resolved := Array.replicate 37 none
  statics := none }

def pool5 : Array CpInfo := pool [(1, .class_ 2), (0, u "java/lang/Comparable"), (0, .class_ 4), (0, u "java/lang/Object")] 7

/-- java/lang/Comparable -/
def k5 : Class := { plain "java/lang/Comparable" (some 0) with
  accessFlags := 1537
  interfaces := #[]
  cf := some (fileOf pool5 1 #[] #[] 1537 3 #[] #[])
  fields := #[]
  methods := #[]
  instanceTypes := #[]
  staticTypes := #[]
  resolved := Array.replicate 12 none
  statics := none }

def pool6 : Array CpInfo := pool [(1, .class_ 2), (0, u "java/lang/constant/Constable"), (0, .class_ 4), (0, u "java/lang/Object")] 6

/-- java/lang/constant/Constable -/
def k6 : Class := { plain "java/lang/constant/Constable" (some 0) with
  accessFlags := 1537
  interfaces := #[]
  cf := some (fileOf pool6 1 #[] #[] 1537 3 #[] #[])
  fields := #[]
  methods := #[]
  instanceTypes := #[]
  staticTypes := #[]
  resolved := Array.replicate 11 none
  statics := none }

def pool7 : Array CpInfo := pool [(1, .class_ 2), (0, u "java/lang/constant/ConstantDesc"), (0, .class_ 4), (0, u "java/lang/Object")] 32

/-- java/lang/constant/ConstantDesc -/
def k7 : Class := { plain "java/lang/constant/ConstantDesc" (some 0) with
  accessFlags := 1537
  interfaces := #[]
  cf := some (fileOf pool7 1 #[] #[] 1537 3 #[] #[])
  fields := #[]
  methods := #[]
  instanceTypes := #[]
  staticTypes := #[]
  resolved := Array.replicate 37 none
  statics := none }

def pool8 : Array CpInfo := pool [(1, .class_ 2), (0, u "java/lang/Integer"), (16, u "digits"), (0, u "[C"), (32, u "numberOfLeadingZeros"), (0, u "(I)I"), (30, u "DigitOnes"), (0, u "[B"), (2, u "DigitTens"), (99, .class_ 190), (0, u "java/lang/Integer$IntegerCache"), (3, u "I"), (8, .class_ 204), (0, u "java/lang/Number"), (2, u "value"), (56, .integer 65536), (37, u "TYPE"), (0, u "Ljava/lang/Class;"), (0, .class_ 305), (0, u "java/lang/Comparable"), (0, .class_ 307), (0, u "java/lang/constant/Constable"), (0, .class_ 309), (0, u "java/lang/constant/ConstantDesc"), (0, u "MIN_VALUE"), (1, u "MAX_VALUE"), (3, u "SIZE"), (1, u "BYTES"), (1, u "serialVersionUID"), (0, u "J")] 131

def k8c0 : Code := { maxStack := 3, maxLocals := 2, code := jdk_33_method_47_code, exceptionTable := #[], attributes := #[] }
def k8m0 : Method := { name := "numberOfLeadingZeros", desc := "(I)I", sig := { parameters := [.int], returnType := some .int }, accessFlags := 9, code := some k8c0 }
/-- java/lang/Integer -/
def k8 : Class := { plain "java/lang/Integer" (some 4) with
  accessFlags := 49
  interfaces := #[5, 6, 7]
  cf := some (fileOf pool8 1 #[.nestMembers #[189]] #[{ accessFlags := 9, nameIndex := 53, descriptorIndex := 54, attributes := #[] }] 49 203 #[304, 306, 308] #[{ accessFlags := 25, nameIndex := 310, descriptorIndex := 194, attributes := #[] }, { accessFlags := 25, nameIndex := 312, descriptorIndex := 194, attributes := #[] }, { accessFlags := 25, nameIndex := 302, descriptorIndex := 303, attributes := #[] }, { accessFlags := 24, nameIndex := 19, descriptorIndex := 20, attributes := #[] }, { accessFlags := 24, nameIndex := 89, descriptorIndex := 86, attributes := #[] }, { accessFlags := 24, nameIndex := 85, descriptorIndex := 86, attributes := #[] }, { accessFlags := 18, nameIndex := 207, descriptorIndex := 194, attributes := #[] }, { accessFlags := 25, nameIndex := 316, descriptorIndex := 194, attributes := #[] }, { accessFlags := 25, nameIndex := 318, descriptorIndex := 194, attributes := #[] }, { accessFlags := 26, nameIndex := 320, descriptorIndex := 321, attributes := #[] }])
  fields := #[{ name := "MIN_VALUE", type := .int, accessFlags := 25, slot := 0, constantValue := 0 }, { name := "MAX_VALUE", type := .int, accessFlags := 25, slot := 1, constantValue := 0 }, { name := "TYPE", type := (.object "java/lang/Class"), accessFlags := 25, slot := 2, constantValue := 0 }, { name := "digits", type := (.array .char), accessFlags := 24, slot := 3, constantValue := 0 }, { name := "DigitTens", type := (.array .byte), accessFlags := 24, slot := 4, constantValue := 0 }, { name := "DigitOnes", type := (.array .byte), accessFlags := 24, slot := 5, constantValue := 0 }, { name := "value", type := .int, accessFlags := 18, slot := 0, constantValue := 0 }, { name := "SIZE", type := .int, accessFlags := 25, slot := 6, constantValue := 0 }, { name := "BYTES", type := .int, accessFlags := 25, slot := 7, constantValue := 0 }, { name := "serialVersionUID", type := .long, accessFlags := 26, slot := 8, constantValue := 0 }]
  methods := #[k8m0]
  instanceTypes := #[.int]
  staticTypes := #[.int, .int, (.object "java/lang/Class"), (.array .char), (.array .byte), (.array .byte), .int, .int, .long]
  resolved := Array.replicate 453 none
  statics := none }

def pool9 : Array CpInfo := pool [(1, u "java/lang/Cloneable"), (0, .class_ 1), (0, u "java/lang/Object"), (0, .class_ 3)] 3

/-- java/lang/Cloneable -/
def k9 : Class := { plain "java/lang/Cloneable" (some 0) with
  accessFlags := 1537
  interfaces := #[]
  cf := some (fileOf pool9 2 #[] #[] 1537 4 #[] #[])
  fields := #[]
  methods := #[]
  instanceTypes := #[]
  staticTypes := #[]
  resolved := Array.replicate 8 none
  statics := none }

/-- the primitive byte -/
def k10 : Class := { plain "byte" none with kind := .primitive 'B', accessFlags := 0x411 }
/-- [B -/
def k11 : Class := { plain "[B" (some 0) with kind := .array 10 .byte, interfaces := #[9, 3], accessFlags := 1041 }

/-- the primitive int -/
def k12 : Class := { plain "int" none with kind := .primitive 'I', accessFlags := 0x411 }
/-- [I -/
def k13 : Class := { plain "[I" (some 0) with kind := .array 12 .int, interfaces := #[9, 3], accessFlags := 1041 }

def heap : Heap := #[]
def classes : Array Class := #[k0, k1, k2, k3, k4, k5, k6, k7, k8, k9, k10, k11, k12, k13]
def interned : List (Array UInt16 × Addr) := []
def slotsUsed : Nat := 0
def theMethod : MethodId := ⟨1, 1⟩
def args0 : Array Value := #[.int 3, .int 9, .int 5]
def aboutOver (below : List Frame) : State where
  vm := { classes := classes, interned := interned.toArray }
  heap := heap
  slotsUsed := slotsUsed
  threads := #[{ frames := .invoking theMethod args0 :: below }]
def below0 : List Frame := [.native { method := ⟨0, 0⟩, args := #[] }]
def about1 : State := aboutOver below0
def p0 : Program := .bare "" "" ""
def e0 : Env := launch0.env 0 0 0
theorem w_frames : about1.frames = Frame.invoking theMethod args0 :: below0 := rfl
set_option maxRecDepth 65536 in
theorem w_args : argsFit about1.vm theMethod args0 = true := by decide +kernel
set_option maxRecDepth 65536 in
theorem w_heap : heapFits about1 = true := by decide +kernel
set_option maxRecDepth 65536 in
theorem w_runnable : about1.curStatus? = some .runnable := by decide +kernel
set_option maxRecDepth 65536 in
theorem w_alone : about1.alone = true := by decide +kernel
set_option maxRecDepth 65536 in
theorem w_named : about1.methodNamed? x = some theMethod := by decide +kernel
set_option maxRecDepth 65536 in
theorem w_hears : about1.hears theMethod below0 = true := by decide +kernel
set_option maxRecDepth 65536 in
theorem w_ripe : about1.ripe theMethod args0 below0 = true := by decide +kernel
theorem w_running : about1.status = .running := rfl
set_option maxRecDepth 65536 in
theorem w_room : about1.hasRoom e0.platform room_1 = true :=
  launch0.hasRoom_least _ room_1 (by decide +kernel) (by decide +kernel) (by decide +kernel) (by decide +kernel) (by decide +kernel) (by decide +kernel)
theorem allAtoms_all (ts : List Jvm.Cond) (a : Array Jvm.Value) (st : Jvm.State) : (allAtoms ts).before a st = ts.all (fun c => c.before a st) := by
  induction ts with
  | nil => rfl
  | cons c t ih =>
    show (Jvm.Cond.and c (allAtoms t)).before a st = _
    rw [Jvm.Cond.before_and, ih, List.all_cons]
def words1 : List Jvm.Cond := Jvm.Cond.code x code maxLocals ret :: tables_1
/-- a 'code' word, met by the world's own term for the bytes: nothing is compared byte by byte -/
theorem code_word {y : MethodName} {bytes : ByteArray} {mx : Nat} {rt : Option FieldType} {a : Array Value} {s : State} {m : MethodId} {meth : Method} {c : Code} (h1 : s.methodNamed? y = some m) (h2 : s.vm.method? m = some meth) (h3 : meth.code = some c) (h4 : c.code = bytes)
    (h5 : (c.maxLocals == mx && c.exceptionTable.isEmpty && decide (c.maxStack ≤ mostOperands) && decide (meth.sig.returnType = rt) && !meth.locks && decide (parseMethodDescriptor y.desc = some meth.sig)) = true) : (Jvm.Cond.code y bytes mx rt).before a s = true := by
  simp only [Bool.and_eq_true, beq_iff_eq, Bool.not_eq_true', decide_eq_true_eq] at h5
  obtain ⟨⟨⟨⟨⟨g1, g2⟩, g3⟩, g4⟩, g5⟩, g6⟩ := h5
  simp [Cond.before, Cond.holds, Cond.value, h1, h2, h3, h4, g1, g2, g3, g4, g5, g6]
def isCode : Jvm.Cond → Bool
  | .code _ _ _ _ => true
  | _ => false
theorem all_split {L : List Jvm.Cond} {P : Jvm.Cond → Bool} (h1 : L.all (fun c => isCode c || P c) = true) (h2 : ∀ c ∈ L.filter isCode, P c = true) : L.all P = true := by
  refine List.all_eq_true.mpr fun c hc => ?_
  have h := List.all_eq_true.mp h1 c hc
  rcases Bool.eq_false_or_eq_true (isCode c) with hi | hi
  · exact h2 c (List.mem_filter.mpr ⟨hc, hi⟩)
  · simpa [hi] using h
set_option maxRecDepth 65536 in
theorem w_c0 : (Jvm.Cond.code x code maxLocals ret).before args0 about1 = true := code_word (m := ⟨1, 1⟩) (meth := k1m1) (c := k1c1) (by decide +kernel) rfl rfl rfl (by decide +kernel)
set_option maxRecDepth 65536 in
theorem w_c1 : (Jvm.Cond.code ({ cls := "com/example/wirecall/wirecall/RlpHeader", name := "write", desc := "(II[BI)I" } : Jvm.MethodName) prog_109_method_5_code (6 : Nat) (Option.some Jvm.ClassFile.FieldType.int)).before args0 about1 = true := code_word (m := ⟨2, 4⟩) (meth := k2m4) (c := k2c4) (by decide +kernel) rfl rfl rfl (by decide +kernel)
set_option maxRecDepth 65536 in
theorem w_c2 : (Jvm.Cond.code ({ cls := "com/example/wirecall/wirecall/RlpHeader", name := "length", desc := "(I)I" } : Jvm.MethodName) prog_109_method_4_code (2 : Nat) (Option.some Jvm.ClassFile.FieldType.int)).before args0 about1 = true := code_word (m := ⟨2, 3⟩) (meth := k2m3) (c := k2c3) (by decide +kernel) rfl rfl rfl (by decide +kernel)
set_option maxRecDepth 65536 in
theorem w_c3 : (Jvm.Cond.code ({ cls := "com/example/wirecall/wirecall/RlpHeader", name := "headerByte", desc := "(IIII)B" } : Jvm.MethodName) prog_109_method_7_code (5 : Nat) (Option.some Jvm.ClassFile.FieldType.byte)).before args0 about1 = true := code_word (m := ⟨2, 5⟩) (meth := k2m5) (c := k2c5) (by decide +kernel) rfl rfl rfl (by decide +kernel)
set_option maxRecDepth 65536 in
theorem w_c4 : (Jvm.Cond.code ({ cls := "com/example/wirecall/wirecall/RlpHeader", name := "code", desc := "(I)I" } : Jvm.MethodName) prog_109_method_2_code (1 : Nat) (Option.some Jvm.ClassFile.FieldType.int)).before args0 about1 = true := code_word (m := ⟨2, 1⟩) (meth := k2m1) (c := k2c1) (by decide +kernel) rfl rfl rfl (by decide +kernel)
set_option maxRecDepth 65536 in
theorem w_c5 : (Jvm.Cond.code ({ cls := "java/lang/Integer", name := "numberOfLeadingZeros", desc := "(I)I" } : Jvm.MethodName) jdk_33_method_47_code (2 : Nat) (Option.some Jvm.ClassFile.FieldType.int)).before args0 about1 = true := code_word (m := ⟨8, 0⟩) (meth := k8m0) (c := k8c0) (by decide +kernel) rfl rfl rfl (by decide +kernel)
set_option maxRecDepth 65536 in
theorem w_c6 : (Jvm.Cond.code ({ cls := "com/example/wirecall/wirecall/RlpHeader", name := "lengthBytes", desc := "(I)I" } : Jvm.MethodName) prog_109_method_3_code (1 : Nat) (Option.some Jvm.ClassFile.FieldType.int)).before args0 about1 = true := code_word (m := ⟨2, 2⟩) (meth := k2m2) (c := k2c2) (by decide +kernel) rfl rfl rfl (by decide +kernel)
def codes1 : List Jvm.Cond := [Jvm.Cond.code x code maxLocals ret, Jvm.Cond.code ({ cls := "com/example/wirecall/wirecall/RlpHeader", name := "write", desc := "(II[BI)I" } : Jvm.MethodName) prog_109_method_5_code (6 : Nat) (Option.some Jvm.ClassFile.FieldType.int), Jvm.Cond.code ({ cls := "com/example/wirecall/wirecall/RlpHeader", name := "length", desc := "(I)I" } : Jvm.MethodName) prog_109_method_4_code (2 : Nat) (Option.some Jvm.ClassFile.FieldType.int), Jvm.Cond.code ({ cls := "com/example/wirecall/wirecall/RlpHeader", name := "headerByte", desc := "(IIII)B" } : Jvm.MethodName) prog_109_method_7_code (5 : Nat) (Option.some Jvm.ClassFile.FieldType.byte), Jvm.Cond.code ({ cls := "com/example/wirecall/wirecall/RlpHeader", name := "code", desc := "(I)I" } : Jvm.MethodName) prog_109_method_2_code (1 : Nat) (Option.some Jvm.ClassFile.FieldType.int), Jvm.Cond.code ({ cls := "java/lang/Integer", name := "numberOfLeadingZeros", desc := "(I)I" } : Jvm.MethodName) jdk_33_method_47_code (2 : Nat) (Option.some Jvm.ClassFile.FieldType.int), Jvm.Cond.code ({ cls := "com/example/wirecall/wirecall/RlpHeader", name := "lengthBytes", desc := "(I)I" } : Jvm.MethodName) prog_109_method_3_code (1 : Nat) (Option.some Jvm.ClassFile.FieldType.int)]
set_option maxRecDepth 65536 in
theorem codes_eq : words1.filter isCode = codes1 := rfl
theorem w_codes : ∀ c ∈ words1.filter isCode, c.before args0 about1 = true := by
  rw [codes_eq]
  intro c hc
  simp only [codes1, List.mem_cons, List.not_mem_nil, or_false] at hc
  rcases hc with rfl | rfl | rfl | rfl | rfl | rfl | rfl
  · exact w_c0
  · exact w_c1
  · exact w_c2
  · exact w_c3
  · exact w_c4
  · exact w_c5
  · exact w_c6
set_option maxRecDepth 65536 in
theorem w_t1 : (words1.take 24).all (fun c => isCode c || c.before args0 about1) = true := by decide +kernel
set_option maxRecDepth 65536 in
theorem w_t2 : (words1.drop 24).all (fun c => isCode c || c.before args0 about1) = true := by decide +kernel
theorem w_tables : (allAtoms (Jvm.Cond.code x code maxLocals ret :: tables_1)).before args0 about1 = true := by
  rw [allAtoms_all]
  show words1.all (fun c => c.before args0 about1) = true
  refine all_split ?_ w_codes
  rw [← List.take_append_drop 24 words1, List.all_append, w_t1, w_t2]
  rfl
set_option maxRecDepth 65536 in
theorem w_case : (Jvm.Cond.and given_1 narrow_1).before args0 about1 = true := by decide +kernel
theorem w_applies : (headSpec (Jvm.Cond.code x code maxLocals ret :: tables_1) room_1).applies x e0.platform about1 = true :=
  (Spec.applies_iff w_frames).mpr ⟨w_running, w_runnable, w_alone, w_named, w_hears, w_ripe, w_room, w_tables⟩
theorem atStart : AtStart classFile x code maxLocals ret World_1 tables_1 room_1 Calls_1 rest_1 Pre_1 launch0 p0 e0 about1 theMethod args0 below0 :=
  ⟨lists_1, trivial, launch0.admits_env _ _ _, launch0.least_env, fairChoices_fair.cas, fairChoices_fair.clock, w_frames, w_args, w_heap, w_applies, trivial, trivial, w_case⟩
end start1
theorem witness_1 : WitnessClaimed_1 := ⟨start1.p0, start1.e0, start1.about1, start1.theMethod, start1.args0, start1.below0, start1.atStart⟩
end Jvm.Pilot.@@N@@
