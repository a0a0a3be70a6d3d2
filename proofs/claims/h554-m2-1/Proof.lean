import JvmDerived
import JvmDerived.Pilot.@@N@@Statement
import JvmDerived.Pilot.@@N@@Code
set_option linter.unusedVariables false
set_option linter.unusedSimpArgs false
@@BLOCK:NumsL.lean.txt@@
namespace Jvm.OwnWp
open Jvm Jvm.ClassFile Sem Op Lib Jvm.Free Jvm.Stand Jvm.LawKit Jvm.RoadKit
/-! The heap of a walk as a plain list of the objects that it may touch. -/
abbrev Fd := String × String × String × Value
abbrev Ob := (String × List Fd) ⊕ (FieldType × List Value)
abbrev Hs := List (Addr × Ob)
section Heaps
variable {Z : State} {a0 : Array Value} {h h' h0 : Heap} {a b : Addr} {sl : Nat} {v : Value} {o o' : Ob} {os os' rest : Hs} {dm fp fp2 : List Addr}
def ObAt (Z : State) (a0 : Array Value) (h : Heap) (a : Addr) : Ob → Prop
  | .inl x => Exa Z h a x.1 ∧ (x.2.map (·.2.1)).Nodup ∧ ∀ q ∈ x.2, Fld Z h a q.1 q.2.1 q.2.2.1 q.2.2.2 ∧ Laid Z a0 x.1 q.1 q.2.1 q.2.2.1 ∧ ∃ t, parseFieldDescriptor q.2.2.1 = some t
  | .inr x => ∃ c : Cell, Arr Z h a c x.1 ∧ c.slots.toList = x.2 ∧ Exa Z h a ("[" ++ x.1.toString) ∧ ∀ v ∈ x.2, fits x.1 v = true
theorem ObAt.lt (F : ObAt Z a0 h a o) : a < h.size := by
  cases o with
  | inl x => exact F.1.lt
  | inr x => obtain ⟨c, A, -⟩ := F; exact A.lt
theorem ObAt.move (hm : ∀ c, h[a]? = some c → h'[a]? = some c) (F : ObAt Z a0 h a o) : ObAt Z a0 h' a o := by
  cases o with
  | inl x =>
    obtain ⟨⟨cell, k, h1, r⟩, hn, hq⟩ := F
    refine ⟨⟨cell, k, hm _ h1, r⟩, hn, fun q hq' => ?_⟩
    obtain ⟨⟨cell, cf, k, i, f, h1, r⟩, L⟩ := hq q hq'
    exact ⟨⟨cell, cf, k, i, f, hm _ h1, r⟩, L⟩
  | inr x =>
    obtain ⟨c, A, e, ⟨cell, k, h1, r⟩, hf⟩ := F
    exact ⟨c, ⟨hm _ A.1, A.2⟩, e, ⟨cell, k, hm _ h1, r⟩, hf⟩
theorem ObAt.ext (E : Ext h h') (F : ObAt Z a0 h a o) : ObAt Z a0 h' a o := F.move fun c hc => E.2 _ _ hc
theorem wr_ne (W : Wr h h' a sl v) (hne : b ≠ a) {c : Cell} (hc : h[b]? = some c) : h'[b]? = some c := by
  obtain ⟨cb', h1, -, -, -, h5, -⟩ := wr_at W hc
  rw [h1, h5 hne]
/-- the cells that a walk may write: those of its footprint, and the new ones -/
def Dm (fp : List Addr) (n0 : Nat) (a : Addr) : Prop := a ∈ fp ∨ n0 ≤ a
def Hq (Z : State) (a0 : Array Value) (h : Heap) (os : Hs) : Prop := (os.map (·.1)).Nodup ∧ ∀ q ∈ os, ObAt Z a0 h q.1 q.2
def Hp (Z : State) (a0 : Array Value) (dm fp : List Addr) (h0 h : Heap) (os : Hs) : Prop :=
  Hq Z a0 h os ∧ (∀ q ∈ os, Dm dm h0.size q.1) ∧ h0.size ≤ h.size ∧ ∀ a c, h0[a]? = some c → a ∉ fp → h[a]? = some c
theorem Hp.start (H : Hq Z a0 h os) : Hp Z a0 (os.map (·.1)) fp h h os := ⟨H, fun q hq => Or.inl (List.mem_map.mpr ⟨q, hq, rfl⟩), Nat.le_refl _, fun _ _ q _ => q⟩
theorem Hp.ext (E : Ext h h') (H : Hp Z a0 dm fp h0 h os) : Hp Z a0 dm fp h0 h' os :=
  ⟨⟨H.1.1, fun q hq => (H.1.2 q hq).ext E⟩, H.2.1, Nat.le_trans H.2.2.1 E.1, fun a c q n => E.2 _ _ (H.2.2.2 a c q n)⟩
theorem Hp.push (E : Ext h h') (F : ObAt Z a0 h' h.size o) (H : Hp Z a0 dm fp h0 h os) : Hp Z a0 dm fp h0 h' (os ++ [(h.size, o)]) := by
  have H' := H.ext E
  refine ⟨⟨?_, fun q hq => ?_⟩, fun q hq => ?_, H'.2.2⟩
  · rw [List.map_append, List.nodup_append]
    refine ⟨H.1.1, by simp, fun x hx y hy => ?_⟩
    obtain ⟨q, hq, rfl⟩ := List.mem_map.mp hx
    have := (H.1.2 q hq).lt
    simp only [List.map_cons, List.map_nil, List.mem_singleton] at hy
    intro e
    rw [e, hy] at this
    exact Nat.lt_irrefl _ this
  · rcases List.mem_append.mp hq with hq | hq
    · exact H'.1.2 q hq
    · cases List.mem_singleton.mp hq; exact F
  · rcases List.mem_append.mp hq with hq | hq
    · exact H.2.1 q hq
    · cases List.mem_singleton.mp hq; exact Or.inr H.2.2.1
theorem mem_set {α : Type} {l : List α} {k : Nat} {x q : α} (hq : q ∈ l.set k x) : q = x ∨ ∃ i, i ≠ k ∧ l[i]? = some q := by
  obtain ⟨i, hi⟩ := List.mem_iff_getElem?.mp hq
  rw [List.getElem?_set] at hi
  by_cases e : k = i
  · rw [if_pos e] at hi
    split at hi
    · exact Or.inl (Option.some.inj hi).symm
    · cases hi
  · rw [if_neg e] at hi
    exact Or.inr ⟨i, fun z => e z.symm, hi⟩
theorem nodup_inj {α : Type} {l : List α} (hn : l.Nodup) {i j : Nat} {x : α} (hi : l[i]? = some x) (hj : l[j]? = some x) : i = j := by
  obtain ⟨h1, e1⟩ := List.getElem?_eq_some_iff.mp hi
  obtain ⟨h2, e2⟩ := List.getElem?_eq_some_iff.mp hj
  exact (List.getElem_inj hn).mp (e1.trans e2.symm)
theorem map_at {α β : Type} {l : List α} {f : α → β} {i : Nat} {x : α} (hi : l[i]? = some x) : (l.map f)[i]? = some (f x) := by rw [List.getElem?_map, hi]; rfl
theorem map_set_same {α β : Type} {l : List α} {f : α → β} {k : Nat} {x x' : α} (hk : l[k]? = some x) (e : f x' = f x) : (l.set k x').map f = l.map f := by
  apply List.ext_getElem?
  intro i
  rw [List.getElem?_map, List.getElem?_map, List.getElem?_set]
  by_cases z : k = i
  · subst z
    rw [if_pos rfl]
    have := (List.getElem?_eq_some_iff.mp hk).1
    rw [if_pos this, hk]
    exact congrArg some e
  · rw [if_neg z]
theorem Hp.wr {k : Nat} (hD : Dm fp h0.size a) (W : Wr h h' a sl v) (ho : os[k]? = some (a, o)) (F : ObAt Z a0 h' a o') (H : Hp Z a0 dm fp h0 h os) : Hp Z a0 dm fp h0 h' (os.set k (a, o')) := by
  have hM : Dm dm h0.size a := H.2.1 _ (List.mem_of_getElem? ho)
  refine ⟨⟨?_, fun q hq => ?_⟩, fun q hq => ?_, by rw [W.size]; exact H.2.2.1, fun x c hx hn => ?_⟩
  · rw [map_set_same (f := fun x : Addr × Ob => x.1) (x' := (a, o')) ho rfl]; exact H.1.1
  · rcases mem_set hq with rfl | ⟨i, hi, hq⟩
    · exact F
    · have hne : q.1 ≠ a := fun e => hi (nodup_inj H.1.1 (map_at hq) (by rw [map_at ho, e]))
      exact (H.1.2 q (List.mem_of_getElem? hq)).move fun c hc => wr_ne W hne hc
  · rcases mem_set hq with rfl | ⟨i, hi, hq⟩
    · exact hM
    · exact H.2.1 q (List.mem_of_getElem? hq)
  · refine wr_ne W (fun e => ?_) (H.2.2.2 x c hx hn)
    subst e
    rcases hD with hD | hD
    · exact hn hD
    · exact absurd (Array.getElem?_eq_some_iff.mp hx).1 (Nat.not_lt.mpr hD)
theorem Hp.fld {k : Nat} {C : String} {fs : List Fd} {j : Nat} {O n d : String} {w : Value} (ho : os[k]? = some (a, .inl (C, fs))) (hj : fs[j]? = some (O, n, d, w)) (H : Hp Z a0 dm fp h0 h os) : Fld Z h a O n d w :=
  ((H.1.2 _ (List.mem_of_getElem? ho)).2.2 _ (List.mem_of_getElem? hj)).1
theorem Hp.exa {k : Nat} {C : String} {fs : List Fd} (ho : os[k]? = some (a, .inl (C, fs))) (H : Hp Z a0 dm fp h0 h os) : Exa Z h a C := (H.1.2 _ (List.mem_of_getElem? ho)).1
theorem Hp.putf {k : Nat} {C : String} {fs : List Fd} {j : Nat} {O n d : String} {w : Value} (hD : Dm fp h0.size a) (ho : os[k]? = some (a, .inl (C, fs))) (hj : fs[j]? = some (O, n, d, w)) (W : Wr h h' a (RoadKit.slotOf Z O n d) v) (H : Hp Z a0 dm fp h0 h os) :
    Hp Z a0 dm fp h0 h' (os.set k (a, .inl (C, fs.set j (O, n, d, v)))) := by
  refine H.wr hD W ho ?_
  obtain ⟨hE, hN, hF⟩ := H.1.2 _ (List.mem_of_getElem? ho)
  dsimp only at hE hN hF
  obtain ⟨F, L, t, ht⟩ := hF _ (List.mem_of_getElem? hj)
  refine ⟨hE.wr W, ?_, fun q hq => ?_⟩
  · dsimp only
    rw [map_set_same (f := fun x : Fd => x.2.1) (x' := (O, n, d, v)) hj rfl]; exact hN
  · rcases mem_set hq with rfl | ⟨i, hi, hq⟩
    · exact ⟨F.same W, L, t, ht⟩
    · obtain ⟨F', L', t', ht'⟩ := hF _ (List.mem_of_getElem? hq)
      have hne : q.2.1 ≠ n := fun e => hi (nodup_inj hN (map_at hq) (by rw [map_at hj, e]))
      exact ⟨F'.other W (Or.inr (slot_ne L' L hne ht' ht)), L', t', ht'⟩
theorem Hp.arr {k : Nat} {ty : FieldType} {vs : List Value} (ho : os[k]? = some (a, .inr (ty, vs))) (H : Hp Z a0 dm fp h0 h os) : ∃ c : Cell, Arr Z h a c ty ∧ c.slots.toList = vs := by
  obtain ⟨c, A, e, -⟩ := H.1.2 _ (List.mem_of_getElem? ho)
  exact ⟨c, A, e⟩
theorem Hp.puta {k : Nat} {ty : FieldType} {vs : List Value} {j : Nat} (hD : Dm fp h0.size a) (hf : fits ty v = true) (ho : os[k]? = some (a, .inr (ty, vs))) (W : Wr h h' a j v) (H : Hp Z a0 dm fp h0 h os) : Hp Z a0 dm fp h0 h' (os.set k (a, .inr (ty, vs.set j v))) := by
  refine H.wr hD W ho ?_
  obtain ⟨c, A, e, E, F⟩ := H.1.2 _ (List.mem_of_getElem? ho)
  refine ⟨_, A.same W, ?_, E.wr W, fun q hq => ?_⟩
  · dsimp only at e ⊢
    rw [← e]
    simp [Cell.setSlot]
  · rcases mem_set hq with rfl | ⟨i, -, hq⟩
    · exact hf
    · exact F q (List.mem_of_getElem? hq)
theorem Hp.call (H : Hp Z a0 dm fp h0 h (rest ++ os)) (H' : Hp Z a0 (os.map (·.1)) fp2 h h' os') (hc : fp2 = [] ∨ (fp2 = os.map (·.1) ∧ dm = fp)) : Hp Z a0 dm fp h0 h' (rest ++ os') := by
  have hN := H.1.1
  rw [List.map_append, List.nodup_append] at hN
  have hsub : ∀ x ∈ fp2, x ∈ os.map (·.1) := fun x hx => by
    rcases hc with rfl | ⟨rfl, -⟩
    · exact absurd hx List.not_mem_nil
    · exact hx
  have hD : ∀ x, Dm (os.map (·.1)) h.size x → Dm dm h0.size x := fun x hx => by
    rcases hx with hx | hx
    · obtain ⟨q, hq, rfl⟩ := List.mem_map.mp hx
      exact H.2.1 q (List.mem_append.mpr (Or.inr hq))
    · exact Or.inr (Nat.le_trans H.2.2.1 hx)
  have hR : ∀ q ∈ rest, q.1 ∉ os.map (·.1) := fun q hq hm => hN.2.2 _ (List.mem_map.mpr ⟨q, hq, rfl⟩) _ hm rfl
  refine ⟨⟨?_, fun q hq => ?_⟩, fun q hq => ?_, Nat.le_trans H.2.2.1 H'.2.2.1, fun x c hx hn => ?_⟩
  · rw [List.map_append, List.nodup_append]
    refine ⟨hN.1, H'.1.1, fun x hx y hy e => ?_⟩
    subst e
    obtain ⟨q, hq, rfl⟩ := List.mem_map.mp hx
    obtain ⟨q', hq', e⟩ := List.mem_map.mp hy
    have := H'.2.1 q' hq'
    rw [e] at this
    rcases this with t | t
    · exact hR q hq t
    · exact absurd (H.1.2 q (List.mem_append.mpr (Or.inl hq))).lt (Nat.not_lt.mpr t)
  · rcases List.mem_append.mp hq with hq | hq
    · exact (H.1.2 q (List.mem_append.mpr (Or.inl hq))).move fun c hc => H'.2.2.2 _ _ hc (fun z => hR q hq (hsub _ z))
    · exact H'.1.2 q hq
  · rcases List.mem_append.mp hq with hq | hq
    · exact H.2.1 q (List.mem_append.mpr (Or.inl hq))
    · exact hD _ (H'.2.1 q hq)
  · refine H'.2.2.2 _ _ (H.2.2.2 x c hx hn) fun hm => ?_
    rcases hc with rfl | ⟨rfl, rfl⟩
    · exact absurd hm List.not_mem_nil
    · obtain ⟨q, hq, rfl⟩ := List.mem_map.mp hm
      rcases H.2.1 q (List.mem_append.mpr (Or.inr hq)) with t | t
      · exact hn t
      · exact absurd (Array.getElem?_eq_some_iff.mp hx).1 (Nat.not_lt.mpr t)
theorem pick_mem {is : List Nat} {os2 : Hs} (he : is.map (fun i => os[i]?) = os2.map some) {q : Addr × Ob} (hq : q ∈ os2) : ∃ i ∈ is, os[i]? = some q := by
  have : some q ∈ is.map (fun i => os[i]?) := by rw [he]; exact List.mem_map.mpr ⟨q, hq, rfl⟩
  obtain ⟨i, hi, e⟩ := List.mem_map.mp this
  exact ⟨i, hi, e⟩
theorem pick_nodup (hN : (os.map (·.1)).Nodup) : ∀ {is : List Nat} {os2 : Hs}, is.Nodup → is.map (fun i => os[i]?) = os2.map some → (os2.map (·.1)).Nodup
  | [], [], _, _ => List.nodup_nil
  | [], _ :: _, _, he => by cases he
  | _ :: _, [], _, he => by cases he
  | i :: is, q :: os2, hi, he => by
    simp only [List.map_cons, List.cons.injEq] at he
    rw [List.nodup_cons] at hi
    rw [List.map_cons, List.nodup_cons]
    refine ⟨fun hm => ?_, pick_nodup hN hi.2 he.2⟩
    obtain ⟨q', hq', e⟩ := List.mem_map.mp hm
    obtain ⟨i', hi', e'⟩ := pick_mem he.2 hq'
    have := nodup_inj hN (map_at he.1) (by rw [map_at e', e])
    exact hi.1 (this ▸ hi')
theorem Hp.pick {is : List Nat} {os2 : Hs} (H : Hp Z a0 dm fp h0 h os) (hn : is.Nodup) (he : is.map (fun i => os[i]?) = os2.map some) : Hp Z a0 dm fp h0 h os2 :=
  have hm : ∀ q ∈ os2, q ∈ os := fun q hq => by obtain ⟨i, -, e⟩ := pick_mem he hq; exact List.mem_of_getElem? e
  ⟨⟨pick_nodup H.1.1 hn he, fun q hq => H.1.2 q (hm q hq)⟩, fun q hq => H.2.1 q (hm q hq), H.2.2⟩
end Heaps
/-- what a walk holds at a point -/
def Here (p : Program) (l : Launch) (e : Env) (R : Room) (s : State) (m : MethodId) (args : Array Value) (below : List Frame) (meth : Method) (c : Code) (Z : State) (a0 : Array Value) (y : MethodName) (bytes : ByteArray) (ml : Nat) (ret : Option FieldType) (dm fp : List Addr) (T : State) (k n : Nat) (os : Hs) : Prop :=
  ∃ locs, Stand p l e R s m args below meth c T locs k n ∧ (∀ q ∈ locs, Dm fp s.heap.size q.base) ∧ Hp Z a0 dm fp s.heap T.heap os ∧ p.tables.exec = Jvm.exec ∧ Z.Warmed39 s.vm ∧ c.code = bytes ∧ c.maxLocals = ml ∧ s.vm.findClass y.cls = some m.cls ∧ meth.name = y.name ∧ meth.sig.returnType = ret ∧ meth.locks = false
/-- from here the body returns, and what it leaves is as Post says -/
def Wp (p : Program) (e : Env) (below : List Frame) (Z : State) (a0 : Array Value) (dm fp : List Addr) (R : Room) (s : State) (Post : Option Value → Hs → Prop) (T : State) (g : JFrame) : Prop :=
  ∃ s₂ o, Steps p.tables e below (T.setTop g) s₂ ∧ s₂.status = .running ∧ Ended s₂ below o ∧ ∃ v L, o = .returned v ∧ ((∀ q ∈ L, Dm fp s.heap.size q.base) ∧ ∃ os', Hp Z a0 dm fp s.heap s₂.heap os' ∧ Post v os') ∧ FrameEnd s o s₂ L R.cells R.slots
/-- a body's contract -/
def Pays (l : Launch) (Z : State) (a0 : Array Value) (y : MethodName) (bytes : ByteArray) (ml : Nat) (ret : Option FieldType) (R : Room) (args : Array Value) (os : Hs) (fp : List Addr) (Post : Option Value → Hs → Prop) : Prop :=
  ∀ (ws : List Jvm.Cond) (h0 : Heap), Hq Z a0 h0 os → MetFree l y (head1 (Jvm.Cond.code y bytes ml ret :: ws) R) (fun a U => a = args ∧ Z.Warmed39 U.vm ∧ U.heap = h0) (fun _ _ _ _ _ => True)
    (fun _ U o U' => ∃ v L, o = .returned v ∧ ((∀ q ∈ L, Dm fp h0.size q.base) ∧ ∃ os', Hp Z a0 (os.map (·.1)) fp h0 U'.heap os' ∧ Post v os') ∧ FrameEnd U o U' L R.cells R.slots)
section Walks
variable {p : Program} {l : Launch} {e : Env} {R : Room} {s : State} {m : MethodId} {args : Array Value} {below : List Frame} {meth : Method} {c : Code} {Z : State} {a0 : Array Value} {y : MethodName} {bytes : ByteArray} {ml : Nat} {ret : Option FieldType} {dm fp fp2 : List Addr} {T T' : State} {k n : Nat} {os : Hs} {Post : Option Value → Hs → Prop} {pc : Nat} {Ls : Array Slot} {st rest : List Value}
theorem Wp.go {g g' : JFrame} (hs : ∀ t, Steps p.tables e below (T'.setTop g') t → Steps p.tables e below (T.setTop g) t) (K : Wp p e below Z a0 dm fp R s Post T' g') : Wp p e below Z a0 dm fp R s Post T g := by
  obtain ⟨s₂, o, h1, r⟩ := K
  exact ⟨s₂, o, hs _ h1, r⟩
theorem Here.hr (A : Here p l e R s m args below meth c Z a0 y bytes ml ret dm fp T k n os) : At T m c below := by obtain ⟨_, X, -⟩ := A; exact X.here
theorem Here.hx (A : Here p l e R s m args below meth c Z a0 y bytes ml ret dm fp T k n os) : p.tables.exec = Jvm.exec := by obtain ⟨_, -, -, -, hx, -⟩ := A; exact hx
theorem Here.hb {r : Except DecodeError (Instr × Nat)} (A : Here p l e R s m args below meth c Z a0 y bytes ml ret dm fp T k n os) (hd : decode bytes pc = r) : decode c.code pc = r := by obtain ⟨_, -, -, -, -, -, hb, -⟩ := A; exact hb ▸ hd
theorem Here.pick {is : List Nat} {os2 : Hs} (A : Here p l e R s m args below meth c Z a0 y bytes ml ret dm fp T k n os) (hn : is.Nodup) (he : is.map (fun i => os[i]?) = os2.map some) : Here p l e R s m args below meth c Z a0 y bytes ml ret dm fp T k n os2 := by
  obtain ⟨locs, X, N, H, r⟩ := A
  exact ⟨locs, X, N, H.pick hn he, r⟩
theorem Here.cast {k2 n2 : Nat} {os2 : Hs} (A : Here p l e R s m args below meth c Z a0 y bytes ml ret dm fp T k n os) (h1 : k = k2) (h2 : n = n2) (h3 : os = os2) : Here p l e R s m args below meth c Z a0 y bytes ml ret dm fp T k2 n2 os2 := by
  subst h1 h2 h3
  exact A
theorem Here.more {k2 n2 : Nat} (A : Here p l e R s m args below meth c Z a0 y bytes ml ret dm fp T k n os) (h1 : k ≤ k2) (h2 : n ≤ n2) : Here p l e R s m args below meth c Z a0 y bytes ml ret dm fp T k2 n2 os := by
  obtain ⟨locs, X, r⟩ := A
  exact ⟨locs, X.more h1 h2, r⟩
theorem Here.irem {x z : Int32} (A : Here p l e R s m args below meth c Z a0 y bytes ml ret dm fp T k n os) (hd : decode bytes pc = .ok (.irem, 1)) (hz : z ≠ 0) {qn : Nat} (hq : pc + 1 = qn)
    (K : Wp p e below Z a0 dm fp R s Post T (mkF m qn Ls (.int (x % z) :: rest))) : Wp p e below Z a0 dm fp R s Post T (mkF m pc Ls (.int z :: .int x :: rest)) := by
  subst hq
  have q := irem_eq_mod x z
  exact Wp.go (fun t kt => XS.irem A.hr A.hx rfl (A.hb hd) rfl hz (by rw [q]; exact kt)) K
theorem lrem_eq (x z : Int64) : x - (x / z) * z = x % z := by
  apply Int64.toInt_inj.mp
  rw [Jvm.Kit.i64_rem, Int64.toInt_mod]
theorem Here.lrem {x z : Int64} (A : Here p l e R s m args below meth c Z a0 y bytes ml ret dm fp T k n os) (hd : decode bytes pc = .ok (.lrem, 1)) (hz : z ≠ 0) {qn : Nat} (hq : pc + 1 = qn)
    (K : Wp p e below Z a0 dm fp R s Post T (mkF m qn Ls (.long (x % z) :: rest))) : Wp p e below Z a0 dm fp R s Post T (mkF m pc Ls (.long z :: .long x :: rest)) := by
  subst hq
  have q := lrem_eq x z
  exact Wp.go (fun t kt => XS.lrem A.hr A.hx rfl (A.hb hd) rfl hz (by rw [q]; exact kt)) K
theorem Pays.of (hpl : plainFor y = true) (hef : ∀ m, entryFrame m args ml = mkF m 0 Ls [])
    (body : ∀ p e s m below meth c T, Here p l e R s m args below meth c Z a0 y bytes ml ret (os.map (·.1)) fp T 0 0 os → Wp p e below Z a0 (os.map (·.1)) fp R s Post T (mkF m 0 Ls [])) : Pays l Z a0 y bytes ml ret R args os fp Post := by
  intro ws h0 hq
  refine MetFree.of_bodySF hpl hisR ?_
  intro p e s m args' below meth c s₁ Bd hml0 hP hK
  obtain ⟨rfl, hZ, hh⟩ := hP
  have X0 : Stand p l e R s m args' below meth c s₁ [] 0 0 := Stand.of_body Bd
  have e0 : s₁.heap = s.heap := by rw [Bd.state]; rfl
  subst hh
  obtain ⟨s₂, o, h1, h2, h3, h4⟩ := body p e s m below meth c s₁ ⟨[], X0, fun _ q => (nomatch q), by rw [e0]; exact Hp.start hq, Bd.exec, hZ, Bd.bytes, hml0, findClass_of_methodNamed Bd.named, (name_of_methodNamed Bd.named Bd.method).1, Bd.returns, Bd.notSynchronized⟩
  exact ⟨s₂, o, castTop (hef m) h1, h2, h3, h4⟩
theorem Here.fin {v : Option Value} {g : JFrame} (A : Here p l e R s m args below meth c Z a0 y bytes ml ret dm fp T k n os) (hv : ret = none → v = none) (hk : k ≤ R.cells) (hn : n ≤ R.slots) (hP : Post v os)
    (hs : ∀ (locs : List Loc), Stand p l e R s m args below meth c T locs k n → meth.sig.returnType = ret → ∀ fs : List Frame, (∀ (f : JFrame) (acts : List Action), f.method = m → f.locked = none → f.entered = [] → (doReturn e (T.setTop f) acts v).1 = T.setFrames fs) → Steps p.tables e below (T.setTop g) (T.setFrames fs)) :
    Wp p e below Z a0 dm fp R s Post T g := by
  obtain ⟨locs, X, N, H, hx, hZ, hb, hml, hown, hnm, hret, hlk⟩ := A
  obtain ⟨fs, hr, hrun, hended, hW, hsame⟩ := X.leave (v := v) (fun h => hv (hret ▸ h)) hlk
  exact ⟨_, _, hs locs X hret fs hr, hrun, hended, v, locs, rfl, ⟨N, os, H, hP⟩, ⟨_, rfl⟩, hW, hsame.mono hk hn⟩
theorem Here.retV (A : Here p l e R s m args below meth c Z a0 y bytes ml none dm fp T k n os) (hd : decode bytes pc = .ok (.return_, 1)) (hk : k ≤ R.cells) (hn : n ≤ R.slots) (hP : Post none os) : Wp p e below Z a0 dm fp R s Post T (mkF m pc Ls []) :=
  A.fin (v := none) (fun _ => rfl) hk hn hP fun _ X hret _ hr => X.returnOut A.hx hret (A.hb hd) hr
theorem Here.retT {w : Value} {t : FieldType} {i : Instr} (A : Here p l e R s m args below meth c Z a0 y bytes ml (some t) dm fp T k n os) (hd : decode bytes pc = .ok (i, 1)) (hw : narrow t w = w)
    (hi : (i = .ireturn ∧ (t = .int ∨ t = .boolean ∨ t = .byte ∨ t = .char ∨ t = .short) ∧ ∃ z, w = .int z) ∨ (i = .lreturn ∧ t = .long ∧ ∃ z, w = .long z) ∨ (i = .dreturn ∧ t = .double ∧ ∃ z, w = .double z) ∨ (i = .freturn ∧ t = .float ∧ ∃ z, w = .float z) ∨ (i = .areturn ∧ t.isReference = true ∧ w.isRef = true))
    (hk : k ≤ R.cells) (hn : n ≤ R.slots) (hP : Post (some w) os) : Wp p e below Z a0 dm fp R s Post T (mkF m pc Ls (w :: rest)) :=
  A.fin (v := some w) (fun h => by cases h) hk hn hP fun _ X hret _ hr => retOut X A.hx hret hw hi (A.hb hd) hr
theorem Here.retI {z : Int32} (A : Here p l e R s m args below meth c Z a0 y bytes ml (some .int) dm fp T k n os) (hd : decode bytes pc = .ok (.ireturn, 1)) (hk : k ≤ R.cells) (hn : n ≤ R.slots) (hP : Post (some (.int z)) os) : Wp p e below Z a0 dm fp R s Post T (mkF m pc Ls (.int z :: rest)) :=
  A.retT hd rfl (Or.inl ⟨rfl, Or.inl rfl, z, rfl⟩) hk hn hP
theorem Here.retJ {z : Int64} (A : Here p l e R s m args below meth c Z a0 y bytes ml (some .long) dm fp T k n os) (hd : decode bytes pc = .ok (.lreturn, 1)) (hk : k ≤ R.cells) (hn : n ≤ R.slots) (hP : Post (some (.long z)) os) : Wp p e below Z a0 dm fp R s Post T (mkF m pc Ls (.long z :: rest)) :=
  A.retT hd rfl (Or.inr (Or.inl ⟨rfl, rfl, z, rfl⟩)) hk hn hP
theorem Here.retR {a : Addr} {t : FieldType} (A : Here p l e R s m args below meth c Z a0 y bytes ml (some t) dm fp T k n os) (hd : decode bytes pc = .ok (.areturn, 1)) (ht : t.isReference = true) (hk : k ≤ R.cells) (hn : n ≤ R.slots) (hP : Post (some (.ref a)) os) : Wp p e below Z a0 dm fp R s Post T (mkF m pc Ls (.ref a :: rest)) :=
  A.retT hd (by cases t <;> first | rfl | (cases ht)) (Or.inr (Or.inr (Or.inr (Or.inr ⟨rfl, ht, rfl⟩)))) hk hn hP
/-- of a boolean, byte, char, short: what comes out is narrowed -/
theorem Here.retN {z : Int32} {t : FieldType} (A : Here p l e R s m args below meth c Z a0 y bytes ml (some t) dm fp T k n os) (ht : t = .boolean ∨ t = .byte ∨ t = .char ∨ t = .short) (hd : decode bytes pc = .ok (.ireturn, 1)) (hk : k ≤ R.cells) (hn : n ≤ R.slots) (hP : Post (some (.int (nar t z))) os) : Wp p e below Z a0 dm fp R s Post T (mkF m pc Ls (.int z :: rest)) :=
  A.fin (v := some (.int (nar t z))) (fun h => by cases h) hk hn hP fun _ X hret _ hr => RoadKit.retN X A.hx hret ht (A.hb hd) hr
/-! single instructions (printed by mkops.py) -/
theorem Here.iloadN {j : Fin 4} {v : Int32} {q : Nat} (A : Here p l e R s m args below meth c Z a0 y bytes ml ret dm fp T k n os) (hd : decode bytes pc = .ok (.iload_n j, 1)) (hl : Ls[j.val]? = some (.val (.int v))) (hq : pc + 1 = q) (K : Wp p e below Z a0 dm fp R s Post T (mkF m q Ls (.int v :: st))) : Wp p e below Z a0 dm fp R s Post T (mkF m pc Ls st) := by
  subst hq
  exact Wp.go (fun t kt => XS.iloadN A.hr A.hx rfl (A.hb hd) hl kt) K
theorem Here.iload {j : Nat} {v : Int32} {q : Nat} (A : Here p l e R s m args below meth c Z a0 y bytes ml ret dm fp T k n os) (hd : decode bytes pc = .ok (.iload j, 2)) (hl : Ls[j]? = some (.val (.int v))) (hq : pc + 2 = q) (K : Wp p e below Z a0 dm fp R s Post T (mkF m q Ls (.int v :: st))) : Wp p e below Z a0 dm fp R s Post T (mkF m pc Ls st) := by
  subst hq
  exact Wp.go (fun t kt => XS.iload A.hr A.hx rfl (A.hb hd) hl kt) K
theorem Here.istoreN {j : Fin 4} {v : Int32} {l' : Array Slot} {q : Nat} (A : Here p l e R s m args below meth c Z a0 y bytes ml ret dm fp T k n os) (hd : decode bytes pc = .ok (.istore_n j, 1)) (hl : storeLocals Ls j.val (.int v) = some l') (hq : pc + 1 = q) (K : Wp p e below Z a0 dm fp R s Post T (mkF m q l' rest)) : Wp p e below Z a0 dm fp R s Post T (mkF m pc Ls (.int v :: rest)) := by
  subst hq
  exact Wp.go (fun t kt => XS.istoreN A.hr A.hx rfl (A.hb hd) rfl hl kt) K
theorem Here.istore {j : Nat} {v : Int32} {l' : Array Slot} {q : Nat} (A : Here p l e R s m args below meth c Z a0 y bytes ml ret dm fp T k n os) (hd : decode bytes pc = .ok (.istore j, 2)) (hl : storeLocals Ls j (.int v) = some l') (hq : pc + 2 = q) (K : Wp p e below Z a0 dm fp R s Post T (mkF m q l' rest)) : Wp p e below Z a0 dm fp R s Post T (mkF m pc Ls (.int v :: rest)) := by
  subst hq
  exact Wp.go (fun t kt => XS.istore A.hr A.hx rfl (A.hb hd) rfl hl kt) K
theorem Here.lloadN {j : Fin 4} {v : Int64} {q : Nat} (A : Here p l e R s m args below meth c Z a0 y bytes ml ret dm fp T k n os) (hd : decode bytes pc = .ok (.lload_n j, 1)) (hl : Ls[j.val]? = some (.val (.long v))) (hq : pc + 1 = q) (K : Wp p e below Z a0 dm fp R s Post T (mkF m q Ls (.long v :: st))) : Wp p e below Z a0 dm fp R s Post T (mkF m pc Ls st) := by
  subst hq
  exact Wp.go (fun t kt => XS.lloadN A.hr A.hx rfl (A.hb hd) hl kt) K
theorem Here.lload {j : Nat} {v : Int64} {q : Nat} (A : Here p l e R s m args below meth c Z a0 y bytes ml ret dm fp T k n os) (hd : decode bytes pc = .ok (.lload j, 2)) (hl : Ls[j]? = some (.val (.long v))) (hq : pc + 2 = q) (K : Wp p e below Z a0 dm fp R s Post T (mkF m q Ls (.long v :: st))) : Wp p e below Z a0 dm fp R s Post T (mkF m pc Ls st) := by
  subst hq
  exact Wp.go (fun t kt => XS.lload A.hr A.hx rfl (A.hb hd) hl kt) K
theorem Here.lstoreN {j : Fin 4} {v : Int64} {l' : Array Slot} {q : Nat} (A : Here p l e R s m args below meth c Z a0 y bytes ml ret dm fp T k n os) (hd : decode bytes pc = .ok (.lstore_n j, 1)) (hl : storeLocals Ls j.val (.long v) = some l') (hq : pc + 1 = q) (K : Wp p e below Z a0 dm fp R s Post T (mkF m q l' rest)) : Wp p e below Z a0 dm fp R s Post T (mkF m pc Ls (.long v :: rest)) := by
  subst hq
  exact Wp.go (fun t kt => XS.lstoreN A.hr A.hx rfl (A.hb hd) rfl hl kt) K
theorem Here.lstore {j : Nat} {v : Int64} {l' : Array Slot} {q : Nat} (A : Here p l e R s m args below meth c Z a0 y bytes ml ret dm fp T k n os) (hd : decode bytes pc = .ok (.lstore j, 2)) (hl : storeLocals Ls j (.long v) = some l') (hq : pc + 2 = q) (K : Wp p e below Z a0 dm fp R s Post T (mkF m q l' rest)) : Wp p e below Z a0 dm fp R s Post T (mkF m pc Ls (.long v :: rest)) := by
  subst hq
  exact Wp.go (fun t kt => XS.lstore A.hr A.hx rfl (A.hb hd) rfl hl kt) K
theorem Here.aloadN {j : Fin 4} {v : Value} {q : Nat} (A : Here p l e R s m args below meth c Z a0 y bytes ml ret dm fp T k n os) (hd : decode bytes pc = .ok (.aload_n j, 1)) (hl : Ls[j.val]? = some (.val v)) (hv : v.isRef = true) (hq : pc + 1 = q) (K : Wp p e below Z a0 dm fp R s Post T (mkF m q Ls (v :: st))) : Wp p e below Z a0 dm fp R s Post T (mkF m pc Ls st) := by
  subst hq
  exact Wp.go (fun t kt => XS.aloadN A.hr A.hx rfl (A.hb hd) hl hv kt) K
theorem Here.aload {j : Nat} {v : Value} {q : Nat} (A : Here p l e R s m args below meth c Z a0 y bytes ml ret dm fp T k n os) (hd : decode bytes pc = .ok (.aload j, 2)) (hl : Ls[j]? = some (.val v)) (hv : v.isRef = true) (hq : pc + 2 = q) (K : Wp p e below Z a0 dm fp R s Post T (mkF m q Ls (v :: st))) : Wp p e below Z a0 dm fp R s Post T (mkF m pc Ls st) := by
  subst hq
  exact Wp.go (fun t kt => XS.aload A.hr A.hx rfl (A.hb hd) hl hv kt) K
theorem Here.astoreN {j : Fin 4} {v : Value} {l' : Array Slot} {q : Nat} (A : Here p l e R s m args below meth c Z a0 y bytes ml ret dm fp T k n os) (hd : decode bytes pc = .ok (.astore_n j, 1)) (hv : v.isRef = true) (hl : storeLocals Ls j.val v = some l') (hq : pc + 1 = q) (K : Wp p e below Z a0 dm fp R s Post T (mkF m q l' rest)) : Wp p e below Z a0 dm fp R s Post T (mkF m pc Ls (v :: rest)) := by
  subst hq
  exact Wp.go (fun t kt => XS.astoreN A.hr A.hx rfl (A.hb hd) rfl hv hl kt) K
theorem Here.astore {j : Nat} {v : Value} {l' : Array Slot} {q : Nat} (A : Here p l e R s m args below meth c Z a0 y bytes ml ret dm fp T k n os) (hd : decode bytes pc = .ok (.astore j, 2)) (hv : v.isRef = true) (hl : storeLocals Ls j v = some l') (hq : pc + 2 = q) (K : Wp p e below Z a0 dm fp R s Post T (mkF m q l' rest)) : Wp p e below Z a0 dm fp R s Post T (mkF m pc Ls (v :: rest)) := by
  subst hq
  exact Wp.go (fun t kt => XS.astore A.hr A.hx rfl (A.hb hd) rfl hv hl kt) K
theorem Here.iconst {i : Int} {v : Int32} {q : Nat} (A : Here p l e R s m args below meth c Z a0 y bytes ml ret dm fp T k n os) (hd : decode bytes pc = .ok (.iconst i, 1)) (hv : Int32.ofInt i = v) (hq : pc + 1 = q) (K : Wp p e below Z a0 dm fp R s Post T (mkF m q Ls (.int v :: st))) : Wp p e below Z a0 dm fp R s Post T (mkF m pc Ls st) := by
  subst hq hv
  exact Wp.go (fun t kt => XS.iconst A.hr A.hx rfl (A.hb hd) kt) K
theorem Here.bipush {i : Int} {v : Int32} {q : Nat} (A : Here p l e R s m args below meth c Z a0 y bytes ml ret dm fp T k n os) (hd : decode bytes pc = .ok (.bipush i, 2)) (hv : (Int8.ofInt i).toInt32 = v) (hq : pc + 2 = q) (K : Wp p e below Z a0 dm fp R s Post T (mkF m q Ls (.int v :: st))) : Wp p e below Z a0 dm fp R s Post T (mkF m pc Ls st) := by
  subst hq hv
  exact Wp.go (fun t kt => XS.bipush A.hr A.hx rfl (A.hb hd) kt) K
theorem Here.sipush {i : Int} {v : Int32} {q : Nat} (A : Here p l e R s m args below meth c Z a0 y bytes ml ret dm fp T k n os) (hd : decode bytes pc = .ok (.sipush i, 3)) (hv : (Int16.ofInt i).toInt32 = v) (hq : pc + 3 = q) (K : Wp p e below Z a0 dm fp R s Post T (mkF m q Ls (.int v :: st))) : Wp p e below Z a0 dm fp R s Post T (mkF m pc Ls st) := by
  subst hq hv
  exact Wp.go (fun t kt => XS.sipush A.hr A.hx rfl (A.hb hd) kt) K
theorem Here.lconst {i : Fin 2} {v : Int64} {q : Nat} (A : Here p l e R s m args below meth c Z a0 y bytes ml ret dm fp T k n os) (hd : decode bytes pc = .ok (.lconst i, 1)) (hv : Int64.ofNat i.val = v) (hq : pc + 1 = q) (K : Wp p e below Z a0 dm fp R s Post T (mkF m q Ls (.long v :: st))) : Wp p e below Z a0 dm fp R s Post T (mkF m pc Ls st) := by
  subst hq hv
  exact Wp.go (fun t kt => XS.lconst A.hr A.hx rfl (A.hb hd) kt) K
theorem Here.aconstNull  {q : Nat} (A : Here p l e R s m args below meth c Z a0 y bytes ml ret dm fp T k n os) (hd : decode bytes pc = .ok (.aconst_null, 1)) (hq : pc + 1 = q) (K : Wp p e below Z a0 dm fp R s Post T (mkF m q Ls (.null :: st))) : Wp p e below Z a0 dm fp R s Post T (mkF m pc Ls st) := by
  subst hq
  exact Wp.go (fun t kt => XS.aconstNull A.hr A.hx rfl (A.hb hd)  kt) K
theorem Here.iadd {x z : Int32} {q : Nat} (A : Here p l e R s m args below meth c Z a0 y bytes ml ret dm fp T k n os) (hd : decode bytes pc = .ok (.iadd, 1)) (hq : pc + 1 = q) (K : Wp p e below Z a0 dm fp R s Post T (mkF m q Ls (.int (x + z) :: rest))) : Wp p e below Z a0 dm fp R s Post T (mkF m pc Ls (.int z :: .int x :: rest)) := by
  subst hq
  exact Wp.go (fun t kt => XS.iadd A.hr A.hx rfl (A.hb hd) rfl kt) K
theorem Here.ladd {x z : Int64} {q : Nat} (A : Here p l e R s m args below meth c Z a0 y bytes ml ret dm fp T k n os) (hd : decode bytes pc = .ok (.ladd, 1)) (hq : pc + 1 = q) (K : Wp p e below Z a0 dm fp R s Post T (mkF m q Ls (.long (x + z) :: rest))) : Wp p e below Z a0 dm fp R s Post T (mkF m pc Ls (.long z :: .long x :: rest)) := by
  subst hq
  exact Wp.go (fun t kt => XS.ladd A.hr A.hx rfl (A.hb hd) rfl kt) K
theorem Here.isub {x z : Int32} {q : Nat} (A : Here p l e R s m args below meth c Z a0 y bytes ml ret dm fp T k n os) (hd : decode bytes pc = .ok (.isub, 1)) (hq : pc + 1 = q) (K : Wp p e below Z a0 dm fp R s Post T (mkF m q Ls (.int (x - z) :: rest))) : Wp p e below Z a0 dm fp R s Post T (mkF m pc Ls (.int z :: .int x :: rest)) := by
  subst hq
  exact Wp.go (fun t kt => XS.isub A.hr A.hx rfl (A.hb hd) rfl kt) K
theorem Here.lsub {x z : Int64} {q : Nat} (A : Here p l e R s m args below meth c Z a0 y bytes ml ret dm fp T k n os) (hd : decode bytes pc = .ok (.lsub, 1)) (hq : pc + 1 = q) (K : Wp p e below Z a0 dm fp R s Post T (mkF m q Ls (.long (x - z) :: rest))) : Wp p e below Z a0 dm fp R s Post T (mkF m pc Ls (.long z :: .long x :: rest)) := by
  subst hq
  exact Wp.go (fun t kt => XS.lsub A.hr A.hx rfl (A.hb hd) rfl kt) K
theorem Here.imul {x z : Int32} {q : Nat} (A : Here p l e R s m args below meth c Z a0 y bytes ml ret dm fp T k n os) (hd : decode bytes pc = .ok (.imul, 1)) (hq : pc + 1 = q) (K : Wp p e below Z a0 dm fp R s Post T (mkF m q Ls (.int (x * z) :: rest))) : Wp p e below Z a0 dm fp R s Post T (mkF m pc Ls (.int z :: .int x :: rest)) := by
  subst hq
  exact Wp.go (fun t kt => XS.imul A.hr A.hx rfl (A.hb hd) rfl kt) K
theorem Here.lmul {x z : Int64} {q : Nat} (A : Here p l e R s m args below meth c Z a0 y bytes ml ret dm fp T k n os) (hd : decode bytes pc = .ok (.lmul, 1)) (hq : pc + 1 = q) (K : Wp p e below Z a0 dm fp R s Post T (mkF m q Ls (.long (x * z) :: rest))) : Wp p e below Z a0 dm fp R s Post T (mkF m pc Ls (.long z :: .long x :: rest)) := by
  subst hq
  exact Wp.go (fun t kt => XS.lmul A.hr A.hx rfl (A.hb hd) rfl kt) K
theorem Here.iand {x z : Int32} {q : Nat} (A : Here p l e R s m args below meth c Z a0 y bytes ml ret dm fp T k n os) (hd : decode bytes pc = .ok (.iand, 1)) (hq : pc + 1 = q) (K : Wp p e below Z a0 dm fp R s Post T (mkF m q Ls (.int (x &&& z) :: rest))) : Wp p e below Z a0 dm fp R s Post T (mkF m pc Ls (.int z :: .int x :: rest)) := by
  subst hq
  exact Wp.go (fun t kt => XS.iand A.hr A.hx rfl (A.hb hd) rfl kt) K
theorem Here.land {x z : Int64} {q : Nat} (A : Here p l e R s m args below meth c Z a0 y bytes ml ret dm fp T k n os) (hd : decode bytes pc = .ok (.land, 1)) (hq : pc + 1 = q) (K : Wp p e below Z a0 dm fp R s Post T (mkF m q Ls (.long (x &&& z) :: rest))) : Wp p e below Z a0 dm fp R s Post T (mkF m pc Ls (.long z :: .long x :: rest)) := by
  subst hq
  exact Wp.go (fun t kt => XS.land A.hr A.hx rfl (A.hb hd) rfl kt) K
theorem Here.ior {x z : Int32} {q : Nat} (A : Here p l e R s m args below meth c Z a0 y bytes ml ret dm fp T k n os) (hd : decode bytes pc = .ok (.ior, 1)) (hq : pc + 1 = q) (K : Wp p e below Z a0 dm fp R s Post T (mkF m q Ls (.int (x ||| z) :: rest))) : Wp p e below Z a0 dm fp R s Post T (mkF m pc Ls (.int z :: .int x :: rest)) := by
  subst hq
  exact Wp.go (fun t kt => XS.ior A.hr A.hx rfl (A.hb hd) rfl kt) K
theorem Here.lor {x z : Int64} {q : Nat} (A : Here p l e R s m args below meth c Z a0 y bytes ml ret dm fp T k n os) (hd : decode bytes pc = .ok (.lor, 1)) (hq : pc + 1 = q) (K : Wp p e below Z a0 dm fp R s Post T (mkF m q Ls (.long (x ||| z) :: rest))) : Wp p e below Z a0 dm fp R s Post T (mkF m pc Ls (.long z :: .long x :: rest)) := by
  subst hq
  exact Wp.go (fun t kt => XS.lor A.hr A.hx rfl (A.hb hd) rfl kt) K
theorem Here.ixor {x z : Int32} {q : Nat} (A : Here p l e R s m args below meth c Z a0 y bytes ml ret dm fp T k n os) (hd : decode bytes pc = .ok (.ixor, 1)) (hq : pc + 1 = q) (K : Wp p e below Z a0 dm fp R s Post T (mkF m q Ls (.int (x ^^^ z) :: rest))) : Wp p e below Z a0 dm fp R s Post T (mkF m pc Ls (.int z :: .int x :: rest)) := by
  subst hq
  exact Wp.go (fun t kt => XS.ixor A.hr A.hx rfl (A.hb hd) rfl kt) K
theorem Here.lxor {x z : Int64} {q : Nat} (A : Here p l e R s m args below meth c Z a0 y bytes ml ret dm fp T k n os) (hd : decode bytes pc = .ok (.lxor, 1)) (hq : pc + 1 = q) (K : Wp p e below Z a0 dm fp R s Post T (mkF m q Ls (.long (x ^^^ z) :: rest))) : Wp p e below Z a0 dm fp R s Post T (mkF m pc Ls (.long z :: .long x :: rest)) := by
  subst hq
  exact Wp.go (fun t kt => XS.lxor A.hr A.hx rfl (A.hb hd) rfl kt) K
theorem Here.idiv {x z : Int32} {q : Nat} (A : Here p l e R s m args below meth c Z a0 y bytes ml ret dm fp T k n os) (hd : decode bytes pc = .ok (.idiv, 1)) (hz : z ≠ 0) (hq : pc + 1 = q) (K : Wp p e below Z a0 dm fp R s Post T (mkF m q Ls (.int (x / z) :: rest))) : Wp p e below Z a0 dm fp R s Post T (mkF m pc Ls (.int z :: .int x :: rest)) := by
  subst hq
  exact Wp.go (fun t kt => XS.idiv A.hr A.hx rfl (A.hb hd) rfl hz kt) K
theorem Here.ineg {x : Int32} {q : Nat} (A : Here p l e R s m args below meth c Z a0 y bytes ml ret dm fp T k n os) (hd : decode bytes pc = .ok (.ineg, 1)) (hq : pc + 1 = q) (K : Wp p e below Z a0 dm fp R s Post T (mkF m q Ls (.int (-x) :: rest))) : Wp p e below Z a0 dm fp R s Post T (mkF m pc Ls (.int x :: rest)) := by
  subst hq
  exact Wp.go (fun t kt => XS.ineg A.hr A.hx rfl (A.hb hd) rfl kt) K
theorem Here.ldiv {x z : Int64} {q : Nat} (A : Here p l e R s m args below meth c Z a0 y bytes ml ret dm fp T k n os) (hd : decode bytes pc = .ok (.ldiv, 1)) (hz : z ≠ 0) (hq : pc + 1 = q) (K : Wp p e below Z a0 dm fp R s Post T (mkF m q Ls (.long (x / z) :: rest))) : Wp p e below Z a0 dm fp R s Post T (mkF m pc Ls (.long z :: .long x :: rest)) := by
  subst hq
  exact Wp.go (fun t kt => XS.ldiv A.hr A.hx rfl (A.hb hd) rfl hz kt) K
theorem Here.lneg {x : Int64} {q : Nat} (A : Here p l e R s m args below meth c Z a0 y bytes ml ret dm fp T k n os) (hd : decode bytes pc = .ok (.lneg, 1)) (hq : pc + 1 = q) (K : Wp p e below Z a0 dm fp R s Post T (mkF m q Ls (.long (-x) :: rest))) : Wp p e below Z a0 dm fp R s Post T (mkF m pc Ls (.long x :: rest)) := by
  subst hq
  exact Wp.go (fun t kt => XS.lneg A.hr A.hx rfl (A.hb hd) rfl kt) K
theorem Here.i2l {x : Int32} {q : Nat} (A : Here p l e R s m args below meth c Z a0 y bytes ml ret dm fp T k n os) (hd : decode bytes pc = .ok (.i2l, 1)) (hq : pc + 1 = q) (K : Wp p e below Z a0 dm fp R s Post T (mkF m q Ls (.long (x.toInt64) :: rest))) : Wp p e below Z a0 dm fp R s Post T (mkF m pc Ls (.int x :: rest)) := by
  subst hq
  exact Wp.go (fun t kt => XS.i2l A.hr A.hx rfl (A.hb hd) rfl kt) K
theorem Here.l2i {x : Int64} {q : Nat} (A : Here p l e R s m args below meth c Z a0 y bytes ml ret dm fp T k n os) (hd : decode bytes pc = .ok (.l2i, 1)) (hq : pc + 1 = q) (K : Wp p e below Z a0 dm fp R s Post T (mkF m q Ls (.int (x.toInt32) :: rest))) : Wp p e below Z a0 dm fp R s Post T (mkF m pc Ls (.long x :: rest)) := by
  subst hq
  exact Wp.go (fun t kt => XS.l2i A.hr A.hx rfl (A.hb hd) rfl kt) K
theorem Here.i2b {x : Int32} {q : Nat} (A : Here p l e R s m args below meth c Z a0 y bytes ml ret dm fp T k n os) (hd : decode bytes pc = .ok (.i2b, 1)) (hq : pc + 1 = q) (K : Wp p e below Z a0 dm fp R s Post T (mkF m q Ls (.int (x.toInt8.toInt32) :: rest))) : Wp p e below Z a0 dm fp R s Post T (mkF m pc Ls (.int x :: rest)) := by
  subst hq
  exact Wp.go (fun t kt => XS.i2b A.hr A.hx rfl (A.hb hd) rfl kt) K
theorem Here.i2s {x : Int32} {q : Nat} (A : Here p l e R s m args below meth c Z a0 y bytes ml ret dm fp T k n os) (hd : decode bytes pc = .ok (.i2s, 1)) (hq : pc + 1 = q) (K : Wp p e below Z a0 dm fp R s Post T (mkF m q Ls (.int (x.toInt16.toInt32) :: rest))) : Wp p e below Z a0 dm fp R s Post T (mkF m pc Ls (.int x :: rest)) := by
  subst hq
  exact Wp.go (fun t kt => XS.i2s A.hr A.hx rfl (A.hb hd) rfl kt) K
theorem Here.i2c {x : Int32} {q : Nat} (A : Here p l e R s m args below meth c Z a0 y bytes ml ret dm fp T k n os) (hd : decode bytes pc = .ok (.i2c, 1)) (hq : pc + 1 = q) (K : Wp p e below Z a0 dm fp R s Post T (mkF m q Ls (.int (x.toUInt32.toUInt16.toUInt32.toInt32) :: rest))) : Wp p e below Z a0 dm fp R s Post T (mkF m pc Ls (.int x :: rest)) := by
  subst hq
  exact Wp.go (fun t kt => XS.i2c A.hr A.hx rfl (A.hb hd) rfl kt) K
theorem Here.ishl {x : Int32} {z : Int32} {q : Nat} (A : Here p l e R s m args below meth c Z a0 y bytes ml ret dm fp T k n os) (hd : decode bytes pc = .ok (.ishl, 1)) (hq : pc + 1 = q) (K : Wp p e below Z a0 dm fp R s Post T (mkF m q Ls (.int (x <<< (z &&& 31)) :: rest))) : Wp p e below Z a0 dm fp R s Post T (mkF m pc Ls (.int z :: .int x :: rest)) := by
  subst hq
  exact Wp.go (fun t kt => XS.ishl A.hr A.hx rfl (A.hb hd) rfl kt) K
theorem Here.ishr {x : Int32} {z : Int32} {q : Nat} (A : Here p l e R s m args below meth c Z a0 y bytes ml ret dm fp T k n os) (hd : decode bytes pc = .ok (.ishr, 1)) (hq : pc + 1 = q) (K : Wp p e below Z a0 dm fp R s Post T (mkF m q Ls (.int (x >>> (z &&& 31)) :: rest))) : Wp p e below Z a0 dm fp R s Post T (mkF m pc Ls (.int z :: .int x :: rest)) := by
  subst hq
  exact Wp.go (fun t kt => XS.ishr A.hr A.hx rfl (A.hb hd) rfl kt) K
theorem Here.iushr {x : Int32} {z : Int32} {q : Nat} (A : Here p l e R s m args below meth c Z a0 y bytes ml ret dm fp T k n os) (hd : decode bytes pc = .ok (.iushr, 1)) (hq : pc + 1 = q) (K : Wp p e below Z a0 dm fp R s Post T (mkF m q Ls (.int ((x.toUInt32 >>> (z &&& 31).toUInt32).toInt32) :: rest))) : Wp p e below Z a0 dm fp R s Post T (mkF m pc Ls (.int z :: .int x :: rest)) := by
  subst hq
  exact Wp.go (fun t kt => XS.iushr A.hr A.hx rfl (A.hb hd) rfl kt) K
theorem Here.lshl {x : Int64} {z : Int32} {q : Nat} (A : Here p l e R s m args below meth c Z a0 y bytes ml ret dm fp T k n os) (hd : decode bytes pc = .ok (.lshl, 1)) (hq : pc + 1 = q) (K : Wp p e below Z a0 dm fp R s Post T (mkF m q Ls (.long (x <<< (z &&& 0x3f).toInt64) :: rest))) : Wp p e below Z a0 dm fp R s Post T (mkF m pc Ls (.int z :: .long x :: rest)) := by
  subst hq
  exact Wp.go (fun t kt => XS.lshl A.hr A.hx rfl (A.hb hd) rfl kt) K
theorem Here.lshr {x : Int64} {z : Int32} {q : Nat} (A : Here p l e R s m args below meth c Z a0 y bytes ml ret dm fp T k n os) (hd : decode bytes pc = .ok (.lshr, 1)) (hq : pc + 1 = q) (K : Wp p e below Z a0 dm fp R s Post T (mkF m q Ls (.long (x >>> (z &&& 0x3f).toInt64) :: rest))) : Wp p e below Z a0 dm fp R s Post T (mkF m pc Ls (.int z :: .long x :: rest)) := by
  subst hq
  exact Wp.go (fun t kt => XS.lshr A.hr A.hx rfl (A.hb hd) rfl kt) K
theorem Here.lushr {x : Int64} {z : Int32} {q : Nat} (A : Here p l e R s m args below meth c Z a0 y bytes ml ret dm fp T k n os) (hd : decode bytes pc = .ok (.lushr, 1)) (hq : pc + 1 = q) (K : Wp p e below Z a0 dm fp R s Post T (mkF m q Ls (.long ((x.toUInt64 >>> (z &&& 0x3f).toInt64.toUInt64).toInt64) :: rest))) : Wp p e below Z a0 dm fp R s Post T (mkF m pc Ls (.int z :: .long x :: rest)) := by
  subst hq
  exact Wp.go (fun t kt => XS.lushr A.hr A.hx rfl (A.hb hd) rfl kt) K
theorem Here.lcmp {x z : Int64} {q : Nat} (A : Here p l e R s m args below meth c Z a0 y bytes ml ret dm fp T k n os) (hd : decode bytes pc = .ok (.lcmp, 1)) (hq : pc + 1 = q) (K : Wp p e below Z a0 dm fp R s Post T (mkF m q Ls (.int (lcmpW x z) :: rest))) : Wp p e below Z a0 dm fp R s Post T (mkF m pc Ls (.long z :: .long x :: rest)) := by
  subst hq
  exact Wp.go (fun t kt => XS.lcmp A.hr A.hx rfl (A.hb hd) rfl kt) K
theorem Here.iinc {j : Nat} {i : Int} {x : Int32} {l' : Array Slot} {q : Nat} (A : Here p l e R s m args below meth c Z a0 y bytes ml ret dm fp T k n os) (hd : decode bytes pc = .ok (.iinc j i, 3)) (hl : Ls[j]? = some (.val (.int x))) (hl' : storeLocals Ls j (.int (x + Int32.ofInt i)) = some l') (hq : pc + 3 = q) (K : Wp p e below Z a0 dm fp R s Post T (mkF m q l' st)) : Wp p e below Z a0 dm fp R s Post T (mkF m pc Ls st) := by
  subst hq
  exact Wp.go (fun t kt => XS.iinc A.hr A.hx rfl (A.hb hd) hl hl' kt) K
theorem Here.dup {v : Value} {q : Nat} (A : Here p l e R s m args below meth c Z a0 y bytes ml ret dm fp T k n os) (hd : decode bytes pc = .ok (.dup, 1)) (hv : v.category = 1) (hq : pc + 1 = q) (K : Wp p e below Z a0 dm fp R s Post T (mkF m q Ls (v :: v :: rest))) : Wp p e below Z a0 dm fp R s Post T (mkF m pc Ls (v :: rest)) := by
  subst hq
  exact Wp.go (fun t kt => XS.dup A.hr A.hx rfl (A.hb hd) rfl hv kt) K
theorem Here.pop {v : Value} {q : Nat} (A : Here p l e R s m args below meth c Z a0 y bytes ml ret dm fp T k n os) (hd : decode bytes pc = .ok (.pop, 1)) (hv : v.category = 1) (hq : pc + 1 = q) (K : Wp p e below Z a0 dm fp R s Post T (mkF m q Ls rest)) : Wp p e below Z a0 dm fp R s Post T (mkF m pc Ls (v :: rest)) := by
  subst hq
  exact Wp.go (fun t kt => XS.pop A.hr A.hx rfl (A.hb hd) rfl hv kt) K
theorem Here.dup_x1 {v w : Value} {q : Nat} (A : Here p l e R s m args below meth c Z a0 y bytes ml ret dm fp T k n os) (hd : decode bytes pc = .ok (.dup_x1, 1)) (hv : v.category = 1) (hw : w.category = 1) (hq : pc + 1 = q) (K : Wp p e below Z a0 dm fp R s Post T (mkF m q Ls (v :: w :: v :: rest))) : Wp p e below Z a0 dm fp R s Post T (mkF m pc Ls (v :: w :: rest)) := by
  subst hq
  exact Wp.go (fun t kt => XS.dupX1 A.hr A.hx rfl (A.hb hd) rfl hv hw kt) K
theorem Here.dup2 {v w : Value} {q : Nat} (A : Here p l e R s m args below meth c Z a0 y bytes ml ret dm fp T k n os) (hd : decode bytes pc = .ok (.dup2, 1)) (hv : v.category = 1) (hw : w.category = 1) (hq : pc + 1 = q) (K : Wp p e below Z a0 dm fp R s Post T (mkF m q Ls (v :: w :: v :: w :: rest))) : Wp p e below Z a0 dm fp R s Post T (mkF m pc Ls (v :: w :: rest)) := by
  subst hq
  exact Wp.go (fun t kt => Jvm.Free.XT.dup2 A.hr A.hx rfl (A.hb hd) rfl hv hw kt) K
theorem Here.dup2L {x : Int64} {q : Nat} (A : Here p l e R s m args below meth c Z a0 y bytes ml ret dm fp T k n os) (hd : decode bytes pc = .ok (.dup2, 1)) (hq : pc + 1 = q) (K : Wp p e below Z a0 dm fp R s Post T (mkF m q Ls (.long x :: .long x :: rest))) : Wp p e below Z a0 dm fp R s Post T (mkF m pc Ls (.long x :: rest)) := by
  subst hq
  exact Wp.go (fun t kt => Jvm.Free.XT.dup2L A.hr A.hx rfl (A.hb hd) rfl kt) K
theorem Here.goto {o : Int} {q : Nat} (A : Here p l e R s m args below meth c Z a0 y bytes ml ret dm fp T k n os) (hd : decode bytes pc = .ok (.goto o, 3)) (ho : 0 ≤ (pc : Int) + o) (hq : ((pc : Int) + o).toNat = q) (K : Wp p e below Z a0 dm fp R s Post T (mkF m q Ls st)) : Wp p e below Z a0 dm fp R s Post T (mkF m pc Ls st) :=
  Wp.go (fun t kt => XS.goto A.hr A.hx rfl (pc0 := pc) (pc' := q) rfl (A.hb hd) ho hq kt) K
theorem Here.ifYes {cd : ClassFile.Cond} {o : Int} {x : Int32} {q : Nat} (A : Here p l e R s m args below meth c Z a0 y bytes ml ret dm fp T k n os) (hd : decode bytes pc = .ok (.ifCond cd o, 3)) (hc : ifCond.holds cd x = true) (ho : 0 ≤ (pc : Int) + o) (hq : ((pc : Int) + o).toNat = q) (K : Wp p e below Z a0 dm fp R s Post T (mkF m q Ls rest)) : Wp p e below Z a0 dm fp R s Post T (mkF m pc Ls (.int x :: rest)) :=
  Wp.go (fun t kt => XS.ifYes A.hr A.hx rfl (pc0 := pc) (pc' := q) rfl (A.hb hd) rfl hc ho hq kt) K
theorem Here.ifNo {cd : ClassFile.Cond} {o : Int} {x : Int32} {q : Nat} (A : Here p l e R s m args below meth c Z a0 y bytes ml ret dm fp T k n os) (hd : decode bytes pc = .ok (.ifCond cd o, 3)) (hc : ifCond.holds cd x = false) (hq : pc + 3 = q) (K : Wp p e below Z a0 dm fp R s Post T (mkF m q Ls rest)) : Wp p e below Z a0 dm fp R s Post T (mkF m pc Ls (.int x :: rest)) := by
  subst hq
  exact Wp.go (fun t kt => XS.ifNo A.hr A.hx rfl (A.hb hd) rfl hc kt) K
theorem Here.icmpYes {cd : ClassFile.Cond} {o : Int} {x z : Int32} {q : Nat} (A : Here p l e R s m args below meth c Z a0 y bytes ml ret dm fp T k n os) (hd : decode bytes pc = .ok (.if_icmp cd o, 3)) (hc : if_icmp.holds cd x z = true) (ho : 0 ≤ (pc : Int) + o) (hq : ((pc : Int) + o).toNat = q) (K : Wp p e below Z a0 dm fp R s Post T (mkF m q Ls rest)) : Wp p e below Z a0 dm fp R s Post T (mkF m pc Ls (.int z :: .int x :: rest)) :=
  Wp.go (fun t kt => XS.icmpYes A.hr A.hx rfl (pc0 := pc) (pc' := q) rfl (A.hb hd) rfl hc ho hq kt) K
theorem Here.icmpNo {cd : ClassFile.Cond} {o : Int} {x z : Int32} {q : Nat} (A : Here p l e R s m args below meth c Z a0 y bytes ml ret dm fp T k n os) (hd : decode bytes pc = .ok (.if_icmp cd o, 3)) (hc : if_icmp.holds cd x z = false) (hq : pc + 3 = q) (K : Wp p e below Z a0 dm fp R s Post T (mkF m q Ls rest)) : Wp p e below Z a0 dm fp R s Post T (mkF m pc Ls (.int z :: .int x :: rest)) := by
  subst hq
  exact Wp.go (fun t kt => XS.icmpNo A.hr A.hx rfl (A.hb hd) rfl hc kt) K
theorem Wp.top {v v' : Value} (h : v = v') (K : Wp p e below Z a0 dm fp R s Post T (mkF m pc Ls (v' :: st))) : Wp p e below Z a0 dm fp R s Post T (mkF m pc Ls (v :: st)) := by
  subst h
  exact K
/-! reads and writes -/
theorem Here.getF {O f d R0 : String} {idx i j : Nat} {a : Addr} {C : String} {fs : List Fd} {v : Value} (A : Here p l e R s m args below meth c Z a0 y bytes ml ret dm fp T k n os) (w : (Jvm.Cond.fieldLink y.cls idx R0 f d).before a0 Z = true) (via : Via Z R0 O f d) (hd : decode bytes pc = .ok (.getfield idx, 3)) (ho : os[i]? = some (a, .inl (C, fs))) (hj : fs[j]? = some (O, f, d, v)) {qn : Nat} (hq : pc + 3 = qn)
    (K : ∀ T', Here p l e R s m args below meth c Z a0 y bytes ml ret dm fp T' k n os → Wp p e below Z a0 dm fp R s Post T' (mkF m qn Ls (v :: rest))) : Wp p e below Z a0 dm fp R s Post T (mkF m pc Ls (.ref a :: rest)) := by
  subst hq
  have A' := A
  obtain ⟨locs, X, N, H, hx, hZ, hb, hml, hown, q⟩ := A
  obtain ⟨T1, X1, e1, st1⟩ := RoadKit.getF X hx hZ hown (host := "") (Or.inl w) via rfl (H.fld ho hj) (g := mkF m pc Ls (.ref a :: rest)) rfl rfl (A'.hb hd)
  exact Wp.go st1 (K T1 ⟨locs, X1, N, by rw [e1]; exact H, hx, hZ, hb, hml, hown, q⟩)
theorem Here.putF {O f d R0 : String} {idx i j kk : Nat} {a : Addr} {C : String} {fs : List Fd} {v old : Value} {ty : FieldType} (A : Here p l e R s m args below meth c Z a0 y bytes ml ret dm fp T k n os) (w : (Jvm.Cond.fieldLink y.cls idx R0 f d).before a0 Z = true) (via : Via Z R0 O f d)
    (hL : (Jvm.Cond.lays C O f d).before a0 Z = true ∨ ((Jvm.Cond.laysFinal C O f d).before a0 Z = true ∧ y.cls = O ∧ y.name = "<init>")) (wi : (Jvm.Cond.instantiable C kk).before a0 Z = true) (hty : parseFieldDescriptor d = some ty) (hnw : narrow ty v = v) (hf : fits ty v = true)
    (hd : decode bytes pc = .ok (.putfield idx, 3)) (ho : os[i]? = some (a, .inl (C, fs))) (hj : fs[j]? = some (O, f, d, old)) (hdf : dm = fp) {qn : Nat} (hq : pc + 3 = qn)
    (K : ∀ T', Here p l e R s m args below meth c Z a0 y bytes ml ret dm fp T' k n (os.set i (a, .inl (C, fs.set j (O, f, d, v)))) → Wp p e below Z a0 dm fp R s Post T' (mkF m qn Ls rest)) : Wp p e below Z a0 dm fp R s Post T (mkF m pc Ls (v :: .ref a :: rest)) := by
  subst hq
  have A' := A
  obtain ⟨locs, X, N, H, hx, hZ, hb, hml, hown, hnm, q⟩ := A
  have hD : Dm fp s.heap.size a := hdf ▸ H.2.1 _ (List.mem_of_getElem? ho)
  obtain ⟨T1, h1, X1, e1, W1, st1⟩ := RoadKit.putF X hx hZ hown (host := "") (Or.inl w) via rfl (H.fld ho hj) (H.exa ho) (hL.imp id fun z => ⟨z.1, z.2.1, hnm.trans z.2.2⟩) wi hty hnw hf (g := mkF m pc Ls (v :: .ref a :: rest)) rfl rfl (A'.hb hd)
  refine Wp.go st1 (K T1 ⟨_, X1, fun q hq => ?_, by rw [e1]; exact H.putf hD ho hj W1, hx, hZ, hb, hml, hown, hnm, q⟩)
  rcases List.mem_append.mp hq with hq | hq
  · exact N q hq
  · cases List.mem_singleton.mp hq; exact hD
theorem Here.putFN {O f d R0 : String} {idx i j kk : Nat} {a : Addr} {C : String} {fs : List Fd} {v v' old : Value} {ty : FieldType} (A : Here p l e R s m args below meth c Z a0 y bytes ml ret dm fp T k n os) (w : (Jvm.Cond.fieldLink y.cls idx R0 f d).before a0 Z = true) (via : Via Z R0 O f d)
    (hL : (Jvm.Cond.lays C O f d).before a0 Z = true ∨ ((Jvm.Cond.laysFinal C O f d).before a0 Z = true ∧ y.cls = O ∧ y.name = "<init>")) (wi : (Jvm.Cond.instantiable C kk).before a0 Z = true) (hty : parseFieldDescriptor d = some ty) (hnw : narrow ty v = v') (hf : fits ty v' = true)
    (hd : decode bytes pc = .ok (.putfield idx, 3)) (ho : os[i]? = some (a, .inl (C, fs))) (hj : fs[j]? = some (O, f, d, old)) (hdf : dm = fp) {qn : Nat} (hq : pc + 3 = qn)
    (K : ∀ T', Here p l e R s m args below meth c Z a0 y bytes ml ret dm fp T' k n (os.set i (a, .inl (C, fs.set j (O, f, d, v')))) → Wp p e below Z a0 dm fp R s Post T' (mkF m qn Ls rest)) : Wp p e below Z a0 dm fp R s Post T (mkF m pc Ls (v :: .ref a :: rest)) := by
  subst hq
  have A' := A
  obtain ⟨locs, X, N, H, hx, hZ, hb, hml, hown, hnm, q⟩ := A
  have hD : Dm fp s.heap.size a := hdf ▸ H.2.1 _ (List.mem_of_getElem? ho)
  obtain ⟨T1, h1, X1, e1, W1, st1⟩ := RoadKit.putFN X hx hZ hown w via rfl (H.fld ho hj) (H.exa ho) (hL.imp id fun z => ⟨z.1, z.2.1, hnm.trans z.2.2⟩) wi hty hnw hf (g := mkF m pc Ls (v :: .ref a :: rest)) rfl rfl (A'.hb hd)
  refine Wp.go st1 (K T1 ⟨_, X1, fun q hq => ?_, by rw [e1]; exact H.putf hD ho hj W1, hx, hZ, hb, hml, hown, hnm, q⟩)
  rcases List.mem_append.mp hq with hq | hq
  · exact N q hq
  · cases List.mem_singleton.mp hq; exact hD
theorem Here.newO {idx nn : Nat} {C : String} {fs : List Fd} (A : Here p l e R s m args below meth c Z a0 y bytes ml ret dm fp T k n os) (w : (Jvm.Cond.classLink y.cls idx C).before a0 Z = true) (wi : (Jvm.Cond.instantiable C nn).before a0 Z = true) (wz : (Jvm.Cond.initialized C).before a0 Z = true) (hd : decode bytes pc = .ok (.new idx, 3)) (hc : k + 1 ≤ R.cells) (hl : n + nn ≤ R.slots)
    (hnd : (fs.map (·.2.1)).Nodup) (hfs : ∀ q ∈ fs, Laid Z a0 C q.1 q.2.1 q.2.2.1 ∧ ∃ t, parseFieldDescriptor q.2.2.1 = some t ∧ q.2.2.2 = defaultValue t) {qn : Nat} (hq : pc + 3 = qn)
    (K : ∀ T' a, Here p l e R s m args below meth c Z a0 y bytes ml ret dm fp T' (k + 1) (n + nn) (os ++ [(a, .inl (C, fs))]) → Wp p e below Z a0 dm fp R s Post T' (mkF m qn Ls (.ref a :: st))) : Wp p e below Z a0 dm fp R s Post T (mkF m pc Ls st) := by
  subst hq
  have A' := A
  obtain ⟨locs, X, N, H, hx, hZ, hb, hml, hown, q⟩ := A
  obtain ⟨T1, h1, X1, e1, E1, A1, D1, -, st1⟩ := RoadKit.newO X hx hZ hown w wi wz rfl (g := mkF m pc Ls st) rfl (A'.hb hd) hc hl
  have F1 : ObAt Z a0 h1 T.heap.size (.inl (C, fs)) := ⟨A1, hnd, fun q hq => by
    obtain ⟨L, t, ht, hv⟩ := hfs q hq
    refine ⟨?_, L, t, ht⟩
    rw [hv]
    exact D1 L ht⟩
  exact Wp.go st1 (K T1 _ ⟨_, X1, N, by rw [e1]; exact H.push E1 F1, hx, hZ, hb, hml, hown, q⟩)
theorem Here.newP {aty : ArrayType} {z : Int32} {cap : Nat} (A : Here p l e R s m args below meth c Z a0 y bytes ml ret dm fp T k n os) (w : (Jvm.Cond.arrayClass (newarray.typeOf aty)).before a0 Z = true) (hd : decode bytes pc = .ok (.newarray aty, 2)) (hz : ¬ z < 0) (hcap : z.toNatClampNeg ≤ cap) (hb8 : cap * 8 ≤ 536870912) (hc : k + 1 ≤ R.cells) (hl : n + cap ≤ R.slots) {qn : Nat} (hq : pc + 2 = qn)
    (K : ∀ T' a, Here p l e R s m args below meth c Z a0 y bytes ml ret dm fp T' (k + 1) (n + cap) (os ++ [(a, .inr (newarray.typeOf aty, List.replicate z.toNatClampNeg (defaultValue (newarray.typeOf aty))))]) → Wp p e below Z a0 dm fp R s Post T' (mkF m qn Ls (.ref a :: st))) : Wp p e below Z a0 dm fp R s Post T (mkF m pc Ls (.int z :: st)) := by
  subst hq
  have A' := A
  obtain ⟨locs, X, N, H, hx, hZ, hb, hml, hown, q⟩ := A
  obtain ⟨T1, h1, cA, X1, e1, E1, A1, B1, st1⟩ := RoadKit.newPE X hx hZ w rfl (g := mkF m pc Ls (.int z :: st)) rfl (A'.hb hd) rfl hz hcap hb8 hc hl rfl
  have F1 : ObAt Z a0 h1 T.heap.size (.inr (newarray.typeOf aty, List.replicate z.toNatClampNeg (defaultValue (newarray.typeOf aty)))) := ⟨_, A1, by simp [newA], B1, fun v hv => by
    rw [(List.mem_replicate.mp hv).2]
    cases aty <;> rfl⟩
  exact Wp.go st1 (K T1 _ ⟨_, X1, N, by rw [e1]; exact H.push E1 F1, hx, hZ, hb, hml, hown, q⟩)
theorem inb {vs : List Value} {cl : Cell} {j : Int32} (e : cl.slots.toList = vs) (hj : ¬ j < 0) (hl : j.toNatClampNeg < vs.length) : ¬ (j < 0 ∨ cl.slots.size ≤ j.toNatClampNeg) := by
  subst e
  rw [Array.length_toList] at hl
  rintro (h | h)
  · exact hj h
  · exact absurd hl (Nat.not_lt.mpr h)
theorem Here.stOf {i : Nat} {a : Addr} {ty : FieldType} {vs : List Value} {j : Int32} {v : Value} {g : JFrame} (hf : fits ty v = true) (A : Here p l e R s m args below meth c Z a0 y bytes ml ret dm fp T k n os) (ho : os[i]? = some (a, .inr (ty, vs))) (hj : ¬ j < 0) (hl : j.toNatClampNeg < vs.length) (hdf : dm = fp)
    (S : ∀ (locs : List Loc) (cl : Cell), Stand p l e R s m args below meth c T locs k n → Arr Z T.heap a cl ty → ¬ (j < 0 ∨ cl.slots.size ≤ j.toNatClampNeg) → ∃ T' h', Stand p l e R s m args below meth c T' (locs ++ [⟨a, j.toNatClampNeg⟩]) k n ∧ T'.heap = h' ∧ Wr T.heap h' a j.toNatClampNeg v ∧ ∀ target, Steps p.tables e below (T'.setTop (mkF m (pc + 1) Ls rest)) target → Steps p.tables e below (T.setTop g) target)
    (K : ∀ T', Here p l e R s m args below meth c Z a0 y bytes ml ret dm fp T' k n (os.set i (a, .inr (ty, vs.set j.toNatClampNeg v))) → Wp p e below Z a0 dm fp R s Post T' (mkF m (pc + 1) Ls rest)) : Wp p e below Z a0 dm fp R s Post T g := by
  obtain ⟨locs, X, N, H, q⟩ := A
  obtain ⟨cl, Ar, ec⟩ := H.arr ho
  have hD : Dm fp s.heap.size a := hdf ▸ H.2.1 _ (List.mem_of_getElem? ho)
  obtain ⟨T1, h1, X1, e1, W1, st1⟩ := S locs cl X Ar (inb ec hj hl)
  refine Wp.go st1 (K T1 ⟨_, X1, fun q hq => ?_, by rw [e1]; exact H.puta hD hf ho W1, q⟩)
  rcases List.mem_append.mp hq with hq | hq
  · exact N q hq
  · cases List.mem_singleton.mp hq; exact hD
theorem Here.hz (A : Here p l e R s m args below meth c Z a0 y bytes ml ret dm fp T k n os) : Z.Warmed39 s.vm := by obtain ⟨_, -, -, -, -, hZ, -⟩ := A; exact hZ
theorem Here.stI {i : Nat} {a : Addr} {vs : List Value} {j x : Int32} (A : Here p l e R s m args below meth c Z a0 y bytes ml ret dm fp T k n os) (hd : decode bytes pc = .ok (.iastore, 1)) (ho : os[i]? = some (a, .inr (.int, vs))) (hj : ¬ j < 0) (hl : j.toNatClampNeg < vs.length) (hdf : dm = fp) {qn : Nat} (hq : pc + 1 = qn)
    (K : ∀ T', Here p l e R s m args below meth c Z a0 y bytes ml ret dm fp T' k n (os.set i (a, .inr (.int, vs.set j.toNatClampNeg (.int x)))) → Wp p e below Z a0 dm fp R s Post T' (mkF m qn Ls rest)) : Wp p e below Z a0 dm fp R s Post T (mkF m pc Ls (.int x :: .int j :: .ref a :: rest)) := by
  subst hq
  exact Here.stOf rfl A ho hj hl hdf (fun _ _ X Ar hin => RoadKit.stI X A.hx A.hz rfl Ar hin (g := mkF m pc Ls (.int x :: .int j :: .ref a :: rest)) rfl rfl (A.hb hd)) K
theorem Here.stJ {i : Nat} {a : Addr} {vs : List Value} {j : Int32} {x : Int64} (A : Here p l e R s m args below meth c Z a0 y bytes ml ret dm fp T k n os) (hd : decode bytes pc = .ok (.lastore, 1)) (ho : os[i]? = some (a, .inr (.long, vs))) (hj : ¬ j < 0) (hl : j.toNatClampNeg < vs.length) (hdf : dm = fp) {qn : Nat} (hq : pc + 1 = qn)
    (K : ∀ T', Here p l e R s m args below meth c Z a0 y bytes ml ret dm fp T' k n (os.set i (a, .inr (.long, vs.set j.toNatClampNeg (.long x)))) → Wp p e below Z a0 dm fp R s Post T' (mkF m qn Ls rest)) : Wp p e below Z a0 dm fp R s Post T (mkF m pc Ls (.long x :: .int j :: .ref a :: rest)) := by
  subst hq
  exact Here.stOf rfl A ho hj hl hdf (fun _ _ X Ar hin => RoadKit.stJ X A.hx A.hz rfl Ar hin (g := mkF m pc Ls (.long x :: .int j :: .ref a :: rest)) rfl rfl (A.hb hd)) K
theorem Here.stC {i : Nat} {a : Addr} {vs : List Value} {j x : Int32} (A : Here p l e R s m args below meth c Z a0 y bytes ml ret dm fp T k n os) (hd : decode bytes pc = .ok (.castore, 1)) (ho : os[i]? = some (a, .inr (.char, vs))) (hj : ¬ j < 0) (hl : j.toNatClampNeg < vs.length) (hdf : dm = fp) {qn : Nat} (hq : pc + 1 = qn)
    (K : ∀ T', Here p l e R s m args below meth c Z a0 y bytes ml ret dm fp T' k n (os.set i (a, .inr (.char, vs.set j.toNatClampNeg (.int (nar .char x))))) → Wp p e below Z a0 dm fp R s Post T' (mkF m qn Ls rest)) : Wp p e below Z a0 dm fp R s Post T (mkF m pc Ls (.int x :: .int j :: .ref a :: rest)) := by
  subst hq
  exact Here.stOf (fits_nar_char _) A ho hj hl hdf (fun _ _ X Ar hin => RoadKit.stC X A.hx A.hz rfl Ar hin (g := mkF m pc Ls (.int x :: .int j :: .ref a :: rest)) rfl rfl (A.hb hd)) K
theorem Here.stB {i : Nat} {a : Addr} {vs : List Value} {j x : Int32} (A : Here p l e R s m args below meth c Z a0 y bytes ml ret dm fp T k n os) (hd : decode bytes pc = .ok (.bastore, 1)) (ho : os[i]? = some (a, .inr (.byte, vs))) (hj : ¬ j < 0) (hl : j.toNatClampNeg < vs.length) (hdf : dm = fp) {qn : Nat} (hq : pc + 1 = qn)
    (K : ∀ T', Here p l e R s m args below meth c Z a0 y bytes ml ret dm fp T' k n (os.set i (a, .inr (.byte, vs.set j.toNatClampNeg (.int (nar .byte x))))) → Wp p e below Z a0 dm fp R s Post T' (mkF m qn Ls rest)) : Wp p e below Z a0 dm fp R s Post T (mkF m pc Ls (.int x :: .int j :: .ref a :: rest)) := by
  subst hq
  exact Here.stOf (fits_nar_byte _) A ho hj hl hdf (fun _ _ X Ar hin => RoadKit.stB X A.hx A.hz rfl Ar hin (g := mkF m pc Ls (.int x :: .int j :: .ref a :: rest)) rfl rfl (A.hb hd)) K
theorem Here.ldOf {i : Nat} {a : Addr} {ty : FieldType} {vs : List Value} {j : Int32} {v : Value} {g g' : JFrame} (A : Here p l e R s m args below meth c Z a0 y bytes ml ret dm fp T k n os) (ho : os[i]? = some (a, .inr (ty, vs))) (hj : ¬ j < 0) (hv : vs[j.toNatClampNeg]? = some v)
    (S : ∀ (locs : List Loc) (cl : Cell), Stand p l e R s m args below meth c T locs k n → T.heap[a]? = some cl → s.isArrayOf cl ty → cl.vm ≠ .unknown → ¬ (j < 0 ∨ cl.slots.size ≤ j.toNatClampNeg) → cl.slots[j.toNatClampNeg]? = some v → ∀ target, Steps p.tables e below (T.setTop g') target → Steps p.tables e below (T.setTop g) target)
    (K : Wp p e below Z a0 dm fp R s Post T g') : Wp p e below Z a0 dm fp R s Post T g := by
  have hz := A.hz
  obtain ⟨locs, X, N, H, q⟩ := A
  obtain ⟨cl, Ar, ec⟩ := H.arr ho
  refine Wp.go (S locs cl X Ar.1 (State.isArrayOf_alike hz.alike Ar.2.1) Ar.2.2 (inb ec hj (List.getElem?_eq_some_iff.mp hv).1) ?_) K
  rw [← ec, Array.getElem?_toList] at hv
  exact hv
theorem Here.ldI {i : Nat} {a : Addr} {vs : List Value} {j : Int32} {v : Value} (A : Here p l e R s m args below meth c Z a0 y bytes ml ret dm fp T k n os) (hd : decode bytes pc = .ok (.iaload, 1)) (ho : os[i]? = some (a, .inr (.int, vs))) (hj : ¬ j < 0) (hv : vs[j.toNatClampNeg]? = some v) {qn : Nat} (hq : pc + 1 = qn)
    (K : Wp p e below Z a0 dm fp R s Post T (mkF m qn Ls (v :: rest))) : Wp p e below Z a0 dm fp R s Post T (mkF m pc Ls (.int j :: .ref a :: rest)) := by
  subst hq
  exact A.ldOf ho hj hv (fun _ _ X h1 h2 h3 h4 h5 t kt => X.iaload A.hx h1 h2 h3 h4 h5 (g := mkF m pc Ls (.int j :: .ref a :: rest)) rfl rfl (A.hb hd) t kt) K
theorem Here.ldJ {i : Nat} {a : Addr} {vs : List Value} {j : Int32} {v : Value} (A : Here p l e R s m args below meth c Z a0 y bytes ml ret dm fp T k n os) (hd : decode bytes pc = .ok (.laload, 1)) (ho : os[i]? = some (a, .inr (.long, vs))) (hj : ¬ j < 0) (hv : vs[j.toNatClampNeg]? = some v) {qn : Nat} (hq : pc + 1 = qn)
    (K : Wp p e below Z a0 dm fp R s Post T (mkF m qn Ls (v :: rest))) : Wp p e below Z a0 dm fp R s Post T (mkF m pc Ls (.int j :: .ref a :: rest)) := by
  subst hq
  exact A.ldOf ho hj hv (fun _ _ X h1 h2 h3 h4 h5 t kt => X.laload A.hx h1 h2 h3 h4 h5 (g := mkF m pc Ls (.int j :: .ref a :: rest)) rfl rfl (A.hb hd) t kt) K
theorem Here.ldC {i : Nat} {a : Addr} {vs : List Value} {j : Int32} {v : Value} (A : Here p l e R s m args below meth c Z a0 y bytes ml ret dm fp T k n os) (hd : decode bytes pc = .ok (.caload, 1)) (ho : os[i]? = some (a, .inr (.char, vs))) (hj : ¬ j < 0) (hv : vs[j.toNatClampNeg]? = some v) {qn : Nat} (hq : pc + 1 = qn)
    (K : Wp p e below Z a0 dm fp R s Post T (mkF m qn Ls (v :: rest))) : Wp p e below Z a0 dm fp R s Post T (mkF m pc Ls (.int j :: .ref a :: rest)) := by
  subst hq
  exact A.ldOf ho hj hv (fun _ _ X h1 h2 h3 h4 h5 t kt => X.caload A.hx h1 h2 h3 h4 h5 (g := mkF m pc Ls (.int j :: .ref a :: rest)) rfl rfl (A.hb hd) t kt) K
theorem Here.ldB {i : Nat} {a : Addr} {vs : List Value} {j : Int32} {v : Value} (A : Here p l e R s m args below meth c Z a0 y bytes ml ret dm fp T k n os) (hd : decode bytes pc = .ok (.baload, 1)) (ho : os[i]? = some (a, .inr (.byte, vs))) (hj : ¬ j < 0) (hv : vs[j.toNatClampNeg]? = some v) {qn : Nat} (hq : pc + 1 = qn)
    (K : Wp p e below Z a0 dm fp R s Post T (mkF m qn Ls (v :: rest))) : Wp p e below Z a0 dm fp R s Post T (mkF m pc Ls (.int j :: .ref a :: rest)) := by
  subst hq
  exact A.ldOf ho hj hv (fun _ _ X h1 h2 h3 h4 h5 t kt => X.baloadBytes A.hx h1 h2 h3 h4 h5 (g := mkF m pc Ls (.int j :: .ref a :: rest)) rfl rfl (A.hb hd) t kt) K
theorem Here.len {i : Nat} {a : Addr} {ty : FieldType} {vs : List Value} {z : Int32} (A : Here p l e R s m args below meth c Z a0 y bytes ml ret dm fp T k n os) (hd : decode bytes pc = .ok (.arraylength, 1)) (ho : os[i]? = some (a, .inr (ty, vs))) (hz : vs.length.toInt32 = z) {qn : Nat} (hq : pc + 1 = qn)
    (K : Wp p e below Z a0 dm fp R s Post T (mkF m qn Ls (.int z :: rest))) : Wp p e below Z a0 dm fp R s Post T (mkF m pc Ls (.ref a :: rest)) := by
  subst hq
  have A' := A
  obtain ⟨locs, X, N, H, q⟩ := A
  obtain ⟨cl, Ar, ec⟩ := H.arr ho
  subst hz
  rw [← ec, Array.length_toList] at K
  exact Wp.go (fun t kt => X.arraylength A'.hx Ar.1 (State.isArrayOf_alike A'.hz.alike Ar.2.1) (g := mkF m pc Ls (.ref a :: rest)) rfl rfl (A'.hb hd) t kt) K
theorem Here.ldc {idx : Nat} {v : Int32} (A : Here p l e R s m args below meth c Z a0 y bytes ml ret dm fp T k n os) (w : (Jvm.Cond.constant y.cls idx v).before a0 Z = true) (hd : decode bytes pc = .ok (.ldc idx, 2)) {qn : Nat} (hq : pc + 2 = qn)
    (K : Wp p e below Z a0 dm fp R s Post T (mkF m qn Ls (.int v :: st))) : Wp p e below Z a0 dm fp R s Post T (mkF m pc Ls st) := by
  subst hq
  have A' := A
  obtain ⟨locs, X, N, H, hx, hZ, hb, hml, hown, q⟩ := A
  exact Wp.go (X.ldcInt hx hown (mvT hZ w) (g := mkF m pc Ls st) rfl (A'.hb hd)) K
theorem Here.ldcw {idx : Nat} {v : Int32} (A : Here p l e R s m args below meth c Z a0 y bytes ml ret dm fp T k n os) (w : (Jvm.Cond.constant y.cls idx v).before a0 Z = true) (hd : decode bytes pc = .ok (.ldc_w idx, 3)) {qn : Nat} (hq : pc + 3 = qn)
    (K : Wp p e below Z a0 dm fp R s Post T (mkF m qn Ls (.int v :: st))) : Wp p e below Z a0 dm fp R s Post T (mkF m pc Ls st) := by
  subst hq
  have A' := A
  obtain ⟨locs, X, N, H, hx, hZ, hb, hml, hown, q⟩ := A
  exact Wp.go (X.ldcwInt hx hown (mvT hZ w) (g := mkF m pc Ls st) rfl (A'.hb hd)) K
theorem Here.ldc2 {idx : Nat} {v : Int64} (A : Here p l e R s m args below meth c Z a0 y bytes ml ret dm fp T k n os) (w : (Jvm.Cond.constantLong y.cls idx v).before a0 Z = true) (hd : decode bytes pc = .ok (.ldc2_w idx, 3)) {qn : Nat} (hq : pc + 3 = qn)
    (K : Wp p e below Z a0 dm fp R s Post T (mkF m qn Ls (.long v :: st))) : Wp p e below Z a0 dm fp R s Post T (mkF m pc Ls st) := by
  subst hq
  have A' := A
  obtain ⟨locs, X, N, H, hx, hZ, hb, hml, hown, q⟩ := A
  exact Wp.go (X.ldc2Long hx hown (mvT hZ w) (g := mkF m pc Ls st) rfl (A'.hb hd)) K
/-- a primitive array's clone -/
theorem Here.clone {idx W i cap : Nat} {a : Addr} {ty : FieldType} {vs : List Value} {ad : String} (A : Here p l e R s m args below meth c Z a0 y bytes ml ret dm fp T k n os)
    (w1 : (Jvm.Cond.methodLink y.cls idx ⟨ad, "clone", "()Ljava/lang/Object;"⟩).before a0 Z = true) (w2 : (Jvm.Cond.sameMethod ad "java/lang/Object" "clone" "()Ljava/lang/Object;").before a0 Z = true) (w3 : (Jvm.Cond.native ⟨"java/lang/Object", "clone", "()Ljava/lang/Object;"⟩).before a0 Z = true)
    (w4 : (Jvm.Cond.instanceMethod ⟨"java/lang/Object", "clone", "()Ljava/lang/Object;"⟩).before a0 Z = true) (w5 : (Jvm.Cond.selects ad ⟨ad, "clone", "()Ljava/lang/Object;"⟩ ⟨"java/lang/Object", "clone", "()Ljava/lang/Object;"⟩).before a0 Z = true) (w6 : (Jvm.Cond.castable ad "java/lang/Cloneable").before a0 Z = true)
    (had : "[" ++ ty.toString = ad) (hd : decode bytes pc = .ok (.invokevirtual idx, 3)) (hsz : Ls.size = ml) (ho : os[i]? = some (a, .inr (ty, vs))) (hW : (rest.map fun v => v.category).sum ≤ W) (hf : 1 ≤ R.frames) (hl : W + 14 ≤ R.locals) (hcap : vs.length ≤ cap) (hc : k + 1 ≤ R.cells) (hs : n + cap ≤ R.slots) {qn : Nat} (hq : pc + 3 = qn)
    (K : ∀ T' b, Here p l e R s m args below meth c Z a0 y bytes ml ret dm fp T' (k + 1) (n + cap) (os ++ [(b, .inr (ty, vs))]) → Wp p e below Z a0 dm fp R s Post T' (mkF m qn Ls (.ref b :: rest))) : Wp p e below Z a0 dm fp R s Post T (mkF m pc Ls (.ref a :: rest)) := by
  subst hq
  have A' := A
  obtain ⟨locs, X, N, H, hx, hZ, hb, hml, hown, q⟩ := A
  obtain ⟨cl, Ar, ec, E, F⟩ := H.1.2 _ (List.mem_of_getElem? ho)
  dsimp only at ec E F Ar
  subst had
  have FC : FitC Z cl := fitC_of Ar fun j hj v hv => F v (by rw [← ec, Array.mem_toList_iff]; exact Array.mem_of_getElem? hv)
  obtain ⟨T1, h1, X1, e1, E1, A1, B1, st1⟩ := cloneA X hx hZ hown w1 w2 w3 w4 w5 w6 rfl Ar E FC (g := mkF m pc Ls (.ref a :: rest)) rfl (hsz.trans hml.symm) rfl (A'.hb hd) hf (W := W) (by show 2 * 0 + _ ≤ _; rw [Nat.mul_zero, Nat.zero_add]; exact hW) hl (cap := cap) (by rw [← Array.length_toList, ec]; exact hcap) hc hs
  exact Wp.go st1 (K T1 _ ⟨_, X1, N, by rw [e1]; exact H.push E1 ⟨_, A1, ec, B1, F⟩, hx, hZ, hb, hml, hown, q⟩)
theorem Here.ccast {idx i : Nat} {a : Addr} {ty : FieldType} {vs : List Value} {K0 : String} (A : Here p l e R s m args below meth c Z a0 y bytes ml ret dm fp T k n os) (w : (Jvm.Cond.classLink y.cls idx K0).before a0 Z = true) (had : "[" ++ ty.toString = K0) (hd : decode bytes pc = .ok (.checkcast idx, 3)) (ho : os[i]? = some (a, .inr (ty, vs))) {qn : Nat} (hq : pc + 3 = qn)
    (K : ∀ T', Here p l e R s m args below meth c Z a0 y bytes ml ret dm fp T' k n os → Wp p e below Z a0 dm fp R s Post T' (mkF m qn Ls (.ref a :: rest))) : Wp p e below Z a0 dm fp R s Post T (mkF m pc Ls (.ref a :: rest)) := by
  subst hq
  have A' := A
  obtain ⟨locs, X, N, H, hx, hZ, hb, hml, hown, q⟩ := A
  obtain ⟨cl, Ar, ec, E, F⟩ := H.1.2 _ (List.mem_of_getElem? ho)
  subst had
  obtain ⟨T1, X1, e1, st1⟩ := castY X hx hZ hown w rfl (Ins.self E) (g := mkF m pc Ls (.ref a :: rest)) rfl rfl (A'.hb hd)
  exact Wp.go st1 (K T1 ⟨locs, X1, N, by rw [e1]; exact H, hx, hZ, hb, hml, hown, q⟩)
/-! calls -/
theorem Here.initO {idx W : Nat} {a : Addr} (A : Here p l e R s m args below meth c Z a0 y bytes ml ret dm fp T k n os) (w1 : (Jvm.Cond.methodLink y.cls idx Lib.objectInit).before a0 Z = true) (w2 : (Jvm.Cond.instanceMethod Lib.objectInit).before a0 Z = true) (w3 : (Jvm.Cond.code Lib.objectInit Jvm.Example.Point.objCode 1 none).before a0 Z = true)
    (hd : decode bytes pc = .ok (.invokespecial idx, 3)) (hsz : Ls.size = ml) (hW : (rest.map fun v => v.category).sum ≤ W) (hf : 1 ≤ R.frames) (hl : W + 12 ≤ R.locals) {qn : Nat} (hq : pc + 3 = qn)
    (K : ∀ T', Here p l e R s m args below meth c Z a0 y bytes ml ret dm fp T' k n os → Wp p e below Z a0 dm fp R s Post T' (mkF m qn Ls rest)) : Wp p e below Z a0 dm fp R s Post T (mkF m pc Ls (.ref a :: rest)) := by
  subst hq
  have A' := A
  obtain ⟨locs, X, N, H, hx, hZ, hb, hml, hown, q⟩ := A
  obtain ⟨T1, X1, e1, st1⟩ := RoadKit.initO X hx hZ hown w1 w2 w3 rfl (g := mkF m pc Ls (.ref a :: rest)) rfl (hsz.trans hml.symm) rfl (A'.hb hd) hf (W := W) (by show 2 * 0 + _ ≤ _; rw [Nat.mul_zero, Nat.zero_add]; exact hW) hl
  exact Wp.go st1 (K T1 ⟨locs, X1, N, by rw [e1]; exact H, hx, hZ, hb, hml, hown, q⟩)
theorem dm_call {h0 h : Heap} {os1 os2 : Hs} (H : Hp Z a0 dm fp h0 h (os1 ++ os2)) (hc : fp2 = [] ∨ (fp2 = os2.map (·.1) ∧ dm = fp)) {x : Addr} (hx : Dm fp2 h.size x) : Dm fp h0.size x := by
  rcases hx with hx | hx
  · rcases hc with rfl | ⟨rfl, rfl⟩
    · exact absurd hx List.not_mem_nil
    · obtain ⟨q, hq, rfl⟩ := List.mem_map.mp hx
      exact H.2.1 q (List.mem_append.mpr (Or.inr hq))
  · exact Or.inr (Nat.le_trans H.2.2.1 hx)
theorem Here.callS {idx W : Nat} {y' : MethodName} {bytes' : ByteArray} {ml' : Nat} {ret' : Option FieldType} {R' : Room} {argsL : List Value} {os1 os2 : Hs} {Post' : Option Value → Hs → Prop}
    (A : Here p l e R s m args below meth c Z a0 y bytes ml ret dm fp T k n (os1 ++ os2)) (M : Pays l Z a0 y' bytes' ml' ret' R' argsL.toArray os2 fp2 Post') (hcc : fp2 = [] ∨ (fp2 = os2.map (·.1) ∧ dm = fp))
    (w1 : (Jvm.Cond.methodLink y.cls idx y').before a0 Z = true) (w2 : (Jvm.Cond.static y').before a0 Z = true) (w3 : (Jvm.Cond.initialized y'.cls).before a0 Z = true) (w4 : (Jvm.Cond.code y' bytes' ml' ret').before a0 Z = true) (hy : y'.cls ≠ "java/lang/invoke/MethodHandle" ∧ y'.cls ≠ "java/lang/invoke/VarHandle")
    (hd : decode bytes pc = .ok (.invokestatic idx, 3)) (hsz : Ls.size = ml) (hlen : ∀ sig, parseMethodDescriptor y'.desc = some sig → argsL.length = sig.parameters.length) (hst : st = argsL.reverse ++ rest) (hW : (rest.map fun v => v.category).sum ≤ W) (hf : R'.frames + 1 ≤ R.frames) (hl : W + (ml' + 11) + R'.locals ≤ R.locals) (hc : k + R'.cells ≤ R.cells) (hs : n + R'.slots ≤ R.slots) {qn : Nat} (hq : pc + 3 = qn)
    (K : ∀ T' v os', Here p l e R s m args below meth c Z a0 y bytes ml ret dm fp T' (k + R'.cells) (n + R'.slots) (os1 ++ os') → Post' v os' → Wp p e below Z a0 dm fp R s Post T' (mkF m qn Ls (v.toList ++ rest))) : Wp p e below Z a0 dm fp R s Post T (mkF m pc Ls st) := by
  subst hq
  have A' := A
  obtain ⟨locs, X, N, H, hx, hZ, hb, hml, hown, q⟩ := A
  have hq : Hq Z a0 T.heap os2 := ⟨by have := H.1.1; rw [List.map_append, List.nodup_append] at this; exact this.2.1, fun q hq => H.1.2 q (List.mem_append.mpr (Or.inr hq))⟩
  obtain ⟨v, _, ⟨T1, L1, k1, n1⟩, -, X1, ⟨Lc, hQ, l1, y1, z1⟩, st1⟩ := Jvm.LawKit.callS X hx (y := y') hown (mvT hZ w1) (mvT hZ w2) (mvT hZ w3) (mvT hZ w4) hy (backOf (W := W) (h := T.heap) (Q := fun v h L => (∀ q ∈ L, Dm fp2 T.heap.size q.base) ∧ ∃ os', Hp Z a0 (os2.map (·.1)) fp2 T.heap h os' ∧ Post' v os') (M [] T.heap hq) hZ w4 w3 hf hl) (g := mkF m pc Ls st) rfl (hsz.trans hml.symm) (argsL := argsL) (rest := rest) hlen hst (by show 2 * 0 + _ ≤ _; rw [Nat.mul_zero, Nat.zero_add]; exact hW) (A'.hb hd) (fun _ _ => ⟨rfl, rfl, hc, hs⟩)
  dsimp only [Pt.U, Pt.locs, Pt.cells, Pt.slots] at X1 l1 y1 z1 st1 hQ
  subst l1 y1 z1
  obtain ⟨N1, os', H1, hP⟩ := hQ
  refine Wp.go st1 (K T1 v os' ⟨_, X1, fun q hq => ?_, H.call H1 hcc, hx, hZ, hb, hml, hown, q⟩ hP)
  rcases List.mem_append.mp hq with hq | hq
  · exact N q hq
  · exact dm_call H hcc (N1 q hq)
theorem Here.callI {idx W : Nat} {y' : MethodName} {bytes' : ByteArray} {ml' : Nat} {R' : Room} {argsL : List Value} {a : Addr} {os1 os2 : Hs} {Post' : Option Value → Hs → Prop}
    (A : Here p l e R s m args below meth c Z a0 y bytes ml ret dm fp T k n (os1 ++ os2)) (M : Pays l Z a0 y' bytes' ml' none R' (.ref a :: argsL).toArray os2 fp2 Post') (hcc : fp2 = [] ∨ (fp2 = os2.map (·.1) ∧ dm = fp)) (hini : y'.name = "<init>")
    (w1 : (Jvm.Cond.methodLink y.cls idx y').before a0 Z = true) (w2 : (Jvm.Cond.instanceMethod y').before a0 Z = true) (w3 : (Jvm.Cond.initialized y'.cls).before a0 Z = true) (w4 : (Jvm.Cond.code y' bytes' ml' none).before a0 Z = true) (hy : y'.cls ≠ "java/lang/invoke/MethodHandle" ∧ y'.cls ≠ "java/lang/invoke/VarHandle")
    (hd : decode bytes pc = .ok (.invokespecial idx, 3)) (hsz : Ls.size = ml) (hlen : ∀ sig, parseMethodDescriptor y'.desc = some sig → argsL.length = sig.parameters.length) (hst : st = argsL.reverse ++ .ref a :: rest) (hW : (rest.map fun v => v.category).sum ≤ W) (hf : R'.frames + 1 ≤ R.frames) (hl : W + (ml' + 11) + R'.locals ≤ R.locals) (hc : k + R'.cells ≤ R.cells) (hs : n + R'.slots ≤ R.slots) {qn : Nat} (hq : pc + 3 = qn)
    (K : ∀ T' v os', Here p l e R s m args below meth c Z a0 y bytes ml ret dm fp T' (k + R'.cells) (n + R'.slots) (os1 ++ os') → Post' v os' → Wp p e below Z a0 dm fp R s Post T' (mkF m qn Ls (v.toList ++ rest))) : Wp p e below Z a0 dm fp R s Post T (mkF m pc Ls st) := by
  subst hq
  have A' := A
  obtain ⟨locs, X, N, H, hx, hZ, hb, hml, hown, q⟩ := A
  have hq : Hq Z a0 T.heap os2 := ⟨by have := H.1.1; rw [List.map_append, List.nodup_append] at this; exact this.2.1, fun q hq => H.1.2 q (List.mem_append.mpr (Or.inr hq))⟩
  obtain ⟨v, _, ⟨T1, L1, k1, n1⟩, -, X1, ⟨Lc, hQ, l1, y1, z1⟩, st1⟩ := X.specialBack hx (y := y') hini hown (mvT hZ w1) (mvT hZ w2) (mvT hZ w4) hy (backOf (W := W) (h := T.heap) (Q := fun v h L => (∀ q ∈ L, Dm fp2 T.heap.size q.base) ∧ ∃ os', Hp Z a0 (os2.map (·.1)) fp2 T.heap h os' ∧ Post' v os') (M [] T.heap hq) hZ w4 w3 hf hl) (g := mkF m pc Ls st) rfl (hsz.trans hml.symm) (Steps.refl _) (a := a) (argsL := argsL) (rest := rest) hlen hst (by show 2 * 0 + _ ≤ _; rw [Nat.mul_zero, Nat.zero_add]; exact hW) (A'.hb hd) (fun _ _ => ⟨rfl, rfl, hc, hs⟩)
  dsimp only [Pt.U, Pt.locs, Pt.cells, Pt.slots] at X1 l1 y1 z1 st1 hQ
  subst l1 y1 z1
  obtain ⟨N1, os', H1, hP⟩ := hQ
  refine Wp.go (fun t kt => st1.trans kt) (K T1 v os' ⟨_, X1, fun q hq => ?_, H.call H1 hcc, hx, hZ, hb, hml, hown, q⟩ hP)
  rcases List.mem_append.mp hq with hq | hq
  · exact N q hq
  · exact dm_call H hcc (N1 q hq)
theorem Here.callV {idx W i : Nat} {y' : MethodName} {bytes' : ByteArray} {ml' : Nat} {ret' : Option FieldType} {R' : Room} {argsL : List Value} {a : Addr} {C : String} {fs : List Fd} {os1 os2 : Hs} {Post' : Option Value → Hs → Prop}
    (A : Here p l e R s m args below meth c Z a0 y bytes ml ret dm fp T k n (os1 ++ os2)) (M : Pays l Z a0 y' bytes' ml' ret' R' (.ref a :: argsL).toArray os2 fp2 Post') (hcc : fp2 = [] ∨ (fp2 = os2.map (·.1) ∧ dm = fp)) (ho : (os1 ++ os2)[i]? = some (a, .inl (C, fs)))
    (w1 : (Jvm.Cond.methodLink y.cls idx y').before a0 Z = true) (wd : (Jvm.Cond.declares y').before a0 Z = true) (ws : (Jvm.Cond.selects C y' y').before a0 Z = true) (w2 : (Jvm.Cond.instanceMethod y').before a0 Z = true) (w3 : (Jvm.Cond.initialized y'.cls).before a0 Z = true) (w4 : (Jvm.Cond.code y' bytes' ml' ret').before a0 Z = true) (hy : y'.cls ≠ "java/lang/invoke/MethodHandle" ∧ y'.cls ≠ "java/lang/invoke/VarHandle")
    (hd : decode bytes pc = .ok (.invokevirtual idx, 3)) (hsz : Ls.size = ml) (hlen : ∀ sig, parseMethodDescriptor y'.desc = some sig → argsL.length = sig.parameters.length) (hst : st = argsL.reverse ++ .ref a :: rest) (hW : (rest.map fun v => v.category).sum ≤ W) (hf : R'.frames + 1 ≤ R.frames) (hl : W + (ml' + 11) + R'.locals ≤ R.locals) (hc : k + R'.cells ≤ R.cells) (hs : n + R'.slots ≤ R.slots) {qn : Nat} (hq : pc + 3 = qn)
    (K : ∀ T' v os', Here p l e R s m args below meth c Z a0 y bytes ml ret dm fp T' (k + R'.cells) (n + R'.slots) (os1 ++ os') → Post' v os' → Wp p e below Z a0 dm fp R s Post T' (mkF m qn Ls (v.toList ++ rest))) : Wp p e below Z a0 dm fp R s Post T (mkF m pc Ls st) := by
  subst hq
  have A' := A
  obtain ⟨locs, X, N, H, hx, hZ, hb, hml, hown, q⟩ := A
  have hq : Hq Z a0 T.heap os2 := ⟨by have := H.1.1; rw [List.map_append, List.nodup_append] at this; exact this.2.1, fun q hq => H.1.2 q (List.mem_append.mpr (Or.inr hq))⟩
  obtain ⟨cq, kq, qa, qb, qc⟩ := isOf (T := T) hZ rfl (H.exa ho)
  obtain ⟨v, _, ⟨T1, L1, k1, n1⟩, -, X1, ⟨Lc, hQ, l1, y1, z1⟩, st1⟩ := X.virtualBack hx (y := y') (z := y') hown (mvT hZ w1) (mvT hZ wd) (notFace_of_selects (args := #[]) (mvT hZ ws)) (mvT hZ ws) (mvT hZ w2) hy (backOf (W := W) (h := T.heap) (Q := fun v h L => (∀ q ∈ L, Dm fp2 T.heap.size q.base) ∧ ∃ os', Hp Z a0 (os2.map (·.1)) fp2 T.heap h os' ∧ Post' v os') (M [] T.heap hq) hZ w4 w3 hf hl) qa qc (g := mkF m pc Ls st) rfl (hsz.trans hml.symm) (Steps.refl _) (argsL := argsL) (rest := rest) hlen hst (by show 2 * 0 + _ ≤ _; rw [Nat.mul_zero, Nat.zero_add]; exact hW) (A'.hb hd) (fun _ _ => ⟨rfl, rfl, hc, hs⟩)
  dsimp only [Pt.U, Pt.locs, Pt.cells, Pt.slots] at X1 l1 y1 z1 st1 hQ
  subst l1 y1 z1
  obtain ⟨N1, os', H1, hP⟩ := hQ
  refine Wp.go (fun t kt => st1.trans kt) (K T1 v os' ⟨_, X1, fun q hq => ?_, H.call H1 hcc, hx, hZ, hb, hml, hown, q⟩ hP)
  rcases List.mem_append.mp hq with hq | hq
  · exact N q hq
  · exact dm_call H hcc (N1 q hq)
end Walks
end Jvm.OwnWp
namespace Jvm.Pilot.@@N@@
open Jvm Jvm.ClassFile Sem Op Lib Jvm.Free Jvm.Stand Jvm.LawKit Jvm.RoadKit Bundle Jvm.OwnWp Jvm.Pilot.@@N@@.Jvm.D
theorem tw {a0 : Array Value} {Z : State} (hw : ∀ d ∈ tables_1, d.before a0 Z = true) (k : Nat) {d : Jvm.Cond} (h : tables_1[k]? = some d) : d.before a0 Z = true := hw d (List.mem_of_getElem? h)
abbrev ob0 (v0 : Value) : Ob := .inl ("com/example/heirring/heirring/SplitMix64", [("com/example/heirring/heirring/SplitMix64", "state", "J", v0)])
def own_mix (z : Int64) : Int64 :=
  let z1 := (z ^^^ ((z.toUInt64 >>> ((30 : Int32) &&& 0x3f).toInt64.toUInt64).toInt64)) * (-4658895280553007687 : Int64)
  let z2 := (z1 ^^^ ((z1.toUInt64 >>> ((27 : Int32) &&& 0x3f).toInt64.toUInt64).toInt64)) * (-7723592293110705685 : Int64)
  z2 ^^^ ((z2.toUInt64 >>> ((31 : Int32) &&& 0x3f).toInt64.toUInt64).toInt64)
def own_ux (k1 k2 : Int32) (y : Int64) : Int64 := (y ^^^ ((y.toUInt64 >>> (k1 &&& 0x3f).toInt64.toUInt64).toInt64)) ^^^ ((y.toUInt64 >>> (k2 &&& 0x3f).toInt64.toUInt64).toInt64)
def own_nw (c x : Int64) : Int64 := x * ((2 : Int64) - c * x)
def own_inv (c : Int64) : Int64 := own_nw c (own_nw c (own_nw c (own_nw c (own_nw c (own_nw c c)))))
def own_unmix (z : Int64) : Int64 := own_ux 30 60 (own_ux 27 54 (own_ux 31 62 z * own_inv (-7723592293110705685)) * own_inv (-4658895280553007687))
theorem own_xs (x : BitVec 64) (k k2 : Nat) (h2 : k2 = k + k) (h3 : 64 ≤ k + k2) : ((x ^^^ (x >>> k)) ^^^ ((x ^^^ (x >>> k)) >>> k)) ^^^ ((x ^^^ (x >>> k)) >>> k2) = x := by
  apply BitVec.eq_of_getLsbD_eq
  intro i hi
  simp only [BitVec.getLsbD_xor, BitVec.getLsbD_ushiftRight]
  rw [show k + (k + i) = k2 + i by omega, BitVec.getLsbD_of_ge x (k + (k2 + i)) (by omega)]
  cases x.getLsbD i <;> cases x.getLsbD (k + i) <;> cases x.getLsbD (k2 + i) <;> rfl
theorem own_s31 (y : Int64) : ((y.toUInt64 >>> ((31 : Int32) &&& 0x3f).toInt64.toUInt64).toInt64).toBitVec = y.toBitVec >>> 31 := rfl
theorem own_s62 (y : Int64) : ((y.toUInt64 >>> ((62 : Int32) &&& 0x3f).toInt64.toUInt64).toInt64).toBitVec = y.toBitVec >>> 62 := rfl
theorem own_s27 (y : Int64) : ((y.toUInt64 >>> ((27 : Int32) &&& 0x3f).toInt64.toUInt64).toInt64).toBitVec = y.toBitVec >>> 27 := rfl
theorem own_s54 (y : Int64) : ((y.toUInt64 >>> ((54 : Int32) &&& 0x3f).toInt64.toUInt64).toInt64).toBitVec = y.toBitVec >>> 54 := rfl
theorem own_s30 (y : Int64) : ((y.toUInt64 >>> ((30 : Int32) &&& 0x3f).toInt64.toUInt64).toInt64).toBitVec = y.toBitVec >>> 30 := rfl
theorem own_s60 (y : Int64) : ((y.toUInt64 >>> ((60 : Int32) &&& 0x3f).toInt64.toUInt64).toInt64).toBitVec = y.toBitVec >>> 60 := rfl
theorem own_u31 (x : Int64) : own_ux 31 62 (x ^^^ ((x.toUInt64 >>> ((31 : Int32) &&& 0x3f).toInt64.toUInt64).toInt64)) = x := by
  apply Int64.toBitVec_inj.mp
  unfold own_ux
  simp only [Int64.toBitVec_xor, own_s31, own_s62]
  exact own_xs x.toBitVec 31 62 rfl (by decide)
theorem own_u27 (x : Int64) : own_ux 27 54 (x ^^^ ((x.toUInt64 >>> ((27 : Int32) &&& 0x3f).toInt64.toUInt64).toInt64)) = x := by
  apply Int64.toBitVec_inj.mp
  unfold own_ux
  simp only [Int64.toBitVec_xor, own_s27, own_s54]
  exact own_xs x.toBitVec 27 54 rfl (by decide)
theorem own_u30 (x : Int64) : own_ux 30 60 (x ^^^ ((x.toUInt64 >>> ((30 : Int32) &&& 0x3f).toInt64.toUInt64).toInt64)) = x := by
  apply Int64.toBitVec_inj.mp
  unfold own_ux
  simp only [Int64.toBitVec_xor, own_s30, own_s60]
  exact own_xs x.toBitVec 30 60 rfl (by decide)
theorem own_i1 : (-4658895280553007687 : Int64) * own_inv (-4658895280553007687) = 1 := by decide +kernel
theorem own_i2 : (-7723592293110705685 : Int64) * own_inv (-7723592293110705685) = 1 := by decide +kernel
theorem own_unmix_mix (z : Int64) : own_unmix (own_mix z) = z := by
  unfold own_unmix own_mix
  dsimp only
  rw [own_u31, Int64.mul_assoc, own_i2, Int64.mul_one, own_u27, Int64.mul_assoc, own_i1, Int64.mul_one, own_u30]
theorem d_prog_58_method_1_0 : decode prog_58_method_1_code 0 = .ok (.aload_n 0, 1) := by decide +kernel
theorem d_prog_58_method_1_1 : decode prog_58_method_1_code 1 = .ok (.invokespecial 1, 3) := by decide +kernel
theorem d_prog_58_method_1_4 : decode prog_58_method_1_code 4 = .ok (.aload_n 0, 1) := by decide +kernel
theorem d_prog_58_method_1_5 : decode prog_58_method_1_code 5 = .ok (.lload_n 1, 1) := by decide +kernel
theorem d_prog_58_method_1_6 : decode prog_58_method_1_code 6 = .ok (.putfield 7, 3) := by decide +kernel
theorem d_prog_58_method_1_9 : decode prog_58_method_1_code 9 = .ok (.return_, 1) := by decide +kernel
theorem pn_0 : plainName "com/example/heirring/heirring/SplitMix64" = true := by first | (simp [plainName, overriddenIn]; done) | decide +kernel
theorem ef_m_ini (m : MethodId) (x0 : Addr) (x1 : Int64) : entryFrame m #[(.ref x0), (.long x1)] 3 = mkF m 0 #[.val (.ref x0), .val (.long x1), .second] [] := by first | (simp [entryFrame, mkF, argsToLocals, Value.category]; done) | rfl
set_option maxRecDepth 65536 in
set_option maxHeartbeats 40000000 in
theorem m_ini (l : Launch) (Z : State) (a0 : Array Value) (hw : ∀ d ∈ tables_1, d.before a0 Z = true) (a : Addr) (q : Int64) (u : Int64) :
    Pays l Z a0 (⟨"com/example/heirring/heirring/SplitMix64", "<init>", "(J)V"⟩ : MethodName) prog_58_method_1_code 3 none ({ frames := 1, cells := 0, slots := 0, locals := 12 } : Room) #[(.ref a), (.long q)] [(a, ob0 (.long u))] (([(a, ob0 (.long u))] : Hs).map (·.1)) (fun v os' => v = none ∧ os' = [(a, ob0 (.long q))]) := by
  refine Pays.of (Ls := #[.val (.ref a), .val (.long q), .second]) (plainFor_of_name pn_0) (fun m => ef_m_ini m a q) ?_
  intro p e s m below meth c T0 A0
  refine A0.aloadN (q := 1) d_prog_58_method_1_0 rfl rfl rfl ?_
  refine A0.initO (qn := 4) (W := 0) (tw hw 6 rfl) (tw hw 7 rfl) (tw hw 8 rfl) d_prog_58_method_1_1 rfl (Nat.le_of_eq rfl) (by decide) (by decide) rfl (fun T1 A2 => ?_)
  refine A2.aloadN (q := 5) d_prog_58_method_1_4 rfl rfl rfl ?_
  refine A2.lloadN (q := 6) d_prog_58_method_1_5 rfl rfl ?_
  refine A2.putF (qn := 9) (i := 0) (j := 0) (ty := .long) (tw hw 9 rfl) Via.refl (Or.inl (tw hw 10 rfl)) (tw hw 1 rfl) (by decide) rfl rfl d_prog_58_method_1_6 rfl rfl rfl rfl (fun T3 A4 => ?_)
  have A5 := A4.cast (k2 := 0) (n2 := 0) (os2 := [(a, ob0 (.long q))]) rfl rfl rfl
  exact A5.retV d_prog_58_method_1_9 (by decide) (by decide) ⟨rfl, rfl⟩
theorem d_prog_58_method_2_0 : decode prog_58_method_2_code 0 = .ok (.aload_n 0, 1) := by decide +kernel
theorem d_prog_58_method_2_1 : decode prog_58_method_2_code 1 = .ok (.dup, 1) := by decide +kernel
theorem d_prog_58_method_2_2 : decode prog_58_method_2_code 2 = .ok (.getfield 7, 3) := by decide +kernel
theorem d_prog_58_method_2_5 : decode prog_58_method_2_code 5 = .ok (.ldc2_w 13, 3) := by decide +kernel
theorem d_prog_58_method_2_8 : decode prog_58_method_2_code 8 = .ok (.ladd, 1) := by decide +kernel
theorem d_prog_58_method_2_9 : decode prog_58_method_2_code 9 = .ok (.putfield 7, 3) := by decide +kernel
theorem d_prog_58_method_2_12 : decode prog_58_method_2_code 12 = .ok (.aload_n 0, 1) := by decide +kernel
theorem d_prog_58_method_2_13 : decode prog_58_method_2_code 13 = .ok (.getfield 7, 3) := by decide +kernel
theorem d_prog_58_method_2_16 : decode prog_58_method_2_code 16 = .ok (.lstore_n 1, 1) := by decide +kernel
theorem d_prog_58_method_2_17 : decode prog_58_method_2_code 17 = .ok (.lload_n 1, 1) := by decide +kernel
theorem d_prog_58_method_2_18 : decode prog_58_method_2_code 18 = .ok (.lload_n 1, 1) := by decide +kernel
theorem d_prog_58_method_2_19 : decode prog_58_method_2_code 19 = .ok (.bipush 30, 2) := by decide +kernel
theorem d_prog_58_method_2_21 : decode prog_58_method_2_code 21 = .ok (.lushr, 1) := by decide +kernel
theorem d_prog_58_method_2_22 : decode prog_58_method_2_code 22 = .ok (.lxor, 1) := by decide +kernel
theorem d_prog_58_method_2_23 : decode prog_58_method_2_code 23 = .ok (.ldc2_w 15, 3) := by decide +kernel
theorem d_prog_58_method_2_26 : decode prog_58_method_2_code 26 = .ok (.lmul, 1) := by decide +kernel
theorem d_prog_58_method_2_27 : decode prog_58_method_2_code 27 = .ok (.lstore_n 1, 1) := by decide +kernel
theorem d_prog_58_method_2_28 : decode prog_58_method_2_code 28 = .ok (.lload_n 1, 1) := by decide +kernel
theorem d_prog_58_method_2_29 : decode prog_58_method_2_code 29 = .ok (.lload_n 1, 1) := by decide +kernel
theorem d_prog_58_method_2_30 : decode prog_58_method_2_code 30 = .ok (.bipush 27, 2) := by decide +kernel
theorem d_prog_58_method_2_32 : decode prog_58_method_2_code 32 = .ok (.lushr, 1) := by decide +kernel
theorem d_prog_58_method_2_33 : decode prog_58_method_2_code 33 = .ok (.lxor, 1) := by decide +kernel
theorem d_prog_58_method_2_34 : decode prog_58_method_2_code 34 = .ok (.ldc2_w 17, 3) := by decide +kernel
theorem d_prog_58_method_2_37 : decode prog_58_method_2_code 37 = .ok (.lmul, 1) := by decide +kernel
theorem d_prog_58_method_2_38 : decode prog_58_method_2_code 38 = .ok (.lstore_n 1, 1) := by decide +kernel
theorem d_prog_58_method_2_39 : decode prog_58_method_2_code 39 = .ok (.lload_n 1, 1) := by decide +kernel
theorem d_prog_58_method_2_40 : decode prog_58_method_2_code 40 = .ok (.lload_n 1, 1) := by decide +kernel
theorem d_prog_58_method_2_41 : decode prog_58_method_2_code 41 = .ok (.bipush 31, 2) := by decide +kernel
theorem d_prog_58_method_2_43 : decode prog_58_method_2_code 43 = .ok (.lushr, 1) := by decide +kernel
theorem d_prog_58_method_2_44 : decode prog_58_method_2_code 44 = .ok (.lxor, 1) := by decide +kernel
theorem d_prog_58_method_2_45 : decode prog_58_method_2_code 45 = .ok (.lreturn, 1) := by decide +kernel
theorem ef_m_next (m : MethodId) (x0 : Addr) : entryFrame m #[(.ref x0)] 3 = mkF m 0 #[.val (.ref x0), .unset, .unset] [] := by first | (simp [entryFrame, mkF, argsToLocals, Value.category]; done) | rfl
set_option maxRecDepth 65536 in
set_option maxHeartbeats 40000000 in
theorem m_next (l : Launch) (Z : State) (a0 : Array Value) (hw : ∀ d ∈ tables_1, d.before a0 Z = true) (a : Addr) (q : Int64) :
    Pays l Z a0 (⟨"com/example/heirring/heirring/SplitMix64", "nextLong", "()J"⟩ : MethodName) prog_58_method_2_code 3 (some .long) ({ frames := 0, cells := 0, slots := 0, locals := 0 } : Room) #[(.ref a)] [(a, ob0 (.long q))] (([(a, ob0 (.long q))] : Hs).map (·.1)) (fun v os' => v = some (.long (own_mix (q + (-7046029254386353131 : Int64)))) ∧ os' = [(a, ob0 (.long (q + (-7046029254386353131 : Int64))))]) := by
  refine Pays.of (Ls := #[.val (.ref a), .unset, .unset]) (plainFor_of_name pn_0) (fun m => ef_m_next m a) ?_
  intro p e s m below meth c T0 A0
  refine A0.aloadN (q := 1) d_prog_58_method_2_0 rfl rfl rfl ?_
  refine A0.dup (q := 2) d_prog_58_method_2_1 rfl rfl ?_
  refine A0.getF (qn := 5) (i := 0) (j := 0) (tw hw 9 rfl) Via.refl d_prog_58_method_2_2 rfl rfl rfl (fun T1 A2 => ?_)
  refine A2.ldc2 (qn := 8) (v := -7046029254386353131) (tw hw 16 rfl) d_prog_58_method_2_5 rfl ?_
  refine A2.ladd (q := 9) d_prog_58_method_2_8 rfl ?_
  refine A2.putF (qn := 12) (i := 0) (j := 0) (ty := .long) (tw hw 9 rfl) Via.refl (Or.inl (tw hw 10 rfl)) (tw hw 1 rfl) (by decide) rfl rfl d_prog_58_method_2_9 rfl rfl rfl rfl (fun T3 A4 => ?_)
  have A5 := A4.cast (k2 := 0) (n2 := 0) (os2 := [(a, ob0 (.long (q + (-7046029254386353131 : Int64))))]) rfl rfl rfl
  refine A5.aloadN (q := 13) d_prog_58_method_2_12 rfl rfl rfl ?_
  refine A5.getF (qn := 16) (i := 0) (j := 0) (tw hw 9 rfl) Via.refl d_prog_58_method_2_13 rfl rfl rfl (fun T6 A7 => ?_)
  refine A7.lstoreN (q := 17) (l' := #[.val (.ref a), .val (.long (q + (-7046029254386353131 : Int64))), .second]) d_prog_58_method_2_16 rfl rfl ?_
  refine A7.lloadN (q := 18) d_prog_58_method_2_17 rfl rfl ?_
  refine A7.lloadN (q := 19) d_prog_58_method_2_18 rfl rfl ?_
  refine A7.bipush (q := 21) (v := 30) d_prog_58_method_2_19 rfl rfl ?_
  refine A7.lushr (q := 22) d_prog_58_method_2_21 rfl ?_
  refine A7.lxor (q := 23) d_prog_58_method_2_22 rfl ?_
  refine A7.ldc2 (qn := 26) (v := -4658895280553007687) (tw hw 17 rfl) d_prog_58_method_2_23 rfl ?_
  refine A7.lmul (q := 27) d_prog_58_method_2_26 rfl ?_
  refine A7.lstoreN (q := 28) (l' := #[.val (.ref a), .val (.long (((q + (-7046029254386353131 : Int64)) ^^^ (((q + (-7046029254386353131 : Int64)).toUInt64 >>> ((30 : Int32) &&& 0x3f).toInt64.toUInt64).toInt64)) * (-4658895280553007687 : Int64))), .second]) d_prog_58_method_2_27 rfl rfl ?_
  refine A7.lloadN (q := 29) d_prog_58_method_2_28 rfl rfl ?_
  refine A7.lloadN (q := 30) d_prog_58_method_2_29 rfl rfl ?_
  refine A7.bipush (q := 32) (v := 27) d_prog_58_method_2_30 rfl rfl ?_
  refine A7.lushr (q := 33) d_prog_58_method_2_32 rfl ?_
  refine A7.lxor (q := 34) d_prog_58_method_2_33 rfl ?_
  refine A7.ldc2 (qn := 37) (v := -7723592293110705685) (tw hw 18 rfl) d_prog_58_method_2_34 rfl ?_
  refine A7.lmul (q := 38) d_prog_58_method_2_37 rfl ?_
  refine A7.lstoreN (q := 39) (l' := #[.val (.ref a), .val (.long (((((q + (-7046029254386353131 : Int64)) ^^^ (((q + (-7046029254386353131 : Int64)).toUInt64 >>> ((30 : Int32) &&& 0x3f).toInt64.toUInt64).toInt64)) * (-4658895280553007687 : Int64)) ^^^ (((((q + (-7046029254386353131 : Int64)) ^^^ (((q + (-7046029254386353131 : Int64)).toUInt64 >>> ((30 : Int32) &&& 0x3f).toInt64.toUInt64).toInt64)) * (-4658895280553007687 : Int64)).toUInt64 >>> ((27 : Int32) &&& 0x3f).toInt64.toUInt64).toInt64)) * (-7723592293110705685 : Int64))), .second]) d_prog_58_method_2_38 rfl rfl ?_
  refine A7.lloadN (q := 40) d_prog_58_method_2_39 rfl rfl ?_
  refine A7.lloadN (q := 41) d_prog_58_method_2_40 rfl rfl ?_
  refine A7.bipush (q := 43) (v := 31) d_prog_58_method_2_41 rfl rfl ?_
  refine A7.lushr (q := 44) d_prog_58_method_2_43 rfl ?_
  refine A7.lxor (q := 45) d_prog_58_method_2_44 rfl ?_
  exact A7.retJ d_prog_58_method_2_45 (by decide) (by decide) ⟨rfl, rfl⟩
theorem d_method_3_0 : decode method_3_code 0 = .ok (.lload_n 0, 1) := by decide +kernel
theorem d_method_3_1 : decode method_3_code 1 = .ok (.lload_n 0, 1) := by decide +kernel
theorem d_method_3_2 : decode method_3_code 2 = .ok (.bipush 31, 2) := by decide +kernel
theorem d_method_3_4 : decode method_3_code 4 = .ok (.lushr, 1) := by decide +kernel
theorem d_method_3_5 : decode method_3_code 5 = .ok (.lxor, 1) := by decide +kernel
theorem d_method_3_6 : decode method_3_code 6 = .ok (.lload_n 0, 1) := by decide +kernel
theorem d_method_3_7 : decode method_3_code 7 = .ok (.bipush 62, 2) := by decide +kernel
theorem d_method_3_9 : decode method_3_code 9 = .ok (.lushr, 1) := by decide +kernel
theorem d_method_3_10 : decode method_3_code 10 = .ok (.lxor, 1) := by decide +kernel
theorem d_method_3_11 : decode method_3_code 11 = .ok (.lreturn, 1) := by decide +kernel
theorem pn_1 : plainName "com/example/heirring/heirring/SplitMix64NextLongPinLaw" = true := by first | (simp [plainName, overriddenIn]; done) | decide +kernel
theorem ef_m_ux31 (m : MethodId) (x0 : Int64) : entryFrame m #[(.long x0)] 2 = mkF m 0 #[.val (.long x0), .second] [] := by first | (simp [entryFrame, mkF, argsToLocals, Value.category]; done) | rfl
set_option maxRecDepth 65536 in
set_option maxHeartbeats 40000000 in
theorem m_ux31 (l : Launch) (Z : State) (a0 : Array Value) (hw : ∀ d ∈ tables_1, d.before a0 Z = true) (q : Int64) :
    Pays l Z a0 (⟨"com/example/heirring/heirring/SplitMix64NextLongPinLaw", "unxor31", "(J)J"⟩ : MethodName) method_3_code 2 (some .long) ({ frames := 0, cells := 0, slots := 0, locals := 0 } : Room) #[(.long q)] [] (([] : Hs).map (·.1)) (fun v os' => v = some (.long (own_ux 31 62 q)) ∧ os' = []) := by
  refine Pays.of (Ls := #[.val (.long q), .second]) (plainFor_of_name pn_1) (fun m => ef_m_ux31 m q) ?_
  intro p e s m below meth c T0 A0
  refine A0.lloadN (q := 1) d_method_3_0 rfl rfl ?_
  refine A0.lloadN (q := 2) d_method_3_1 rfl rfl ?_
  refine A0.bipush (q := 4) (v := 31) d_method_3_2 rfl rfl ?_
  refine A0.lushr (q := 5) d_method_3_4 rfl ?_
  refine A0.lxor (q := 6) d_method_3_5 rfl ?_
  refine A0.lloadN (q := 7) d_method_3_6 rfl rfl ?_
  refine A0.bipush (q := 9) (v := 62) d_method_3_7 rfl rfl ?_
  refine A0.lushr (q := 10) d_method_3_9 rfl ?_
  refine A0.lxor (q := 11) d_method_3_10 rfl ?_
  exact A0.retJ d_method_3_11 (by decide) (by decide) ⟨rfl, rfl⟩
theorem d_method_4_0 : decode method_4_code 0 = .ok (.lload_n 0, 1) := by decide +kernel
theorem d_method_4_1 : decode method_4_code 1 = .ok (.lload_n 0, 1) := by decide +kernel
theorem d_method_4_2 : decode method_4_code 2 = .ok (.bipush 27, 2) := by decide +kernel
theorem d_method_4_4 : decode method_4_code 4 = .ok (.lushr, 1) := by decide +kernel
theorem d_method_4_5 : decode method_4_code 5 = .ok (.lxor, 1) := by decide +kernel
theorem d_method_4_6 : decode method_4_code 6 = .ok (.lload_n 0, 1) := by decide +kernel
theorem d_method_4_7 : decode method_4_code 7 = .ok (.bipush 54, 2) := by decide +kernel
theorem d_method_4_9 : decode method_4_code 9 = .ok (.lushr, 1) := by decide +kernel
theorem d_method_4_10 : decode method_4_code 10 = .ok (.lxor, 1) := by decide +kernel
theorem d_method_4_11 : decode method_4_code 11 = .ok (.lreturn, 1) := by decide +kernel
theorem ef_m_ux27 (m : MethodId) (x0 : Int64) : entryFrame m #[(.long x0)] 2 = mkF m 0 #[.val (.long x0), .second] [] := by first | (simp [entryFrame, mkF, argsToLocals, Value.category]; done) | rfl
set_option maxRecDepth 65536 in
set_option maxHeartbeats 40000000 in
theorem m_ux27 (l : Launch) (Z : State) (a0 : Array Value) (hw : ∀ d ∈ tables_1, d.before a0 Z = true) (q : Int64) :
    Pays l Z a0 (⟨"com/example/heirring/heirring/SplitMix64NextLongPinLaw", "unxor27", "(J)J"⟩ : MethodName) method_4_code 2 (some .long) ({ frames := 0, cells := 0, slots := 0, locals := 0 } : Room) #[(.long q)] [] (([] : Hs).map (·.1)) (fun v os' => v = some (.long (own_ux 27 54 q)) ∧ os' = []) := by
  refine Pays.of (Ls := #[.val (.long q), .second]) (plainFor_of_name pn_1) (fun m => ef_m_ux27 m q) ?_
  intro p e s m below meth c T0 A0
  refine A0.lloadN (q := 1) d_method_4_0 rfl rfl ?_
  refine A0.lloadN (q := 2) d_method_4_1 rfl rfl ?_
  refine A0.bipush (q := 4) (v := 27) d_method_4_2 rfl rfl ?_
  refine A0.lushr (q := 5) d_method_4_4 rfl ?_
  refine A0.lxor (q := 6) d_method_4_5 rfl ?_
  refine A0.lloadN (q := 7) d_method_4_6 rfl rfl ?_
  refine A0.bipush (q := 9) (v := 54) d_method_4_7 rfl rfl ?_
  refine A0.lushr (q := 10) d_method_4_9 rfl ?_
  refine A0.lxor (q := 11) d_method_4_10 rfl ?_
  exact A0.retJ d_method_4_11 (by decide) (by decide) ⟨rfl, rfl⟩
theorem d_method_5_0 : decode method_5_code 0 = .ok (.lload_n 0, 1) := by decide +kernel
theorem d_method_5_1 : decode method_5_code 1 = .ok (.lload_n 0, 1) := by decide +kernel
theorem d_method_5_2 : decode method_5_code 2 = .ok (.bipush 30, 2) := by decide +kernel
theorem d_method_5_4 : decode method_5_code 4 = .ok (.lushr, 1) := by decide +kernel
theorem d_method_5_5 : decode method_5_code 5 = .ok (.lxor, 1) := by decide +kernel
theorem d_method_5_6 : decode method_5_code 6 = .ok (.lload_n 0, 1) := by decide +kernel
theorem d_method_5_7 : decode method_5_code 7 = .ok (.bipush 60, 2) := by decide +kernel
theorem d_method_5_9 : decode method_5_code 9 = .ok (.lushr, 1) := by decide +kernel
theorem d_method_5_10 : decode method_5_code 10 = .ok (.lxor, 1) := by decide +kernel
theorem d_method_5_11 : decode method_5_code 11 = .ok (.lreturn, 1) := by decide +kernel
theorem ef_m_ux30 (m : MethodId) (x0 : Int64) : entryFrame m #[(.long x0)] 2 = mkF m 0 #[.val (.long x0), .second] [] := by first | (simp [entryFrame, mkF, argsToLocals, Value.category]; done) | rfl
set_option maxRecDepth 65536 in
set_option maxHeartbeats 40000000 in
theorem m_ux30 (l : Launch) (Z : State) (a0 : Array Value) (hw : ∀ d ∈ tables_1, d.before a0 Z = true) (q : Int64) :
    Pays l Z a0 (⟨"com/example/heirring/heirring/SplitMix64NextLongPinLaw", "unxor30", "(J)J"⟩ : MethodName) method_5_code 2 (some .long) ({ frames := 0, cells := 0, slots := 0, locals := 0 } : Room) #[(.long q)] [] (([] : Hs).map (·.1)) (fun v os' => v = some (.long (own_ux 30 60 q)) ∧ os' = []) := by
  refine Pays.of (Ls := #[.val (.long q), .second]) (plainFor_of_name pn_1) (fun m => ef_m_ux30 m q) ?_
  intro p e s m below meth c T0 A0
  refine A0.lloadN (q := 1) d_method_5_0 rfl rfl ?_
  refine A0.lloadN (q := 2) d_method_5_1 rfl rfl ?_
  refine A0.bipush (q := 4) (v := 30) d_method_5_2 rfl rfl ?_
  refine A0.lushr (q := 5) d_method_5_4 rfl ?_
  refine A0.lxor (q := 6) d_method_5_5 rfl ?_
  refine A0.lloadN (q := 7) d_method_5_6 rfl rfl ?_
  refine A0.bipush (q := 9) (v := 60) d_method_5_7 rfl rfl ?_
  refine A0.lushr (q := 10) d_method_5_9 rfl ?_
  refine A0.lxor (q := 11) d_method_5_10 rfl ?_
  exact A0.retJ d_method_5_11 (by decide) (by decide) ⟨rfl, rfl⟩
theorem d_method_2_0 : decode method_2_code 0 = .ok (.lload_n 0, 1) := by decide +kernel
theorem d_method_2_1 : decode method_2_code 1 = .ok (.lstore_n 2, 1) := by decide +kernel
theorem d_method_2_2 : decode method_2_code 2 = .ok (.lload_n 2, 1) := by decide +kernel
theorem d_method_2_3 : decode method_2_code 3 = .ok (.ldc2_w 7, 3) := by decide +kernel
theorem d_method_2_6 : decode method_2_code 6 = .ok (.lload_n 0, 1) := by decide +kernel
theorem d_method_2_7 : decode method_2_code 7 = .ok (.lload_n 2, 1) := by decide +kernel
theorem d_method_2_8 : decode method_2_code 8 = .ok (.lmul, 1) := by decide +kernel
theorem d_method_2_9 : decode method_2_code 9 = .ok (.lsub, 1) := by decide +kernel
theorem d_method_2_10 : decode method_2_code 10 = .ok (.lmul, 1) := by decide +kernel
theorem d_method_2_11 : decode method_2_code 11 = .ok (.lstore_n 2, 1) := by decide +kernel
theorem d_method_2_12 : decode method_2_code 12 = .ok (.lload_n 2, 1) := by decide +kernel
theorem d_method_2_13 : decode method_2_code 13 = .ok (.ldc2_w 7, 3) := by decide +kernel
theorem d_method_2_16 : decode method_2_code 16 = .ok (.lload_n 0, 1) := by decide +kernel
theorem d_method_2_17 : decode method_2_code 17 = .ok (.lload_n 2, 1) := by decide +kernel
theorem d_method_2_18 : decode method_2_code 18 = .ok (.lmul, 1) := by decide +kernel
theorem d_method_2_19 : decode method_2_code 19 = .ok (.lsub, 1) := by decide +kernel
theorem d_method_2_20 : decode method_2_code 20 = .ok (.lmul, 1) := by decide +kernel
theorem d_method_2_21 : decode method_2_code 21 = .ok (.lstore_n 2, 1) := by decide +kernel
theorem d_method_2_22 : decode method_2_code 22 = .ok (.lload_n 2, 1) := by decide +kernel
theorem d_method_2_23 : decode method_2_code 23 = .ok (.ldc2_w 7, 3) := by decide +kernel
theorem d_method_2_26 : decode method_2_code 26 = .ok (.lload_n 0, 1) := by decide +kernel
theorem d_method_2_27 : decode method_2_code 27 = .ok (.lload_n 2, 1) := by decide +kernel
theorem d_method_2_28 : decode method_2_code 28 = .ok (.lmul, 1) := by decide +kernel
theorem d_method_2_29 : decode method_2_code 29 = .ok (.lsub, 1) := by decide +kernel
theorem d_method_2_30 : decode method_2_code 30 = .ok (.lmul, 1) := by decide +kernel
theorem d_method_2_31 : decode method_2_code 31 = .ok (.lstore_n 2, 1) := by decide +kernel
theorem d_method_2_32 : decode method_2_code 32 = .ok (.lload_n 2, 1) := by decide +kernel
theorem d_method_2_33 : decode method_2_code 33 = .ok (.ldc2_w 7, 3) := by decide +kernel
theorem d_method_2_36 : decode method_2_code 36 = .ok (.lload_n 0, 1) := by decide +kernel
theorem d_method_2_37 : decode method_2_code 37 = .ok (.lload_n 2, 1) := by decide +kernel
theorem d_method_2_38 : decode method_2_code 38 = .ok (.lmul, 1) := by decide +kernel
theorem d_method_2_39 : decode method_2_code 39 = .ok (.lsub, 1) := by decide +kernel
theorem d_method_2_40 : decode method_2_code 40 = .ok (.lmul, 1) := by decide +kernel
theorem d_method_2_41 : decode method_2_code 41 = .ok (.lstore_n 2, 1) := by decide +kernel
theorem d_method_2_42 : decode method_2_code 42 = .ok (.lload_n 2, 1) := by decide +kernel
theorem d_method_2_43 : decode method_2_code 43 = .ok (.ldc2_w 7, 3) := by decide +kernel
theorem d_method_2_46 : decode method_2_code 46 = .ok (.lload_n 0, 1) := by decide +kernel
theorem d_method_2_47 : decode method_2_code 47 = .ok (.lload_n 2, 1) := by decide +kernel
theorem d_method_2_48 : decode method_2_code 48 = .ok (.lmul, 1) := by decide +kernel
theorem d_method_2_49 : decode method_2_code 49 = .ok (.lsub, 1) := by decide +kernel
theorem d_method_2_50 : decode method_2_code 50 = .ok (.lmul, 1) := by decide +kernel
theorem d_method_2_51 : decode method_2_code 51 = .ok (.lstore_n 2, 1) := by decide +kernel
theorem d_method_2_52 : decode method_2_code 52 = .ok (.lload_n 2, 1) := by decide +kernel
theorem d_method_2_53 : decode method_2_code 53 = .ok (.ldc2_w 7, 3) := by decide +kernel
theorem d_method_2_56 : decode method_2_code 56 = .ok (.lload_n 0, 1) := by decide +kernel
theorem d_method_2_57 : decode method_2_code 57 = .ok (.lload_n 2, 1) := by decide +kernel
theorem d_method_2_58 : decode method_2_code 58 = .ok (.lmul, 1) := by decide +kernel
theorem d_method_2_59 : decode method_2_code 59 = .ok (.lsub, 1) := by decide +kernel
theorem d_method_2_60 : decode method_2_code 60 = .ok (.lmul, 1) := by decide +kernel
theorem d_method_2_61 : decode method_2_code 61 = .ok (.lstore_n 2, 1) := by decide +kernel
theorem d_method_2_62 : decode method_2_code 62 = .ok (.lload_n 2, 1) := by decide +kernel
theorem d_method_2_63 : decode method_2_code 63 = .ok (.lreturn, 1) := by decide +kernel
theorem ef_m_inv (m : MethodId) (x0 : Int64) : entryFrame m #[(.long x0)] 4 = mkF m 0 #[.val (.long x0), .second, .unset, .unset] [] := by first | (simp [entryFrame, mkF, argsToLocals, Value.category]; done) | rfl
set_option maxRecDepth 65536 in
set_option maxHeartbeats 40000000 in
theorem m_inv (l : Launch) (Z : State) (a0 : Array Value) (hw : ∀ d ∈ tables_1, d.before a0 Z = true) (q : Int64) :
    Pays l Z a0 (⟨"com/example/heirring/heirring/SplitMix64NextLongPinLaw", "inverse", "(J)J"⟩ : MethodName) method_2_code 4 (some .long) ({ frames := 0, cells := 0, slots := 0, locals := 0 } : Room) #[(.long q)] [] (([] : Hs).map (·.1)) (fun v os' => v = some (.long (own_inv q)) ∧ os' = []) := by
  refine Pays.of (Ls := #[.val (.long q), .second, .unset, .unset]) (plainFor_of_name pn_1) (fun m => ef_m_inv m q) ?_
  intro p e s m below meth c T0 A0
  refine A0.lloadN (q := 1) d_method_2_0 rfl rfl ?_
  refine A0.lstoreN (q := 2) (l' := #[.val (.long q), .second, .val (.long q), .second]) d_method_2_1 rfl rfl ?_
  refine A0.lloadN (q := 3) d_method_2_2 rfl rfl ?_
  refine A0.ldc2 (qn := 6) (v := 2) (tw hw 31 rfl) d_method_2_3 rfl ?_
  refine A0.lloadN (q := 7) d_method_2_6 rfl rfl ?_
  refine A0.lloadN (q := 8) d_method_2_7 rfl rfl ?_
  refine A0.lmul (q := 9) d_method_2_8 rfl ?_
  refine A0.lsub (q := 10) d_method_2_9 rfl ?_
  refine A0.lmul (q := 11) d_method_2_10 rfl ?_
  show Wp _ _ _ _ _ _ _ _ _ _ T0 (mkF m 11 #[.val (.long q), .second, .val (.long q), .second] [(.long (own_nw q q))])
  refine A0.lstoreN (q := 12) (l' := #[.val (.long q), .second, .val (.long (own_nw q q)), .second]) d_method_2_11 rfl rfl ?_
  refine A0.lloadN (q := 13) d_method_2_12 rfl rfl ?_
  refine A0.ldc2 (qn := 16) (v := 2) (tw hw 31 rfl) d_method_2_13 rfl ?_
  refine A0.lloadN (q := 17) d_method_2_16 rfl rfl ?_
  refine A0.lloadN (q := 18) d_method_2_17 rfl rfl ?_
  refine A0.lmul (q := 19) d_method_2_18 rfl ?_
  refine A0.lsub (q := 20) d_method_2_19 rfl ?_
  refine A0.lmul (q := 21) d_method_2_20 rfl ?_
  show Wp _ _ _ _ _ _ _ _ _ _ T0 (mkF m 21 #[.val (.long q), .second, .val (.long (own_nw q q)), .second] [(.long (own_nw q (own_nw q q)))])
  refine A0.lstoreN (q := 22) (l' := #[.val (.long q), .second, .val (.long (own_nw q (own_nw q q))), .second]) d_method_2_21 rfl rfl ?_
  refine A0.lloadN (q := 23) d_method_2_22 rfl rfl ?_
  refine A0.ldc2 (qn := 26) (v := 2) (tw hw 31 rfl) d_method_2_23 rfl ?_
  refine A0.lloadN (q := 27) d_method_2_26 rfl rfl ?_
  refine A0.lloadN (q := 28) d_method_2_27 rfl rfl ?_
  refine A0.lmul (q := 29) d_method_2_28 rfl ?_
  refine A0.lsub (q := 30) d_method_2_29 rfl ?_
  refine A0.lmul (q := 31) d_method_2_30 rfl ?_
  show Wp _ _ _ _ _ _ _ _ _ _ T0 (mkF m 31 #[.val (.long q), .second, .val (.long (own_nw q (own_nw q q))), .second] [(.long (own_nw q (own_nw q (own_nw q q))))])
  refine A0.lstoreN (q := 32) (l' := #[.val (.long q), .second, .val (.long (own_nw q (own_nw q (own_nw q q)))), .second]) d_method_2_31 rfl rfl ?_
  refine A0.lloadN (q := 33) d_method_2_32 rfl rfl ?_
  refine A0.ldc2 (qn := 36) (v := 2) (tw hw 31 rfl) d_method_2_33 rfl ?_
  refine A0.lloadN (q := 37) d_method_2_36 rfl rfl ?_
  refine A0.lloadN (q := 38) d_method_2_37 rfl rfl ?_
  refine A0.lmul (q := 39) d_method_2_38 rfl ?_
  refine A0.lsub (q := 40) d_method_2_39 rfl ?_
  refine A0.lmul (q := 41) d_method_2_40 rfl ?_
  show Wp _ _ _ _ _ _ _ _ _ _ T0 (mkF m 41 #[.val (.long q), .second, .val (.long (own_nw q (own_nw q (own_nw q q)))), .second] [(.long (own_nw q (own_nw q (own_nw q (own_nw q q)))))])
  refine A0.lstoreN (q := 42) (l' := #[.val (.long q), .second, .val (.long (own_nw q (own_nw q (own_nw q (own_nw q q))))), .second]) d_method_2_41 rfl rfl ?_
  refine A0.lloadN (q := 43) d_method_2_42 rfl rfl ?_
  refine A0.ldc2 (qn := 46) (v := 2) (tw hw 31 rfl) d_method_2_43 rfl ?_
  refine A0.lloadN (q := 47) d_method_2_46 rfl rfl ?_
  refine A0.lloadN (q := 48) d_method_2_47 rfl rfl ?_
  refine A0.lmul (q := 49) d_method_2_48 rfl ?_
  refine A0.lsub (q := 50) d_method_2_49 rfl ?_
  refine A0.lmul (q := 51) d_method_2_50 rfl ?_
  show Wp _ _ _ _ _ _ _ _ _ _ T0 (mkF m 51 #[.val (.long q), .second, .val (.long (own_nw q (own_nw q (own_nw q (own_nw q q))))), .second] [(.long (own_nw q (own_nw q (own_nw q (own_nw q (own_nw q q))))))])
  refine A0.lstoreN (q := 52) (l' := #[.val (.long q), .second, .val (.long (own_nw q (own_nw q (own_nw q (own_nw q (own_nw q q)))))), .second]) d_method_2_51 rfl rfl ?_
  refine A0.lloadN (q := 53) d_method_2_52 rfl rfl ?_
  refine A0.ldc2 (qn := 56) (v := 2) (tw hw 31 rfl) d_method_2_53 rfl ?_
  refine A0.lloadN (q := 57) d_method_2_56 rfl rfl ?_
  refine A0.lloadN (q := 58) d_method_2_57 rfl rfl ?_
  refine A0.lmul (q := 59) d_method_2_58 rfl ?_
  refine A0.lsub (q := 60) d_method_2_59 rfl ?_
  refine A0.lmul (q := 61) d_method_2_60 rfl ?_
  show Wp _ _ _ _ _ _ _ _ _ _ T0 (mkF m 61 #[.val (.long q), .second, .val (.long (own_nw q (own_nw q (own_nw q (own_nw q (own_nw q q)))))), .second] [(.long (own_nw q (own_nw q (own_nw q (own_nw q (own_nw q (own_nw q q)))))))])
  refine A0.lstoreN (q := 62) (l' := #[.val (.long q), .second, .val (.long (own_nw q (own_nw q (own_nw q (own_nw q (own_nw q (own_nw q q))))))), .second]) d_method_2_61 rfl rfl ?_
  refine A0.lloadN (q := 63) d_method_2_62 rfl rfl ?_
  exact A0.retJ d_method_2_63 (by decide) (by decide) ⟨rfl, rfl⟩
theorem d_method_6_0 : decode method_6_code 0 = .ok (.lload_n 0, 1) := by decide +kernel
theorem d_method_6_1 : decode method_6_code 1 = .ok (.invokestatic 9, 3) := by decide +kernel
theorem pd_2 : parseMethodDescriptor "(J)J" = some ⟨[.long], some .long⟩ := by decide +kernel
theorem d_method_6_4 : decode method_6_code 4 = .ok (.lstore_n 2, 1) := by decide +kernel
theorem d_method_6_5 : decode method_6_code 5 = .ok (.lload_n 2, 1) := by decide +kernel
theorem d_method_6_6 : decode method_6_code 6 = .ok (.ldc2_w 15, 3) := by decide +kernel
theorem d_method_6_9 : decode method_6_code 9 = .ok (.invokestatic 17, 3) := by decide +kernel
theorem d_method_6_12 : decode method_6_code 12 = .ok (.lmul, 1) := by decide +kernel
theorem d_method_6_13 : decode method_6_code 13 = .ok (.lstore_n 2, 1) := by decide +kernel
theorem d_method_6_14 : decode method_6_code 14 = .ok (.lload_n 2, 1) := by decide +kernel
theorem d_method_6_15 : decode method_6_code 15 = .ok (.invokestatic 20, 3) := by decide +kernel
theorem d_method_6_18 : decode method_6_code 18 = .ok (.lstore_n 2, 1) := by decide +kernel
theorem d_method_6_19 : decode method_6_code 19 = .ok (.lload_n 2, 1) := by decide +kernel
theorem d_method_6_20 : decode method_6_code 20 = .ok (.ldc2_w 23, 3) := by decide +kernel
theorem d_method_6_23 : decode method_6_code 23 = .ok (.invokestatic 17, 3) := by decide +kernel
theorem d_method_6_26 : decode method_6_code 26 = .ok (.lmul, 1) := by decide +kernel
theorem d_method_6_27 : decode method_6_code 27 = .ok (.lstore_n 2, 1) := by decide +kernel
theorem d_method_6_28 : decode method_6_code 28 = .ok (.lload_n 2, 1) := by decide +kernel
theorem d_method_6_29 : decode method_6_code 29 = .ok (.invokestatic 25, 3) := by decide +kernel
theorem d_method_6_32 : decode method_6_code 32 = .ok (.lreturn, 1) := by decide +kernel
theorem ef_m_unmix (m : MethodId) (x0 : Int64) : entryFrame m #[(.long x0)] 4 = mkF m 0 #[.val (.long x0), .second, .unset, .unset] [] := by first | (simp [entryFrame, mkF, argsToLocals, Value.category]; done) | rfl
set_option maxRecDepth 65536 in
set_option maxHeartbeats 40000000 in
theorem m_unmix (l : Launch) (Z : State) (a0 : Array Value) (hw : ∀ d ∈ tables_1, d.before a0 Z = true) (q : Int64) :
    Pays l Z a0 (⟨"com/example/heirring/heirring/SplitMix64NextLongPinLaw", "unmix", "(J)J"⟩ : MethodName) method_6_code 4 (some .long) ({ frames := 1, cells := 0, slots := 0, locals := 17 } : Room) #[(.long q)] [] (([] : Hs).map (·.1)) (fun v os' => v = some (.long (own_unmix q)) ∧ os' = []) := by
  refine Pays.of (Ls := #[.val (.long q), .second, .unset, .unset]) (plainFor_of_name pn_1) (fun m => ef_m_unmix m q) ?_
  intro p e s m below meth c T0 A0
  refine A0.lloadN (q := 1) d_method_6_0 rfl rfl ?_
  refine Here.callS (qn := 4) (os1 := []) (os2 := []) (rest := []) (W := 0) (argsL := [(.long q)]) A0 (m_ux31 l Z a0 hw q) (Or.inl rfl) (tw hw 24 rfl) (tw hw 25 rfl) (tw hw 22 rfl) (tw hw 26 rfl) (by decide) d_method_6_1 rfl (lenOf pd_2 rfl) rfl (Nat.le_of_eq rfl) (by decide) (by decide) (by decide) (by decide) rfl (fun T1 v2 os3 A4 P5 => ?_)
  obtain ⟨rfl, rfl⟩ := P5
  have A6 := A4.cast (k2 := 0) (n2 := 0) (os2 := []) rfl rfl rfl
  refine A6.lstoreN (q := 5) (l' := #[.val (.long q), .second, .val (.long (own_ux 31 62 q)), .second]) d_method_6_4 rfl rfl ?_
  refine A6.lloadN (q := 6) d_method_6_5 rfl rfl ?_
  refine A6.ldc2 (qn := 9) (v := -7723592293110705685) (tw hw 27 rfl) d_method_6_6 rfl ?_
  refine Here.callS (qn := 12) (os1 := []) (os2 := []) (rest := [(.long (own_ux 31 62 q))]) (W := 2) (argsL := [(.long (-7723592293110705685))]) A6 (m_inv l Z a0 hw ((-7723592293110705685 : Int64))) (Or.inl rfl) (tw hw 28 rfl) (tw hw 29 rfl) (tw hw 22 rfl) (tw hw 30 rfl) (by decide) d_method_6_9 rfl (lenOf pd_2 rfl) rfl (Nat.le_of_eq rfl) (by decide) (by decide) (by decide) (by decide) rfl (fun T7 v8 os9 A10 P11 => ?_)
  obtain ⟨rfl, rfl⟩ := P11
  have A12 := A10.cast (k2 := 0) (n2 := 0) (os2 := []) rfl rfl rfl
  refine A12.lmul (q := 13) d_method_6_12 rfl ?_
  refine A12.lstoreN (q := 14) (l' := #[.val (.long q), .second, .val (.long ((own_ux 31 62 q) * (own_inv (-7723592293110705685 : Int64)))), .second]) d_method_6_13 rfl rfl ?_
  refine A12.lloadN (q := 15) d_method_6_14 rfl rfl ?_
  refine Here.callS (qn := 18) (os1 := []) (os2 := []) (rest := []) (W := 0) (argsL := [(.long ((own_ux 31 62 q) * (own_inv (-7723592293110705685 : Int64))))]) A12 (m_ux27 l Z a0 hw (((own_ux 31 62 q) * (own_inv (-7723592293110705685 : Int64))))) (Or.inl rfl) (tw hw 32 rfl) (tw hw 33 rfl) (tw hw 22 rfl) (tw hw 34 rfl) (by decide) d_method_6_15 rfl (lenOf pd_2 rfl) rfl (Nat.le_of_eq rfl) (by decide) (by decide) (by decide) (by decide) rfl (fun T13 v14 os15 A16 P17 => ?_)
  obtain ⟨rfl, rfl⟩ := P17
  have A18 := A16.cast (k2 := 0) (n2 := 0) (os2 := []) rfl rfl rfl
  refine A18.lstoreN (q := 19) (l' := #[.val (.long q), .second, .val (.long (own_ux 27 54 ((own_ux 31 62 q) * (own_inv (-7723592293110705685 : Int64))))), .second]) d_method_6_18 rfl rfl ?_
  refine A18.lloadN (q := 20) d_method_6_19 rfl rfl ?_
  refine A18.ldc2 (qn := 23) (v := -4658895280553007687) (tw hw 35 rfl) d_method_6_20 rfl ?_
  refine Here.callS (qn := 26) (os1 := []) (os2 := []) (rest := [(.long (own_ux 27 54 ((own_ux 31 62 q) * (own_inv (-7723592293110705685 : Int64)))))]) (W := 2) (argsL := [(.long (-4658895280553007687))]) A18 (m_inv l Z a0 hw ((-4658895280553007687 : Int64))) (Or.inl rfl) (tw hw 28 rfl) (tw hw 29 rfl) (tw hw 22 rfl) (tw hw 30 rfl) (by decide) d_method_6_23 rfl (lenOf pd_2 rfl) rfl (Nat.le_of_eq rfl) (by decide) (by decide) (by decide) (by decide) rfl (fun T19 v20 os21 A22 P23 => ?_)
  obtain ⟨rfl, rfl⟩ := P23
  have A24 := A22.cast (k2 := 0) (n2 := 0) (os2 := []) rfl rfl rfl
  refine A24.lmul (q := 27) d_method_6_26 rfl ?_
  refine A24.lstoreN (q := 28) (l' := #[.val (.long q), .second, .val (.long ((own_ux 27 54 ((own_ux 31 62 q) * (own_inv (-7723592293110705685 : Int64)))) * (own_inv (-4658895280553007687 : Int64)))), .second]) d_method_6_27 rfl rfl ?_
  refine A24.lloadN (q := 29) d_method_6_28 rfl rfl ?_
  refine Here.callS (qn := 32) (os1 := []) (os2 := []) (rest := []) (W := 0) (argsL := [(.long ((own_ux 27 54 ((own_ux 31 62 q) * (own_inv (-7723592293110705685 : Int64)))) * (own_inv (-4658895280553007687 : Int64))))]) A24 (m_ux30 l Z a0 hw (((own_ux 27 54 ((own_ux 31 62 q) * (own_inv (-7723592293110705685 : Int64)))) * (own_inv (-4658895280553007687 : Int64))))) (Or.inl rfl) (tw hw 36 rfl) (tw hw 37 rfl) (tw hw 22 rfl) (tw hw 38 rfl) (by decide) d_method_6_29 rfl (lenOf pd_2 rfl) rfl (Nat.le_of_eq rfl) (by decide) (by decide) (by decide) (by decide) rfl (fun T25 v26 os27 A28 P29 => ?_)
  obtain ⟨rfl, rfl⟩ := P29
  have A30 := A28.cast (k2 := 0) (n2 := 0) (os2 := []) rfl rfl rfl
  exact A30.retJ d_method_6_32 (by decide) (by decide) ⟨rfl, rfl⟩
theorem pd_3 : parseMethodDescriptor "(J)V" = some ⟨[.long], none⟩ := by decide +kernel
theorem pd_4 : parseMethodDescriptor "()J" = some ⟨[], some .long⟩ := by decide +kernel
theorem ef_m_law (m : MethodId) (x0 : Int64) : entryFrame m #[(.long x0)] maxLocals = mkF m 0 #[.val (.long x0), .second, .unset, .unset, .unset, .unset, .unset, .unset, .unset] [] := by first | (simp [entryFrame, mkF, argsToLocals, Value.category, maxLocals]; done) | rfl
set_option maxRecDepth 65536 in
set_option maxHeartbeats 40000000 in
theorem m_law (l : Launch) (Z : State) (a0 : Array Value) (hw : ∀ d ∈ tables_1, d.before a0 Z = true) (x0 : Int64) :
    Pays l Z a0 x code maxLocals ret room_1 #[(.long x0)] [] (([] : Hs).map (·.1)) (fun v os' => v = some (.int 1) ∧ True) := by
  refine Pays.of (Ls := #[.val (.long x0), .second, .unset, .unset, .unset, .unset, .unset, .unset, .unset]) (plainFor_of_name pn_1) (fun m => ef_m_law m x0) ?_
  intro p e s m below meth c T0 A0
  refine A0.newO (qn := 3) (C := "com/example/heirring/heirring/SplitMix64") (fs := [("com/example/heirring/heirring/SplitMix64", "state", "J", (.long 0))]) (tw hw 0 rfl) (tw hw 1 rfl) (tw hw 2 rfl) at_0 (by decide) (by decide) (by decide) (List.forall_mem_cons.mpr ⟨⟨Or.inl (tw hw 10 rfl), .long, by decide, rfl⟩, (List.forall_mem_nil _)⟩) rfl (fun T1 b3 A2 => ?_)
  have A4 := A2.cast (k2 := 1) (n2 := 1) (os2 := [(b3, ob0 (.long 0))]) rfl rfl rfl
  refine A4.dup (q := 4) at_3 rfl rfl ?_
  refine A4.lloadN (q := 5) at_4 rfl rfl ?_
  refine Here.callI (qn := 8) (os1 := []) (os2 := [(b3, ob0 (.long 0))]) (rest := [(.ref b3)]) (W := 1) (argsL := [(.long x0)]) (a := b3) A4 (m_ini l Z a0 hw b3 x0 ((0 : Int64))) (Or.inr ⟨rfl, rfl⟩) rfl (tw hw 3 rfl) (tw hw 4 rfl) (tw hw 2 rfl) (tw hw 5 rfl) (by decide) at_5 rfl (lenOf pd_3 rfl) rfl (Nat.le_of_eq rfl) (by decide) (by decide) (by decide) (by decide) rfl (fun T5 v6 os7 A8 P9 => ?_)
  obtain ⟨rfl, rfl⟩ := P9
  have A10 := A8.cast (k2 := 1) (n2 := 1) (os2 := [(b3, ob0 (.long x0))]) rfl rfl rfl
  refine A10.astoreN (q := 9) (l' := #[.val (.long x0), .second, .val (.ref b3), .unset, .unset, .unset, .unset, .unset, .unset]) at_8 rfl rfl rfl ?_
  refine A10.aloadN (q := 10) at_9 rfl rfl rfl ?_
  refine Here.callV (qn := 13) (os1 := []) (os2 := [(b3, ob0 (.long x0))]) (rest := []) (W := 0) (argsL := []) (a := b3) (i := 0) A10 (m_next l Z a0 hw b3 x0) (Or.inr ⟨rfl, rfl⟩) rfl (tw hw 11 rfl) (tw hw 12 rfl) (tw hw 14 rfl) (tw hw 13 rfl) (tw hw 2 rfl) (tw hw 15 rfl) (by decide) at_10 rfl (lenOf pd_4 rfl) rfl (Nat.le_of_eq rfl) (by decide) (by decide) (by decide) (by decide) rfl (fun T11 v12 os13 A14 P15 => ?_)
  obtain ⟨rfl, rfl⟩ := P15
  have A16 := A14.cast (k2 := 1) (n2 := 1) (os2 := [(b3, ob0 (.long (x0 + (-7046029254386353131 : Int64))))]) rfl rfl rfl
  refine A16.lstoreN (q := 14) (l' := #[.val (.long x0), .second, .val (.ref b3), .val (.long (own_mix (x0 + (-7046029254386353131 : Int64)))), .second, .unset, .unset, .unset, .unset]) at_13 rfl rfl ?_
  refine A16.aloadN (q := 15) at_14 rfl rfl rfl ?_
  refine Here.callV (qn := 18) (os1 := []) (os2 := [(b3, ob0 (.long (x0 + (-7046029254386353131 : Int64))))]) (rest := []) (W := 0) (argsL := []) (a := b3) (i := 0) A16 (m_next l Z a0 hw b3 ((x0 + (-7046029254386353131 : Int64)))) (Or.inr ⟨rfl, rfl⟩) rfl (tw hw 11 rfl) (tw hw 12 rfl) (tw hw 14 rfl) (tw hw 13 rfl) (tw hw 2 rfl) (tw hw 15 rfl) (by decide) at_15 rfl (lenOf pd_4 rfl) rfl (Nat.le_of_eq rfl) (by decide) (by decide) (by decide) (by decide) rfl (fun T17 v18 os19 A20 P21 => ?_)
  obtain ⟨rfl, rfl⟩ := P21
  have A22 := A20.cast (k2 := 1) (n2 := 1) (os2 := [(b3, ob0 (.long ((x0 + (-7046029254386353131 : Int64)) + (-7046029254386353131 : Int64))))]) rfl rfl rfl
  refine A22.lstore (q := 20) (l' := #[.val (.long x0), .second, .val (.ref b3), .val (.long (own_mix (x0 + (-7046029254386353131 : Int64)))), .second, .val (.long (own_mix ((x0 + (-7046029254386353131 : Int64)) + (-7046029254386353131 : Int64)))), .second, .unset, .unset]) at_18 rfl rfl ?_
  refine A22.ldc2 (qn := 23) (v := -7046029254386353131) (tw hw 19 rfl) at_20 rfl ?_
  refine A22.lstore (q := 25) (l' := #[.val (.long x0), .second, .val (.ref b3), .val (.long (own_mix (x0 + (-7046029254386353131 : Int64)))), .second, .val (.long (own_mix ((x0 + (-7046029254386353131 : Int64)) + (-7046029254386353131 : Int64)))), .second, .val (.long (-7046029254386353131)), .second]) at_23 rfl rfl ?_
  refine A22.lloadN (q := 26) at_25 rfl rfl ?_
  refine Here.callS (qn := 29) (os1 := [(b3, ob0 (.long ((x0 + (-7046029254386353131 : Int64)) + (-7046029254386353131 : Int64))))]) (os2 := []) (rest := []) (W := 0) (argsL := [(.long (own_mix (x0 + (-7046029254386353131 : Int64))))]) A22 (m_unmix l Z a0 hw ((own_mix (x0 + (-7046029254386353131 : Int64))))) (Or.inl rfl) (tw hw 20 rfl) (tw hw 21 rfl) (tw hw 22 rfl) (tw hw 23 rfl) (by decide) at_26 rfl (lenOf pd_2 rfl) rfl (Nat.le_of_eq rfl) (by decide) (by decide) (by decide) (by decide) rfl (fun T23 v24 os25 A26 P27 => ?_)
  obtain ⟨rfl, rfl⟩ := P27
  have A28 := A26.cast (k2 := 1) (n2 := 1) (os2 := [(b3, ob0 (.long ((x0 + (-7046029254386353131 : Int64)) + (-7046029254386353131 : Int64))))]) rfl rfl rfl
  refine A28.lloadN (q := 30) at_29 rfl rfl ?_
  refine A28.lload (q := 32) at_30 rfl rfl ?_
  refine A28.ladd (q := 33) at_32 rfl ?_
  refine A28.lcmp (q := 34) at_33 rfl ?_
  have hc34_29 : (own_unmix (own_mix (x0 + (-7046029254386353131 : Int64)))) = (x0 + (-7046029254386353131 : Int64)) := by
    clear hw A0 A2 A4 A8 A10 A14 A16 A20 A22 A26 A28
    exact own_unmix_mix _
  refine A28.ifNo (q := 37) at_34 ((if0 _ _).trans (teq ((lw_eq (own_unmix (own_mix (x0 + (-7046029254386353131 : Int64)))) (x0 + (-7046029254386353131 : Int64))).mpr hc34_29)).2) rfl ?_
  refine A28.lload (q := 39) at_37 rfl rfl ?_
  refine Here.callS (qn := 42) (os1 := [(b3, ob0 (.long ((x0 + (-7046029254386353131 : Int64)) + (-7046029254386353131 : Int64))))]) (os2 := []) (rest := []) (W := 0) (argsL := [(.long (own_mix ((x0 + (-7046029254386353131 : Int64)) + (-7046029254386353131 : Int64))))]) A28 (m_unmix l Z a0 hw ((own_mix ((x0 + (-7046029254386353131 : Int64)) + (-7046029254386353131 : Int64))))) (Or.inl rfl) (tw hw 20 rfl) (tw hw 21 rfl) (tw hw 22 rfl) (tw hw 23 rfl) (by decide) at_39 rfl (lenOf pd_2 rfl) rfl (Nat.le_of_eq rfl) (by decide) (by decide) (by decide) (by decide) rfl (fun T30 v31 os32 A33 P34 => ?_)
  obtain ⟨rfl, rfl⟩ := P34
  have A35 := A33.cast (k2 := 1) (n2 := 1) (os2 := [(b3, ob0 (.long ((x0 + (-7046029254386353131 : Int64)) + (-7046029254386353131 : Int64))))]) rfl rfl rfl
  refine A35.lloadN (q := 43) at_42 rfl rfl ?_
  refine A35.lload (q := 45) at_43 rfl rfl ?_
  refine A35.ladd (q := 46) at_45 rfl ?_
  refine A35.lload (q := 48) at_46 rfl rfl ?_
  refine A35.ladd (q := 49) at_48 rfl ?_
  refine A35.lcmp (q := 50) at_49 rfl ?_
  have hc50_36 : (own_unmix (own_mix ((x0 + (-7046029254386353131 : Int64)) + (-7046029254386353131 : Int64)))) = ((x0 + (-7046029254386353131 : Int64)) + (-7046029254386353131 : Int64)) := by
    clear hw A0 A2 A4 A8 A10 A14 A16 A20 A22 A26 A28 A33 A35
    exact own_unmix_mix _
  refine A35.ifNo (q := 53) at_50 ((if0 _ _).trans (teq ((lw_eq (own_unmix (own_mix ((x0 + (-7046029254386353131 : Int64)) + (-7046029254386353131 : Int64)))) ((x0 + (-7046029254386353131 : Int64)) + (-7046029254386353131 : Int64))).mpr hc50_36)).2) rfl ?_
  refine A35.iconst (q := 54) (v := 1) at_53 rfl rfl ?_
  refine A35.goto (q := 58) at_54 (by decide) (by decide) ?_
  exact A35.retN (by simp) at_58 (by decide) (by decide) ⟨rfl, trivial⟩
set_option maxRecDepth 65536 in
set_option maxHeartbeats 40000000 in
theorem comes_1 {Post : Tables → Env → Array Value → State → Outcome → State → Prop} (hpost : ∀ tb e args s v u, (limb_1_1.after args s (.returned v) u = true ∧ limb_1_2.after args s (.returned v) u = true ∧ True) → FrameEnd s (.returned v) u (Jvm.fieldLocs frame_1_writes args s ++ Jvm.arrayLocs frame_1_arrays args s ++ Jvm.staticLocs frame_1_statics s) 16 128 → Post tb e args s (.returned v) u) :
    ArmFor flags0 classFile x code maxLocals ret World_1 tables_1 room_1 Calls_1 rest_1 Pre_1 Post := by
  intro l hfl _ _ p e ha hc hk s m args below hf hA hF happ hP
  obtain ⟨hcalls, hrest, hpre⟩ := hP
  obtain ⟨-, -, -, hnamed, -, -, -, hat⟩ := (Spec.applies_iff hf).mp happ
  obtain ⟨hg, hn⟩ := and_e (Cond.before_iff.mp (show (Jvm.Cond.and given_1 narrow_1).before args s = true from hpre))
  obtain ⟨g11, g12⟩ := and_e hg
  obtain ⟨w0, rfl⟩ : ∃ w0 : Value, args = #[w0] := by
    have hs : args.size = 1 := by simpa [Cond.value, given_1] using g11
    obtain ⟨L⟩ := args
    match L, hs with
    | [w0], _ => exact ⟨w0, rfl⟩
  have hw := fun d (hd : d ∈ tables_1) => atoms_spec (ws := Jvm.Cond.code x code maxLocals ret :: tables_1) hat d (List.mem_cons_of_mem _ hd)
  obtain ⟨i0, ei0⟩ := isL_v g12
  obtain rfl : w0 = (.long i0) := Option.some.inj ei0
  obtain ⟨n, o, h1, h2, h3, _, L, rfl, ⟨N, _, _, rfl, _⟩, hq⟩ := m_law l s _ hw i0 tables_1 s.heap ⟨List.nodup_nil, fun _ q => (nomatch q)⟩ p e ha hc hk s m _ below hf ((Spec.applies_iff_loose hf).mp happ).1 ⟨rfl, State.Warmed39.refl s, rfl⟩ trivial
  refine ⟨n, _, h1, h2, h3, hpost _ _ _ _ _ _ ⟨Cond.after_iff.mpr rfl, Cond.after_iff.mpr (eq_i res_at (Term.int_eval (1)) rfl), trivial⟩ ⟨hq.1, hq.2.1, (hq.2.2.sift fun y hy => Or.inr ((N y hy).elim (fun q => absurd q List.not_mem_nil) id)).mono (by decide) (by decide)⟩⟩
theorem main_1_1 : Claimed_1_1 := comes_1 fun _ _ _ _ _ _ h hF => ⟨h.1, hF⟩
theorem main_1_2 : Claimed_1_2 := comes_1 fun _ _ _ _ _ _ h hF => ⟨h.2.1, hF⟩
end Jvm.Pilot.@@N@@
namespace Jvm.Pilot.@@N@@
open Jvm Jvm.ClassFile Sem Op Lib Jvm.Free Jvm.Stand Jvm.Pilot.@@N@@.Jvm.D
/-! MADE BY PROGRAM (witnessworld.py) out of the Statement's table words and the real class files: 9 classes; the members and pool entries that the words name. The judged class is class 1, her method 6. -/
namespace start1
open Jvm.ClassFile
def u (s : String) : CpInfo := .utf8 (stringToUtf16 s)
/-- a pool by its gaps: so many unusable entries, then the entry; so many at the end -/
def gap : Nat → List CpInfo → List CpInfo
  | 0, r => r
  | n + 1, r => .unusable :: gap n r
def poolList (es : List (Nat × CpInfo)) (last : Nat) : List CpInfo := es.foldr (fun e r => gap e.1 (e.2 :: r)) (gap last [])
def pool (es : List (Nat × CpInfo)) (last : Nat) : Array CpInfo := ⟨poolList es last⟩
def fileOf (pool : Array CpInfo) (this : Nat) (attrs : Array Attribute := #[]) (ms : Array MethodInfo := #[]) (fl : Nat := 33) (sup : Nat := 0) (ifs : Array Nat := #[]) (fds : Array FieldInfo := #[]) : ClassFile where
  minorVersion := 0
  majorVersion := 65
  constantPool := pool
  accessFlags := fl
  thisClass := this
  superClass := sup
  interfaces := ifs
  fields := fds
  methods := ms
  attributes := attrs
def plain (name : String) (sup : Option ClassId) : Class where
  name := name
  kind := .ordinary
  loader := none
  accessFlags := 33
  super := sup
  interfaces := #[]
  cf := none
  fields := #[]
  methods := #[]
  instanceTypes := #[]
  staticTypes := #[]
  resolved := #[]
  callSites := []
  init := .initialized
  statics := none
  mirror := none

def pool0 : Array CpInfo := pool [(5, u "<init>"), (0, u "()V"), (1, .class_ 10), (1, u "java/lang/Object")] 113

def k0c0 : Code := { maxStack := 0, maxLocals := 1, code := object_method_1_code, exceptionTable := #[], attributes := #[] }
def k0m0 : Method := { name := "<init>", desc := "()V", sig := { parameters := [], returnType := none }, accessFlags := 1, code := some k0c0 }
/-- java/lang/Object -/
def k0 : Class := { plain "java/lang/Object" none with
  accessFlags := 33
  interfaces := #[]
  cf := some (fileOf pool0 8 #[] #[{ accessFlags := 1, nameIndex := 5, descriptorIndex := 6, attributes := #[] }] 33 0 #[] #[])
  fields := #[]
  methods := #[k0m0]
  instanceTypes := #[]
  staticTypes := #[]
  resolved := Array.replicate 124 none
  statics := none }

def pool1 : Array CpInfo := pool [(2, .class_ 4), (1, u "java/lang/Object"), (0, u "<init>"), (0, u "()V"), (0, .long 2), (1, .methodref 10 11), (0, .class_ 12), (0, .nameAndType 13 14), (0, u "com/example/heirring/heirring/SplitMix64NextLongPinLaw"), (0, u "unxor31"), (0, u "(J)J"), (0, .long 10723151780598845931), (1, .methodref 10 18), (0, .nameAndType 19 14), (0, u "inverse"), (0, .methodref 10 21), (0, .nameAndType 22 14), (0, u "unxor27"), (0, .long 13787848793156543929), (1, .methodref 10 26), (0, .nameAndType 27 14), (0, u "unxor30"), (0, .class_ 29), (0, u "com/example/heirring/heirring/SplitMix64"), (0, .methodref 28 31), (0, .nameAndType 5 32), (0, u "(J)V"), (0, .methodref 28 34), (0, .nameAndType 35 36), (0, u "nextLong"), (0, u "()J"), (0, .long 11400714819323198485), (1, .methodref 10 40), (0, .nameAndType 41 14), (0, u "unmix"), (2, u "law"), (0, u "(J)Z")] 3

def k1m0 : Method := { name := "<init>", desc := "()V", sig := { parameters := [], returnType := none }, accessFlags := 2, code := none }
def k1c1 : Code := { maxStack := 8, maxLocals := 4, code := method_2_code, exceptionTable := #[], attributes := #[] }
def k1m1 : Method := { name := "inverse", desc := "(J)J", sig := { parameters := [.long], returnType := some .long }, accessFlags := 10, code := some k1c1 }
def k1c2 : Code := { maxStack := 5, maxLocals := 2, code := method_3_code, exceptionTable := #[], attributes := #[] }
def k1m2 : Method := { name := "unxor31", desc := "(J)J", sig := { parameters := [.long], returnType := some .long }, accessFlags := 10, code := some k1c2 }
def k1c3 : Code := { maxStack := 5, maxLocals := 2, code := method_4_code, exceptionTable := #[], attributes := #[] }
def k1m3 : Method := { name := "unxor27", desc := "(J)J", sig := { parameters := [.long], returnType := some .long }, accessFlags := 10, code := some k1c3 }
def k1c4 : Code := { maxStack := 5, maxLocals := 2, code := method_5_code, exceptionTable := #[], attributes := #[] }
def k1m4 : Method := { name := "unxor30", desc := "(J)J", sig := { parameters := [.long], returnType := some .long }, accessFlags := 10, code := some k1c4 }
def k1c5 : Code := { maxStack := 4, maxLocals := 4, code := method_6_code, exceptionTable := #[], attributes := #[] }
def k1m5 : Method := { name := "unmix", desc := "(J)J", sig := { parameters := [.long], returnType := some .long }, accessFlags := 10, code := some k1c5 }
def k1c6 : Code := { maxStack := 6, maxLocals := 9, code := code, exceptionTable := #[], attributes := #[] }
def k1m6 : Method := { name := "law", desc := "(J)Z", sig := { parameters := [.long], returnType := some .boolean }, accessFlags := 9, code := some k1c6 }
/-- com/example/heirring/heirring/SplitMix64NextLongPinLaw -/
def k1 : Class := { plain "com/example/heirring/heirring/SplitMix64NextLongPinLaw" (some 0) with
  accessFlags := 49
  interfaces := #[]
  cf := some (fileOf pool1 10 #[] #[{ accessFlags := 2, nameIndex := 5, descriptorIndex := 6, attributes := #[] }, { accessFlags := 10, nameIndex := 19, descriptorIndex := 14, attributes := #[] }, { accessFlags := 10, nameIndex := 13, descriptorIndex := 14, attributes := #[] }, { accessFlags := 10, nameIndex := 22, descriptorIndex := 14, attributes := #[] }, { accessFlags := 10, nameIndex := 27, descriptorIndex := 14, attributes := #[] }, { accessFlags := 10, nameIndex := 41, descriptorIndex := 14, attributes := #[] }, { accessFlags := 9, nameIndex := 44, descriptorIndex := 45, attributes := #[] }] 49 2 #[] #[])
  fields := #[]
  methods := #[k1m0, k1m1, k1m2, k1m3, k1m4, k1m5, k1m6]
  instanceTypes := #[]
  staticTypes := #[]
  resolved := Array.replicate 49 none
  statics := none }

def pool2 : Array CpInfo := pool [(1, .methodref 2 3), (0, .class_ 4), (0, .nameAndType 5 6), (0, u "java/lang/Object"), (0, u "<init>"), (0, u "()V"), (0, .fieldref 8 9), (0, .class_ 10), (0, .nameAndType 11 12), (0, u "com/example/heirring/heirring/SplitMix64"), (0, u "state"), (0, u "J"), (0, .long 11400714819323198485), (1, .long 13787848793156543929), (1, .long 10723151780598845931), (16, u "nextLong"), (0, u "()J"), (0, u "(J)V")] 22

def k2c0 : Code := { maxStack := 3, maxLocals := 3, code := prog_58_method_1_code, exceptionTable := #[], attributes := #[] }
def k2m0 : Method := { name := "<init>", desc := "(J)V", sig := { parameters := [.long], returnType := none }, accessFlags := 1, code := some k2c0 }
def k2c1 : Code := { maxStack := 5, maxLocals := 3, code := prog_58_method_2_code, exceptionTable := #[], attributes := #[] }
def k2m1 : Method := { name := "nextLong", desc := "()J", sig := { parameters := [], returnType := some .long }, accessFlags := 1, code := some k2c1 }
/-- com/example/heirring/heirring/SplitMix64 -/
def k2 : Class := { plain "com/example/heirring/heirring/SplitMix64" (some 0) with
  accessFlags := 49
  interfaces := #[]
  cf := some (fileOf pool2 8 #[] #[{ accessFlags := 1, nameIndex := 5, descriptorIndex := 36, attributes := #[] }, { accessFlags := 1, nameIndex := 34, descriptorIndex := 35, attributes := #[] }] 49 2 #[] #[{ accessFlags := 2, nameIndex := 11, descriptorIndex := 12, attributes := #[] }])
  fields := #[{ name := "state", type := .long, accessFlags := 2, slot := 0, constantValue := 0 }]
  methods := #[k2m0, k2m1]
  instanceTypes := #[.long]
  staticTypes := #[]
  resolved := Array.replicate 59 none
  statics := none }

def pool3 : Array CpInfo := pool [(1, u "java/lang/Cloneable"), (0, .class_ 1), (0, u "java/lang/Object"), (0, .class_ 3)] 3

/-- java/lang/Cloneable -/
def k3 : Class := { plain "java/lang/Cloneable" (some 0) with
  accessFlags := 1537
  interfaces := #[]
  cf := some (fileOf pool3 2 #[] #[] 1537 4 #[] #[])
  fields := #[]
  methods := #[]
  instanceTypes := #[]
  staticTypes := #[]
  resolved := Array.replicate 8 none
  statics := none }

def pool4 : Array CpInfo := pool [(1, u "java/io/Serializable"), (0, .class_ 1), (0, u "java/lang/Object"), (0, .class_ 3)] 3

/-- java/io/Serializable -/
def k4 : Class := { plain "java/io/Serializable" (some 0) with
  accessFlags := 1537
  interfaces := #[]
  cf := some (fileOf pool4 2 #[] #[] 1537 4 #[] #[])
  fields := #[]
  methods := #[]
  instanceTypes := #[]
  staticTypes := #[]
  resolved := Array.replicate 8 none
  statics := none }

/-- the primitive byte -/
def k5 : Class := { plain "byte" none with kind := .primitive 'B', accessFlags := 0x411 }
/-- [B -/
def k6 : Class := { plain "[B" (some 0) with kind := .array 5 .byte, interfaces := #[3, 4], accessFlags := 1041 }

/-- the primitive int -/
def k7 : Class := { plain "int" none with kind := .primitive 'I', accessFlags := 0x411 }
/-- [I -/
def k8 : Class := { plain "[I" (some 0) with kind := .array 7 .int, interfaces := #[3, 4], accessFlags := 1041 }

def heap : Heap := #[]
def classes : Array Class := #[k0, k1, k2, k3, k4, k5, k6, k7, k8]
def interned : List (Array UInt16 × Addr) := []
def slotsUsed : Nat := 0
def theMethod : MethodId := ⟨1, 6⟩
def args0 : Array Value := #[.long 5]
def aboutOver (below : List Frame) : State where
  vm := { classes := classes, interned := interned.toArray }
  heap := heap
  slotsUsed := slotsUsed
  threads := #[{ frames := .invoking theMethod args0 :: below }]
def below0 : List Frame := [.native { method := ⟨0, 0⟩, args := #[] }]
def about1 : State := aboutOver below0
def p0 : Program := .bare "" "" ""
def e0 : Env := launch0.env 0 0 0
theorem w_frames : about1.frames = Frame.invoking theMethod args0 :: below0 := rfl
set_option maxRecDepth 65536 in
theorem w_args : argsFit about1.vm theMethod args0 = true := by decide +kernel
set_option maxRecDepth 65536 in
theorem w_heap : heapFits about1 = true := by decide +kernel
set_option maxRecDepth 65536 in
theorem w_runnable : about1.curStatus? = some .runnable := by decide +kernel
set_option maxRecDepth 65536 in
theorem w_alone : about1.alone = true := by decide +kernel
set_option maxRecDepth 65536 in
theorem w_named : about1.methodNamed? x = some theMethod := by decide +kernel
set_option maxRecDepth 65536 in
theorem w_hears : about1.hears theMethod below0 = true := by decide +kernel
set_option maxRecDepth 65536 in
theorem w_ripe : about1.ripe theMethod args0 below0 = true := by decide +kernel
theorem w_running : about1.status = .running := rfl
set_option maxRecDepth 65536 in
theorem w_room : about1.hasRoom e0.platform room_1 = true :=
  launch0.hasRoom_least _ room_1 (by decide +kernel) (by decide +kernel) (by decide +kernel) (by decide +kernel) (by decide +kernel) (by decide +kernel)
theorem allAtoms_all (ts : List Jvm.Cond) (a : Array Jvm.Value) (st : Jvm.State) : (allAtoms ts).before a st = ts.all (fun c => c.before a st) := by
  induction ts with
  | nil => rfl
  | cons c t ih =>
    show (Jvm.Cond.and c (allAtoms t)).before a st = _
    rw [Jvm.Cond.before_and, ih, List.all_cons]
def words1 : List Jvm.Cond := Jvm.Cond.code x code maxLocals ret :: tables_1
/-- a 'code' word, met by the world's own term for the bytes: nothing is compared byte by byte -/
theorem code_word {y : MethodName} {bytes : ByteArray} {mx : Nat} {rt : Option FieldType} {a : Array Value} {s : State} {m : MethodId} {meth : Method} {c : Code} (h1 : s.methodNamed? y = some m) (h2 : s.vm.method? m = some meth) (h3 : meth.code = some c) (h4 : c.code = bytes)
    (h5 : (c.maxLocals == mx && c.exceptionTable.isEmpty && decide (c.maxStack ≤ mostOperands) && decide (meth.sig.returnType = rt) && !meth.locks && decide (parseMethodDescriptor y.desc = some meth.sig)) = true) : (Jvm.Cond.code y bytes mx rt).before a s = true := by
  simp only [Bool.and_eq_true, beq_iff_eq, Bool.not_eq_true', decide_eq_true_eq] at h5
  obtain ⟨⟨⟨⟨⟨g1, g2⟩, g3⟩, g4⟩, g5⟩, g6⟩ := h5
  simp [Cond.before, Cond.holds, Cond.value, h1, h2, h3, h4, g1, g2, g3, g4, g5, g6]
def isCode : Jvm.Cond → Bool
  | .code _ _ _ _ => true
  | _ => false
theorem all_split {L : List Jvm.Cond} {P : Jvm.Cond → Bool} (h1 : L.all (fun c => isCode c || P c) = true) (h2 : ∀ c ∈ L.filter isCode, P c = true) : L.all P = true := by
  refine List.all_eq_true.mpr fun c hc => ?_
  have h := List.all_eq_true.mp h1 c hc
  rcases Bool.eq_false_or_eq_true (isCode c) with hi | hi
  · exact h2 c (List.mem_filter.mpr ⟨hc, hi⟩)
  · simpa [hi] using h
set_option maxRecDepth 65536 in
theorem w_c0 : (Jvm.Cond.code x code maxLocals ret).before args0 about1 = true := code_word (m := ⟨1, 6⟩) (meth := k1m6) (c := k1c6) (by decide +kernel) rfl rfl rfl (by decide +kernel)
set_option maxRecDepth 65536 in
theorem w_c1 : (Jvm.Cond.code ({ cls := "com/example/heirring/heirring/SplitMix64", name := "<init>", desc := "(J)V" } : Jvm.MethodName) prog_58_method_1_code (3 : Nat) (Option.none : Option Jvm.ClassFile.FieldType)).before args0 about1 = true := code_word (m := ⟨2, 0⟩) (meth := k2m0) (c := k2c0) (by decide +kernel) rfl rfl rfl (by decide +kernel)
set_option maxRecDepth 65536 in
theorem w_c2 : (Jvm.Cond.code ({ cls := "java/lang/Object", name := "<init>", desc := "()V" } : Jvm.MethodName) object_method_1_code (1 : Nat) (Option.none : Option Jvm.ClassFile.FieldType)).before args0 about1 = true := code_word (m := ⟨0, 0⟩) (meth := k0m0) (c := k0c0) (by decide +kernel) rfl rfl rfl (by decide +kernel)
set_option maxRecDepth 65536 in
theorem w_c3 : (Jvm.Cond.code ({ cls := "com/example/heirring/heirring/SplitMix64", name := "nextLong", desc := "()J" } : Jvm.MethodName) prog_58_method_2_code (3 : Nat) (Option.some Jvm.ClassFile.FieldType.long)).before args0 about1 = true := code_word (m := ⟨2, 1⟩) (meth := k2m1) (c := k2c1) (by decide +kernel) rfl rfl rfl (by decide +kernel)
set_option maxRecDepth 65536 in
theorem w_c4 : (Jvm.Cond.code ({ cls := "com/example/heirring/heirring/SplitMix64NextLongPinLaw", name := "unmix", desc := "(J)J" } : Jvm.MethodName) method_6_code (4 : Nat) (Option.some Jvm.ClassFile.FieldType.long)).before args0 about1 = true := code_word (m := ⟨1, 5⟩) (meth := k1m5) (c := k1c5) (by decide +kernel) rfl rfl rfl (by decide +kernel)
set_option maxRecDepth 65536 in
theorem w_c5 : (Jvm.Cond.code ({ cls := "com/example/heirring/heirring/SplitMix64NextLongPinLaw", name := "unxor31", desc := "(J)J" } : Jvm.MethodName) method_3_code (2 : Nat) (Option.some Jvm.ClassFile.FieldType.long)).before args0 about1 = true := code_word (m := ⟨1, 2⟩) (meth := k1m2) (c := k1c2) (by decide +kernel) rfl rfl rfl (by decide +kernel)
set_option maxRecDepth 65536 in
theorem w_c6 : (Jvm.Cond.code ({ cls := "com/example/heirring/heirring/SplitMix64NextLongPinLaw", name := "inverse", desc := "(J)J" } : Jvm.MethodName) method_2_code (4 : Nat) (Option.some Jvm.ClassFile.FieldType.long)).before args0 about1 = true := code_word (m := ⟨1, 1⟩) (meth := k1m1) (c := k1c1) (by decide +kernel) rfl rfl rfl (by decide +kernel)
set_option maxRecDepth 65536 in
theorem w_c7 : (Jvm.Cond.code ({ cls := "com/example/heirring/heirring/SplitMix64NextLongPinLaw", name := "unxor27", desc := "(J)J" } : Jvm.MethodName) method_4_code (2 : Nat) (Option.some Jvm.ClassFile.FieldType.long)).before args0 about1 = true := code_word (m := ⟨1, 3⟩) (meth := k1m3) (c := k1c3) (by decide +kernel) rfl rfl rfl (by decide +kernel)
set_option maxRecDepth 65536 in
theorem w_c8 : (Jvm.Cond.code ({ cls := "com/example/heirring/heirring/SplitMix64NextLongPinLaw", name := "unxor30", desc := "(J)J" } : Jvm.MethodName) method_5_code (2 : Nat) (Option.some Jvm.ClassFile.FieldType.long)).before args0 about1 = true := code_word (m := ⟨1, 4⟩) (meth := k1m4) (c := k1c4) (by decide +kernel) rfl rfl rfl (by decide +kernel)
def codes1 : List Jvm.Cond := [Jvm.Cond.code x code maxLocals ret, Jvm.Cond.code ({ cls := "com/example/heirring/heirring/SplitMix64", name := "<init>", desc := "(J)V" } : Jvm.MethodName) prog_58_method_1_code (3 : Nat) (Option.none : Option Jvm.ClassFile.FieldType), Jvm.Cond.code ({ cls := "java/lang/Object", name := "<init>", desc := "()V" } : Jvm.MethodName) object_method_1_code (1 : Nat) (Option.none : Option Jvm.ClassFile.FieldType), Jvm.Cond.code ({ cls := "com/example/heirring/heirring/SplitMix64", name := "nextLong", desc := "()J" } : Jvm.MethodName) prog_58_method_2_code (3 : Nat) (Option.some Jvm.ClassFile.FieldType.long), Jvm.Cond.code ({ cls := "com/example/heirring/heirring/SplitMix64NextLongPinLaw", name := "unmix", desc := "(J)J" } : Jvm.MethodName) method_6_code (4 : Nat) (Option.some Jvm.ClassFile.FieldType.long), Jvm.Cond.code ({ cls := "com/example/heirring/heirring/SplitMix64NextLongPinLaw", name := "unxor31", desc := "(J)J" } : Jvm.MethodName) method_3_code (2 : Nat) (Option.some Jvm.ClassFile.FieldType.long), Jvm.Cond.code ({ cls := "com/example/heirring/heirring/SplitMix64NextLongPinLaw", name := "inverse", desc := "(J)J" } : Jvm.MethodName) method_2_code (4 : Nat) (Option.some Jvm.ClassFile.FieldType.long), Jvm.Cond.code ({ cls := "com/example/heirring/heirring/SplitMix64NextLongPinLaw", name := "unxor27", desc := "(J)J" } : Jvm.MethodName) method_4_code (2 : Nat) (Option.some Jvm.ClassFile.FieldType.long), Jvm.Cond.code ({ cls := "com/example/heirring/heirring/SplitMix64NextLongPinLaw", name := "unxor30", desc := "(J)J" } : Jvm.MethodName) method_5_code (2 : Nat) (Option.some Jvm.ClassFile.FieldType.long)]
set_option maxRecDepth 65536 in
theorem codes_eq : words1.filter isCode = codes1 := rfl
theorem w_codes : ∀ c ∈ words1.filter isCode, c.before args0 about1 = true := by
  rw [codes_eq]
  intro c hc
  simp only [codes1, List.mem_cons, List.not_mem_nil, or_false] at hc
  rcases hc with rfl | rfl | rfl | rfl | rfl | rfl | rfl | rfl | rfl
  · exact w_c0
  · exact w_c1
  · exact w_c2
  · exact w_c3
  · exact w_c4
  · exact w_c5
  · exact w_c6
  · exact w_c7
  · exact w_c8
set_option maxRecDepth 65536 in
theorem w_t1 : (words1.take 24).all (fun c => isCode c || c.before args0 about1) = true := by decide +kernel
set_option maxRecDepth 65536 in
theorem w_t2 : (words1.drop 24).all (fun c => isCode c || c.before args0 about1) = true := by decide +kernel
theorem w_tables : (allAtoms (Jvm.Cond.code x code maxLocals ret :: tables_1)).before args0 about1 = true := by
  rw [allAtoms_all]
  show words1.all (fun c => c.before args0 about1) = true
  refine all_split ?_ w_codes
  rw [← List.take_append_drop 24 words1, List.all_append, w_t1, w_t2]
  rfl
set_option maxRecDepth 65536 in
theorem w_case : (Jvm.Cond.and given_1 narrow_1).before args0 about1 = true := by decide +kernel
theorem w_applies : (headSpec (Jvm.Cond.code x code maxLocals ret :: tables_1) room_1).applies x e0.platform about1 = true :=
  (Spec.applies_iff w_frames).mpr ⟨w_running, w_runnable, w_alone, w_named, w_hears, w_ripe, w_room, w_tables⟩
theorem atStart : AtStart classFile x code maxLocals ret World_1 tables_1 room_1 Calls_1 rest_1 Pre_1 launch0 p0 e0 about1 theMethod args0 below0 :=
  ⟨lists_1, trivial, launch0.admits_env _ _ _, launch0.least_env, fairChoices_fair.cas, fairChoices_fair.clock, w_frames, w_args, w_heap, w_applies, trivial, trivial, w_case⟩
end start1
theorem witness_1 : WitnessClaimed_1 := ⟨start1.p0, start1.e0, start1.about1, start1.theMethod, start1.args0, start1.below0, start1.atStart⟩
end Jvm.Pilot.@@N@@
