import JvmDerived
import JvmDerived.Pilot.@@N@@Statement
import JvmDerived.Pilot.@@N@@Code
set_option linter.unusedVariables false
set_option linter.unusedSimpArgs false
namespace Jvm.Own
open Jvm Jvm.ClassFile Sem Op Lib Jvm.Free Jvm.Stand Jvm.LawKit Jvm.RoadKit
/-! ## A heap told by a list: each new object or array by its address and what its cell is -/
abbrev Des : Type := State → Cell → Prop
abbrev RL : Type := List (Addr × Des)
/-- an object of class C, its fields (name, descriptor, value), all declared in C -/
def Obj (C : String) (fs : List (String × String × Value)) : Des := fun Z c =>
  Exa Z (#[c] : Heap) 0 C ∧ (∀ (j : Nat) (x : String × String × Value), fs[j]? = some x → Fld Z (#[c] : Heap) 0 C x.1 x.2.1 x.2.2) ∧
  ∀ (i j : Nat) (x y : String × String × Value), i ≠ j → fs[i]? = some x → fs[j]? = some y → Jvm.RoadKit.slotOf Z C x.1 x.2.1 ≠ Jvm.RoadKit.slotOf Z C y.1 y.2.1
/-- an array of ty, all its values -/
def Ar (ty : FieldType) (vs : List Value) : Des := fun Z c => Z.isArrayOf c ty ∧ c.vm ≠ .unknown ∧ c.slots.toList = vs ∧ (∀ v ∈ vs, fits ty v = true) ∧ Exa Z (#[c] : Heap) 0 ("[" ++ ty.toString)
/-- every one of L lies in h, at or behind n0, no two at one place -/
def Rep (Z : State) (n0 : Nat) (h : Heap) (L : RL) : Prop := n0 ≤ h.size ∧ (L.map (·.1)).Nodup ∧ ∀ x ∈ L, n0 ≤ x.1 ∧ ∃ c : Cell, h[x.1]? = some c ∧ x.2 Z c
section Facts
variable {Z : State} {n0 : Nat} {h h' : Heap} {L : RL} {a : Addr} {c : Cell} {C n d : String} {v w : Value} {i j : Nat} {fs : List (String × String × Value)} {P P' : Des} {ty : FieldType} {vs : List Value}
theorem one_eq {c c' : Cell} (q : (#[c] : Heap)[0]? = some c') : c' = c := by simpa using q.symm
theorem fld_of (hc : h[a]? = some c) (F : Fld Z (#[c] : Heap) 0 C n d v) : Fld Z h a C n d v := by
  obtain ⟨cell, cf, k, i, f, h1, r⟩ := F
  cases one_eq h1
  exact ⟨_, cf, k, i, f, hc, r⟩
theorem fld_to (hc : h[a]? = some c) (F : Fld Z h a C n d v) : Fld Z (#[c] : Heap) 0 C n d v := by
  obtain ⟨cell, cf, k, i, f, h1, r⟩ := F
  cases hc.symm.trans h1
  exact ⟨_, cf, k, i, f, rfl, r⟩
theorem exa_of (hc : h[a]? = some c) (F : Exa Z (#[c] : Heap) 0 C) : Exa Z h a C := by
  obtain ⟨cell, k, h1, r⟩ := F
  cases one_eq h1
  exact ⟨_, k, hc, r⟩
theorem exa_to (hc : h[a]? = some c) (F : Exa Z h a C) : Exa Z (#[c] : Heap) 0 C := by
  obtain ⟨cell, k, h1, r⟩ := F
  cases hc.symm.trans h1
  exact ⟨_, k, rfl, r⟩
theorem Rep.nil (h : Heap) : Rep Z h.size h [] := ⟨Nat.le_refl _, List.nodup_nil, fun _ q => nomatch q⟩
theorem Rep.at (R : Rep Z n0 h L) (hi : L[i]? = some (a, P)) : n0 ≤ a ∧ ∃ c : Cell, h[a]? = some c ∧ P Z c := R.2.2 _ (List.mem_of_getElem? hi)
theorem Rep.ge (R : Rep Z n0 h L) (hi : L[i]? = some (a, P)) : n0 ≤ a := (R.at hi).1
theorem Rep.fld (R : Rep Z n0 h L) (hi : L[i]? = some (a, Obj C fs)) (hj : fs[j]? = some (n, d, v)) : Fld Z h a C n d v := by
  obtain ⟨-, c, hc, -, F, -⟩ := R.at hi
  exact fld_of hc (F j _ hj)
theorem Rep.exa (R : Rep Z n0 h L) (hi : L[i]? = some (a, Obj C fs)) : Exa Z h a C := by
  obtain ⟨-, c, hc, E, -⟩ := R.at hi
  exact exa_of hc E
theorem Rep.arr (R : Rep Z n0 h L) (hi : L[i]? = some (a, Ar ty vs)) : ∃ cl : Cell, Arr Z h a cl ty ∧ cl.slots.toList = vs := by
  obtain ⟨-, c, hc, A, B, V, -⟩ := R.at hi
  exact ⟨c, ⟨hc, A, B⟩, V⟩
theorem Rep.arr' (R : Rep Z n0 h L) (hi : L[i]? = some (a, Ar ty vs)) : ∃ cl : Cell, Arr Z h a cl ty ∧ cl.slots.toList = vs ∧ (∀ v ∈ vs, fits ty v = true) ∧ Exa Z h a ("[" ++ ty.toString) := by
  obtain ⟨-, c, hc, A, B, V, F, E⟩ := R.at hi
  exact ⟨c, ⟨hc, A, B⟩, V, F, exa_of hc E⟩
theorem wr_one {sl : Nat} (hc : h[a]? = some c) (W : Wr h h' a sl v) : Wr (#[c] : Heap) (#[c.setSlot sl v] : Heap) 0 sl v := by
  obtain ⟨cell, h1, h2, h3, -⟩ := W
  cases hc.symm.trans h1
  exact ⟨_, rfl, h2, h3, rfl⟩
theorem Rep.upd {sl : Nat} (R : Rep Z n0 h L) (hi : L[i]? = some (a, P)) (W : Wr h h' a sl v) (hP : ∀ c : Cell, h[a]? = some c → P Z c → P' Z (c.setSlot sl v)) : Rep Z n0 h' (L.set i (a, P')) := by
  have em : (L.set i (a, P')).map (·.1) = L.map (·.1) := by
    rw [List.map_set]
    apply List.ext_getElem?
    intro k
    rw [List.getElem?_set]
    split
    · rename_i e; subst e
      split
      · simp [hi]
      · rename_i e; simp only [List.length_map] at e; simp [List.getElem?_eq_none (Nat.le_of_not_lt e)]
    · rfl
  have il : i < L.length := (List.getElem?_eq_some_iff.mp hi).1
  refine ⟨by rw [W.size]; exact R.1, by rw [em]; exact R.2.1, fun x hx => ?_⟩
  obtain ⟨k, hk⟩ := List.mem_iff_getElem?.mp hx
  rw [List.getElem?_set] at hk
  split at hk
  · rename_i e; subst e
    cases hk
    obtain ⟨g, c, hc, p⟩ := R.at hi
    obtain ⟨c', e1, -, -, -, -, -, e7⟩ := wr_at W hc
    exact ⟨g, c', e1, by rw [(e7 rfl).1]; exact hP c hc p⟩
  · rename_i e
    obtain ⟨g, c, hc, p⟩ := R.2.2 x (List.mem_of_getElem? hk)
    have ne : x.1 ≠ a := fun q => by
      refine e ((List.getElem?_inj (l := L.map (·.1)) (by simpa using il) R.2.1).mp ?_)
      simp [hi, hk, q]
    obtain ⟨c', e1, -, -, -, e5, -⟩ := wr_at W hc
    exact ⟨g, c', e1, by rw [e5 ne]; exact p⟩
theorem Rep.put (R : Rep Z n0 h L) (hi : L[i]? = some (a, Obj C fs)) (hj : fs[j]? = some (n, d, w)) (W : Wr h h' a (Jvm.RoadKit.slotOf Z C n d) v) : Rep Z n0 h' (L.set i (a, Obj C (fs.set j (n, d, v)))) := by
  refine R.upd hi W fun c hc ⟨E, F, S⟩ => ?_
  have W1 := wr_one hc W
  have jl : j < fs.length := (List.getElem?_eq_some_iff.mp hj).1
  have key : ∀ (k : Nat) (x : String × String × Value), (fs.set j (n, d, v))[k]? = some x → ∃ y, fs[k]? = some y ∧ y.1 = x.1 ∧ y.2.1 = x.2.1 ∧ (k ≠ j → y = x) ∧ (k = j → x = (n, d, v)) := by
    intro k x hk
    rw [List.getElem?_set] at hk
    split at hk
    · rename_i e; subst e
      have hx := (Option.some.inj hk).symm
      exact ⟨(n, d, w), hj, by rw [hx], by rw [hx], fun q => absurd rfl q, fun _ => hx⟩
    · rename_i e
      exact ⟨x, hk, rfl, rfl, fun _ => rfl, fun q => absurd q.symm e⟩
  refine ⟨E.wr W1, fun k x hk => ?_, fun k k' x y ne hk hk' => ?_⟩
  · obtain ⟨y, y1, y2, y3, y4, y5⟩ := key k x hk
    by_cases e : k = j
    · subst e
      have hx := y5 rfl
      rw [hx]
      exact (F _ _ hj).same W1
    · have hx := y4 e
      subst hx
      have s : Jvm.RoadKit.slotOf Z C y.1 y.2.1 ≠ Jvm.RoadKit.slotOf Z C n d := S k j y (n, d, w) e y1 hj
      exact Fld.other W1 (F k y y1) (Or.inr s)
  · have kx := key k x hk
    have ky := key k' y hk'
    obtain ⟨x', x1, x2, x3, _⟩ := kx
    obtain ⟨y', y1, y2, y3, _⟩ := ky
    have := S k k' x' y' ne x1 y1
    rw [x2, x3, y2, y3] at this
    exact this
theorem Rep.sto {k : Nat} (R : Rep Z n0 h L) (hi : L[i]? = some (a, Ar ty vs)) (W : Wr h h' a k v) (hf : fits ty v = true) : Rep Z n0 h' (L.set i (a, Ar ty (vs.set k v))) := by
  refine R.upd hi W fun c hc ⟨A, B, V, F, E⟩ => ⟨A, B, ?_, fun x hx => ?_, E.wr (wr_one hc W)⟩
  · show (c.slots.setIfInBounds k v).toList = _
    rw [Array.toList_setIfInBounds, V]
  · rcases List.mem_or_eq_of_mem_set hx with q | q
    · exact F x q
    · rw [q]; exact hf
theorem Rep.add (R : Rep Z n0 h L) (E : Ext h h') (g : a = h.size) (hc : h'[a]? = some c) (p : P Z c) : Rep Z n0 h' ((a, P) :: L) := by
  refine ⟨Nat.le_trans R.1 E.1, ?_, fun x hx => ?_⟩
  · rw [List.map_cons, List.nodup_cons]
    refine ⟨fun q => ?_, R.2.1⟩
    obtain ⟨x, hx, e⟩ := List.mem_map.mp q
    obtain ⟨-, c, hc, -⟩ := R.2.2 x hx
    have := (Array.getElem?_eq_some_iff.mp hc).1
    exact absurd (e.trans g) (Nat.ne_of_lt this)
  · rcases List.mem_cons.mp hx with rfl | hx
    · exact ⟨g ▸ R.1, c, hc, p⟩
    · obtain ⟨q, c, hc, p⟩ := R.2.2 x hx
      exact ⟨q, c, E.2 _ _ hc, p⟩
theorem Rep.ext (R : Rep Z n0 h L) (E : Ext h h') : Rep Z n0 h' L := ⟨Nat.le_trans R.1 E.1, R.2.1, fun x hx => by
  obtain ⟨q, c, hc, p⟩ := R.2.2 x hx
  exact ⟨q, c, E.2 _ _ hc, p⟩⟩
theorem perm_front {α : Type} : ∀ (L : List α) (i : Nat) (x : α), L[i]? = some x → (x :: L.eraseIdx i).Perm L
  | [], _, _, q => nomatch q
  | y :: t, 0, x, q => by cases q; exact List.Perm.refl _
  | y :: t, i + 1, x, q => by
    have ih := perm_front t i x (by simpa using q)
    exact (List.Perm.swap y x (t.eraseIdx i)).trans (ih.cons y)
theorem Rep.front {x : Addr × Des} {L' : RL} (R : Rep Z n0 h L) (i : Nat) (hi : L[i]? = some x) (e : L.eraseIdx i = L') : Rep Z n0 h (x :: L') := by
  subst e
  have pm : (x :: L.eraseIdx i).Perm L := perm_front L i x hi
  exact ⟨R.1, (pm.map _).nodup_iff.mpr R.2.1, fun y hy => R.2.2 y (pm.mem_iff.mp hy)⟩
theorem Rep.tail {x : Addr × Des} (R : Rep Z n0 h (x :: L)) : Rep Z n0 h L := ⟨R.1, (List.nodup_cons.mp (by simpa using R.2.1)).2, fun y hy => R.2.2 y (List.mem_cons_of_mem _ hy)⟩
/-- what the sheet says of the fields of a new object, one by one -/
def LaidAll (Z : State) (a0 : Array Value) (C : String) : List (String × String × Value) → Prop
  | [] => True
  | x :: r => (Laid Z a0 C C x.1 x.2.1 ∧ ∃ ty, parseFieldDescriptor x.2.1 = some ty ∧ x.2.2 = defaultValue ty) ∧ LaidAll Z a0 C r
theorem LaidAll.mem {a0 : Array Value} : ∀ {fs : List (String × String × Value)}, LaidAll Z a0 C fs → ∀ x ∈ fs, Laid Z a0 C C x.1 x.2.1 ∧ ∃ ty, parseFieldDescriptor x.2.1 = some ty ∧ x.2.2 = defaultValue ty
  | [], _, _, hx => nomatch hx
  | y :: r, q, x, hx => (List.mem_cons.mp hx).elim (fun e => e ▸ q.1) (LaidAll.mem q.2 x)
theorem Rep.newO {a0 : Array Value} (R : Rep Z n0 h L) (E : Ext h h') (g : a = h.size) (A : Exa Z h' a C) (D : ∀ {O nm d : String} {ty : FieldType}, Laid Z a0 C O nm d → parseFieldDescriptor d = some ty → Fld Z h' a O nm d (defaultValue ty)) (hl : LaidAll Z a0 C fs) (hn : (fs.map (·.1)).Nodup) : Rep Z n0 h' ((a, Obj C fs) :: L) := by
  obtain ⟨c, k, hc, r⟩ := id A
  refine R.add E g hc ⟨exa_to hc A, fun j x hx => ?_, fun i j x y ne hx hy e => ?_⟩
  · obtain ⟨l, ty, p, q⟩ := hl.mem x (List.mem_of_getElem? hx)
    rw [q]; exact fld_to hc (D l p)
  · obtain ⟨l, ty, p, q⟩ := hl.mem x (List.mem_of_getElem? hx)
    obtain ⟨l', ty', p', q'⟩ := hl.mem y (List.mem_of_getElem? hy)
    refine slot_ne l l' (fun en => ne ?_) p p' e
    refine (List.getElem?_inj (l := fs.map (·.1)) (by simpa using (List.getElem?_eq_some_iff.mp hx).1) hn).mp ?_
    simp [hx, hy, en]
theorem Rep.newAr {z : Int32} {k : ClassId} (R : Rep Z n0 h L) (E : Ext h h') (g : a = h.size) (A : Arr Z h' a (newA k ty z) ty) (X : Exa Z h' a ("[" ++ ty.toString)) (hf : fits ty (defaultValue ty) = true) (hv : List.replicate z.toNatClampNeg (defaultValue ty) = vs) : Rep Z n0 h' ((a, Ar ty vs) :: L) := by
  refine R.add E g A.1 ⟨A.2.1, A.2.2, ?_, fun v hq => ?_, exa_to A.1 X⟩
  · rw [← hv]; simp [newA]
  · rw [← hv] at hq; rw [List.eq_of_mem_replicate hq]; exact hf
theorem in_of {cl : Cell} {q : Int32} (V : cl.slots.toList = vs) (hq : ¬ q < 0) (hv : q.toNatClampNeg < vs.length) : ¬ (q < 0 ∨ cl.slots.size ≤ q.toNatClampNeg) := by
  rintro (q1 | q1)
  · exact hq q1
  · rw [← V, Array.length_toList] at hv; omega
theorem at_of {cl : Cell} {k : Nat} (V : cl.slots.toList = vs) (hv : vs[k]? = some v) : cl.slots[k]? = some v := by
  rw [← hv, ← V, Array.getElem?_toList]
theorem lt_of {k : Nat} (hv : vs[k]? = some v) : k < vs.length := (List.getElem?_eq_some_iff.mp hv).1
end Facts
/-! ## One law a step -/
section Steps
variable {p : Program} {l : Launch} {e : Env} {R : Room} {s : State} {m : MethodId} {args : Array Value} {below : List Frame} {meth : Method} {c : Code} {T : State} {locs : List Loc} {cells slots : Nat} {Z : State} {a0 : Array Value} {h : Heap} {n0 : Nat} {L : RL}
theorem gGet (X : Stand p l e R s m args below meth c T locs cells slots) (hx : p.tables.exec = Jvm.exec) (hZ : Z.Warmed39 s.vm) {own C n d host : String} {index : Nat} (hown : s.vm.findClass own = some m.cls) (w : (Cond.fieldLink own index C n d).before a0 Z = true ∨ (Cond.fieldLinkNest own index C n d host).before a0 Z = true)
    (eT : T.heap = h) (Q : Rep Z n0 h L) (i j : Nat) {a : Addr} {fs : List (String × String × Value)} {v : Value} (hi : L[i]? = some (a, Obj C fs)) (hj : fs[j]? = some (n, d, v)) {g : JFrame} (hg : g.method = m) {rest : List Value} (hs : g.stack = .ref a :: rest) (hd : decode c.code g.pc = .ok (.getfield index, 3)) :
    ∃ T', Stand p l e R s m args below meth c T' locs cells slots ∧ T'.heap = h ∧ ∀ target, Steps p.tables e below (T'.setTop { g with pc := g.pc + 3, stack := v :: rest }) target → Steps p.tables e below (T.setTop g) target :=
  getF X hx hZ hown w Via.refl eT (Q.fld hi hj) hg hs hd
theorem gPut (X : Stand p l e R s m args below meth c T locs cells slots) (hx : p.tables.exec = Jvm.exec) (hZ : Z.Warmed39 s.vm) {own C n d host : String} {index kk : Nat} {ty : FieldType} (hown : s.vm.findClass own = some m.cls) (w : (Cond.fieldLink own index C n d).before a0 Z = true ∨ (Cond.fieldLinkNest own index C n d host).before a0 Z = true)
    (eT : T.heap = h) (N : Fr n0 locs) (Q : Rep Z n0 h L) (i j : Nat) {a : Addr} {fs : List (String × String × Value)} {v old : Value} (hi : L[i]? = some (a, Obj C fs)) (hj : fs[j]? = some (n, d, old))
    (Lw : (Cond.lays C C n d).before a0 Z = true ∨ ((Cond.laysFinal C C n d).before a0 Z = true ∧ own = C ∧ meth.name = "<init>")) (wi : (Cond.instantiable C kk).before a0 Z = true)
    (hty : parseFieldDescriptor d = some ty) (hn : narrow ty v = v) (hf : fits ty v = true) {g : JFrame} (hg : g.method = m) {rest : List Value} (hs : g.stack = v :: .ref a :: rest) (hd : decode c.code g.pc = .ok (.putfield index, 3)) :
    ∃ T' h' locs', Stand p l e R s m args below meth c T' locs' cells slots ∧ T'.heap = h' ∧ Fr n0 locs' ∧ Rep Z n0 h' (L.set i (a, Obj C (fs.set j (n, d, v)))) ∧ ∀ target, Steps p.tables e below (T'.setTop { g with pc := g.pc + 3, stack := rest }) target → Steps p.tables e below (T.setTop g) target := by
  obtain ⟨T', h', X', e', W, st⟩ := putF X hx hZ hown w Via.refl eT (Q.fld hi hj) (Q.exa hi) Lw wi hty hn hf hg hs hd
  exact ⟨T', h', _, X', e', Fr.snoc X' N (Q.ge hi), Q.put hi hj W, st⟩
theorem gNew (X : Stand p l e R s m args below meth c T locs cells slots) (hx : p.tables.exec = Jvm.exec) (hZ : Z.Warmed39 s.vm) {own C : String} {index n : Nat} (hown : s.vm.findClass own = some m.cls) (w : (Cond.classLink own index C).before a0 Z = true) (wi : (Cond.instantiable C n).before a0 Z = true) (wz : (Cond.initialized C).before a0 Z = true)
    (eT : T.heap = h) (Q : Rep Z n0 h L) {fs : List (String × String × Value)} (hl : LaidAll Z a0 C fs) (hn : (fs.map (·.1)).Nodup) {g : JFrame} (hg : g.method = m) (hd : decode c.code g.pc = .ok (.new index, 3)) (hc : cells + 1 ≤ R.cells) (hs : slots + n ≤ R.slots) :
    ∃ T' h' a, Stand p l e R s m args below meth c T' locs (cells + 1) (slots + n) ∧ T'.heap = h' ∧ Rep Z n0 h' ((a, Obj C fs) :: L) ∧ ∀ target, Steps p.tables e below (T'.setTop { g with pc := g.pc + 3, stack := .ref a :: g.stack }) target → Steps p.tables e below (T.setTop g) target := by
  obtain ⟨T', h', X', e', E, A, D, -, st⟩ := newO X hx hZ hown w wi wz eT hg hd hc hs
  exact ⟨T', h', _, X', e', Q.newO E rfl A D hl hn, st⟩
theorem gNewP (X : Stand p l e R s m args below meth c T locs cells slots) (hx : p.tables.exec = Jvm.exec) (hZ : Z.Warmed39 s.vm) {aty : ArrayType} (w : (Cond.arrayClass (newarray.typeOf aty)).before a0 Z = true)
    (eT : T.heap = h) (Q : Rep Z n0 h L) {g : JFrame} (hg : g.method = m) (hd : decode c.code g.pc = .ok (.newarray aty, 2)) {n : Int32} {rest : List Value} (hs : g.stack = .int n :: rest) (hn : ¬ n < 0) (cap : Nat) (hcap : n.toNatClampNeg ≤ cap) (hb : cap * 8 ≤ 536870912) (hc : cells + 1 ≤ R.cells) (hl : slots + cap ≤ R.slots)
    {vs : List Value} (hv : List.replicate n.toNatClampNeg (defaultValue (newarray.typeOf aty)) = vs) :
    ∃ T' h' a, Stand p l e R s m args below meth c T' locs (cells + 1) (slots + cap) ∧ T'.heap = h' ∧ Rep Z n0 h' ((a, Ar (newarray.typeOf aty) vs) :: L) ∧ ∀ target, Steps p.tables e below (T'.setTop { g with pc := g.pc + 2, stack := .ref a :: rest }) target → Steps p.tables e below (T.setTop g) target := by
  obtain ⟨T', h', cA, X', e', E, A, EX, st⟩ := newPE X hx hZ w eT hg hd hs hn hcap hb hc hl rfl
  exact ⟨T', h', _, X', e', Q.newAr E rfl A EX (by cases aty <;> rfl) hv, st⟩
theorem gLen (X : Stand p l e R s m args below meth c T locs cells slots) (hx : p.tables.exec = Jvm.exec) (hZ : Z.Warmed39 s.vm) (eT : T.heap = h) (Q : Rep Z n0 h L) (i : Nat) {a : Addr} {ty : FieldType} {vs : List Value} (hi : L[i]? = some (a, Ar ty vs))
    {g : JFrame} (hg : g.method = m) {rest : List Value} (hs : g.stack = .ref a :: rest) (hd : decode c.code g.pc = .ok (.arraylength, 1)) {z : Int32} (hz : Int32.ofNat vs.length = z) :
    ∀ target, Steps p.tables e below (T.setTop { g with pc := g.pc + 1, stack := .int z :: rest }) target → Steps p.tables e below (T.setTop g) target := by
  obtain ⟨cl, A, V⟩ := Q.arr hi
  intro target k
  refine X.arraylength hx (cell := cl) (by rw [eT]; exact A.1) (State.isArrayOf_alike hZ.alike A.2.1) hg hs hd _ ?_
  have q : cl.slots.size.toInt32 = z := by rw [← hz, ← V, Array.length_toList]
  rw [q]; exact k
theorem gIald (X : Stand p l e R s m args below meth c T locs cells slots) (hx : p.tables.exec = Jvm.exec) (hZ : Z.Warmed39 s.vm) (eT : T.heap = h) (Q : Rep Z n0 h L) (i : Nat) {a : Addr} {vs : List Value} (hi : L[i]? = some (a, Ar .int vs))
    {j : Int32} {v : Value} (hj : ¬ j < 0) (hv : vs[j.toNatClampNeg]? = some v) {g : JFrame} (hg : g.method = m) {rest : List Value} (hs : g.stack = .int j :: .ref a :: rest) (hd : decode c.code g.pc = .ok (.iaload, 1)) :
    ∀ target, Steps p.tables e below (T.setTop { g with pc := g.pc + 1, stack := v :: rest }) target → Steps p.tables e below (T.setTop g) target := by
  obtain ⟨cl, A, V⟩ := Q.arr hi
  intro target k
  exact X.iaload hx (by rw [eT]; exact A.1) (State.isArrayOf_alike hZ.alike A.2.1) A.2.2 (in_of V hj (lt_of hv)) (at_of V hv) hg hs hd _ k
theorem gLald (X : Stand p l e R s m args below meth c T locs cells slots) (hx : p.tables.exec = Jvm.exec) (hZ : Z.Warmed39 s.vm) (eT : T.heap = h) (Q : Rep Z n0 h L) (i : Nat) {a : Addr} {vs : List Value} (hi : L[i]? = some (a, Ar .long vs))
    {j : Int32} {v : Value} (hj : ¬ j < 0) (hv : vs[j.toNatClampNeg]? = some v) {g : JFrame} (hg : g.method = m) {rest : List Value} (hs : g.stack = .int j :: .ref a :: rest) (hd : decode c.code g.pc = .ok (.laload, 1)) :
    ∀ target, Steps p.tables e below (T.setTop { g with pc := g.pc + 1, stack := v :: rest }) target → Steps p.tables e below (T.setTop g) target := by
  obtain ⟨cl, A, V⟩ := Q.arr hi
  intro target k
  exact X.laload hx (by rw [eT]; exact A.1) (State.isArrayOf_alike hZ.alike A.2.1) A.2.2 (in_of V hj (lt_of hv)) (at_of V hv) hg hs hd _ k
theorem gBald (X : Stand p l e R s m args below meth c T locs cells slots) (hx : p.tables.exec = Jvm.exec) (hZ : Z.Warmed39 s.vm) (eT : T.heap = h) (Q : Rep Z n0 h L) (i : Nat) {a : Addr} {vs : List Value} (hi : L[i]? = some (a, Ar .byte vs))
    {j : Int32} {v : Value} (hj : ¬ j < 0) (hv : vs[j.toNatClampNeg]? = some v) {g : JFrame} (hg : g.method = m) {rest : List Value} (hs : g.stack = .int j :: .ref a :: rest) (hd : decode c.code g.pc = .ok (.baload, 1)) :
    ∀ target, Steps p.tables e below (T.setTop { g with pc := g.pc + 1, stack := v :: rest }) target → Steps p.tables e below (T.setTop g) target := by
  obtain ⟨cl, A, V⟩ := Q.arr hi
  intro target k
  exact X.baloadBytes hx (by rw [eT]; exact A.1) (State.isArrayOf_alike hZ.alike A.2.1) A.2.2 (in_of V hj (lt_of hv)) (at_of V hv) hg hs hd _ k
theorem gIst (X : Stand p l e R s m args below meth c T locs cells slots) (hx : p.tables.exec = Jvm.exec) (hZ : Z.Warmed39 s.vm) (eT : T.heap = h) (N : Fr n0 locs) (Q : Rep Z n0 h L) (i : Nat) {a : Addr} {vs : List Value} (hi : L[i]? = some (a, Ar .int vs))
    {j x : Int32} (hj : ¬ j < 0) (k : Nat) (hk : j.toNatClampNeg = k) (hv : k < vs.length) {g : JFrame} (hg : g.method = m) {rest : List Value} (hs : g.stack = .int x :: .int j :: .ref a :: rest) (hd : decode c.code g.pc = .ok (.iastore, 1)) :
    ∃ T' h' locs', Stand p l e R s m args below meth c T' locs' cells slots ∧ T'.heap = h' ∧ Fr n0 locs' ∧ Rep Z n0 h' (L.set i (a, Ar .int (vs.set k (.int x)))) ∧ ∀ target, Steps p.tables e below (T'.setTop { g with pc := g.pc + 1, stack := rest }) target → Steps p.tables e below (T.setTop g) target := by
  obtain ⟨cl, A, V⟩ := Q.arr hi
  subst hk
  obtain ⟨T', h', X', e', W, st⟩ := stI X hx hZ eT A (j := j) (x := x) (in_of V hj hv) hg hs hd
  exact ⟨T', h', _, X', e', Fr.snoc X' N (Q.ge hi), Q.sto hi W rfl, st⟩
theorem gLst (X : Stand p l e R s m args below meth c T locs cells slots) (hx : p.tables.exec = Jvm.exec) (hZ : Z.Warmed39 s.vm) (eT : T.heap = h) (N : Fr n0 locs) (Q : Rep Z n0 h L) (i : Nat) {a : Addr} {vs : List Value} (hi : L[i]? = some (a, Ar .long vs))
    {j : Int32} {x : Int64} (hj : ¬ j < 0) (k : Nat) (hk : j.toNatClampNeg = k) (hv : k < vs.length) {g : JFrame} (hg : g.method = m) {rest : List Value} (hs : g.stack = .long x :: .int j :: .ref a :: rest) (hd : decode c.code g.pc = .ok (.lastore, 1)) :
    ∃ T' h' locs', Stand p l e R s m args below meth c T' locs' cells slots ∧ T'.heap = h' ∧ Fr n0 locs' ∧ Rep Z n0 h' (L.set i (a, Ar .long (vs.set k (.long x)))) ∧ ∀ target, Steps p.tables e below (T'.setTop { g with pc := g.pc + 1, stack := rest }) target → Steps p.tables e below (T.setTop g) target := by
  obtain ⟨cl, A, V⟩ := Q.arr hi
  subst hk
  obtain ⟨T', h', X', e', W, st⟩ := stJ X hx hZ eT A (j := j) (x := x) (in_of V hj hv) hg hs hd
  exact ⟨T', h', _, X', e', Fr.snoc X' N (Q.ge hi), Q.sto hi W rfl, st⟩
theorem gBst (X : Stand p l e R s m args below meth c T locs cells slots) (hx : p.tables.exec = Jvm.exec) (hZ : Z.Warmed39 s.vm) (eT : T.heap = h) (N : Fr n0 locs) (Q : Rep Z n0 h L) (i : Nat) {a : Addr} {vs : List Value} (hi : L[i]? = some (a, Ar .byte vs))
    {j x : Int32} (hj : ¬ j < 0) (k : Nat) (hk : j.toNatClampNeg = k) (hv : k < vs.length) {g : JFrame} (hg : g.method = m) {rest : List Value} (hs : g.stack = .int x :: .int j :: .ref a :: rest) (hd : decode c.code g.pc = .ok (.bastore, 1)) :
    ∃ T' h' locs', Stand p l e R s m args below meth c T' locs' cells slots ∧ T'.heap = h' ∧ Fr n0 locs' ∧ Rep Z n0 h' (L.set i (a, Ar .byte (vs.set k (.int x.toInt8.toInt32)))) ∧ ∀ target, Steps p.tables e below (T'.setTop { g with pc := g.pc + 1, stack := rest }) target → Steps p.tables e below (T.setTop g) target := by
  obtain ⟨cl, A, V⟩ := Q.arr hi
  subst hk
  obtain ⟨T', h', X', e', W, st⟩ := stB X hx hZ eT A (j := j) (x := x) (in_of V hj hv) hg hs hd
  exact ⟨T', h', _, X', e', Fr.snoc X' N (Q.ge hi), Q.sto hi W (fits_nar_byte x), st⟩
theorem gClone (X : Stand p l e R s m args below meth c T locs cells slots) (hx : p.tables.exec = Jvm.exec) (hZ : Z.Warmed39 s.vm) {own ad : String} {index : Nat} (hown : s.vm.findClass own = some m.cls)
    (w1 : (Cond.methodLink own index ⟨ad, "clone", "()Ljava/lang/Object;"⟩).before a0 Z = true) (w2 : (Cond.sameMethod ad "java/lang/Object" "clone" "()Ljava/lang/Object;").before a0 Z = true) (w3 : (Cond.native ⟨"java/lang/Object", "clone", "()Ljava/lang/Object;"⟩).before a0 Z = true)
    (w4 : (Cond.instanceMethod ⟨"java/lang/Object", "clone", "()Ljava/lang/Object;"⟩).before a0 Z = true) (w5 : (Cond.selects ad ⟨ad, "clone", "()Ljava/lang/Object;"⟩ ⟨"java/lang/Object", "clone", "()Ljava/lang/Object;"⟩).before a0 Z = true) (w6 : (Cond.castable ad "java/lang/Cloneable").before a0 Z = true)
    (eT : T.heap = h) (Q : Rep Z n0 h L) (i : Nat) {a : Addr} {ty : FieldType} {vs : List Value} (hi : L[i]? = some (a, Ar ty vs)) (had : "[" ++ ty.toString = ad) {g : JFrame} (hg : g.method = m) (hsize : g.locals.size = c.maxLocals) {rest : List Value} (hs : g.stack = .ref a :: rest) (hd : decode c.code g.pc = .ok (.invokevirtual index, 3))
    (hf : 1 ≤ R.frames) {W : Nat} (cap : Nat) (hW : 2 * g.monitorRoom + (rest.map fun v => v.category).sum ≤ W) (hl : W + 14 ≤ R.locals) (hcap : vs.length ≤ cap) (hc : cells + 1 ≤ R.cells) (hsl : slots + cap ≤ R.slots) :
    ∃ T' h' b, Stand p l e R s m args below meth c T' locs (cells + 1) (slots + cap) ∧ T'.heap = h' ∧ Rep Z n0 h' ((b, Ar ty vs) :: L) ∧ Exa Z h' b ad ∧
      ∀ target, Steps p.tables e below (T'.setTop { g with pc := g.pc + 3, stack := .ref b :: rest }) target → Steps p.tables e below (T.setTop g) target := by
  subst had
  obtain ⟨cl, A, V, F, E⟩ := Q.arr' hi
  have FC : FitC Z cl := fitC_of A fun k hk v hv => F v (by rw [← V]; exact Array.mem_toList_iff.mpr (Array.mem_of_getElem? hv))
  obtain ⟨T', h', X', e', ex, A', E', st⟩ := cloneA X hx hZ hown w1 w2 w3 w4 w5 w6 eT A E FC hg hsize hs hd hf hW hl (by rw [← V, Array.length_toList] at hcap; exact hcap) hc hsl
  exact ⟨T', h', _, X', e', Q.add ex rfl A'.1 ⟨A'.2.1, A'.2.2, V, F, exa_to A'.1 E'⟩, E', st⟩
theorem gCast (X : Stand p l e R s m args below meth c T locs cells slots) (hx : p.tables.exec = Jvm.exec) (hZ : Z.Warmed39 s.vm) {own K : String} {index : Nat} (hown : s.vm.findClass own = some m.cls) (w : (Cond.classLink own index K).before a0 Z = true) (eT : T.heap = h) {a : Addr} (E : Exa Z h a K)
    {g : JFrame} (hg : g.method = m) {rest : List Value} (hs : g.stack = .ref a :: rest) (hd : decode c.code g.pc = .ok (.checkcast index, 3)) : ∃ T', Stand p l e R s m args below meth c T' locs cells slots ∧ T'.heap = h ∧ ∀ target, Steps p.tables e below (T'.setTop { g with pc := g.pc + 3 }) target → Steps p.tables e below (T.setTop g) target :=
  castY X hx hZ hown w eT (Ins.self E) hg hs hd
theorem arv_of {a : Addr} {ty : FieldType} {vs : List Value} {dv : Value} {cl : Cell} (A : Arr Z h a cl ty) (V : cl.slots.toList = vs) (F : ∀ v ∈ vs, fits ty v = true) (hl : vs.length < 2 ^ 31) : Arv Z h a cl.cls ty (Int32.ofNat vs.length) vs dv := by
  have q : (Int32.ofNat vs.length).toNatClampNeg = vs.length := by
    rw [Int32.toNatClampNeg, Int32.toInt_ofNat_of_lt hl]; rfl
  have S : cl.slots.size = vs.length := by rw [← V, Array.length_toList]
  have G : ∀ k, k < cl.slots.size → cl.slots[k]? = some (vs.getD k dv) := fun k hk => by
    rw [← Array.getElem?_toList, V, List.getD_eq_getElem?_getD, List.getElem?_eq_getElem (by omega)]; rfl
  refine ⟨cl, A, rfl, by rw [q, S], ?_, G, fun k hk => ?_⟩
  · rw [Int32.lt_iff_toInt_lt, Int32.toInt_ofNat_of_lt hl, show (0 : Int32).toInt = 0 from rfl]; omega
  · rw [List.getD_eq_getElem?_getD, List.getElem?_eq_getElem (by omega)]
    exact F _ (List.getElem_mem _)
theorem Rep.kept {h' : Heap} {i : Nat} {b : Addr} {P P' : Des} {cb : Cell} (Q : Rep Z n0 h L) (hi : L[i]? = some (b, P)) (K : Keep h h' [b]) (hc : h'[b]? = some cb) (p : P' Z cb) : Rep Z n0 h' (L.set i (b, P')) := by
  have em : (L.set i (b, P')).map (·.1) = L.map (·.1) := by
    rw [List.map_set]
    apply List.ext_getElem?
    intro k
    rw [List.getElem?_set]
    split
    · rename_i e; subst e
      split
      · simp [hi]
      · rename_i e; simp only [List.length_map] at e; simp [List.getElem?_eq_none (Nat.le_of_not_lt e)]
    · rfl
  have il : i < L.length := (List.getElem?_eq_some_iff.mp hi).1
  refine ⟨Nat.le_trans Q.1 K.1, by rw [em]; exact Q.2.1, fun x hx => ?_⟩
  obtain ⟨k, hk⟩ := List.mem_iff_getElem?.mp hx
  rw [List.getElem?_set] at hk
  split at hk
  · rename_i e; subst e
    cases hk
    exact ⟨Q.ge hi, cb, hc, p⟩
  · rename_i e
    obtain ⟨g, c, hc', p'⟩ := Q.2.2 x (List.mem_of_getElem? hk)
    have ne : x.1 ≠ b := fun q => by
      refine e ((List.getElem?_inj (l := L.map (·.1)) (by simpa using il) Q.2.1).mp ?_)
      simp [hi, hk, q]
    exact ⟨g, c, K.2.1 _ _ hc' (by simpa using ne), p'⟩
theorem gCopy (X : Stand p l e R s m args below meth c T locs cells slots) (hx : p.tables.exec = Jvm.exec) (hZ : Z.Warmed39 s.vm) {own : String} {index : Nat} (hown : s.vm.findClass own = some m.cls)
    (w1 : (Cond.methodLink own index Jvm.Stand.acN).before a0 Z = true) (w2 : (Cond.native Jvm.Stand.acN).before a0 Z = true) (w3 : (Cond.static Jvm.Stand.acN).before a0 Z = true) (w4 : (Cond.initialized "java/lang/System").before a0 Z = true) (eT : T.heap = h) (N : Fr n0 locs) (Q : Rep Z n0 h L) (i j : Nat)
    {a b : Addr} {ty : FieldType} {vs vd : List Value} (hi : L[i]? = some (a, Ar ty vs)) (hj : L[j]? = some (b, Ar ty vd)) (hty : refKind ty = false) (l1 : vs.length < 2 ^ 31) (l2 : vd.length < 2 ^ 31) {sp dp nn : Int32} (h1 : ¬ sp < 0) (h2 : ¬ dp < 0) (h3 : ¬ nn < 0) (si di ni : Nat) (es : sp.toNatClampNeg = si) (ed : dp.toNatClampNeg = di) (en : nn.toNatClampNeg = ni)
    (h4 : si + ni ≤ vs.length) (h5 : di + ni ≤ vd.length)
    {g : JFrame} (hg : g.method = m) (hsize : g.locals.size = c.maxLocals) {rest : List Value} (hs : g.stack = .int nn :: .int dp :: .ref b :: .int sp :: .ref a :: rest) (hd : decode c.code g.pc = .ok (.invokestatic index, 3))
    (hf : 1 ≤ R.frames) {W : Nat} (hW : 2 * g.monitorRoom + (rest.map fun v => v.category).sum ≤ W) (hlo : W + (nativeFrameWords "java/lang/System" "arraycopy" 5 + 11) ≤ R.locals) :
    ∃ T' h' L', Stand p l e R s m args below meth c T' L' cells slots ∧ T'.heap = h' ∧ Fr n0 L' ∧ Rep Z n0 h' (L.set j (b, Ar ty (vd.take di ++ (vs.drop si).take ni ++ vd.drop (di + ni)))) ∧
      ∀ target, Steps p.tables e below (T'.setTop { g with pc := g.pc + 3, stack := rest }) target → Steps p.tables e below (T.setTop g) target := by
  subst es ed en
  obtain ⟨ca, A, Va, Fa, Ea⟩ := Q.arr' hi
  obtain ⟨cb, B, Vb, Fb, Eb⟩ := Q.arr' hj
  have za : (Int32.ofNat vs.length).toNatClampNeg = vs.length := by rw [Int32.toNatClampNeg, Int32.toInt_ofNat_of_lt l1]; rfl
  have zb : (Int32.ofNat vd.length).toNatClampNeg = vd.length := by rw [Int32.toNatClampNeg, Int32.toInt_ofNat_of_lt l2]; rfl
  have hus : (vs.drop sp.toNatClampNeg).take nn.toNatClampNeg = (List.range nn.toNatClampNeg).map fun k => vs.getD (sp.toNatClampNeg + k) .null := by
    apply List.ext_getElem?
    intro k
    rw [List.getElem?_take, List.getElem?_drop, List.getElem?_map]
    by_cases q : k < nn.toNatClampNeg
    · rw [if_pos q, List.getElem?_range q, List.getElem?_eq_getElem (by omega)]
      simp [List.getD_eq_getElem?_getD, List.getElem?_eq_getElem (show sp.toNatClampNeg + k < vs.length by omega)]
    · rw [if_neg q, List.getElem?_eq_none (by simpa using q)]; rfl
  obtain ⟨T', h', L', X', e', N', K, ⟨c', A', -, S', -, H', G'⟩, st⟩ := cpA X hx hZ hown w1 w2 w3 w4 eT (arv_of (dv := .null) A Va Fa l1) (arv_of (dv := .null) B Vb Fb l2) (Or.inl ⟨rfl, hty⟩) h1 h2 h3 (by rw [za]; exact h4) (by rw [zb]; exact h5) hus h5 N (Q.ge hj) hg hsize hs hd hf hW hlo
  refine ⟨T', h', L', X', e', N', Q.kept hj K A'.1 ⟨A'.2.1, A'.2.2, ?_, fun v hv => ?_, exa_to A'.1 (Eb.keep K)⟩, st⟩
  · apply List.ext_getElem?
    intro k
    rw [Array.getElem?_toList]
    by_cases q : k < c'.slots.size
    · rw [H' k q, List.getD_eq_getElem?_getD, List.getElem?_eq_getElem]
      · rfl
      · rw [S', zb] at q; simp only [List.length_append, List.length_take, List.length_drop]; omega
    · rw [Array.getElem?_eq_none (by omega), List.getElem?_eq_none]
      rw [S', zb] at q; simp only [List.length_append, List.length_take, List.length_drop]; omega
  · rcases List.mem_append.mp hv with hv | hv
    · rcases List.mem_append.mp hv with hv | hv
      · exact Fb v (List.mem_of_mem_take hv)
      · exact Fa v (List.mem_of_mem_drop (List.mem_of_mem_take hv))
    · exact Fb v (List.mem_of_mem_drop hv)
theorem gMono (X : Stand p l e R s m args below meth c T locs cells slots) {cells' slots' : Nat} (h1 : cells ≤ cells') (h2 : slots ≤ slots') : Stand p l e R s m args below meth c T locs cells' slots' := { X with same := X.same.mono h1 h2 }
theorem retI (X : Stand p l e R s m args below meth c T locs cells slots) (hx : p.tables.exec = Jvm.exec) {pc : Nat} {Ls : Array Slot} {z : Int32} {rest : List Value} (hret : meth.sig.returnType = some .int) (hd : decode c.code pc = .ok (.ireturn, 1)) {fs : List Frame}
    (hl : ∀ (f : JFrame) (acts : List Action), f.method = m → f.locked = none → f.entered = [] → (doReturn e (T.setTop f) acts (some (.int z))).1 = T.setFrames fs) : Steps p.tables e below (T.setTop (mkF m pc Ls (.int z :: rest))) (T.setFrames fs) := by
  have hm' : T.vm.method? m = some meth := X.method'
  have hn : narrow .int (.int z) = .int z := rfl
  show Steps p.tables e below (T.setTop { method := m, pc := pc, locals := Ls, stack := _ :: rest, locked := none }) _
  jvm_step X.here [X.here.top, hx, hd, hm', hret, hn]
  first | (intro acts; rw [hl _ acts rfl rfl rfl]) | rw [hl _ _ rfl rfl rfl]
  exact Steps.refl _
theorem retL (X : Stand p l e R s m args below meth c T locs cells slots) (hx : p.tables.exec = Jvm.exec) {pc : Nat} {Ls : Array Slot} {z : Int64} {rest : List Value} (hret : meth.sig.returnType = some .long) (hd : decode c.code pc = .ok (.lreturn, 1)) {fs : List Frame}
    (hl : ∀ (f : JFrame) (acts : List Action), f.method = m → f.locked = none → f.entered = [] → (doReturn e (T.setTop f) acts (some (.long z))).1 = T.setFrames fs) : Steps p.tables e below (T.setTop (mkF m pc Ls (.long z :: rest))) (T.setFrames fs) := by
  have hm' : T.vm.method? m = some meth := X.method'
  have hn : narrow .long (.long z) = .long z := rfl
  show Steps p.tables e below (T.setTop { method := m, pc := pc, locals := Ls, stack := _ :: rest, locked := none }) _
  jvm_step X.here [X.here.top, hx, hd, hm', hret, hn]
  first | (intro acts; rw [hl _ acts rfl rfl rfl]) | rw [hl _ _ rfl rfl rfl]
  exact Steps.refl _
theorem retA (X : Stand p l e R s m args below meth c T locs cells slots) (hx : p.tables.exec = Jvm.exec) {pc : Nat} {Ls : Array Slot} {a : Addr} {rest : List Value} {t : FieldType} (ht : t.isReference = true) (hret : meth.sig.returnType = some t) (hd : decode c.code pc = .ok (.areturn, 1)) {fs : List Frame}
    (hl : ∀ (f : JFrame) (acts : List Action), f.method = m → f.locked = none → f.entered = [] → (doReturn e (T.setTop f) acts (some (.ref a))).1 = T.setFrames fs) : Steps p.tables e below (T.setTop (mkF m pc Ls (.ref a :: rest))) (T.setFrames fs) := by
  have hm' : T.vm.method? m = some meth := X.method'
  show Steps p.tables e below (T.setTop { method := m, pc := pc, locals := Ls, stack := _ :: rest, locked := none }) _
  jvm_step X.here [X.here.top, hx, hd, hm', hret, ht, Value.isRef]
  first | (intro acts; rw [hl _ acts rfl rfl rfl]) | rw [hl _ _ rfl rfl rfl]
  exact Steps.refl _
end Steps
abbrev iushr (x y : Int32) : Int32 := (x.toUInt32 >>> (y &&& 31).toUInt32).toInt32
abbrev lushr (x : Int64) (y : Int32) : Int64 := (x.toUInt64 >>> (y &&& 0x3f).toInt64.toUInt64).toInt64
abbrev ishl (x y : Int32) : Int32 := x <<< (y &&& 31)
abbrev ishr (x y : Int32) : Int32 := x >>> (y &&& 31)
abbrev lshl (x : Int64) (y : Int32) : Int64 := x <<< (y &&& 0x3f).toInt64
abbrev lshr (x : Int64) (y : Int32) : Int64 := x >>> (y &&& 0x3f).toInt64
/-- a boolean told by a condition, as an int of the machine's -/
abbrev bz (P : Prop) [Decidable P] : Int32 := if P then 1 else 0
theorem nar_b (P : Prop) [Decidable P] : nar .boolean (bz P) = bz P := by unfold bz; split <;> rfl
theorem bz_t {P : Prop} [Decidable P] (h : P) : bz P = 1 := if_pos h
theorem bz_congr {P Q : Prop} [Decidable P] [Decidable Q] (h : P ↔ Q) : bz P = bz Q := by
  by_cases q : Q
  · rw [bz, bz, if_pos q, if_pos (h.mpr q)]
  · rw [bz, bz, if_neg q, if_neg (fun p => q (h.mp p))]
theorem bz_one {P : Prop} [Decidable P] (h : P ↔ True) : bz P = 1 := if_pos (h.mpr trivial)
theorem bz_zero {P : Prop} [Decidable P] (h : P ↔ False) : bz P = 0 := if_neg h.mp
theorem ow_bne_t {P : Prop} [Decidable P] (h : P) : ifCond.holds .ne (bz P) = true := by rw [if0, bz_t h]; decide
theorem ow_bne_f {P : Prop} [Decidable P] (h : ¬ P) : ifCond.holds .ne (bz P) = false := by rw [if0, bz, if_neg h]; decide
theorem ow_beq_t {P : Prop} [Decidable P] (h : ¬ P) : ifCond.holds .eq (bz P) = true := by rw [if0, bz, if_neg h]; decide
theorem ow_beq_f {P : Prop} [Decidable P] (h : P) : ifCond.holds .eq (bz P) = false := by rw [if0, bz_t h]; decide
theorem bz_f {P : Prop} [Decidable P] (h : ¬ P) : bz P = 0 := if_neg h
theorem ite_or_t {α : Type} {c d : Prop} [Decidable c] [Decidable d] {a y : α} (h : c) : (if c ∨ d then a else y) = a := if_pos (Or.inl h)
theorem ite_or_f {α : Type} {c d : Prop} [Decidable c] [Decidable d] {a y : α} (h : ¬ c) : (if c ∨ d then a else y) = (if d then a else y) := by
  by_cases q : d
  · rw [if_pos q, if_pos (Or.inr q)]
  · rw [if_neg q, if_neg (fun z => z.elim h q)]
theorem ite_and_t {α : Type} {c d : Prop} [Decidable c] [Decidable d] {a y : α} (h : c) : (if c ∧ d then a else y) = (if d then a else y) := by
  by_cases q : d
  · rw [if_pos q, if_pos ⟨h, q⟩]
  · rw [if_neg q, if_neg (fun z => q z.2)]
theorem ite_and_f {α : Type} {c d : Prop} [Decidable c] [Decidable d] {a y : α} (h : ¬ c) : (if c ∧ d then a else y) = y := if_neg fun q => h q.1
theorem ow_fin {P : Prop} [Decidable P] (h : P) : some (Value.int (nar .boolean (bz P))) = some (Value.int (1 : Int32)) := by rw [bz_t h]; rfl
theorem ow_fin' {P : Prop} [Decidable P] (h : P) : some (Value.int (bz P)) = some (Value.int (1 : Int32)) := by rw [bz_t h]
end Jvm.Own
namespace Jvm.Own
open Jvm Jvm.RoadKit
/-! ## Longs and ints as natural numbers -/
def nj (x : Int64) : Nat := x.toBitVec.toNat
def ni (x : Int32) : Nat := x.toBitVec.toNat
theorem nj_lt (x : Int64) : nj x < 18446744073709551616 := x.toBitVec.isLt
theorem ni_lt (x : Int32) : ni x < 4294967296 := x.toBitVec.isLt
theorem nj_inj {x y : Int64} (h : nj x = nj y) : x = y := Int64.toBitVec_inj.mp (BitVec.eq_of_toNat_eq h)
theorem ni_inj {x y : Int32} (h : ni x = ni y) : x = y := Int32.toBitVec_inj.mp (BitVec.eq_of_toNat_eq h)
theorem nj_int (x : Int64) : x.toInt = if nj x < 9223372036854775808 then (nj x : Int) else (nj x : Int) - 18446744073709551616 := by
  show x.toBitVec.toInt = _
  rw [BitVec.toInt_eq_toNat_cond]
  show (if 2 * nj x < 2 ^ 64 then (nj x : Int) else (nj x : Int) - (2 ^ 64 : Nat)) = _
  split <;> split <;> omega
theorem ni_int (x : Int32) : x.toInt = if ni x < 2147483648 then (ni x : Int) else (ni x : Int) - 4294967296 := by
  show x.toBitVec.toInt = _
  rw [BitVec.toInt_eq_toNat_cond]
  show (if 2 * ni x < 2 ^ 32 then (ni x : Int) else (ni x : Int) - (2 ^ 32 : Nat)) = _
  split <;> split <;> omega
theorem nj_and (x y : Int64) : nj (x &&& y) = nj x &&& nj y := by show (x.toBitVec &&& y.toBitVec).toNat = _; rw [BitVec.toNat_and]; rfl
theorem nj_or (x y : Int64) : nj (x ||| y) = nj x ||| nj y := by show (x.toBitVec ||| y.toBitVec).toNat = _; rw [BitVec.toNat_or]; rfl
theorem nj_xor (x y : Int64) : nj (x ^^^ y) = nj x ^^^ nj y := by show (x.toBitVec ^^^ y.toBitVec).toNat = _; rw [BitVec.toNat_xor]; rfl
theorem nj_add (x y : Int64) : nj (x + y) = (nj x + nj y) % 18446744073709551616 := by show (x.toBitVec + y.toBitVec).toNat = _; rw [BitVec.toNat_add]; rfl
theorem nj_sub (x y : Int64) : nj (x - y) = (18446744073709551616 - nj y + nj x) % 18446744073709551616 := by show (x.toBitVec - y.toBitVec).toNat = _; rw [BitVec.toNat_sub]; rfl
theorem ni_and (x y : Int32) : ni (x &&& y) = ni x &&& ni y := by show (x.toBitVec &&& y.toBitVec).toNat = _; rw [BitVec.toNat_and]; rfl
theorem nj_lushr (x : Int64) (q : Int32) (k : Nat) (hk : ni q % 64 = k) : nj (lushr x q) = nj x / 2 ^ k := by
  show (x.toBitVec >>> ((q &&& 0x3f).toInt64.toBitVec % 64)).toNat = x.toBitVec.toNat / 2 ^ k
  have h5 := (sm64 q k hk).2
  rw [BitVec.ushiftRight_eq', BitVec.toNat_ushiftRight, Nat.shiftRight_eq_div_pow, BitVec.toNat_umod, (sm64 q k hk).1, BitVec.toNat_ofNat]; congr 2; show k % 2 ^ 64 % 64 = k; omega
theorem nj_lshl (x : Int64) (q : Int32) (k : Nat) (hk : ni q % 64 = k) : nj (lshl x q) = nj x * 2 ^ k % 18446744073709551616 := by
  show (x.toBitVec <<< ((q &&& 0x3f).toInt64.toBitVec.smod 64)).toNat = _
  rw [BitVec.shiftLeft_eq', (sm64 q k hk).1, smod64 k (sm64 q k hk).2, BitVec.toNat_shiftLeft, Nat.shiftLeft_eq]; rfl
theorem ni_l2i (x : Int64) : ni x.toInt32 = nj x % 4294967296 := by
  show (x.toBitVec.signExtend 32).toNat = _
  rw [BitVec.signExtend_eq_setWidth_of_le _ (by decide), BitVec.toNat_setWidth]; rfl
theorem nj_i2l (x : Int32) (h : ni x < 2147483648) : nj x.toInt64 = ni x := by
  have e := nj_int x.toInt64
  rw [Int32.toInt_toInt64, ni_int, if_pos h] at e
  have := nj_lt x.toInt64
  split at e <;> omega
theorem mask_n (x k : Nat) : x &&& (2 ^ k - 1) = x % 2 ^ k := Nat.and_two_pow_sub_one_eq_mod x k
theorem lt64 {x y : Int64} : x < y ↔ x.toInt < y.toInt := Int64.lt_iff_toInt_lt
theorem lt32 {x y : Int32} : x < y ↔ x.toInt < y.toInt := Int32.lt_iff_toInt_lt
/-- the byte at place k of a long, as javac reads it into an int -/
theorem byteI (w : Int64) (q : Int32) (k : Nat) (hk : ni q % 64 = k) : ((lushr w q).toInt32 &&& (255 : Int32)) = Int32.ofNat (nj w / 2 ^ k % 256) := by
  apply ni_inj
  rw [ni_and, ni_l2i, nj_lushr w q k hk, show ni (255 : Int32) = 2 ^ 8 - 1 from rfl, mask_n]
  show _ = (BitVec.ofNat 32 _).toNat
  rw [BitVec.toNat_ofNat]
  omega
theorem byteJ (w : Int64) (q : Int32) (k : Nat) (hk : ni q % 64 = k) : ((lushr w q) &&& (255 : Int64)) = Int64.ofNat (nj w / 2 ^ k % 256) := by
  apply nj_inj
  rw [nj_and, nj_lushr w q k hk, show nj (255 : Int64) = 2 ^ 8 - 1 from rfl, mask_n]
  show _ = (BitVec.ofNat 64 _).toNat
  rw [BitVec.toNat_ofNat]
  omega
theorem all8 {P : Int8 → Prop} (h : ∀ n : Fin 256, P (Int8.ofNat n.1)) (y : Int8) : P y := by
  have q := h ⟨y.toBitVec.toNat, y.toBitVec.isLt⟩
  have e : Int8.ofNat y.toBitVec.toNat = y := by
    apply Int8.toBitVec_inj.mp
    show BitVec.ofNat 8 y.toBitVec.toNat = y.toBitVec
    rw [BitVec.ofNat_toNat]; simp
  rw [e] at q; exact q
/-- an int told by its natural number -/
theorem ofni (x : Int32) : Int32.ofNat (ni x) = x := by
  apply ni_inj
  show (BitVec.ofNat 32 x.toBitVec.toNat).toNat = x.toBitVec.toNat
  rw [BitVec.toNat_ofNat, Nat.mod_eq_of_lt x.toBitVec.isLt]
/-- (x & 0x7fffffff) % m for a small m -/
theorem remN (x : Int32) (m : Int32) (k : Nat) (hm : ni m = k) (h0 : 0 < k) (h1 : k < 2147483648) : ∃ n : Nat, n < k ∧ ((x &&& (2147483647 : Int32)) % m) = Int32.ofNat n := by
  have e1 : ni (x &&& (2147483647 : Int32)) = ni x % 2147483648 := by rw [ni_and, show ni (2147483647 : Int32) = 2 ^ 31 - 1 from rfl, mask_n]
  have m1 : m.toInt = k := by rw [ni_int, if_pos (by omega), hm]
  have a1 : (x &&& (2147483647 : Int32)).toInt = (ni x % 2147483648 : Nat) := by rw [ni_int, if_pos (by omega), e1]
  obtain ⟨p, -⟩ := c_irem (x &&& (2147483647 : Int32)) m k m1
  have r := p (by omega)
  refine ⟨ni x % 2147483648 % k, Nat.mod_lt _ h0, ?_⟩
  have q : ni x % 2147483648 % k < k := Nat.mod_lt _ h0
  apply Int32.toInt_inj.mp
  rw [r, a1, Int32.toInt_ofNat_of_lt (by omega)]; rfl
end Jvm.Own
namespace Jvm.Pilot.@@N@@
open Jvm Jvm.ClassFile Sem Op Lib Jvm.Free Jvm.Stand Jvm.LawKit Jvm.RoadKit Bundle Jvm.Own Jvm.Pilot.@@N@@.Jvm.D
theorem d1_0 : decode jdk_29_method_66_code 0 = .ok (.lload_n 0, 1) := by decide +kernel
theorem d1_1 : decode jdk_29_method_66_code 1 = .ok (.lload_n 2, 1) := by decide +kernel
theorem d1_2 : decode jdk_29_method_66_code 2 = .ok (.lcmp, 1) := by decide +kernel
theorem d1_3 : decode jdk_29_method_66_code 3 = .ok (.ifCond .lt 7, 3) := by decide +kernel
theorem d1_10 : decode jdk_29_method_66_code 10 = .ok (.lload_n 2, 1) := by decide +kernel
theorem d1_6 : decode jdk_29_method_66_code 6 = .ok (.lload_n 0, 1) := by decide +kernel
theorem d1_7 : decode jdk_29_method_66_code 7 = .ok (.goto 4, 3) := by decide +kernel
theorem d1_11 : decode jdk_29_method_66_code 11 = .ok (.lreturn, 1) := by decide +kernel
theorem ef_1 (m : MethodId) (x0 : Int64) (x1 : Int64) : entryFrame m #[(.long x0), (.long x1)] 4 = mkF m 0 #[.val (.long x0), .second, .val (.long x1), .second] [] := by first | (simp [entryFrame, mkF, argsToLocals, Value.category]; done) | rfl
def F1 (ux : Int64) (wx : Int64) : Int64 :=
  (if ux < wx then wx else ux)
def Q1 (Z : State) (ux : Int64) (wx : Int64) (n0 : Nat) (Rst : RL) (v : Option Value) (h : Heap) (L : List Loc) : Prop := v = some (.long (F1 ux wx)) ∧ Fr n0 L ∧ Rep Z n0 h (Rst)
set_option maxRecDepth 65536 in
set_option maxHeartbeats 40000000 in
theorem rm1 (l : Launch) (Z : State) (a0 : Array Value) (hw : ∀ d ∈ tables_1, d.before a0 Z = true) (ws : List Jvm.Cond) (ux : Int64) (wx : Int64) (h0 : Heap) (n0 : Nat) (Rst : RL) (R0 : Rep Z n0 h0 (Rst)) :
    MetFree l (⟨"java/lang/Math", "max", "(JJ)J"⟩ : MethodName) (head1 (Jvm.Cond.code (⟨"java/lang/Math", "max", "(JJ)J"⟩ : MethodName) jdk_29_method_66_code 4 (some .long) :: ws) ({ frames := 0, cells := 0, slots := 0, locals := 0 } : Room)) (fun a U => a = #[(.long ux), (.long wx)] ∧ Z.Warmed39 U.vm ∧ U.heap = h0) (fun _ _ _ _ _ => True) (fun _ U o U' => ∃ v L, o = .returned v ∧ Q1 Z ux wx n0 Rst v U'.heap L ∧ FrameEnd U o U' L ({ frames := 0, cells := 0, slots := 0, locals := 0 } : Room).cells ({ frames := 0, cells := 0, slots := 0, locals := 0 } : Room).slots) := by
  refine MetFree.of_bodySF (Jvm.Free.JP.mathPlain rfl (by decide +kernel)) hisR ?_
  intro p e s m args below meth c s₁ Bd hml0 hP hK
  obtain ⟨rfl, hZ, hh⟩ := hP
  have hx := Bd.exec
  have hby := Bd.bytes
  have hml : c.maxLocals = 4 := hml0
  have hown : s.vm.findClass "java/lang/Math" = some m.cls := findClass_of_methodNamed Bd.named
  have hnm := (name_of_methodNamed Bd.named Bd.method).1
  have X0 : Stand p l e ({ frames := 0, cells := 0, slots := 0, locals := 0 } : Room) s m #[(.long ux), (.long wx)] below meth c s₁ [] 0 0 := Stand.of_body Bd
  have e0 : s₁.heap = h0 := by rw [← hh, Bd.state]; rfl
  have N0 := Fr.nil n0
  have pre0 : ∀ t, Steps p.tables e below (s₁.setTop (mkF m 0 #[.val (.long ux), .second, .val (.long wx), .second] [])) t → Steps p.tables e below (s₁.setTop (entryFrame m #[(.long ux), (.long wx)] 4)) t := fun t k => castTop (ef_1 m ux wx) k
  have pre3 : ∀ t, Steps p.tables e below (s₁.setTop (mkF m 3 #[.val (.long ux), .second, .val (.long wx), .second] [(.int (XT.cmpL ux wx))])) t → Steps p.tables e below (s₁.setTop (entryFrame m #[(.long ux), (.long wx)] 4)) t := fun t k => pre0 t (by
    show Steps p.tables e below (s₁.setTop (mkF m 0 #[.val (.long ux), .second, .val (.long wx), .second] [])) _
    refine XS.lloadN X0.here hx rfl (hb hby d1_0) rfl ?_
    refine XS.lloadN X0.here hx rfl (hb hby d1_1) rfl ?_
    refine XS.lcmp X0.here hx rfl (hb hby d1_2) rfl ?_
    exact k)
  have tl2 : ∀ t, Steps p.tables e below (s₁.setTop (mkF m 11 #[.val (.long ux), .second, .val (.long wx), .second] [(.long (if ux < wx then wx else ux))])) t → Steps p.tables e below (s₁.setTop (mkF m 3 #[.val (.long ux), .second, .val (.long wx), .second] [(.int (XT.cmpL ux wx))])) t := fun t k => by
    by_cases hb1 : ux < wx
    · refine XS.ifYes X0.here hx rfl (pc0 := 3) (pc' := 10) rfl (hb hby d1_3) rfl (XT.ll_lt_t hb1) (by decide) (by decide) ?_
      rw [show (if ux < wx then wx else ux) = wx from if_pos hb1] at k
      show Steps p.tables e below (s₁.setTop (mkF m 10 #[.val (.long ux), .second, .val (.long wx), .second] [])) _
      refine XS.lloadN X0.here hx rfl (hb hby d1_10) rfl ?_
      exact k
    · refine XS.ifNo X0.here hx rfl (hb hby d1_3) rfl (XT.ll_lt_f hb1) ?_
      rw [show (if ux < wx then wx else ux) = ux from if_neg hb1] at k
      show Steps p.tables e below (s₁.setTop (mkF m 6 #[.val (.long ux), .second, .val (.long wx), .second] [])) _
      refine XS.lloadN X0.here hx rfl (hb hby d1_6) rfl ?_
      refine XS.goto X0.here hx rfl (pc0 := 7) (pc' := 11) rfl (hb hby d1_7) (by decide) (by decide) ?_
      exact k
  have pre4 : ∀ t, Steps p.tables e below (s₁.setTop (mkF m 11 #[.val (.long ux), .second, .val (.long wx), .second] [(.long (if ux < wx then wx else ux))])) t → Steps p.tables e below (s₁.setTop (entryFrame m #[(.long ux), (.long wx)] 4)) t := fun t k => pre3 t (by
    exact tl2 t k)
  obtain ⟨fs, hr, hrun, hended, hW, hsame⟩ := X0.leave (v := some (.long (if ux < wx then wx else ux))) (fun h => by rw [Bd.returns] at h; cases h)
  refine ⟨_, _, pre4 _ ?_, hrun, hended, _, _, rfl, ?_, ⟨_, rfl⟩, hW, hsame.mono (by decide) (by decide)⟩
  · show Steps p.tables e below (s₁.setTop (mkF m 11 #[.val (.long ux), .second, .val (.long wx), .second] [(.long (if ux < wx then wx else ux))])) _
    exact Jvm.Own.retL X0 hx Bd.returns (hb hby d1_11) hr
  · show Q1 Z ux wx n0 Rst _ s₁.heap _
    rw [e0]
    exact ⟨(by rfl), N0, R0⟩
theorem d3_0 : decode jdk_30_method_1_code 0 = .ok (.aload_n 0, 1) := by decide +kernel
theorem d3_1 : decode jdk_30_method_1_code 1 = .ok (.invokespecial 1, 3) := by decide +kernel
theorem d3_4 : decode jdk_30_method_1_code 4 = .ok (.return_, 1) := by decide +kernel
theorem pn_java_lang_Record : plainName "java/lang/Record" = true := by first | (simp [plainName, overriddenIn]; done) | decide +kernel
theorem ef_3 (m : MethodId) (x0 : Addr) : entryFrame m #[(.ref x0)] 1 = mkF m 0 #[.val (.ref x0)] [] := by first | (simp [entryFrame, mkF, argsToLocals, Value.category]; done) | rfl
def Q3 (Z : State) (ax : Addr) (n0 : Nat) (Rst : RL) (v : Option Value) (h : Heap) (L : List Loc) : Prop := v = none ∧ Fr n0 L ∧ Rep Z n0 h (Rst)
set_option maxRecDepth 65536 in
set_option maxHeartbeats 40000000 in
theorem rm3 (l : Launch) (Z : State) (a0 : Array Value) (hw : ∀ d ∈ tables_1, d.before a0 Z = true) (ws : List Jvm.Cond) (ax : Addr) (h0 : Heap) (n0 : Nat) (Rst : RL) (R0 : Rep Z n0 h0 (Rst)) :
    MetFree l (⟨"java/lang/Record", "<init>", "()V"⟩ : MethodName) (head1 (Jvm.Cond.code (⟨"java/lang/Record", "<init>", "()V"⟩ : MethodName) jdk_30_method_1_code 1 none :: ws) ({ frames := 1, cells := 0, slots := 0, locals := 12 } : Room)) (fun a U => a = #[(.ref ax)] ∧ Z.Warmed39 U.vm ∧ U.heap = h0) (fun _ _ _ _ _ => True) (fun _ U o U' => ∃ v L, o = .returned v ∧ Q3 Z ax n0 Rst v U'.heap L ∧ FrameEnd U o U' L ({ frames := 1, cells := 0, slots := 0, locals := 12 } : Room).cells ({ frames := 1, cells := 0, slots := 0, locals := 12 } : Room).slots) := by
  refine MetFree.of_bodySF (plainFor_of_name pn_java_lang_Record) hisR ?_
  intro p e s m args below meth c s₁ Bd hml0 hP hK
  obtain ⟨rfl, hZ, hh⟩ := hP
  have hx := Bd.exec
  have hby := Bd.bytes
  have hml : c.maxLocals = 1 := hml0
  have hown : s.vm.findClass "java/lang/Record" = some m.cls := findClass_of_methodNamed Bd.named
  have hnm := (name_of_methodNamed Bd.named Bd.method).1
  have X0 : Stand p l e ({ frames := 1, cells := 0, slots := 0, locals := 12 } : Room) s m #[(.ref ax)] below meth c s₁ [] 0 0 := Stand.of_body Bd
  have e0 : s₁.heap = h0 := by rw [← hh, Bd.state]; rfl
  have N0 := Fr.nil n0
  have pre0 : ∀ t, Steps p.tables e below (s₁.setTop (mkF m 0 #[.val (.ref ax)] [])) t → Steps p.tables e below (s₁.setTop (entryFrame m #[(.ref ax)] 1)) t := fun t k => castTop (ef_3 m ax) k
  have pre1 : ∀ t, Steps p.tables e below (s₁.setTop (mkF m 1 #[.val (.ref ax)] [(.ref ax)])) t → Steps p.tables e below (s₁.setTop (entryFrame m #[(.ref ax)] 1)) t := fun t k => pre0 t (by
    show Steps p.tables e below (s₁.setTop (mkF m 0 #[.val (.ref ax)] [])) _
    refine XS.aloadN X0.here hx rfl (hb hby d3_0) rfl rfl ?_
    exact k)
  obtain ⟨T2, X2, e2, st2⟩ := initO X0 hx hZ hown (hw _ (List.mem_of_getElem? (i := 16) rfl)) (hw _ (List.mem_of_getElem? (i := 17) rfl)) (hw _ (List.mem_of_getElem? (i := 18) rfl)) e0 (g := (mkF m 1 #[.val (.ref ax)] [(.ref ax)])) rfl (by rw [hml]; rfl) rfl (hb hby d3_1) (by decide) (W := 0) (by show 2 * 0 + _ ≤ _; exact Nat.le_of_eq rfl) (by decide)
  have pre3 : ∀ t, Steps p.tables e below (T2.setTop (mkF m 4 #[.val (.ref ax)] [])) t → Steps p.tables e below (s₁.setTop (entryFrame m #[(.ref ax)] 1)) t := fun t k => pre1 t (st2 t k)
  obtain ⟨fs, hr, hrun, hended, hW, hsame⟩ := X2.leave (v := none) (fun _ => rfl)
  refine ⟨_, _, pre3 _ ?_, hrun, hended, _, _, rfl, ?_, ⟨_, rfl⟩, hW, hsame.mono (by decide) (by decide)⟩
  · show Steps p.tables e below (T2.setTop (mkF m 4 #[.val (.ref ax)] [])) _
    exact X2.returnOut hx Bd.returns (hb hby d3_4) hr
  · show Q3 Z ax n0 Rst _ T2.heap _
    rw [e2]
    exact ⟨rfl, N0, R0⟩
theorem d2_0 : decode prog_65_method_1_code 0 = .ok (.aload_n 0, 1) := by decide +kernel
theorem d2_1 : decode prog_65_method_1_code 1 = .ok (.invokespecial 1, 3) := by decide +kernel
theorem pd__28_29V : parseMethodDescriptor "()V" = some ⟨[], none⟩ := by decide +kernel
theorem d2_4 : decode prog_65_method_1_code 4 = .ok (.lload_n 1, 1) := by decide +kernel
theorem d2_5 : decode prog_65_method_1_code 5 = .ok (.lconst 1, 1) := by decide +kernel
theorem d2_6 : decode prog_65_method_1_code 6 = .ok (.lcmp, 1) := by decide +kernel
theorem d2_7 : decode prog_65_method_1_code 7 = .ok (.ifCond .lt 9, 3) := by decide +kernel
theorem d2_10 : decode prog_65_method_1_code 10 = .ok (.lload_n 3, 1) := by decide +kernel
theorem d2_11 : decode prog_65_method_1_code 11 = .ok (.lconst 1, 1) := by decide +kernel
theorem d2_12 : decode prog_65_method_1_code 12 = .ok (.lcmp, 1) := by decide +kernel
theorem d2_13 : decode prog_65_method_1_code 13 = .ok (.ifCond .ge 18, 3) := by decide +kernel
theorem d2_31 : decode prog_65_method_1_code 31 = .ok (.aload_n 0, 1) := by decide +kernel
theorem d2_32 : decode prog_65_method_1_code 32 = .ok (.lload_n 1, 1) := by decide +kernel
theorem d2_33 : decode prog_65_method_1_code 33 = .ok (.putfield 16, 3) := by decide +kernel
theorem d2_36 : decode prog_65_method_1_code 36 = .ok (.aload_n 0, 1) := by decide +kernel
theorem d2_37 : decode prog_65_method_1_code 37 = .ok (.lload_n 3, 1) := by decide +kernel
theorem d2_38 : decode prog_65_method_1_code 38 = .ok (.putfield 22, 3) := by decide +kernel
theorem d2_41 : decode prog_65_method_1_code 41 = .ok (.return_, 1) := by decide +kernel
theorem pn_com_example_regent_regent_storage_SnapshotBound : plainName "com/example/regent/regent/storage/SnapshotBound" = true := by first | (simp [plainName, overriddenIn]; done) | decide +kernel
theorem ef_2 (m : MethodId) (x0 : Addr) (x1 : Int64) (x2 : Int64) : entryFrame m #[(.ref x0), (.long x1), (.long x2)] 5 = mkF m 0 #[.val (.ref x0), .val (.long x1), .second, .val (.long x2), .second] [] := by first | (simp [entryFrame, mkF, argsToLocals, Value.category]; done) | rfl
def Q2 (Z : State) (ax : Addr) (tx : Int64) (bx : Int64) (u1 : Value) (u2 : Value) (n0 : Nat) (Rst : RL) (v : Option Value) (h : Heap) (L : List Loc) : Prop := v = none ∧ Fr n0 L ∧ Rep Z n0 h ((ax, Obj "com/example/regent/regent/storage/SnapshotBound" [("transactions", "J", (.long tx)), ("bytes", "J", (.long bx))]) :: Rst)
set_option maxRecDepth 65536 in
set_option maxHeartbeats 40000000 in
theorem rm2 (l : Launch) (Z : State) (a0 : Array Value) (hw : ∀ d ∈ tables_1, d.before a0 Z = true) (ws : List Jvm.Cond) (ax : Addr) (tx : Int64) (bx : Int64) (u1 : Value) (u2 : Value) (h0 : Heap) (n0 : Nat) (Rst : RL) (R0 : Rep Z n0 h0 ((ax, Obj "com/example/regent/regent/storage/SnapshotBound" [("transactions", "J", u1), ("bytes", "J", u2)]) :: Rst)) (hg1 : ¬ (tx < (1 : Int64))) (hg2 : ¬ (bx < (1 : Int64))) :
    MetFree l (⟨"com/example/regent/regent/storage/SnapshotBound", "<init>", "(JJ)V"⟩ : MethodName) (head1 (Jvm.Cond.code (⟨"com/example/regent/regent/storage/SnapshotBound", "<init>", "(JJ)V"⟩ : MethodName) prog_65_method_1_code 5 none :: ws) ({ frames := 2, cells := 0, slots := 0, locals := 24 } : Room)) (fun a U => a = #[(.ref ax), (.long tx), (.long bx)] ∧ Z.Warmed39 U.vm ∧ U.heap = h0) (fun _ _ _ _ _ => True) (fun _ U o U' => ∃ v L, o = .returned v ∧ Q2 Z ax tx bx u1 u2 n0 Rst v U'.heap L ∧ FrameEnd U o U' L ({ frames := 2, cells := 0, slots := 0, locals := 24 } : Room).cells ({ frames := 2, cells := 0, slots := 0, locals := 24 } : Room).slots) := by
  refine MetFree.of_bodySF (plainFor_of_name pn_com_example_regent_regent_storage_SnapshotBound) hisR ?_
  intro p e s m args below meth c s₁ Bd hml0 hP hK
  obtain ⟨rfl, hZ, hh⟩ := hP
  have hx := Bd.exec
  have hby := Bd.bytes
  have hml : c.maxLocals = 5 := hml0
  have hown : s.vm.findClass "com/example/regent/regent/storage/SnapshotBound" = some m.cls := findClass_of_methodNamed Bd.named
  have hnm := (name_of_methodNamed Bd.named Bd.method).1
  have X0 : Stand p l e ({ frames := 2, cells := 0, slots := 0, locals := 24 } : Room) s m #[(.ref ax), (.long tx), (.long bx)] below meth c s₁ [] 0 0 := Stand.of_body Bd
  have e0 : s₁.heap = h0 := by rw [← hh, Bd.state]; rfl
  have N0 := Fr.nil n0
  have pre0 : ∀ t, Steps p.tables e below (s₁.setTop (mkF m 0 #[.val (.ref ax), .val (.long tx), .second, .val (.long bx), .second] [])) t → Steps p.tables e below (s₁.setTop (entryFrame m #[(.ref ax), (.long tx), (.long bx)] 5)) t := fun t k => castTop (ef_2 m ax tx bx) k
  have pre1 : ∀ t, Steps p.tables e below (s₁.setTop (mkF m 1 #[.val (.ref ax), .val (.long tx), .second, .val (.long bx), .second] [(.ref ax)])) t → Steps p.tables e below (s₁.setTop (entryFrame m #[(.ref ax), (.long tx), (.long bx)] 5)) t := fun t k => pre0 t (by
    show Steps p.tables e below (s₁.setTop (mkF m 0 #[.val (.ref ax), .val (.long tx), .second, .val (.long bx), .second] [])) _
    refine XS.aloadN X0.here hx rfl (hb hby d2_0) rfl rfl ?_
    exact k)
  obtain ⟨_, _, ⟨T2, L2, k2, n2⟩, -, X2, ⟨Lc2, hQ2, l2, y2, z2⟩, st2⟩ := X0.specialBack hx (y := (⟨"java/lang/Record", "<init>", "()V"⟩ : MethodName)) rfl hown (mvT hZ (hw _ (List.mem_of_getElem? (i := 11) rfl))) (mvT hZ (hw _ (List.mem_of_getElem? (i := 12) rfl))) (mvT hZ (hw _ (List.mem_of_getElem? (i := 15) rfl))) (by decide) (backOf (W := 0) (rm3 l Z a0 hw [] ax  h0 n0 _ R0 ) hZ (hw _ (List.mem_of_getElem? (i := 15) rfl)) (hw _ (List.mem_of_getElem? (i := 14) rfl)) (by decide) (by decide)) (g := (mkF m 1 #[.val (.ref ax), .val (.long tx), .second, .val (.long bx), .second] [(.ref ax)])) rfl (by rw [hml]; rfl) (Steps.refl _) (a := ax) (argsL := []) (rest := []) (lenOf pd__28_29V rfl) rfl (by show 2 * 0 + _ ≤ _; exact Nat.le_of_eq rfl) (hb hby d2_1) (fun _ _ => ⟨rfl, e0, (by decide : 0 + 0 ≤ _), (by decide : 0 + 0 ≤ _)⟩)
  dsimp only [Pt.U, Pt.locs, Pt.cells, Pt.slots] at X2 l2 y2 z2 st2 hQ2
  subst l2 y2 z2
  obtain ⟨rfl, N2q, R2⟩ := hQ2
  have N2 := Fr.app N0 N2q
  replace R2 : Rep Z n0 T2.heap ((ax, Obj "com/example/regent/regent/storage/SnapshotBound" [("transactions", "J", u1), ("bytes", "J", u2)]) :: Rst) := R2
  have pre3 : ∀ t, Steps p.tables e below (T2.setTop (mkF m 4 #[.val (.ref ax), .val (.long tx), .second, .val (.long bx), .second] [])) t → Steps p.tables e below (s₁.setTop (entryFrame m #[(.ref ax), (.long tx), (.long bx)] 5)) t := fun t k => pre1 t (st2.trans k)
  have pre5 : ∀ t, Steps p.tables e below (T2.setTop (mkF m 7 #[.val (.ref ax), .val (.long tx), .second, .val (.long bx), .second] [(.int (XT.cmpL tx (1 : Int64)))])) t → Steps p.tables e below (s₁.setTop (entryFrame m #[(.ref ax), (.long tx), (.long bx)] 5)) t := fun t k => pre3 t (by
    show Steps p.tables e below (T2.setTop (mkF m 4 #[.val (.ref ax), .val (.long tx), .second, .val (.long bx), .second] [])) _
    refine XS.lloadN X2.here hx rfl (hb hby d2_4) rfl ?_
    refine XS.lconst X2.here hx rfl (hb hby d2_5) ?_
    refine XS.lcmp X2.here hx rfl (hb hby d2_6) rfl ?_
    exact k)
  have hb4 : ¬ (tx < (1 : Int64)) := hg1
  have pre7 : ∀ t, Steps p.tables e below (T2.setTop (mkF m 13 #[.val (.ref ax), .val (.long tx), .second, .val (.long bx), .second] [(.int (XT.cmpL bx (1 : Int64)))])) t → Steps p.tables e below (s₁.setTop (entryFrame m #[(.ref ax), (.long tx), (.long bx)] 5)) t := fun t k => pre5 t (by
    show Steps p.tables e below (T2.setTop (mkF m 7 #[.val (.ref ax), .val (.long tx), .second, .val (.long bx), .second] [(.int (XT.cmpL tx (1 : Int64)))])) _
    refine XS.ifNo X2.here hx rfl (hb hby d2_7) rfl (XT.ll_lt_f hb4) ?_
    refine XS.lloadN X2.here hx rfl (hb hby d2_10) rfl ?_
    refine XS.lconst X2.here hx rfl (hb hby d2_11) ?_
    refine XS.lcmp X2.here hx rfl (hb hby d2_12) rfl ?_
    exact k)
  have hb6 : ¬ (bx < (1 : Int64)) := hg2
  have pre8 : ∀ t, Steps p.tables e below (T2.setTop (mkF m 33 #[.val (.ref ax), .val (.long tx), .second, .val (.long bx), .second] [(.long tx), (.ref ax)])) t → Steps p.tables e below (s₁.setTop (entryFrame m #[(.ref ax), (.long tx), (.long bx)] 5)) t := fun t k => pre7 t (by
    show Steps p.tables e below (T2.setTop (mkF m 13 #[.val (.ref ax), .val (.long tx), .second, .val (.long bx), .second] [(.int (XT.cmpL bx (1 : Int64)))])) _
    refine XS.ifYes X2.here hx rfl (pc0 := 13) (pc' := 31) rfl (hb hby d2_13) rfl (XT.ll_ge_t hb6) (by decide) (by decide) ?_
    refine XS.aloadN X2.here hx rfl (hb hby d2_31) rfl rfl ?_
    refine XS.lloadN X2.here hx rfl (hb hby d2_32) rfl ?_
    exact k)
  obtain ⟨T9, h9, ls9, X9, e9, N9, R9, st9⟩ := gPut X2 hx hZ hown (host := "") (Or.inl (hw _ (List.mem_of_getElem? (i := 19) rfl))) rfl N2 R2 0 0 rfl rfl (Or.inr ⟨(hw _ (List.mem_of_getElem? (i := 20) rfl)), rfl, hnm⟩) (hw _ (List.mem_of_getElem? (i := 6) rfl)) (ty := .long) (by decide) rfl rfl (g := (mkF m 33 #[.val (.ref ax), .val (.long tx), .second, .val (.long bx), .second] [(.long tx), (.ref ax)])) rfl rfl (hb hby d2_33)
  replace R9 : Rep Z n0 h9 ((ax, Obj "com/example/regent/regent/storage/SnapshotBound" [("transactions", "J", (.long tx)), ("bytes", "J", u2)]) :: Rst) := R9
  have pre10 : ∀ t, Steps p.tables e below (T9.setTop (mkF m 36 #[.val (.ref ax), .val (.long tx), .second, .val (.long bx), .second] [])) t → Steps p.tables e below (s₁.setTop (entryFrame m #[(.ref ax), (.long tx), (.long bx)] 5)) t := fun t k => pre8 t (st9 t k)
  have pre11 : ∀ t, Steps p.tables e below (T9.setTop (mkF m 38 #[.val (.ref ax), .val (.long tx), .second, .val (.long bx), .second] [(.long bx), (.ref ax)])) t → Steps p.tables e below (s₁.setTop (entryFrame m #[(.ref ax), (.long tx), (.long bx)] 5)) t := fun t k => pre10 t (by
    show Steps p.tables e below (T9.setTop (mkF m 36 #[.val (.ref ax), .val (.long tx), .second, .val (.long bx), .second] [])) _
    refine XS.aloadN X9.here hx rfl (hb hby d2_36) rfl rfl ?_
    refine XS.lloadN X9.here hx rfl (hb hby d2_37) rfl ?_
    exact k)
  obtain ⟨T12, h12, ls12, X12, e12, N12, R12, st12⟩ := gPut X9 hx hZ hown (host := "") (Or.inl (hw _ (List.mem_of_getElem? (i := 21) rfl))) e9 N9 R9 0 1 rfl rfl (Or.inr ⟨(hw _ (List.mem_of_getElem? (i := 22) rfl)), rfl, hnm⟩) (hw _ (List.mem_of_getElem? (i := 6) rfl)) (ty := .long) (by decide) rfl rfl (g := (mkF m 38 #[.val (.ref ax), .val (.long tx), .second, .val (.long bx), .second] [(.long bx), (.ref ax)])) rfl rfl (hb hby d2_38)
  replace R12 : Rep Z n0 h12 ((ax, Obj "com/example/regent/regent/storage/SnapshotBound" [("transactions", "J", (.long tx)), ("bytes", "J", (.long bx))]) :: Rst) := R12
  have pre13 : ∀ t, Steps p.tables e below (T12.setTop (mkF m 41 #[.val (.ref ax), .val (.long tx), .second, .val (.long bx), .second] [])) t → Steps p.tables e below (s₁.setTop (entryFrame m #[(.ref ax), (.long tx), (.long bx)] 5)) t := fun t k => pre11 t (st12 t k)
  obtain ⟨fs, hr, hrun, hended, hW, hsame⟩ := X12.leave (v := none) (fun _ => rfl)
  refine ⟨_, _, pre13 _ ?_, hrun, hended, _, _, rfl, ?_, ⟨_, rfl⟩, hW, hsame.mono (by decide) (by decide)⟩
  · show Steps p.tables e below (T12.setTop (mkF m 41 #[.val (.ref ax), .val (.long tx), .second, .val (.long bx), .second] [])) _
    exact X12.returnOut hx Bd.returns (hb hby d2_41) hr
  · show Q2 Z ax tx bx u1 u2 n0 Rst _ T12.heap _
    rw [e12]
    exact ⟨rfl, N12, R12⟩
theorem d5_0 : decode prog_65_method_2_code 0 = .ok (.lload_n 1, 1) := by decide +kernel
theorem d5_1 : decode prog_65_method_2_code 1 = .ok (.aload_n 0, 1) := by decide +kernel
theorem d5_2 : decode prog_65_method_2_code 2 = .ok (.getfield 16, 3) := by decide +kernel
theorem d5_5 : decode prog_65_method_2_code 5 = .ok (.lcmp, 1) := by decide +kernel
theorem d5_6 : decode prog_65_method_2_code 6 = .ok (.ifCond .ge 12, 3) := by decide +kernel
theorem d5_9 : decode prog_65_method_2_code 9 = .ok (.lload_n 3, 1) := by decide +kernel
theorem d5_10 : decode prog_65_method_2_code 10 = .ok (.aload_n 0, 1) := by decide +kernel
theorem d5_11 : decode prog_65_method_2_code 11 = .ok (.getfield 22, 3) := by decide +kernel
theorem d5_14 : decode prog_65_method_2_code 14 = .ok (.lcmp, 1) := by decide +kernel
theorem d5_15 : decode prog_65_method_2_code 15 = .ok (.ifCond .lt 7, 3) := by decide +kernel
theorem d5_22 : decode prog_65_method_2_code 22 = .ok (.iconst 0, 1) := by decide +kernel
theorem d5_18 : decode prog_65_method_2_code 18 = .ok (.iconst 1, 1) := by decide +kernel
theorem d5_19 : decode prog_65_method_2_code 19 = .ok (.goto 4, 3) := by decide +kernel
theorem d5_23 : decode prog_65_method_2_code 23 = .ok (.ireturn, 1) := by decide +kernel
theorem ef_5 (m : MethodId) (x0 : Addr) (x1 : Int64) (x2 : Int64) : entryFrame m #[(.ref x0), (.long x1), (.long x2)] 5 = mkF m 0 #[.val (.ref x0), .val (.long x1), .second, .val (.long x2), .second] [] := by first | (simp [entryFrame, mkF, argsToLocals, Value.category]; done) | rfl
def F5 (lx : Int64) (mx : Int64) (tv : Int64) (bv : Int64) : Int32 :=
  if lx < tv then
    (bz (¬ (mx < bv)))
  else
    (1 : Int32)
def Q5 (Z : State) (ax : Addr) (lx : Int64) (mx : Int64) (tv : Int64) (bv : Int64) (n0 : Nat) (Rst : RL) (v : Option Value) (h : Heap) (L : List Loc) : Prop := v = some (.int (F5 lx mx tv bv)) ∧ Fr n0 L ∧ Rep Z n0 h ((ax, Obj "com/example/regent/regent/storage/SnapshotBound" [("transactions", "J", (.long tv)), ("bytes", "J", (.long bv))]) :: Rst)
set_option maxRecDepth 65536 in
set_option maxHeartbeats 40000000 in
theorem rm5 (l : Launch) (Z : State) (a0 : Array Value) (hw : ∀ d ∈ tables_1, d.before a0 Z = true) (ws : List Jvm.Cond) (ax : Addr) (lx : Int64) (mx : Int64) (tv : Int64) (bv : Int64) (h0 : Heap) (n0 : Nat) (Rst : RL) (R0 : Rep Z n0 h0 ((ax, Obj "com/example/regent/regent/storage/SnapshotBound" [("transactions", "J", (.long tv)), ("bytes", "J", (.long bv))]) :: Rst)) :
    MetFree l (⟨"com/example/regent/regent/storage/SnapshotBound", "passed", "(JJ)Z"⟩ : MethodName) (head1 (Jvm.Cond.code (⟨"com/example/regent/regent/storage/SnapshotBound", "passed", "(JJ)Z"⟩ : MethodName) prog_65_method_2_code 5 (some .boolean) :: ws) ({ frames := 0, cells := 0, slots := 0, locals := 0 } : Room)) (fun a U => a = #[(.ref ax), (.long lx), (.long mx)] ∧ Z.Warmed39 U.vm ∧ U.heap = h0) (fun _ _ _ _ _ => True) (fun _ U o U' => ∃ v L, o = .returned v ∧ Q5 Z ax lx mx tv bv n0 Rst v U'.heap L ∧ FrameEnd U o U' L ({ frames := 0, cells := 0, slots := 0, locals := 0 } : Room).cells ({ frames := 0, cells := 0, slots := 0, locals := 0 } : Room).slots) := by
  refine MetFree.of_bodySF (plainFor_of_name pn_com_example_regent_regent_storage_SnapshotBound) hisR ?_
  intro p e s m args below meth c s₁ Bd hml0 hP hK
  obtain ⟨rfl, hZ, hh⟩ := hP
  have hx := Bd.exec
  have hby := Bd.bytes
  have hml : c.maxLocals = 5 := hml0
  have hown : s.vm.findClass "com/example/regent/regent/storage/SnapshotBound" = some m.cls := findClass_of_methodNamed Bd.named
  have hnm := (name_of_methodNamed Bd.named Bd.method).1
  have X0 : Stand p l e ({ frames := 0, cells := 0, slots := 0, locals := 0 } : Room) s m #[(.ref ax), (.long lx), (.long mx)] below meth c s₁ [] 0 0 := Stand.of_body Bd
  have e0 : s₁.heap = h0 := by rw [← hh, Bd.state]; rfl
  have N0 := Fr.nil n0
  have pre0 : ∀ t, Steps p.tables e below (s₁.setTop (mkF m 0 #[.val (.ref ax), .val (.long lx), .second, .val (.long mx), .second] [])) t → Steps p.tables e below (s₁.setTop (entryFrame m #[(.ref ax), (.long lx), (.long mx)] 5)) t := fun t k => castTop (ef_5 m ax lx mx) k
  have pre1 : ∀ t, Steps p.tables e below (s₁.setTop (mkF m 2 #[.val (.ref ax), .val (.long lx), .second, .val (.long mx), .second] [(.ref ax), (.long lx)])) t → Steps p.tables e below (s₁.setTop (entryFrame m #[(.ref ax), (.long lx), (.long mx)] 5)) t := fun t k => pre0 t (by
    show Steps p.tables e below (s₁.setTop (mkF m 0 #[.val (.ref ax), .val (.long lx), .second, .val (.long mx), .second] [])) _
    refine XS.lloadN X0.here hx rfl (hb hby d5_0) rfl ?_
    refine XS.aloadN X0.here hx rfl (hb hby d5_1) rfl rfl ?_
    exact k)
  obtain ⟨T2, X2, e2, st2⟩ := gGet X0 hx hZ hown (host := "") (Or.inl (hw _ (List.mem_of_getElem? (i := 19) rfl))) e0 R0 0 0 rfl rfl (g := (mkF m 2 #[.val (.ref ax), .val (.long lx), .second, .val (.long mx), .second] [(.ref ax), (.long lx)])) rfl rfl (hb hby d5_2)
  have pre3 : ∀ t, Steps p.tables e below (T2.setTop (mkF m 5 #[.val (.ref ax), .val (.long lx), .second, .val (.long mx), .second] [(.long tv), (.long lx)])) t → Steps p.tables e below (s₁.setTop (entryFrame m #[(.ref ax), (.long lx), (.long mx)] 5)) t := fun t k => pre1 t (st2 t k)
  have pre5 : ∀ t, Steps p.tables e below (T2.setTop (mkF m 6 #[.val (.ref ax), .val (.long lx), .second, .val (.long mx), .second] [(.int (XT.cmpL lx tv))])) t → Steps p.tables e below (s₁.setTop (entryFrame m #[(.ref ax), (.long lx), (.long mx)] 5)) t := fun t k => pre3 t (by
    show Steps p.tables e below (T2.setTop (mkF m 5 #[.val (.ref ax), .val (.long lx), .second, .val (.long mx), .second] [(.long tv), (.long lx)])) _
    refine XS.lcmp X2.here hx rfl (hb hby d5_5) rfl ?_
    exact k)
  by_cases hb7 : lx < tv
  · have pre8 : ∀ t, Steps p.tables e below (T2.setTop (mkF m 9 #[.val (.ref ax), .val (.long lx), .second, .val (.long mx), .second] [])) t → Steps p.tables e below (s₁.setTop (entryFrame m #[(.ref ax), (.long lx), (.long mx)] 5)) t := fun t k => pre5 t (by show Steps p.tables e below (T2.setTop (mkF m 6 #[.val (.ref ax), .val (.long lx), .second, .val (.long mx), .second] [(.int (XT.cmpL lx tv))])) _; refine XS.ifNo X2.here hx rfl (hb hby d5_6) rfl (XT.ll_ge_f hb7) ?_; exact k)
    have pre9 : ∀ t, Steps p.tables e below (T2.setTop (mkF m 11 #[.val (.ref ax), .val (.long lx), .second, .val (.long mx), .second] [(.ref ax), (.long mx)])) t → Steps p.tables e below (s₁.setTop (entryFrame m #[(.ref ax), (.long lx), (.long mx)] 5)) t := fun t k => pre8 t (by
      show Steps p.tables e below (T2.setTop (mkF m 9 #[.val (.ref ax), .val (.long lx), .second, .val (.long mx), .second] [])) _
      refine XS.lloadN X2.here hx rfl (hb hby d5_9) rfl ?_
      refine XS.aloadN X2.here hx rfl (hb hby d5_10) rfl rfl ?_
      exact k)
    obtain ⟨T10, X10, e10, st10⟩ := gGet X2 hx hZ hown (host := "") (Or.inl (hw _ (List.mem_of_getElem? (i := 21) rfl))) e2 R0 0 1 rfl rfl (g := (mkF m 11 #[.val (.ref ax), .val (.long lx), .second, .val (.long mx), .second] [(.ref ax), (.long mx)])) rfl rfl (hb hby d5_11)
    have pre11 : ∀ t, Steps p.tables e below (T10.setTop (mkF m 14 #[.val (.ref ax), .val (.long lx), .second, .val (.long mx), .second] [(.long bv), (.long mx)])) t → Steps p.tables e below (s₁.setTop (entryFrame m #[(.ref ax), (.long lx), (.long mx)] 5)) t := fun t k => pre9 t (st10 t k)
    have pre14 : ∀ t, Steps p.tables e below (T10.setTop (mkF m 15 #[.val (.ref ax), .val (.long lx), .second, .val (.long mx), .second] [(.int (XT.cmpL mx bv))])) t → Steps p.tables e below (s₁.setTop (entryFrame m #[(.ref ax), (.long lx), (.long mx)] 5)) t := fun t k => pre11 t (by
      show Steps p.tables e below (T10.setTop (mkF m 14 #[.val (.ref ax), .val (.long lx), .second, .val (.long mx), .second] [(.long bv), (.long mx)])) _
      refine XS.lcmp X10.here hx rfl (hb hby d5_14) rfl ?_
      exact k)
    have tl13 : ∀ t, Steps p.tables e below (T10.setTop (mkF m 23 #[.val (.ref ax), .val (.long lx), .second, .val (.long mx), .second] [(.int (bz (¬ (mx < bv))))])) t → Steps p.tables e below (T10.setTop (mkF m 15 #[.val (.ref ax), .val (.long lx), .second, .val (.long mx), .second] [(.int (XT.cmpL mx bv))])) t := fun t k => by
      by_cases hb12 : mx < bv
      · refine XS.ifYes X10.here hx rfl (pc0 := 15) (pc' := 22) rfl (hb hby d5_15) rfl (XT.ll_lt_t hb12) (by decide) (by decide) ?_
        rw [bz_zero (P := (¬ (mx < bv))) (iff_false_intro (not_not_intro hb12))] at k
        show Steps p.tables e below (T10.setTop (mkF m 22 #[.val (.ref ax), .val (.long lx), .second, .val (.long mx), .second] [])) _
        refine XS.iconst X10.here hx rfl (hb hby d5_22) ?_
        exact k
      · refine XS.ifNo X10.here hx rfl (hb hby d5_15) rfl (XT.ll_lt_f hb12) ?_
        rw [bz_one (P := (¬ (mx < bv))) (iff_true_intro hb12)] at k
        show Steps p.tables e below (T10.setTop (mkF m 18 #[.val (.ref ax), .val (.long lx), .second, .val (.long mx), .second] [])) _
        refine XS.iconst X10.here hx rfl (hb hby d5_18) ?_
        refine XS.goto X10.here hx rfl (pc0 := 19) (pc' := 23) rfl (hb hby d5_19) (by decide) (by decide) ?_
        exact k
    have pre15 : ∀ t, Steps p.tables e below (T10.setTop (mkF m 23 #[.val (.ref ax), .val (.long lx), .second, .val (.long mx), .second] [(.int (bz (¬ (mx < bv))))])) t → Steps p.tables e below (s₁.setTop (entryFrame m #[(.ref ax), (.long lx), (.long mx)] 5)) t := fun t k => pre14 t (by
      exact tl13 t k)
    obtain ⟨fs, hr, hrun, hended, hW, hsame⟩ := X10.leave (v := some (.int (nar .boolean (bz (¬ (mx < bv)))))) (fun h => by rw [Bd.returns] at h; cases h)
    refine ⟨_, _, pre15 _ ?_, hrun, hended, _, _, rfl, ?_, ⟨_, rfl⟩, hW, hsame.mono (by decide) (by decide)⟩
    · show Steps p.tables e below (T10.setTop (mkF m 23 #[.val (.ref ax), .val (.long lx), .second, .val (.long mx), .second] [(.int (bz (¬ (mx < bv))))])) _
      exact retN X10 hx (t := .boolean) Bd.returns (by simp) (hb hby d5_23) hr
    · show Q5 Z ax lx mx tv bv n0 Rst _ T10.heap _
      rw [e10]
      exact ⟨(by exact congrArg (fun z => some (Value.int z)) (by simp only [F5, if_pos hb7] <;> first | rfl | exact nar_b _ | decide)), N0, R0⟩
  · have pre16 : ∀ t, Steps p.tables e below (T2.setTop (mkF m 18 #[.val (.ref ax), .val (.long lx), .second, .val (.long mx), .second] [])) t → Steps p.tables e below (s₁.setTop (entryFrame m #[(.ref ax), (.long lx), (.long mx)] 5)) t := fun t k => pre5 t (by show Steps p.tables e below (T2.setTop (mkF m 6 #[.val (.ref ax), .val (.long lx), .second, .val (.long mx), .second] [(.int (XT.cmpL lx tv))])) _; refine XS.ifYes X2.here hx rfl (pc0 := 6) (pc' := 18) rfl (hb hby d5_6) rfl (XT.ll_ge_t hb7) (by decide) (by decide) ?_; exact k)
    have pre17 : ∀ t, Steps p.tables e below (T2.setTop (mkF m 23 #[.val (.ref ax), .val (.long lx), .second, .val (.long mx), .second] [(.int (1 : Int32))])) t → Steps p.tables e below (s₁.setTop (entryFrame m #[(.ref ax), (.long lx), (.long mx)] 5)) t := fun t k => pre16 t (by
      show Steps p.tables e below (T2.setTop (mkF m 18 #[.val (.ref ax), .val (.long lx), .second, .val (.long mx), .second] [])) _
      refine XS.iconst X2.here hx rfl (hb hby d5_18) ?_
      refine XS.goto X2.here hx rfl (pc0 := 19) (pc' := 23) rfl (hb hby d5_19) (by decide) (by decide) ?_
      exact k)
    obtain ⟨fs, hr, hrun, hended, hW, hsame⟩ := X2.leave (v := some (.int (nar .boolean (1 : Int32)))) (fun h => by rw [Bd.returns] at h; cases h)
    refine ⟨_, _, pre17 _ ?_, hrun, hended, _, _, rfl, ?_, ⟨_, rfl⟩, hW, hsame.mono (by decide) (by decide)⟩
    · show Steps p.tables e below (T2.setTop (mkF m 23 #[.val (.ref ax), .val (.long lx), .second, .val (.long mx), .second] [(.int (1 : Int32))])) _
      exact retN X2 hx (t := .boolean) Bd.returns (by simp) (hb hby d5_23) hr
    · show Q5 Z ax lx mx tv bv n0 Rst _ T2.heap _
      rw [e2]
      exact ⟨(by exact congrArg (fun z => some (Value.int z)) (by simp only [F5, if_neg hb7] <;> first | rfl | exact nar_b _ | decide)), N0, R0⟩
theorem own_ge {v a : Int64} (h : v = F1 (1 : Int64) a) : ¬ (v < (1 : Int64)) := by
  subst h
  unfold F1
  split
  · rename_i q
    rw [lt64] at q ⊢
    omega
  · decide
theorem own_pred {v : Int64} (h : ¬ (v < (1 : Int64))) : (v - (1 : Int64)) < v := by
  rw [lt64] at h ⊢
  have a := rng64 v
  have b := c_lsub v (1 : Int64)
  have c := rng64 (v - (1 : Int64))
  rw [show (1 : Int64).toInt = 1 from rfl] at h b
  omega
theorem own_min {v : Int64} (h : ¬ (v < (1 : Int64))) : (-9223372036854775808 : Int64) < v := by
  rw [lt64] at h ⊢
  rw [show (1 : Int64).toInt = 1 from rfl] at h
  rw [show (-9223372036854775808 : Int64).toInt = -9223372036854775808 from rfl]
  omega
theorem own_law (l m t b : Int64) (ht : ¬ (t < (1 : Int64))) (hb : ¬ (b < (1 : Int64))) :
    ((F5 (t - (1 : Int64)) (b - (1 : Int64)) t b) = (0 : Int32)) ∧ ((¬ ((F5 t (-9223372036854775808 : Int64) t b) = (0 : Int32))) ∧ ((¬ ((F5 (-9223372036854775808 : Int64) b t b) = (0 : Int32))) ∧ (((F5 l (-9223372036854775808 : Int64) t b) = (bz (¬ (l < t)))) ∧ (((F5 (-9223372036854775808 : Int64) m t b) = (bz (¬ (m < b)))) ∧ (if (F5 l (-9223372036854775808 : Int64) t b) = (0 : Int32) then (if (F5 (-9223372036854775808 : Int64) m t b) = (0 : Int32) then ((F5 l m t b) = (0 : Int32)) else ((F5 l m t b) = (1 : Int32))) else ((F5 l m t b) = (1 : Int32))))))) := by
  have a1 : F5 (t - (1 : Int64)) (b - (1 : Int64)) t b = 0 := by
    rw [F5, if_pos (own_pred ht)]; exact bz_f (fun q => q (own_pred hb))
  have a2 : F5 t (-9223372036854775808 : Int64) t b = 1 := by rw [F5, if_neg (Int64.lt_irrefl)]
  have a3 : F5 (-9223372036854775808 : Int64) b t b = 1 := by rw [F5, if_pos (own_min ht)]; exact bz_t (Int64.lt_irrefl)
  have a4 : F5 l (-9223372036854775808 : Int64) t b = bz (¬ (l < t)) := by
    rw [F5]
    by_cases q : l < t
    · rw [if_pos q, bz_f (fun r => r (own_min hb)), bz_f (fun r => r q)]
    · rw [if_neg q, bz_t q]
  have a5 : F5 (-9223372036854775808 : Int64) m t b = bz (¬ (m < b)) := by rw [F5, if_pos (own_min ht)]
  refine ⟨a1, by rw [a2]; decide, by rw [a3]; decide, a4, a5, ?_⟩
  rw [a4, a5]
  by_cases q : l < t
  · rw [bz_f (P := ¬ (l < t)) (fun r => r q), if_pos rfl, F5, if_pos q]
    by_cases r : m < b
    · rw [bz_f (P := ¬ (m < b)) (fun z => z r), if_pos rfl]
    · rw [bz_t (P := ¬ (m < b)) r, if_neg (by decide)]
  · rw [bz_t (P := ¬ (l < t)) q, if_neg (by decide), F5, if_neg q]
theorem pd__28JJ_29J : parseMethodDescriptor "(JJ)J" = some ⟨[.long, .long], some .long⟩ := by decide +kernel
theorem pd__28JJ_29V : parseMethodDescriptor "(JJ)V" = some ⟨[.long, .long], none⟩ := by decide +kernel
theorem pd__28JJ_29Z : parseMethodDescriptor "(JJ)Z" = some ⟨[.long, .long], some .boolean⟩ := by decide +kernel
theorem pn_com_example_regent_regent_storage_SnapshotBoundPassedPinLaw : plainName "com/example/regent/regent/storage/SnapshotBoundPassedPinLaw" = true := by first | (simp [plainName, overriddenIn]; done) | decide +kernel
theorem ef_0 (m : MethodId) (x0 : Int64) (x1 : Int64) (x2 : Int64) (x3 : Int64) : entryFrame m #[(.long x0), (.long x1), (.long x2), (.long x3)] maxLocals = mkF m 0 #[.val (.long x0), .second, .val (.long x1), .second, .val (.long x2), .second, .val (.long x3), .second, .unset, .unset, .unset, .unset, .unset, .unset, .unset, .unset, .unset, .unset, .unset, .unset, .unset] [] := by first | (simp [entryFrame, mkF, argsToLocals, Value.category, maxLocals]; done) | rfl
def Q0 (Z : State) (px : Int64) (qx : Int64) (lx : Int64) (mx : Int64) (n0 : Nat) (Rst : RL) (v : Option Value) (h : Heap) (L : List Loc) : Prop := v = some (.int (1 : Int32)) ∧ Fr n0 L ∧ Rep Z n0 h (Rst)
set_option maxRecDepth 65536 in
set_option maxHeartbeats 40000000 in
theorem rm0 (l : Launch) (Z : State) (a0 : Array Value) (hw : ∀ d ∈ tables_1, d.before a0 Z = true) (ws : List Jvm.Cond) (px : Int64) (qx : Int64) (lx : Int64) (mx : Int64) (h0 : Heap) (n0 : Nat) (R0 : Rep Z n0 h0 ([])) :
    MetFree l x (head1 (Jvm.Cond.code x code maxLocals ret :: ws) room_1) (fun a U => a = #[(.long px), (.long qx), (.long lx), (.long mx)] ∧ Z.Warmed39 U.vm ∧ U.heap = h0) (fun _ _ _ _ _ => True) (fun _ U o U' => ∃ v L, o = .returned v ∧ Q0 Z px qx lx mx n0 [] v U'.heap L ∧ FrameEnd U o U' L 16 128) := by
  refine MetFree.of_bodySF (plainFor_of_name pn_com_example_regent_regent_storage_SnapshotBoundPassedPinLaw) hisR ?_
  intro p e s m args below meth c s₁ Bd hml0 hP hK
  obtain ⟨rfl, hZ, hh⟩ := hP
  have hx := Bd.exec
  have hby := Bd.bytes
  have hml : c.maxLocals = 21 := hml0
  have hown : s.vm.findClass "com/example/regent/regent/storage/SnapshotBoundPassedPinLaw" = some m.cls := findClass_of_methodNamed Bd.named
  have hnm := (name_of_methodNamed Bd.named Bd.method).1
  have X0 : Stand p l e room_1 s m #[(.long px), (.long qx), (.long lx), (.long mx)] below meth c s₁ [] 0 0 := Stand.of_body Bd
  have e0 : s₁.heap = h0 := by rw [← hh, Bd.state]; rfl
  have N0 := Fr.nil n0
  have pre0 : ∀ t, Steps p.tables e below (s₁.setTop (mkF m 0 #[.val (.long px), .second, .val (.long qx), .second, .val (.long lx), .second, .val (.long mx), .second, .unset, .unset, .unset, .unset, .unset, .unset, .unset, .unset, .unset, .unset, .unset, .unset, .unset] [])) t → Steps p.tables e below (s₁.setTop (entryFrame m #[(.long px), (.long qx), (.long lx), (.long mx)] maxLocals)) t := fun t k => castTop (ef_0 m px qx lx mx) k
  have pre1 : ∀ t, Steps p.tables e below (s₁.setTop (mkF m 6 #[.val (.long px), .second, .val (.long qx), .second, .val (.long lx), .second, .val (.long mx), .second, .unset, .unset, .unset, .unset, .unset, .unset, .unset, .unset, .unset, .unset, .unset, .unset, .unset] [(.long (px &&& (9223372036854775807 : Int64))), (.long (1 : Int64))])) t → Steps p.tables e below (s₁.setTop (entryFrame m #[(.long px), (.long qx), (.long lx), (.long mx)] maxLocals)) t := fun t k => pre0 t (by
    show Steps p.tables e below (s₁.setTop (mkF m 0 #[.val (.long px), .second, .val (.long qx), .second, .val (.long lx), .second, .val (.long mx), .second, .unset, .unset, .unset, .unset, .unset, .unset, .unset, .unset, .unset, .unset, .unset, .unset, .unset] [])) _
    refine XS.lconst X0.here hx rfl (hb hby at_0) ?_
    refine XS.lloadN X0.here hx rfl (hb hby at_1) rfl ?_
    refine X0.ldc2Long hx hown (mvT hZ (hw _ (List.mem_of_getElem? (i := 0) rfl))) (g := (mkF m 2 #[.val (.long px), .second, .val (.long qx), .second, .val (.long lx), .second, .val (.long mx), .second, .unset, .unset, .unset, .unset, .unset, .unset, .unset, .unset, .unset, .unset, .unset, .unset, .unset] [(.long px), (.long (1 : Int64))])) rfl (hb hby at_2) _ ?_
    refine XS.land X0.here hx rfl (hb hby at_5) rfl ?_
    exact k)
  obtain ⟨_, _, ⟨T2, L2, k2, n2⟩, -, X2, ⟨Lc2, hQ2, l2, y2, z2⟩, st2⟩ := Jvm.LawKit.callS X0 hx (y := (⟨"java/lang/Math", "max", "(JJ)J"⟩ : MethodName)) hown (mvT hZ (hw _ (List.mem_of_getElem? (i := 1) rfl))) (mvT hZ (hw _ (List.mem_of_getElem? (i := 2) rfl))) (mvT hZ (hw _ (List.mem_of_getElem? (i := 3) rfl))) (mvT hZ (hw _ (List.mem_of_getElem? (i := 4) rfl))) (by decide) (backOf (W := 0) (rm1 l Z a0 hw [] (1 : Int64) (px &&& (9223372036854775807 : Int64))  h0 n0 _ R0 ) hZ (hw _ (List.mem_of_getElem? (i := 4) rfl)) (hw _ (List.mem_of_getElem? (i := 3) rfl)) (by decide) (by decide)) (g := (mkF m 6 #[.val (.long px), .second, .val (.long qx), .second, .val (.long lx), .second, .val (.long mx), .second, .unset, .unset, .unset, .unset, .unset, .unset, .unset, .unset, .unset, .unset, .unset, .unset, .unset] [(.long (px &&& (9223372036854775807 : Int64))), (.long (1 : Int64))])) rfl (by rw [hml]; rfl) (argsL := [(.long (1 : Int64)), (.long (px &&& (9223372036854775807 : Int64)))]) (rest := []) (lenOf pd__28JJ_29J rfl) rfl (by show 2 * 0 + _ ≤ _; exact Nat.le_of_eq rfl) (hb hby at_6) (fun _ _ => ⟨rfl, e0, (by decide : 0 + 0 ≤ _), (by decide : 0 + 0 ≤ _)⟩)
  dsimp only [Pt.U, Pt.locs, Pt.cells, Pt.slots] at X2 l2 y2 z2 st2 hQ2
  subst l2 y2 z2
  obtain ⟨rfl, N2q, R2⟩ := hQ2
  have N2 := Fr.app N0 N2q
  replace R2 : Rep Z n0 T2.heap ([]) := R2
  have pre3 : ∀ t, Steps p.tables e below (T2.setTop (mkF m 9 #[.val (.long px), .second, .val (.long qx), .second, .val (.long lx), .second, .val (.long mx), .second, .unset, .unset, .unset, .unset, .unset, .unset, .unset, .unset, .unset, .unset, .unset, .unset, .unset] [(.long (F1 (1 : Int64) (px &&& (9223372036854775807 : Int64))))])) t → Steps p.tables e below (s₁.setTop (entryFrame m #[(.long px), (.long qx), (.long lx), (.long mx)] maxLocals)) t := fun t k => pre1 t (st2 t k)
  have pre5 : ∀ t, Steps p.tables e below (T2.setTop (mkF m 11 #[.val (.long px), .second, .val (.long qx), .second, .val (.long lx), .second, .val (.long mx), .second, .val (.long (F1 (1 : Int64) (px &&& (9223372036854775807 : Int64)))), .second, .unset, .unset, .unset, .unset, .unset, .unset, .unset, .unset, .unset, .unset, .unset] [])) t → Steps p.tables e below (s₁.setTop (entryFrame m #[(.long px), (.long qx), (.long lx), (.long mx)] maxLocals)) t := fun t k => pre3 t (by
    show Steps p.tables e below (T2.setTop (mkF m 9 #[.val (.long px), .second, .val (.long qx), .second, .val (.long lx), .second, .val (.long mx), .second, .unset, .unset, .unset, .unset, .unset, .unset, .unset, .unset, .unset, .unset, .unset, .unset, .unset] [(.long (F1 (1 : Int64) (px &&& (9223372036854775807 : Int64))))])) _
    refine XS.lstore X2.here hx rfl (hb hby at_9) rfl (l' := #[.val (.long px), .second, .val (.long qx), .second, .val (.long lx), .second, .val (.long mx), .second, .val (.long (F1 (1 : Int64) (px &&& (9223372036854775807 : Int64)))), .second, .unset, .unset, .unset, .unset, .unset, .unset, .unset, .unset, .unset, .unset, .unset]) rfl ?_
    exact k)
  obtain ⟨v4, hv4⟩ : ∃ z : Int64, z = (F1 (1 : Int64) (px &&& (9223372036854775807 : Int64))) := ⟨_, rfl⟩
  rw [← hv4] at pre5
  have pre6 : ∀ t, Steps p.tables e below (T2.setTop (mkF m 17 #[.val (.long px), .second, .val (.long qx), .second, .val (.long lx), .second, .val (.long mx), .second, .val (.long v4), .second, .unset, .unset, .unset, .unset, .unset, .unset, .unset, .unset, .unset, .unset, .unset] [(.long (qx &&& (9223372036854775807 : Int64))), (.long (1 : Int64))])) t → Steps p.tables e below (s₁.setTop (entryFrame m #[(.long px), (.long qx), (.long lx), (.long mx)] maxLocals)) t := fun t k => pre5 t (by
    show Steps p.tables e below (T2.setTop (mkF m 11 #[.val (.long px), .second, .val (.long qx), .second, .val (.long lx), .second, .val (.long mx), .second, .val (.long v4), .second, .unset, .unset, .unset, .unset, .unset, .unset, .unset, .unset, .unset, .unset, .unset] [])) _
    refine XS.lconst X2.here hx rfl (hb hby at_11) ?_
    refine XS.lloadN X2.here hx rfl (hb hby at_12) rfl ?_
    refine X2.ldc2Long hx hown (mvT hZ (hw _ (List.mem_of_getElem? (i := 0) rfl))) (g := (mkF m 13 #[.val (.long px), .second, .val (.long qx), .second, .val (.long lx), .second, .val (.long mx), .second, .val (.long v4), .second, .unset, .unset, .unset, .unset, .unset, .unset, .unset, .unset, .unset, .unset, .unset] [(.long qx), (.long (1 : Int64))])) rfl (hb hby at_13) _ ?_
    refine XS.land X2.here hx rfl (hb hby at_16) rfl ?_
    exact k)
  obtain ⟨_, _, ⟨T7, L7, k7, n7⟩, -, X7, ⟨Lc7, hQ7, l7, y7, z7⟩, st7⟩ := Jvm.LawKit.callS X2 hx (y := (⟨"java/lang/Math", "max", "(JJ)J"⟩ : MethodName)) hown (mvT hZ (hw _ (List.mem_of_getElem? (i := 1) rfl))) (mvT hZ (hw _ (List.mem_of_getElem? (i := 2) rfl))) (mvT hZ (hw _ (List.mem_of_getElem? (i := 3) rfl))) (mvT hZ (hw _ (List.mem_of_getElem? (i := 4) rfl))) (by decide) (backOf (W := 0) (rm1 l Z a0 hw [] (1 : Int64) (qx &&& (9223372036854775807 : Int64))  T2.heap n0 _ R2 ) hZ (hw _ (List.mem_of_getElem? (i := 4) rfl)) (hw _ (List.mem_of_getElem? (i := 3) rfl)) (by decide) (by decide)) (g := (mkF m 17 #[.val (.long px), .second, .val (.long qx), .second, .val (.long lx), .second, .val (.long mx), .second, .val (.long v4), .second, .unset, .unset, .unset, .unset, .unset, .unset, .unset, .unset, .unset, .unset, .unset] [(.long (qx &&& (9223372036854775807 : Int64))), (.long (1 : Int64))])) rfl (by rw [hml]; rfl) (argsL := [(.long (1 : Int64)), (.long (qx &&& (9223372036854775807 : Int64)))]) (rest := []) (lenOf pd__28JJ_29J rfl) rfl (by show 2 * 0 + _ ≤ _; exact Nat.le_of_eq rfl) (hb hby at_17) (fun _ _ => ⟨rfl, rfl, (by decide : 0 + 0 ≤ _), (by decide : 0 + 0 ≤ _)⟩)
  dsimp only [Pt.U, Pt.locs, Pt.cells, Pt.slots] at X7 l7 y7 z7 st7 hQ7
  subst l7 y7 z7
  obtain ⟨rfl, N7q, R7⟩ := hQ7
  have N7 := Fr.app N2 N7q
  replace R7 : Rep Z n0 T7.heap ([]) := R7
  have pre8 : ∀ t, Steps p.tables e below (T7.setTop (mkF m 20 #[.val (.long px), .second, .val (.long qx), .second, .val (.long lx), .second, .val (.long mx), .second, .val (.long v4), .second, .unset, .unset, .unset, .unset, .unset, .unset, .unset, .unset, .unset, .unset, .unset] [(.long (F1 (1 : Int64) (qx &&& (9223372036854775807 : Int64))))])) t → Steps p.tables e below (s₁.setTop (entryFrame m #[(.long px), (.long qx), (.long lx), (.long mx)] maxLocals)) t := fun t k => pre6 t (st7 t k)
  have pre10 : ∀ t, Steps p.tables e below (T7.setTop (mkF m 22 #[.val (.long px), .second, .val (.long qx), .second, .val (.long lx), .second, .val (.long mx), .second, .val (.long v4), .second, .val (.long (F1 (1 : Int64) (qx &&& (9223372036854775807 : Int64)))), .second, .unset, .unset, .unset, .unset, .unset, .unset, .unset, .unset, .unset] [])) t → Steps p.tables e below (s₁.setTop (entryFrame m #[(.long px), (.long qx), (.long lx), (.long mx)] maxLocals)) t := fun t k => pre8 t (by
    show Steps p.tables e below (T7.setTop (mkF m 20 #[.val (.long px), .second, .val (.long qx), .second, .val (.long lx), .second, .val (.long mx), .second, .val (.long v4), .second, .unset, .unset, .unset, .unset, .unset, .unset, .unset, .unset, .unset, .unset, .unset] [(.long (F1 (1 : Int64) (qx &&& (9223372036854775807 : Int64))))])) _
    refine XS.lstore X7.here hx rfl (hb hby at_20) rfl (l' := #[.val (.long px), .second, .val (.long qx), .second, .val (.long lx), .second, .val (.long mx), .second, .val (.long v4), .second, .val (.long (F1 (1 : Int64) (qx &&& (9223372036854775807 : Int64)))), .second, .unset, .unset, .unset, .unset, .unset, .unset, .unset, .unset, .unset]) rfl ?_
    exact k)
  obtain ⟨v9, hv9⟩ : ∃ z : Int64, z = (F1 (1 : Int64) (qx &&& (9223372036854775807 : Int64))) := ⟨_, rfl⟩
  rw [← hv9] at pre10
  obtain ⟨T11, h11, b11, X11, e11, R11, st11⟩ := gNew X7 hx hZ hown (hw _ (List.mem_of_getElem? (i := 5) rfl)) (hw _ (List.mem_of_getElem? (i := 6) rfl)) (hw _ (List.mem_of_getElem? (i := 7) rfl)) rfl R7 (fs := [("transactions", "J", (.long (0 : Int64))), ("bytes", "J", (.long (0 : Int64)))]) ⟨⟨Or.inr (hw _ (List.mem_of_getElem? (i := 20) rfl)), .long, by decide, rfl⟩, ⟨⟨Or.inr (hw _ (List.mem_of_getElem? (i := 22) rfl)), .long, by decide, rfl⟩, trivial⟩⟩ (by decide) (g := (mkF m 22 #[.val (.long px), .second, .val (.long qx), .second, .val (.long lx), .second, .val (.long mx), .second, .val (.long v4), .second, .val (.long v9), .second, .unset, .unset, .unset, .unset, .unset, .unset, .unset, .unset, .unset] [])) rfl (hb hby at_22) (by decide) (by decide)
  have pre12 : ∀ t, Steps p.tables e below (T11.setTop (mkF m 25 #[.val (.long px), .second, .val (.long qx), .second, .val (.long lx), .second, .val (.long mx), .second, .val (.long v4), .second, .val (.long v9), .second, .unset, .unset, .unset, .unset, .unset, .unset, .unset, .unset, .unset] [(.ref b11)])) t → Steps p.tables e below (s₁.setTop (entryFrame m #[(.long px), (.long qx), (.long lx), (.long mx)] maxLocals)) t := fun t k => pre10 t (st11 t k)
  have pre13 : ∀ t, Steps p.tables e below (T11.setTop (mkF m 30 #[.val (.long px), .second, .val (.long qx), .second, .val (.long lx), .second, .val (.long mx), .second, .val (.long v4), .second, .val (.long v9), .second, .unset, .unset, .unset, .unset, .unset, .unset, .unset, .unset, .unset] [(.long v9), (.long v4), (.ref b11), (.ref b11)])) t → Steps p.tables e below (s₁.setTop (entryFrame m #[(.long px), (.long qx), (.long lx), (.long mx)] maxLocals)) t := fun t k => pre12 t (by
    show Steps p.tables e below (T11.setTop (mkF m 25 #[.val (.long px), .second, .val (.long qx), .second, .val (.long lx), .second, .val (.long mx), .second, .val (.long v4), .second, .val (.long v9), .second, .unset, .unset, .unset, .unset, .unset, .unset, .unset, .unset, .unset] [(.ref b11)])) _
    refine XS.dup X11.here hx rfl (hb hby at_25) rfl rfl ?_
    refine XS.lload X11.here hx rfl (hb hby at_26) rfl ?_
    refine XS.lload X11.here hx rfl (hb hby at_28) rfl ?_
    exact k)
  obtain ⟨_, _, ⟨T14, L14, k14, n14⟩, -, X14, ⟨Lc14, hQ14, l14, y14, z14⟩, st14⟩ := X11.specialBack hx (y := (⟨"com/example/regent/regent/storage/SnapshotBound", "<init>", "(JJ)V"⟩ : MethodName)) rfl hown (mvT hZ (hw _ (List.mem_of_getElem? (i := 8) rfl))) (mvT hZ (hw _ (List.mem_of_getElem? (i := 9) rfl))) (mvT hZ (hw _ (List.mem_of_getElem? (i := 10) rfl))) (by decide) (backOf (W := 1) (rm2 l Z a0 hw [] b11 v4 v9 _ _ h11 n0 _ R11 (own_ge hv4) (own_ge hv9)) hZ (hw _ (List.mem_of_getElem? (i := 10) rfl)) (hw _ (List.mem_of_getElem? (i := 7) rfl)) (by decide) (by decide)) (g := (mkF m 30 #[.val (.long px), .second, .val (.long qx), .second, .val (.long lx), .second, .val (.long mx), .second, .val (.long v4), .second, .val (.long v9), .second, .unset, .unset, .unset, .unset, .unset, .unset, .unset, .unset, .unset] [(.long v9), (.long v4), (.ref b11), (.ref b11)])) rfl (by rw [hml]; rfl) (Steps.refl _) (a := b11) (argsL := [(.long v4), (.long v9)]) (rest := [(.ref b11)]) (lenOf pd__28JJ_29V rfl) rfl (by show 2 * 0 + _ ≤ _; exact Nat.le_of_eq rfl) (hb hby at_30) (fun _ _ => ⟨rfl, e11, (by decide : 1 + 0 ≤ _), (by decide : 2 + 0 ≤ _)⟩)
  dsimp only [Pt.U, Pt.locs, Pt.cells, Pt.slots] at X14 l14 y14 z14 st14 hQ14
  subst l14 y14 z14
  obtain ⟨rfl, N14q, R14⟩ := hQ14
  have N14 := Fr.app N7 N14q
  replace R14 : Rep Z n0 T14.heap ((b11, Obj "com/example/regent/regent/storage/SnapshotBound" [("transactions", "J", (.long v4)), ("bytes", "J", (.long v9))]) :: []) := R14
  have pre15 : ∀ t, Steps p.tables e below (T14.setTop (mkF m 33 #[.val (.long px), .second, .val (.long qx), .second, .val (.long lx), .second, .val (.long mx), .second, .val (.long v4), .second, .val (.long v9), .second, .unset, .unset, .unset, .unset, .unset, .unset, .unset, .unset, .unset] [(.ref b11)])) t → Steps p.tables e below (s₁.setTop (entryFrame m #[(.long px), (.long qx), (.long lx), (.long mx)] maxLocals)) t := fun t k => pre13 t (st14.trans k)
  have pre16 : ∀ t, Steps p.tables e below (T14.setTop (mkF m 41 #[.val (.long px), .second, .val (.long qx), .second, .val (.long lx), .second, .val (.long mx), .second, .val (.long v4), .second, .val (.long v9), .second, .val (.ref b11), .unset, .unset, .unset, .unset, .unset, .unset, .unset, .unset] [(.long mx), (.long lx), (.ref b11)])) t → Steps p.tables e below (s₁.setTop (entryFrame m #[(.long px), (.long qx), (.long lx), (.long mx)] maxLocals)) t := fun t k => pre15 t (by
    show Steps p.tables e below (T14.setTop (mkF m 33 #[.val (.long px), .second, .val (.long qx), .second, .val (.long lx), .second, .val (.long mx), .second, .val (.long v4), .second, .val (.long v9), .second, .unset, .unset, .unset, .unset, .unset, .unset, .unset, .unset, .unset] [(.ref b11)])) _
    refine XS.astore X14.here hx rfl (hb hby at_33) rfl rfl (l' := #[.val (.long px), .second, .val (.long qx), .second, .val (.long lx), .second, .val (.long mx), .second, .val (.long v4), .second, .val (.long v9), .second, .val (.ref b11), .unset, .unset, .unset, .unset, .unset, .unset, .unset, .unset]) rfl ?_
    refine XS.aload X14.here hx rfl (hb hby at_35) rfl rfl ?_
    refine XS.lload X14.here hx rfl (hb hby at_37) rfl ?_
    refine XS.lload X14.here hx rfl (hb hby at_39) rfl ?_
    exact k)
  obtain ⟨cq17, kq17, q17a, q17b, q17c⟩ := isOf hZ rfl (R14.exa (i := 0) rfl)
  obtain ⟨_, _, ⟨T17, L17, k17, n17⟩, -, X17, ⟨Lc17, hQ17, l17, y17, z17⟩, st17⟩ := X14.virtualBack hx (y := (⟨"com/example/regent/regent/storage/SnapshotBound", "passed", "(JJ)Z"⟩ : MethodName)) (z := (⟨"com/example/regent/regent/storage/SnapshotBound", "passed", "(JJ)Z"⟩ : MethodName)) hown (mvT hZ (hw _ (List.mem_of_getElem? (i := 23) rfl))) (mvT hZ (hw _ (List.mem_of_getElem? (i := 24) rfl))) (notFace_of_selects (args := #[]) (mvT hZ (hw _ (List.mem_of_getElem? (i := 26) rfl)))) (mvT hZ (hw _ (List.mem_of_getElem? (i := 26) rfl))) (mvT hZ (hw _ (List.mem_of_getElem? (i := 25) rfl))) (by decide) (backOf (W := 0) (rm5 l Z a0 hw [] b11 lx mx _ _ T14.heap n0 _ R14 ) hZ (hw _ (List.mem_of_getElem? (i := 27) rfl)) (hw _ (List.mem_of_getElem? (i := 7) rfl)) (by decide) (by decide)) q17a q17c (g := (mkF m 41 #[.val (.long px), .second, .val (.long qx), .second, .val (.long lx), .second, .val (.long mx), .second, .val (.long v4), .second, .val (.long v9), .second, .val (.ref b11), .unset, .unset, .unset, .unset, .unset, .unset, .unset, .unset] [(.long mx), (.long lx), (.ref b11)])) rfl (by rw [hml]; rfl) (Steps.refl _) (argsL := [(.long lx), (.long mx)]) (rest := []) (lenOf pd__28JJ_29Z rfl) rfl (by show 2 * 0 + _ ≤ _; exact Nat.le_of_eq rfl) (hb hby at_41) (fun _ _ => ⟨rfl, rfl, (by decide : 1 + 0 ≤ _), (by decide : 2 + 0 ≤ _)⟩)
  dsimp only [Pt.U, Pt.locs, Pt.cells, Pt.slots] at X17 l17 y17 z17 st17 hQ17
  subst l17 y17 z17
  obtain ⟨rfl, N17q, R17⟩ := hQ17
  have N17 := Fr.app N14 N17q
  replace R17 : Rep Z n0 T17.heap ((b11, Obj "com/example/regent/regent/storage/SnapshotBound" [("transactions", "J", (.long v4)), ("bytes", "J", (.long v9))]) :: []) := R17
  have pre18 : ∀ t, Steps p.tables e below (T17.setTop (mkF m 44 #[.val (.long px), .second, .val (.long qx), .second, .val (.long lx), .second, .val (.long mx), .second, .val (.long v4), .second, .val (.long v9), .second, .val (.ref b11), .unset, .unset, .unset, .unset, .unset, .unset, .unset, .unset] [(.int (F5 lx mx v4 v9))])) t → Steps p.tables e below (s₁.setTop (entryFrame m #[(.long px), (.long qx), (.long lx), (.long mx)] maxLocals)) t := fun t k => pre16 t (st17.trans k)
  have pre20 : ∀ t, Steps p.tables e below (T17.setTop (mkF m 46 #[.val (.long px), .second, .val (.long qx), .second, .val (.long lx), .second, .val (.long mx), .second, .val (.long v4), .second, .val (.long v9), .second, .val (.ref b11), .val (.int (F5 lx mx v4 v9)), .unset, .unset, .unset, .unset, .unset, .unset, .unset] [])) t → Steps p.tables e below (s₁.setTop (entryFrame m #[(.long px), (.long qx), (.long lx), (.long mx)] maxLocals)) t := fun t k => pre18 t (by
    show Steps p.tables e below (T17.setTop (mkF m 44 #[.val (.long px), .second, .val (.long qx), .second, .val (.long lx), .second, .val (.long mx), .second, .val (.long v4), .second, .val (.long v9), .second, .val (.ref b11), .unset, .unset, .unset, .unset, .unset, .unset, .unset, .unset] [(.int (F5 lx mx v4 v9))])) _
    refine XS.istore X17.here hx rfl (hb hby at_44) rfl (l' := #[.val (.long px), .second, .val (.long qx), .second, .val (.long lx), .second, .val (.long mx), .second, .val (.long v4), .second, .val (.long v9), .second, .val (.ref b11), .val (.int (F5 lx mx v4 v9)), .unset, .unset, .unset, .unset, .unset, .unset, .unset]) rfl ?_
    exact k)
  obtain ⟨v19, hv19⟩ : ∃ z : Int32, z = (F5 lx mx v4 v9) := ⟨_, rfl⟩
  rw [← hv19] at pre20
  have pre21 : ∀ t, Steps p.tables e below (T17.setTop (mkF m 53 #[.val (.long px), .second, .val (.long qx), .second, .val (.long lx), .second, .val (.long mx), .second, .val (.long v4), .second, .val (.long v9), .second, .val (.ref b11), .val (.int v19), .unset, .unset, .unset, .unset, .unset, .unset, .unset] [(.long (-9223372036854775808 : Int64)), (.long lx), (.ref b11)])) t → Steps p.tables e below (s₁.setTop (entryFrame m #[(.long px), (.long qx), (.long lx), (.long mx)] maxLocals)) t := fun t k => pre20 t (by
    show Steps p.tables e below (T17.setTop (mkF m 46 #[.val (.long px), .second, .val (.long qx), .second, .val (.long lx), .second, .val (.long mx), .second, .val (.long v4), .second, .val (.long v9), .second, .val (.ref b11), .val (.int v19), .unset, .unset, .unset, .unset, .unset, .unset, .unset] [])) _
    refine XS.aload X17.here hx rfl (hb hby at_46) rfl rfl ?_
    refine XS.lload X17.here hx rfl (hb hby at_48) rfl ?_
    refine X17.ldc2Long hx hown (mvT hZ (hw _ (List.mem_of_getElem? (i := 28) rfl))) (g := (mkF m 50 #[.val (.long px), .second, .val (.long qx), .second, .val (.long lx), .second, .val (.long mx), .second, .val (.long v4), .second, .val (.long v9), .second, .val (.ref b11), .val (.int v19), .unset, .unset, .unset, .unset, .unset, .unset, .unset] [(.long lx), (.ref b11)])) rfl (hb hby at_50) _ ?_
    exact k)
  obtain ⟨cq22, kq22, q22a, q22b, q22c⟩ := isOf hZ rfl (R17.exa (i := 0) rfl)
  obtain ⟨_, _, ⟨T22, L22, k22, n22⟩, -, X22, ⟨Lc22, hQ22, l22, y22, z22⟩, st22⟩ := X17.virtualBack hx (y := (⟨"com/example/regent/regent/storage/SnapshotBound", "passed", "(JJ)Z"⟩ : MethodName)) (z := (⟨"com/example/regent/regent/storage/SnapshotBound", "passed", "(JJ)Z"⟩ : MethodName)) hown (mvT hZ (hw _ (List.mem_of_getElem? (i := 23) rfl))) (mvT hZ (hw _ (List.mem_of_getElem? (i := 24) rfl))) (notFace_of_selects (args := #[]) (mvT hZ (hw _ (List.mem_of_getElem? (i := 26) rfl)))) (mvT hZ (hw _ (List.mem_of_getElem? (i := 26) rfl))) (mvT hZ (hw _ (List.mem_of_getElem? (i := 25) rfl))) (by decide) (backOf (W := 0) (rm5 l Z a0 hw [] b11 lx (-9223372036854775808 : Int64) _ _ T17.heap n0 _ R17 ) hZ (hw _ (List.mem_of_getElem? (i := 27) rfl)) (hw _ (List.mem_of_getElem? (i := 7) rfl)) (by decide) (by decide)) q22a q22c (g := (mkF m 53 #[.val (.long px), .second, .val (.long qx), .second, .val (.long lx), .second, .val (.long mx), .second, .val (.long v4), .second, .val (.long v9), .second, .val (.ref b11), .val (.int v19), .unset, .unset, .unset, .unset, .unset, .unset, .unset] [(.long (-9223372036854775808 : Int64)), (.long lx), (.ref b11)])) rfl (by rw [hml]; rfl) (Steps.refl _) (argsL := [(.long lx), (.long (-9223372036854775808 : Int64))]) (rest := []) (lenOf pd__28JJ_29Z rfl) rfl (by show 2 * 0 + _ ≤ _; exact Nat.le_of_eq rfl) (hb hby at_53) (fun _ _ => ⟨rfl, rfl, (by decide : 1 + 0 ≤ _), (by decide : 2 + 0 ≤ _)⟩)
  dsimp only [Pt.U, Pt.locs, Pt.cells, Pt.slots] at X22 l22 y22 z22 st22 hQ22
  subst l22 y22 z22
  obtain ⟨rfl, N22q, R22⟩ := hQ22
  have N22 := Fr.app N17 N22q
  replace R22 : Rep Z n0 T22.heap ((b11, Obj "com/example/regent/regent/storage/SnapshotBound" [("transactions", "J", (.long v4)), ("bytes", "J", (.long v9))]) :: []) := R22
  have pre23 : ∀ t, Steps p.tables e below (T22.setTop (mkF m 56 #[.val (.long px), .second, .val (.long qx), .second, .val (.long lx), .second, .val (.long mx), .second, .val (.long v4), .second, .val (.long v9), .second, .val (.ref b11), .val (.int v19), .unset, .unset, .unset, .unset, .unset, .unset, .unset] [(.int (F5 lx (-9223372036854775808 : Int64) v4 v9))])) t → Steps p.tables e below (s₁.setTop (entryFrame m #[(.long px), (.long qx), (.long lx), (.long mx)] maxLocals)) t := fun t k => pre21 t (st22.trans k)
  have pre25 : ∀ t, Steps p.tables e below (T22.setTop (mkF m 58 #[.val (.long px), .second, .val (.long qx), .second, .val (.long lx), .second, .val (.long mx), .second, .val (.long v4), .second, .val (.long v9), .second, .val (.ref b11), .val (.int v19), .val (.int (F5 lx (-9223372036854775808 : Int64) v4 v9)), .unset, .unset, .unset, .unset, .unset, .unset] [])) t → Steps p.tables e below (s₁.setTop (entryFrame m #[(.long px), (.long qx), (.long lx), (.long mx)] maxLocals)) t := fun t k => pre23 t (by
    show Steps p.tables e below (T22.setTop (mkF m 56 #[.val (.long px), .second, .val (.long qx), .second, .val (.long lx), .second, .val (.long mx), .second, .val (.long v4), .second, .val (.long v9), .second, .val (.ref b11), .val (.int v19), .unset, .unset, .unset, .unset, .unset, .unset, .unset] [(.int (F5 lx (-9223372036854775808 : Int64) v4 v9))])) _
    refine XS.istore X22.here hx rfl (hb hby at_56) rfl (l' := #[.val (.long px), .second, .val (.long qx), .second, .val (.long lx), .second, .val (.long mx), .second, .val (.long v4), .second, .val (.long v9), .second, .val (.ref b11), .val (.int v19), .val (.int (F5 lx (-9223372036854775808 : Int64) v4 v9)), .unset, .unset, .unset, .unset, .unset, .unset]) rfl ?_
    exact k)
  obtain ⟨v24, hv24⟩ : ∃ z : Int32, z = (F5 lx (-9223372036854775808 : Int64) v4 v9) := ⟨_, rfl⟩
  rw [← hv24] at pre25
  have pre26 : ∀ t, Steps p.tables e below (T22.setTop (mkF m 65 #[.val (.long px), .second, .val (.long qx), .second, .val (.long lx), .second, .val (.long mx), .second, .val (.long v4), .second, .val (.long v9), .second, .val (.ref b11), .val (.int v19), .val (.int v24), .unset, .unset, .unset, .unset, .unset, .unset] [(.long mx), (.long (-9223372036854775808 : Int64)), (.ref b11)])) t → Steps p.tables e below (s₁.setTop (entryFrame m #[(.long px), (.long qx), (.long lx), (.long mx)] maxLocals)) t := fun t k => pre25 t (by
    show Steps p.tables e below (T22.setTop (mkF m 58 #[.val (.long px), .second, .val (.long qx), .second, .val (.long lx), .second, .val (.long mx), .second, .val (.long v4), .second, .val (.long v9), .second, .val (.ref b11), .val (.int v19), .val (.int v24), .unset, .unset, .unset, .unset, .unset, .unset] [])) _
    refine XS.aload X22.here hx rfl (hb hby at_58) rfl rfl ?_
    refine X22.ldc2Long hx hown (mvT hZ (hw _ (List.mem_of_getElem? (i := 28) rfl))) (g := (mkF m 60 #[.val (.long px), .second, .val (.long qx), .second, .val (.long lx), .second, .val (.long mx), .second, .val (.long v4), .second, .val (.long v9), .second, .val (.ref b11), .val (.int v19), .val (.int v24), .unset, .unset, .unset, .unset, .unset, .unset] [(.ref b11)])) rfl (hb hby at_60) _ ?_
    refine XS.lload X22.here hx rfl (hb hby at_63) rfl ?_
    exact k)
  obtain ⟨cq27, kq27, q27a, q27b, q27c⟩ := isOf hZ rfl (R22.exa (i := 0) rfl)
  obtain ⟨_, _, ⟨T27, L27, k27, n27⟩, -, X27, ⟨Lc27, hQ27, l27, y27, z27⟩, st27⟩ := X22.virtualBack hx (y := (⟨"com/example/regent/regent/storage/SnapshotBound", "passed", "(JJ)Z"⟩ : MethodName)) (z := (⟨"com/example/regent/regent/storage/SnapshotBound", "passed", "(JJ)Z"⟩ : MethodName)) hown (mvT hZ (hw _ (List.mem_of_getElem? (i := 23) rfl))) (mvT hZ (hw _ (List.mem_of_getElem? (i := 24) rfl))) (notFace_of_selects (args := #[]) (mvT hZ (hw _ (List.mem_of_getElem? (i := 26) rfl)))) (mvT hZ (hw _ (List.mem_of_getElem? (i := 26) rfl))) (mvT hZ (hw _ (List.mem_of_getElem? (i := 25) rfl))) (by decide) (backOf (W := 0) (rm5 l Z a0 hw [] b11 (-9223372036854775808 : Int64) mx _ _ T22.heap n0 _ R22 ) hZ (hw _ (List.mem_of_getElem? (i := 27) rfl)) (hw _ (List.mem_of_getElem? (i := 7) rfl)) (by decide) (by decide)) q27a q27c (g := (mkF m 65 #[.val (.long px), .second, .val (.long qx), .second, .val (.long lx), .second, .val (.long mx), .second, .val (.long v4), .second, .val (.long v9), .second, .val (.ref b11), .val (.int v19), .val (.int v24), .unset, .unset, .unset, .unset, .unset, .unset] [(.long mx), (.long (-9223372036854775808 : Int64)), (.ref b11)])) rfl (by rw [hml]; rfl) (Steps.refl _) (argsL := [(.long (-9223372036854775808 : Int64)), (.long mx)]) (rest := []) (lenOf pd__28JJ_29Z rfl) rfl (by show 2 * 0 + _ ≤ _; exact Nat.le_of_eq rfl) (hb hby at_65) (fun _ _ => ⟨rfl, rfl, (by decide : 1 + 0 ≤ _), (by decide : 2 + 0 ≤ _)⟩)
  dsimp only [Pt.U, Pt.locs, Pt.cells, Pt.slots] at X27 l27 y27 z27 st27 hQ27
  subst l27 y27 z27
  obtain ⟨rfl, N27q, R27⟩ := hQ27
  have N27 := Fr.app N22 N27q
  replace R27 : Rep Z n0 T27.heap ((b11, Obj "com/example/regent/regent/storage/SnapshotBound" [("transactions", "J", (.long v4)), ("bytes", "J", (.long v9))]) :: []) := R27
  have pre28 : ∀ t, Steps p.tables e below (T27.setTop (mkF m 68 #[.val (.long px), .second, .val (.long qx), .second, .val (.long lx), .second, .val (.long mx), .second, .val (.long v4), .second, .val (.long v9), .second, .val (.ref b11), .val (.int v19), .val (.int v24), .unset, .unset, .unset, .unset, .unset, .unset] [(.int (F5 (-9223372036854775808 : Int64) mx v4 v9))])) t → Steps p.tables e below (s₁.setTop (entryFrame m #[(.long px), (.long qx), (.long lx), (.long mx)] maxLocals)) t := fun t k => pre26 t (st27.trans k)
  have pre30 : ∀ t, Steps p.tables e below (T27.setTop (mkF m 70 #[.val (.long px), .second, .val (.long qx), .second, .val (.long lx), .second, .val (.long mx), .second, .val (.long v4), .second, .val (.long v9), .second, .val (.ref b11), .val (.int v19), .val (.int v24), .val (.int (F5 (-9223372036854775808 : Int64) mx v4 v9)), .unset, .unset, .unset, .unset, .unset] [])) t → Steps p.tables e below (s₁.setTop (entryFrame m #[(.long px), (.long qx), (.long lx), (.long mx)] maxLocals)) t := fun t k => pre28 t (by
    show Steps p.tables e below (T27.setTop (mkF m 68 #[.val (.long px), .second, .val (.long qx), .second, .val (.long lx), .second, .val (.long mx), .second, .val (.long v4), .second, .val (.long v9), .second, .val (.ref b11), .val (.int v19), .val (.int v24), .unset, .unset, .unset, .unset, .unset, .unset] [(.int (F5 (-9223372036854775808 : Int64) mx v4 v9))])) _
    refine XS.istore X27.here hx rfl (hb hby at_68) rfl (l' := #[.val (.long px), .second, .val (.long qx), .second, .val (.long lx), .second, .val (.long mx), .second, .val (.long v4), .second, .val (.long v9), .second, .val (.ref b11), .val (.int v19), .val (.int v24), .val (.int (F5 (-9223372036854775808 : Int64) mx v4 v9)), .unset, .unset, .unset, .unset, .unset]) rfl ?_
    exact k)
  obtain ⟨v29, hv29⟩ : ∃ z : Int32, z = (F5 (-9223372036854775808 : Int64) mx v4 v9) := ⟨_, rfl⟩
  rw [← hv29] at pre30
  have pre31 : ∀ t, Steps p.tables e below (T27.setTop (mkF m 80 #[.val (.long px), .second, .val (.long qx), .second, .val (.long lx), .second, .val (.long mx), .second, .val (.long v4), .second, .val (.long v9), .second, .val (.ref b11), .val (.int v19), .val (.int v24), .val (.int v29), .unset, .unset, .unset, .unset, .unset] [(.long (v9 - (1 : Int64))), (.long (v4 - (1 : Int64))), (.ref b11)])) t → Steps p.tables e below (s₁.setTop (entryFrame m #[(.long px), (.long qx), (.long lx), (.long mx)] maxLocals)) t := fun t k => pre30 t (by
    show Steps p.tables e below (T27.setTop (mkF m 70 #[.val (.long px), .second, .val (.long qx), .second, .val (.long lx), .second, .val (.long mx), .second, .val (.long v4), .second, .val (.long v9), .second, .val (.ref b11), .val (.int v19), .val (.int v24), .val (.int v29), .unset, .unset, .unset, .unset, .unset] [])) _
    refine XS.aload X27.here hx rfl (hb hby at_70) rfl rfl ?_
    refine XS.lload X27.here hx rfl (hb hby at_72) rfl ?_
    refine XS.lconst X27.here hx rfl (hb hby at_74) ?_
    refine XS.lsub X27.here hx rfl (hb hby at_75) rfl ?_
    refine XS.lload X27.here hx rfl (hb hby at_76) rfl ?_
    refine XS.lconst X27.here hx rfl (hb hby at_78) ?_
    refine XS.lsub X27.here hx rfl (hb hby at_79) rfl ?_
    exact k)
  obtain ⟨cq32, kq32, q32a, q32b, q32c⟩ := isOf hZ rfl (R27.exa (i := 0) rfl)
  obtain ⟨_, _, ⟨T32, L32, k32, n32⟩, -, X32, ⟨Lc32, hQ32, l32, y32, z32⟩, st32⟩ := X27.virtualBack hx (y := (⟨"com/example/regent/regent/storage/SnapshotBound", "passed", "(JJ)Z"⟩ : MethodName)) (z := (⟨"com/example/regent/regent/storage/SnapshotBound", "passed", "(JJ)Z"⟩ : MethodName)) hown (mvT hZ (hw _ (List.mem_of_getElem? (i := 23) rfl))) (mvT hZ (hw _ (List.mem_of_getElem? (i := 24) rfl))) (notFace_of_selects (args := #[]) (mvT hZ (hw _ (List.mem_of_getElem? (i := 26) rfl)))) (mvT hZ (hw _ (List.mem_of_getElem? (i := 26) rfl))) (mvT hZ (hw _ (List.mem_of_getElem? (i := 25) rfl))) (by decide) (backOf (W := 0) (rm5 l Z a0 hw [] b11 (v4 - (1 : Int64)) (v9 - (1 : Int64)) _ _ T27.heap n0 _ R27 ) hZ (hw _ (List.mem_of_getElem? (i := 27) rfl)) (hw _ (List.mem_of_getElem? (i := 7) rfl)) (by decide) (by decide)) q32a q32c (g := (mkF m 80 #[.val (.long px), .second, .val (.long qx), .second, .val (.long lx), .second, .val (.long mx), .second, .val (.long v4), .second, .val (.long v9), .second, .val (.ref b11), .val (.int v19), .val (.int v24), .val (.int v29), .unset, .unset, .unset, .unset, .unset] [(.long (v9 - (1 : Int64))), (.long (v4 - (1 : Int64))), (.ref b11)])) rfl (by rw [hml]; rfl) (Steps.refl _) (argsL := [(.long (v4 - (1 : Int64))), (.long (v9 - (1 : Int64)))]) (rest := []) (lenOf pd__28JJ_29Z rfl) rfl (by show 2 * 0 + _ ≤ _; exact Nat.le_of_eq rfl) (hb hby at_80) (fun _ _ => ⟨rfl, rfl, (by decide : 1 + 0 ≤ _), (by decide : 2 + 0 ≤ _)⟩)
  dsimp only [Pt.U, Pt.locs, Pt.cells, Pt.slots] at X32 l32 y32 z32 st32 hQ32
  subst l32 y32 z32
  obtain ⟨rfl, N32q, R32⟩ := hQ32
  have N32 := Fr.app N27 N32q
  replace R32 : Rep Z n0 T32.heap ((b11, Obj "com/example/regent/regent/storage/SnapshotBound" [("transactions", "J", (.long v4)), ("bytes", "J", (.long v9))]) :: []) := R32
  have pre33 : ∀ t, Steps p.tables e below (T32.setTop (mkF m 83 #[.val (.long px), .second, .val (.long qx), .second, .val (.long lx), .second, .val (.long mx), .second, .val (.long v4), .second, .val (.long v9), .second, .val (.ref b11), .val (.int v19), .val (.int v24), .val (.int v29), .unset, .unset, .unset, .unset, .unset] [(.int (F5 (v4 - (1 : Int64)) (v9 - (1 : Int64)) v4 v9))])) t → Steps p.tables e below (s₁.setTop (entryFrame m #[(.long px), (.long qx), (.long lx), (.long mx)] maxLocals)) t := fun t k => pre31 t (st32.trans k)
  have pre35 : ∀ t, Steps p.tables e below (T32.setTop (mkF m 85 #[.val (.long px), .second, .val (.long qx), .second, .val (.long lx), .second, .val (.long mx), .second, .val (.long v4), .second, .val (.long v9), .second, .val (.ref b11), .val (.int v19), .val (.int v24), .val (.int v29), .val (.int (F5 (v4 - (1 : Int64)) (v9 - (1 : Int64)) v4 v9)), .unset, .unset, .unset, .unset] [])) t → Steps p.tables e below (s₁.setTop (entryFrame m #[(.long px), (.long qx), (.long lx), (.long mx)] maxLocals)) t := fun t k => pre33 t (by
    show Steps p.tables e below (T32.setTop (mkF m 83 #[.val (.long px), .second, .val (.long qx), .second, .val (.long lx), .second, .val (.long mx), .second, .val (.long v4), .second, .val (.long v9), .second, .val (.ref b11), .val (.int v19), .val (.int v24), .val (.int v29), .unset, .unset, .unset, .unset, .unset] [(.int (F5 (v4 - (1 : Int64)) (v9 - (1 : Int64)) v4 v9))])) _
    refine XS.istore X32.here hx rfl (hb hby at_83) rfl (l' := #[.val (.long px), .second, .val (.long qx), .second, .val (.long lx), .second, .val (.long mx), .second, .val (.long v4), .second, .val (.long v9), .second, .val (.ref b11), .val (.int v19), .val (.int v24), .val (.int v29), .val (.int (F5 (v4 - (1 : Int64)) (v9 - (1 : Int64)) v4 v9)), .unset, .unset, .unset, .unset]) rfl ?_
    exact k)
  obtain ⟨v34, hv34⟩ : ∃ z : Int32, z = (F5 (v4 - (1 : Int64)) (v9 - (1 : Int64)) v4 v9) := ⟨_, rfl⟩
  rw [← hv34] at pre35
  have pre36 : ∀ t, Steps p.tables e below (T32.setTop (mkF m 92 #[.val (.long px), .second, .val (.long qx), .second, .val (.long lx), .second, .val (.long mx), .second, .val (.long v4), .second, .val (.long v9), .second, .val (.ref b11), .val (.int v19), .val (.int v24), .val (.int v29), .val (.int v34), .unset, .unset, .unset, .unset] [(.long (-9223372036854775808 : Int64)), (.long v4), (.ref b11)])) t → Steps p.tables e below (s₁.setTop (entryFrame m #[(.long px), (.long qx), (.long lx), (.long mx)] maxLocals)) t := fun t k => pre35 t (by
    show Steps p.tables e below (T32.setTop (mkF m 85 #[.val (.long px), .second, .val (.long qx), .second, .val (.long lx), .second, .val (.long mx), .second, .val (.long v4), .second, .val (.long v9), .second, .val (.ref b11), .val (.int v19), .val (.int v24), .val (.int v29), .val (.int v34), .unset, .unset, .unset, .unset] [])) _
    refine XS.aload X32.here hx rfl (hb hby at_85) rfl rfl ?_
    refine XS.lload X32.here hx rfl (hb hby at_87) rfl ?_
    refine X32.ldc2Long hx hown (mvT hZ (hw _ (List.mem_of_getElem? (i := 28) rfl))) (g := (mkF m 89 #[.val (.long px), .second, .val (.long qx), .second, .val (.long lx), .second, .val (.long mx), .second, .val (.long v4), .second, .val (.long v9), .second, .val (.ref b11), .val (.int v19), .val (.int v24), .val (.int v29), .val (.int v34), .unset, .unset, .unset, .unset] [(.long v4), (.ref b11)])) rfl (hb hby at_89) _ ?_
    exact k)
  obtain ⟨cq37, kq37, q37a, q37b, q37c⟩ := isOf hZ rfl (R32.exa (i := 0) rfl)
  obtain ⟨_, _, ⟨T37, L37, k37, n37⟩, -, X37, ⟨Lc37, hQ37, l37, y37, z37⟩, st37⟩ := X32.virtualBack hx (y := (⟨"com/example/regent/regent/storage/SnapshotBound", "passed", "(JJ)Z"⟩ : MethodName)) (z := (⟨"com/example/regent/regent/storage/SnapshotBound", "passed", "(JJ)Z"⟩ : MethodName)) hown (mvT hZ (hw _ (List.mem_of_getElem? (i := 23) rfl))) (mvT hZ (hw _ (List.mem_of_getElem? (i := 24) rfl))) (notFace_of_selects (args := #[]) (mvT hZ (hw _ (List.mem_of_getElem? (i := 26) rfl)))) (mvT hZ (hw _ (List.mem_of_getElem? (i := 26) rfl))) (mvT hZ (hw _ (List.mem_of_getElem? (i := 25) rfl))) (by decide) (backOf (W := 0) (rm5 l Z a0 hw [] b11 v4 (-9223372036854775808 : Int64) _ _ T32.heap n0 _ R32 ) hZ (hw _ (List.mem_of_getElem? (i := 27) rfl)) (hw _ (List.mem_of_getElem? (i := 7) rfl)) (by decide) (by decide)) q37a q37c (g := (mkF m 92 #[.val (.long px), .second, .val (.long qx), .second, .val (.long lx), .second, .val (.long mx), .second, .val (.long v4), .second, .val (.long v9), .second, .val (.ref b11), .val (.int v19), .val (.int v24), .val (.int v29), .val (.int v34), .unset, .unset, .unset, .unset] [(.long (-9223372036854775808 : Int64)), (.long v4), (.ref b11)])) rfl (by rw [hml]; rfl) (Steps.refl _) (argsL := [(.long v4), (.long (-9223372036854775808 : Int64))]) (rest := []) (lenOf pd__28JJ_29Z rfl) rfl (by show 2 * 0 + _ ≤ _; exact Nat.le_of_eq rfl) (hb hby at_92) (fun _ _ => ⟨rfl, rfl, (by decide : 1 + 0 ≤ _), (by decide : 2 + 0 ≤ _)⟩)
  dsimp only [Pt.U, Pt.locs, Pt.cells, Pt.slots] at X37 l37 y37 z37 st37 hQ37
  subst l37 y37 z37
  obtain ⟨rfl, N37q, R37⟩ := hQ37
  have N37 := Fr.app N32 N37q
  replace R37 : Rep Z n0 T37.heap ((b11, Obj "com/example/regent/regent/storage/SnapshotBound" [("transactions", "J", (.long v4)), ("bytes", "J", (.long v9))]) :: []) := R37
  have pre38 : ∀ t, Steps p.tables e below (T37.setTop (mkF m 95 #[.val (.long px), .second, .val (.long qx), .second, .val (.long lx), .second, .val (.long mx), .second, .val (.long v4), .second, .val (.long v9), .second, .val (.ref b11), .val (.int v19), .val (.int v24), .val (.int v29), .val (.int v34), .unset, .unset, .unset, .unset] [(.int (F5 v4 (-9223372036854775808 : Int64) v4 v9))])) t → Steps p.tables e below (s₁.setTop (entryFrame m #[(.long px), (.long qx), (.long lx), (.long mx)] maxLocals)) t := fun t k => pre36 t (st37.trans k)
  have pre40 : ∀ t, Steps p.tables e below (T37.setTop (mkF m 97 #[.val (.long px), .second, .val (.long qx), .second, .val (.long lx), .second, .val (.long mx), .second, .val (.long v4), .second, .val (.long v9), .second, .val (.ref b11), .val (.int v19), .val (.int v24), .val (.int v29), .val (.int v34), .val (.int (F5 v4 (-9223372036854775808 : Int64) v4 v9)), .unset, .unset, .unset] [])) t → Steps p.tables e below (s₁.setTop (entryFrame m #[(.long px), (.long qx), (.long lx), (.long mx)] maxLocals)) t := fun t k => pre38 t (by
    show Steps p.tables e below (T37.setTop (mkF m 95 #[.val (.long px), .second, .val (.long qx), .second, .val (.long lx), .second, .val (.long mx), .second, .val (.long v4), .second, .val (.long v9), .second, .val (.ref b11), .val (.int v19), .val (.int v24), .val (.int v29), .val (.int v34), .unset, .unset, .unset, .unset] [(.int (F5 v4 (-9223372036854775808 : Int64) v4 v9))])) _
    refine XS.istore X37.here hx rfl (hb hby at_95) rfl (l' := #[.val (.long px), .second, .val (.long qx), .second, .val (.long lx), .second, .val (.long mx), .second, .val (.long v4), .second, .val (.long v9), .second, .val (.ref b11), .val (.int v19), .val (.int v24), .val (.int v29), .val (.int v34), .val (.int (F5 v4 (-9223372036854775808 : Int64) v4 v9)), .unset, .unset, .unset]) rfl ?_
    exact k)
  obtain ⟨v39, hv39⟩ : ∃ z : Int32, z = (F5 v4 (-9223372036854775808 : Int64) v4 v9) := ⟨_, rfl⟩
  rw [← hv39] at pre40
  have pre41 : ∀ t, Steps p.tables e below (T37.setTop (mkF m 104 #[.val (.long px), .second, .val (.long qx), .second, .val (.long lx), .second, .val (.long mx), .second, .val (.long v4), .second, .val (.long v9), .second, .val (.ref b11), .val (.int v19), .val (.int v24), .val (.int v29), .val (.int v34), .val (.int v39), .unset, .unset, .unset] [(.long v9), (.long (-9223372036854775808 : Int64)), (.ref b11)])) t → Steps p.tables e below (s₁.setTop (entryFrame m #[(.long px), (.long qx), (.long lx), (.long mx)] maxLocals)) t := fun t k => pre40 t (by
    show Steps p.tables e below (T37.setTop (mkF m 97 #[.val (.long px), .second, .val (.long qx), .second, .val (.long lx), .second, .val (.long mx), .second, .val (.long v4), .second, .val (.long v9), .second, .val (.ref b11), .val (.int v19), .val (.int v24), .val (.int v29), .val (.int v34), .val (.int v39), .unset, .unset, .unset] [])) _
    refine XS.aload X37.here hx rfl (hb hby at_97) rfl rfl ?_
    refine X37.ldc2Long hx hown (mvT hZ (hw _ (List.mem_of_getElem? (i := 28) rfl))) (g := (mkF m 99 #[.val (.long px), .second, .val (.long qx), .second, .val (.long lx), .second, .val (.long mx), .second, .val (.long v4), .second, .val (.long v9), .second, .val (.ref b11), .val (.int v19), .val (.int v24), .val (.int v29), .val (.int v34), .val (.int v39), .unset, .unset, .unset] [(.ref b11)])) rfl (hb hby at_99) _ ?_
    refine XS.lload X37.here hx rfl (hb hby at_102) rfl ?_
    exact k)
  obtain ⟨cq42, kq42, q42a, q42b, q42c⟩ := isOf hZ rfl (R37.exa (i := 0) rfl)
  obtain ⟨_, _, ⟨T42, L42, k42, n42⟩, -, X42, ⟨Lc42, hQ42, l42, y42, z42⟩, st42⟩ := X37.virtualBack hx (y := (⟨"com/example/regent/regent/storage/SnapshotBound", "passed", "(JJ)Z"⟩ : MethodName)) (z := (⟨"com/example/regent/regent/storage/SnapshotBound", "passed", "(JJ)Z"⟩ : MethodName)) hown (mvT hZ (hw _ (List.mem_of_getElem? (i := 23) rfl))) (mvT hZ (hw _ (List.mem_of_getElem? (i := 24) rfl))) (notFace_of_selects (args := #[]) (mvT hZ (hw _ (List.mem_of_getElem? (i := 26) rfl)))) (mvT hZ (hw _ (List.mem_of_getElem? (i := 26) rfl))) (mvT hZ (hw _ (List.mem_of_getElem? (i := 25) rfl))) (by decide) (backOf (W := 0) (rm5 l Z a0 hw [] b11 (-9223372036854775808 : Int64) v9 _ _ T37.heap n0 _ R37 ) hZ (hw _ (List.mem_of_getElem? (i := 27) rfl)) (hw _ (List.mem_of_getElem? (i := 7) rfl)) (by decide) (by decide)) q42a q42c (g := (mkF m 104 #[.val (.long px), .second, .val (.long qx), .second, .val (.long lx), .second, .val (.long mx), .second, .val (.long v4), .second, .val (.long v9), .second, .val (.ref b11), .val (.int v19), .val (.int v24), .val (.int v29), .val (.int v34), .val (.int v39), .unset, .unset, .unset] [(.long v9), (.long (-9223372036854775808 : Int64)), (.ref b11)])) rfl (by rw [hml]; rfl) (Steps.refl _) (argsL := [(.long (-9223372036854775808 : Int64)), (.long v9)]) (rest := []) (lenOf pd__28JJ_29Z rfl) rfl (by show 2 * 0 + _ ≤ _; exact Nat.le_of_eq rfl) (hb hby at_104) (fun _ _ => ⟨rfl, rfl, (by decide : 1 + 0 ≤ _), (by decide : 2 + 0 ≤ _)⟩)
  dsimp only [Pt.U, Pt.locs, Pt.cells, Pt.slots] at X42 l42 y42 z42 st42 hQ42
  subst l42 y42 z42
  obtain ⟨rfl, N42q, R42⟩ := hQ42
  have N42 := Fr.app N37 N42q
  replace R42 : Rep Z n0 T42.heap ((b11, Obj "com/example/regent/regent/storage/SnapshotBound" [("transactions", "J", (.long v4)), ("bytes", "J", (.long v9))]) :: []) := R42
  have pre43 : ∀ t, Steps p.tables e below (T42.setTop (mkF m 107 #[.val (.long px), .second, .val (.long qx), .second, .val (.long lx), .second, .val (.long mx), .second, .val (.long v4), .second, .val (.long v9), .second, .val (.ref b11), .val (.int v19), .val (.int v24), .val (.int v29), .val (.int v34), .val (.int v39), .unset, .unset, .unset] [(.int (F5 (-9223372036854775808 : Int64) v9 v4 v9))])) t → Steps p.tables e below (s₁.setTop (entryFrame m #[(.long px), (.long qx), (.long lx), (.long mx)] maxLocals)) t := fun t k => pre41 t (st42.trans k)
  have pre45 : ∀ t, Steps p.tables e below (T42.setTop (mkF m 109 #[.val (.long px), .second, .val (.long qx), .second, .val (.long lx), .second, .val (.long mx), .second, .val (.long v4), .second, .val (.long v9), .second, .val (.ref b11), .val (.int v19), .val (.int v24), .val (.int v29), .val (.int v34), .val (.int v39), .val (.int (F5 (-9223372036854775808 : Int64) v9 v4 v9)), .unset, .unset] [])) t → Steps p.tables e below (s₁.setTop (entryFrame m #[(.long px), (.long qx), (.long lx), (.long mx)] maxLocals)) t := fun t k => pre43 t (by
    show Steps p.tables e below (T42.setTop (mkF m 107 #[.val (.long px), .second, .val (.long qx), .second, .val (.long lx), .second, .val (.long mx), .second, .val (.long v4), .second, .val (.long v9), .second, .val (.ref b11), .val (.int v19), .val (.int v24), .val (.int v29), .val (.int v34), .val (.int v39), .unset, .unset, .unset] [(.int (F5 (-9223372036854775808 : Int64) v9 v4 v9))])) _
    refine XS.istore X42.here hx rfl (hb hby at_107) rfl (l' := #[.val (.long px), .second, .val (.long qx), .second, .val (.long lx), .second, .val (.long mx), .second, .val (.long v4), .second, .val (.long v9), .second, .val (.ref b11), .val (.int v19), .val (.int v24), .val (.int v29), .val (.int v34), .val (.int v39), .val (.int (F5 (-9223372036854775808 : Int64) v9 v4 v9)), .unset, .unset]) rfl ?_
    exact k)
  obtain ⟨v44, hv44⟩ : ∃ z : Int32, z = (F5 (-9223372036854775808 : Int64) v9 v4 v9) := ⟨_, rfl⟩
  rw [← hv44] at pre45
  have pre48 : ∀ t, Steps p.tables e below (T42.setTop (mkF m 114 #[.val (.long px), .second, .val (.long qx), .second, .val (.long lx), .second, .val (.long mx), .second, .val (.long v4), .second, .val (.long v9), .second, .val (.ref b11), .val (.int v19), .val (.int v24), .val (.int v29), .val (.int v34), .val (.int v39), .val (.int v44), .unset, .unset] [(.int (XT.cmpL lx v4))])) t → Steps p.tables e below (s₁.setTop (entryFrame m #[(.long px), (.long qx), (.long lx), (.long mx)] maxLocals)) t := fun t k => pre45 t (by
    show Steps p.tables e below (T42.setTop (mkF m 109 #[.val (.long px), .second, .val (.long qx), .second, .val (.long lx), .second, .val (.long mx), .second, .val (.long v4), .second, .val (.long v9), .second, .val (.ref b11), .val (.int v19), .val (.int v24), .val (.int v29), .val (.int v34), .val (.int v39), .val (.int v44), .unset, .unset] [])) _
    refine XS.lload X42.here hx rfl (hb hby at_109) rfl ?_
    refine XS.lload X42.here hx rfl (hb hby at_111) rfl ?_
    refine XS.lcmp X42.here hx rfl (hb hby at_113) rfl ?_
    exact k)
  have tl47 : ∀ t, Steps p.tables e below (T42.setTop (mkF m 122 #[.val (.long px), .second, .val (.long qx), .second, .val (.long lx), .second, .val (.long mx), .second, .val (.long v4), .second, .val (.long v9), .second, .val (.ref b11), .val (.int v19), .val (.int v24), .val (.int v29), .val (.int v34), .val (.int v39), .val (.int v44), .unset, .unset] [(.int (bz (¬ (lx < v4))))])) t → Steps p.tables e below (T42.setTop (mkF m 114 #[.val (.long px), .second, .val (.long qx), .second, .val (.long lx), .second, .val (.long mx), .second, .val (.long v4), .second, .val (.long v9), .second, .val (.ref b11), .val (.int v19), .val (.int v24), .val (.int v29), .val (.int v34), .val (.int v39), .val (.int v44), .unset, .unset] [(.int (XT.cmpL lx v4))])) t := fun t k => by
    by_cases hb46 : lx < v4
    · refine XS.ifYes X42.here hx rfl (pc0 := 114) (pc' := 121) rfl (hb hby at_114) rfl (XT.ll_lt_t hb46) (by decide) (by decide) ?_
      rw [bz_zero (P := (¬ (lx < v4))) (iff_false_intro (not_not_intro hb46))] at k
      show Steps p.tables e below (T42.setTop (mkF m 121 #[.val (.long px), .second, .val (.long qx), .second, .val (.long lx), .second, .val (.long mx), .second, .val (.long v4), .second, .val (.long v9), .second, .val (.ref b11), .val (.int v19), .val (.int v24), .val (.int v29), .val (.int v34), .val (.int v39), .val (.int v44), .unset, .unset] [])) _
      refine XS.iconst X42.here hx rfl (hb hby at_121) ?_
      exact k
    · refine XS.ifNo X42.here hx rfl (hb hby at_114) rfl (XT.ll_lt_f hb46) ?_
      rw [bz_one (P := (¬ (lx < v4))) (iff_true_intro hb46)] at k
      show Steps p.tables e below (T42.setTop (mkF m 117 #[.val (.long px), .second, .val (.long qx), .second, .val (.long lx), .second, .val (.long mx), .second, .val (.long v4), .second, .val (.long v9), .second, .val (.ref b11), .val (.int v19), .val (.int v24), .val (.int v29), .val (.int v34), .val (.int v39), .val (.int v44), .unset, .unset] [])) _
      refine XS.iconst X42.here hx rfl (hb hby at_117) ?_
      refine XS.goto X42.here hx rfl (pc0 := 118) (pc' := 122) rfl (hb hby at_118) (by decide) (by decide) ?_
      exact k
  have pre49 : ∀ t, Steps p.tables e below (T42.setTop (mkF m 122 #[.val (.long px), .second, .val (.long qx), .second, .val (.long lx), .second, .val (.long mx), .second, .val (.long v4), .second, .val (.long v9), .second, .val (.ref b11), .val (.int v19), .val (.int v24), .val (.int v29), .val (.int v34), .val (.int v39), .val (.int v44), .unset, .unset] [(.int (bz (¬ (lx < v4))))])) t → Steps p.tables e below (s₁.setTop (entryFrame m #[(.long px), (.long qx), (.long lx), (.long mx)] maxLocals)) t := fun t k => pre48 t (by
    exact tl47 t k)
  have pre52 : ∀ t, Steps p.tables e below (T42.setTop (mkF m 129 #[.val (.long px), .second, .val (.long qx), .second, .val (.long lx), .second, .val (.long mx), .second, .val (.long v4), .second, .val (.long v9), .second, .val (.ref b11), .val (.int v19), .val (.int v24), .val (.int v29), .val (.int v34), .val (.int v39), .val (.int v44), .val (.int (bz (¬ (lx < v4)))), .unset] [(.int (XT.cmpL mx v9))])) t → Steps p.tables e below (s₁.setTop (entryFrame m #[(.long px), (.long qx), (.long lx), (.long mx)] maxLocals)) t := fun t k => pre49 t (by
    show Steps p.tables e below (T42.setTop (mkF m 122 #[.val (.long px), .second, .val (.long qx), .second, .val (.long lx), .second, .val (.long mx), .second, .val (.long v4), .second, .val (.long v9), .second, .val (.ref b11), .val (.int v19), .val (.int v24), .val (.int v29), .val (.int v34), .val (.int v39), .val (.int v44), .unset, .unset] [(.int (bz (¬ (lx < v4))))])) _
    refine XS.istore X42.here hx rfl (hb hby at_122) rfl (l' := #[.val (.long px), .second, .val (.long qx), .second, .val (.long lx), .second, .val (.long mx), .second, .val (.long v4), .second, .val (.long v9), .second, .val (.ref b11), .val (.int v19), .val (.int v24), .val (.int v29), .val (.int v34), .val (.int v39), .val (.int v44), .val (.int (bz (¬ (lx < v4)))), .unset]) rfl ?_
    refine XS.lload X42.here hx rfl (hb hby at_124) rfl ?_
    refine XS.lload X42.here hx rfl (hb hby at_126) rfl ?_
    refine XS.lcmp X42.here hx rfl (hb hby at_128) rfl ?_
    exact k)
  have tl51 : ∀ t, Steps p.tables e below (T42.setTop (mkF m 137 #[.val (.long px), .second, .val (.long qx), .second, .val (.long lx), .second, .val (.long mx), .second, .val (.long v4), .second, .val (.long v9), .second, .val (.ref b11), .val (.int v19), .val (.int v24), .val (.int v29), .val (.int v34), .val (.int v39), .val (.int v44), .val (.int (bz (¬ (lx < v4)))), .unset] [(.int (bz (¬ (mx < v9))))])) t → Steps p.tables e below (T42.setTop (mkF m 129 #[.val (.long px), .second, .val (.long qx), .second, .val (.long lx), .second, .val (.long mx), .second, .val (.long v4), .second, .val (.long v9), .second, .val (.ref b11), .val (.int v19), .val (.int v24), .val (.int v29), .val (.int v34), .val (.int v39), .val (.int v44), .val (.int (bz (¬ (lx < v4)))), .unset] [(.int (XT.cmpL mx v9))])) t := fun t k => by
    by_cases hb50 : mx < v9
    · refine XS.ifYes X42.here hx rfl (pc0 := 129) (pc' := 136) rfl (hb hby at_129) rfl (XT.ll_lt_t hb50) (by decide) (by decide) ?_
      rw [bz_zero (P := (¬ (mx < v9))) (iff_false_intro (not_not_intro hb50))] at k
      show Steps p.tables e below (T42.setTop (mkF m 136 #[.val (.long px), .second, .val (.long qx), .second, .val (.long lx), .second, .val (.long mx), .second, .val (.long v4), .second, .val (.long v9), .second, .val (.ref b11), .val (.int v19), .val (.int v24), .val (.int v29), .val (.int v34), .val (.int v39), .val (.int v44), .val (.int (bz (¬ (lx < v4)))), .unset] [])) _
      refine XS.iconst X42.here hx rfl (hb hby at_136) ?_
      exact k
    · refine XS.ifNo X42.here hx rfl (hb hby at_129) rfl (XT.ll_lt_f hb50) ?_
      rw [bz_one (P := (¬ (mx < v9))) (iff_true_intro hb50)] at k
      show Steps p.tables e below (T42.setTop (mkF m 132 #[.val (.long px), .second, .val (.long qx), .second, .val (.long lx), .second, .val (.long mx), .second, .val (.long v4), .second, .val (.long v9), .second, .val (.ref b11), .val (.int v19), .val (.int v24), .val (.int v29), .val (.int v34), .val (.int v39), .val (.int v44), .val (.int (bz (¬ (lx < v4)))), .unset] [])) _
      refine XS.iconst X42.here hx rfl (hb hby at_132) ?_
      refine XS.goto X42.here hx rfl (pc0 := 133) (pc' := 137) rfl (hb hby at_133) (by decide) (by decide) ?_
      exact k
  have pre53 : ∀ t, Steps p.tables e below (T42.setTop (mkF m 137 #[.val (.long px), .second, .val (.long qx), .second, .val (.long lx), .second, .val (.long mx), .second, .val (.long v4), .second, .val (.long v9), .second, .val (.ref b11), .val (.int v19), .val (.int v24), .val (.int v29), .val (.int v34), .val (.int v39), .val (.int v44), .val (.int (bz (¬ (lx < v4)))), .unset] [(.int (bz (¬ (mx < v9))))])) t → Steps p.tables e below (s₁.setTop (entryFrame m #[(.long px), (.long qx), (.long lx), (.long mx)] maxLocals)) t := fun t k => pre52 t (by
    exact tl51 t k)
  have pre72 : ∀ t, Steps p.tables e below (T42.setTop (mkF m 141 #[.val (.long px), .second, .val (.long qx), .second, .val (.long lx), .second, .val (.long mx), .second, .val (.long v4), .second, .val (.long v9), .second, .val (.ref b11), .val (.int v19), .val (.int v24), .val (.int v29), .val (.int v34), .val (.int v39), .val (.int v44), .val (.int (bz (¬ (lx < v4)))), .val (.int (bz (¬ (mx < v9))))] [(.int v34)])) t → Steps p.tables e below (s₁.setTop (entryFrame m #[(.long px), (.long qx), (.long lx), (.long mx)] maxLocals)) t := fun t k => pre53 t (by
    show Steps p.tables e below (T42.setTop (mkF m 137 #[.val (.long px), .second, .val (.long qx), .second, .val (.long lx), .second, .val (.long mx), .second, .val (.long v4), .second, .val (.long v9), .second, .val (.ref b11), .val (.int v19), .val (.int v24), .val (.int v29), .val (.int v34), .val (.int v39), .val (.int v44), .val (.int (bz (¬ (lx < v4)))), .unset] [(.int (bz (¬ (mx < v9))))])) _
    refine XS.istore X42.here hx rfl (hb hby at_137) rfl (l' := #[.val (.long px), .second, .val (.long qx), .second, .val (.long lx), .second, .val (.long mx), .second, .val (.long v4), .second, .val (.long v9), .second, .val (.ref b11), .val (.int v19), .val (.int v24), .val (.int v29), .val (.int v34), .val (.int v39), .val (.int v44), .val (.int (bz (¬ (lx < v4)))), .val (.int (bz (¬ (mx < v9))))]) rfl ?_
    refine XS.iload X42.here hx rfl (hb hby at_139) rfl ?_
    exact k)
  have tl62 : ∀ t, Steps p.tables e below (T42.setTop (mkF m 193 #[.val (.long px), .second, .val (.long qx), .second, .val (.long lx), .second, .val (.long mx), .second, .val (.long v4), .second, .val (.long v9), .second, .val (.ref b11), .val (.int v19), .val (.int v24), .val (.int v29), .val (.int v34), .val (.int v39), .val (.int v44), .val (.int (bz (¬ (lx < v4)))), .val (.int (bz (¬ (mx < v9))))] [(.int (bz (v19 = (0 : Int32))))])) t → Steps p.tables e below (T42.setTop (mkF m 185 #[.val (.long px), .second, .val (.long qx), .second, .val (.long lx), .second, .val (.long mx), .second, .val (.long v4), .second, .val (.long v9), .second, .val (.ref b11), .val (.int v19), .val (.int v24), .val (.int v29), .val (.int v34), .val (.int v39), .val (.int v44), .val (.int (bz (¬ (lx < v4)))), .val (.int (bz (¬ (mx < v9))))] [(.int (0 : Int32)), (.int v19)])) t := fun t k => by
    by_cases hb61 : v19 = (0 : Int32)
    · refine XS.icmpNo X42.here hx rfl (hb hby at_185) rfl (teq hb61).2 ?_
      rw [bz_one (P := (v19 = (0 : Int32))) (iff_true_intro hb61)] at k
      show Steps p.tables e below (T42.setTop (mkF m 188 #[.val (.long px), .second, .val (.long qx), .second, .val (.long lx), .second, .val (.long mx), .second, .val (.long v4), .second, .val (.long v9), .second, .val (.ref b11), .val (.int v19), .val (.int v24), .val (.int v29), .val (.int v34), .val (.int v39), .val (.int v44), .val (.int (bz (¬ (lx < v4)))), .val (.int (bz (¬ (mx < v9))))] [])) _
      refine XS.iconst X42.here hx rfl (hb hby at_188) ?_
      refine XS.goto X42.here hx rfl (pc0 := 189) (pc' := 193) rfl (hb hby at_189) (by decide) (by decide) ?_
      exact k
    · refine XS.icmpYes X42.here hx rfl (pc0 := 185) (pc' := 192) rfl (hb hby at_185) rfl (feq hb61).2 (by decide) (by decide) ?_
      rw [bz_zero (P := (v19 = (0 : Int32))) (iff_false_intro hb61)] at k
      show Steps p.tables e below (T42.setTop (mkF m 192 #[.val (.long px), .second, .val (.long qx), .second, .val (.long lx), .second, .val (.long mx), .second, .val (.long v4), .second, .val (.long v9), .second, .val (.ref b11), .val (.int v19), .val (.int v24), .val (.int v29), .val (.int v34), .val (.int v39), .val (.int v44), .val (.int (bz (¬ (lx < v4)))), .val (.int (bz (¬ (mx < v9))))] [])) _
      refine XS.iconst X42.here hx rfl (hb hby at_192) ?_
      exact k
  have tl64 : ∀ t, Steps p.tables e below (T42.setTop (mkF m 193 #[.val (.long px), .second, .val (.long qx), .second, .val (.long lx), .second, .val (.long mx), .second, .val (.long v4), .second, .val (.long v9), .second, .val (.ref b11), .val (.int v19), .val (.int v24), .val (.int v29), .val (.int v34), .val (.int v39), .val (.int v44), .val (.int (bz (¬ (lx < v4)))), .val (.int (bz (¬ (mx < v9))))] [(.int (bz (v19 = (1 : Int32))))])) t → Steps p.tables e below (T42.setTop (mkF m 185 #[.val (.long px), .second, .val (.long qx), .second, .val (.long lx), .second, .val (.long mx), .second, .val (.long v4), .second, .val (.long v9), .second, .val (.ref b11), .val (.int v19), .val (.int v24), .val (.int v29), .val (.int v34), .val (.int v39), .val (.int v44), .val (.int (bz (¬ (lx < v4)))), .val (.int (bz (¬ (mx < v9))))] [(.int (1 : Int32)), (.int v19)])) t := fun t k => by
    by_cases hb63 : v19 = (1 : Int32)
    · refine XS.icmpNo X42.here hx rfl (hb hby at_185) rfl (teq hb63).2 ?_
      rw [bz_one (P := (v19 = (1 : Int32))) (iff_true_intro hb63)] at k
      show Steps p.tables e below (T42.setTop (mkF m 188 #[.val (.long px), .second, .val (.long qx), .second, .val (.long lx), .second, .val (.long mx), .second, .val (.long v4), .second, .val (.long v9), .second, .val (.ref b11), .val (.int v19), .val (.int v24), .val (.int v29), .val (.int v34), .val (.int v39), .val (.int v44), .val (.int (bz (¬ (lx < v4)))), .val (.int (bz (¬ (mx < v9))))] [])) _
      refine XS.iconst X42.here hx rfl (hb hby at_188) ?_
      refine XS.goto X42.here hx rfl (pc0 := 189) (pc' := 193) rfl (hb hby at_189) (by decide) (by decide) ?_
      exact k
    · refine XS.icmpYes X42.here hx rfl (pc0 := 185) (pc' := 192) rfl (hb hby at_185) rfl (feq hb63).2 (by decide) (by decide) ?_
      rw [bz_zero (P := (v19 = (1 : Int32))) (iff_false_intro hb63)] at k
      show Steps p.tables e below (T42.setTop (mkF m 192 #[.val (.long px), .second, .val (.long qx), .second, .val (.long lx), .second, .val (.long mx), .second, .val (.long v4), .second, .val (.long v9), .second, .val (.ref b11), .val (.int v19), .val (.int v24), .val (.int v29), .val (.int v34), .val (.int v39), .val (.int v44), .val (.int (bz (¬ (lx < v4)))), .val (.int (bz (¬ (mx < v9))))] [])) _
      refine XS.iconst X42.here hx rfl (hb hby at_192) ?_
      exact k
  have tl65 : ∀ t, Steps p.tables e below (T42.setTop (mkF m 193 #[.val (.long px), .second, .val (.long qx), .second, .val (.long lx), .second, .val (.long mx), .second, .val (.long v4), .second, .val (.long v9), .second, .val (.ref b11), .val (.int v19), .val (.int v24), .val (.int v29), .val (.int v34), .val (.int v39), .val (.int v44), .val (.int (bz (¬ (lx < v4)))), .val (.int (bz (¬ (mx < v9))))] [(.int (bz (if v29 = (0 : Int32) then (v19 = (0 : Int32)) else (v19 = (1 : Int32)))))])) t → Steps p.tables e below (T42.setTop (mkF m 177 #[.val (.long px), .second, .val (.long qx), .second, .val (.long lx), .second, .val (.long mx), .second, .val (.long v4), .second, .val (.long v9), .second, .val (.ref b11), .val (.int v19), .val (.int v24), .val (.int v29), .val (.int v34), .val (.int v39), .val (.int v44), .val (.int (bz (¬ (lx < v4)))), .val (.int (bz (¬ (mx < v9))))] [(.int v29), (.int v19)])) t := fun t k => by
    by_cases hb60 : v29 = (0 : Int32)
    · refine XS.ifYes X42.here hx rfl (pc0 := 177) (pc' := 184) rfl (hb hby at_177) rfl ((if0 _ _).trans (teq hb60).1) (by decide) (by decide) ?_
      rw [bz_congr (P := (if v29 = (0 : Int32) then (v19 = (0 : Int32)) else (v19 = (1 : Int32)))) (Q := (v19 = (0 : Int32))) (iff_of_eq (if_pos hb60))] at k
      show Steps p.tables e below (T42.setTop (mkF m 184 #[.val (.long px), .second, .val (.long qx), .second, .val (.long lx), .second, .val (.long mx), .second, .val (.long v4), .second, .val (.long v9), .second, .val (.ref b11), .val (.int v19), .val (.int v24), .val (.int v29), .val (.int v34), .val (.int v39), .val (.int v44), .val (.int (bz (¬ (lx < v4)))), .val (.int (bz (¬ (mx < v9))))] [(.int v19)])) _
      refine XS.iconst X42.here hx rfl (hb hby at_184) ?_
      exact tl62 t k
    · refine XS.ifNo X42.here hx rfl (hb hby at_177) rfl ((if0 _ _).trans (feq hb60).1) ?_
      rw [bz_congr (P := (if v29 = (0 : Int32) then (v19 = (0 : Int32)) else (v19 = (1 : Int32)))) (Q := (v19 = (1 : Int32))) (iff_of_eq (if_neg hb60))] at k
      show Steps p.tables e below (T42.setTop (mkF m 180 #[.val (.long px), .second, .val (.long qx), .second, .val (.long lx), .second, .val (.long mx), .second, .val (.long v4), .second, .val (.long v9), .second, .val (.ref b11), .val (.int v19), .val (.int v24), .val (.int v29), .val (.int v34), .val (.int v39), .val (.int v44), .val (.int (bz (¬ (lx < v4)))), .val (.int (bz (¬ (mx < v9))))] [(.int v19)])) _
      refine XS.iconst X42.here hx rfl (hb hby at_180) ?_
      refine XS.goto X42.here hx rfl (pc0 := 181) (pc' := 185) rfl (hb hby at_181) (by decide) (by decide) ?_
      exact tl64 t k
  have tl66 : ∀ t, Steps p.tables e below (T42.setTop (mkF m 193 #[.val (.long px), .second, .val (.long qx), .second, .val (.long lx), .second, .val (.long mx), .second, .val (.long v4), .second, .val (.long v9), .second, .val (.ref b11), .val (.int v19), .val (.int v24), .val (.int v29), .val (.int v34), .val (.int v39), .val (.int v44), .val (.int (bz (¬ (lx < v4)))), .val (.int (bz (¬ (mx < v9))))] [(.int (bz (if v24 = (0 : Int32) then (if v29 = (0 : Int32) then (v19 = (0 : Int32)) else (v19 = (1 : Int32))) else (v19 = (1 : Int32)))))])) t → Steps p.tables e below (T42.setTop (mkF m 172 #[.val (.long px), .second, .val (.long qx), .second, .val (.long lx), .second, .val (.long mx), .second, .val (.long v4), .second, .val (.long v9), .second, .val (.ref b11), .val (.int v19), .val (.int v24), .val (.int v29), .val (.int v34), .val (.int v39), .val (.int v44), .val (.int (bz (¬ (lx < v4)))), .val (.int (bz (¬ (mx < v9))))] [(.int v24), (.int v19)])) t := fun t k => by
    by_cases hb59 : v24 = (0 : Int32)
    · refine XS.ifNo X42.here hx rfl (hb hby at_172) rfl ((if0 _ _).trans (teq hb59).2) ?_
      rw [bz_congr (P := (if v24 = (0 : Int32) then (if v29 = (0 : Int32) then (v19 = (0 : Int32)) else (v19 = (1 : Int32))) else (v19 = (1 : Int32)))) (Q := (if v29 = (0 : Int32) then (v19 = (0 : Int32)) else (v19 = (1 : Int32)))) (iff_of_eq (if_pos hb59))] at k
      show Steps p.tables e below (T42.setTop (mkF m 175 #[.val (.long px), .second, .val (.long qx), .second, .val (.long lx), .second, .val (.long mx), .second, .val (.long v4), .second, .val (.long v9), .second, .val (.ref b11), .val (.int v19), .val (.int v24), .val (.int v29), .val (.int v34), .val (.int v39), .val (.int v44), .val (.int (bz (¬ (lx < v4)))), .val (.int (bz (¬ (mx < v9))))] [(.int v19)])) _
      refine XS.iload X42.here hx rfl (hb hby at_175) rfl ?_
      exact tl65 t k
    · refine XS.ifYes X42.here hx rfl (pc0 := 172) (pc' := 180) rfl (hb hby at_172) rfl ((if0 _ _).trans (feq hb59).2) (by decide) (by decide) ?_
      rw [bz_congr (P := (if v24 = (0 : Int32) then (if v29 = (0 : Int32) then (v19 = (0 : Int32)) else (v19 = (1 : Int32))) else (v19 = (1 : Int32)))) (Q := (v19 = (1 : Int32))) (iff_of_eq (if_neg hb59))] at k
      show Steps p.tables e below (T42.setTop (mkF m 180 #[.val (.long px), .second, .val (.long qx), .second, .val (.long lx), .second, .val (.long mx), .second, .val (.long v4), .second, .val (.long v9), .second, .val (.ref b11), .val (.int v19), .val (.int v24), .val (.int v29), .val (.int v34), .val (.int v39), .val (.int v44), .val (.int (bz (¬ (lx < v4)))), .val (.int (bz (¬ (mx < v9))))] [(.int v19)])) _
      refine XS.iconst X42.here hx rfl (hb hby at_180) ?_
      refine XS.goto X42.here hx rfl (pc0 := 181) (pc' := 185) rfl (hb hby at_181) (by decide) (by decide) ?_
      exact tl64 t k
  have tl67 : ∀ t, Steps p.tables e below (T42.setTop (mkF m 193 #[.val (.long px), .second, .val (.long qx), .second, .val (.long lx), .second, .val (.long mx), .second, .val (.long v4), .second, .val (.long v9), .second, .val (.ref b11), .val (.int v19), .val (.int v24), .val (.int v29), .val (.int v34), .val (.int v39), .val (.int v44), .val (.int (bz (¬ (lx < v4)))), .val (.int (bz (¬ (mx < v9))))] [(.int (bz ((v29 = (bz (¬ (mx < v9)))) ∧ (if v24 = (0 : Int32) then (if v29 = (0 : Int32) then (v19 = (0 : Int32)) else (v19 = (1 : Int32))) else (v19 = (1 : Int32))))))])) t → Steps p.tables e below (T42.setTop (mkF m 165 #[.val (.long px), .second, .val (.long qx), .second, .val (.long lx), .second, .val (.long mx), .second, .val (.long v4), .second, .val (.long v9), .second, .val (.ref b11), .val (.int v19), .val (.int v24), .val (.int v29), .val (.int v34), .val (.int v39), .val (.int v44), .val (.int (bz (¬ (lx < v4)))), .val (.int (bz (¬ (mx < v9))))] [(.int (bz (¬ (mx < v9)))), (.int v29)])) t := fun t k => by
    by_cases hb58 : v29 = (bz (¬ (mx < v9)))
    · refine XS.icmpNo X42.here hx rfl (hb hby at_165) rfl (teq hb58).2 ?_
      rw [bz_congr (P := ((v29 = (bz (¬ (mx < v9)))) ∧ (if v24 = (0 : Int32) then (if v29 = (0 : Int32) then (v19 = (0 : Int32)) else (v19 = (1 : Int32))) else (v19 = (1 : Int32))))) (Q := (if v24 = (0 : Int32) then (if v29 = (0 : Int32) then (v19 = (0 : Int32)) else (v19 = (1 : Int32))) else (v19 = (1 : Int32)))) (and_iff_right hb58)] at k
      show Steps p.tables e below (T42.setTop (mkF m 168 #[.val (.long px), .second, .val (.long qx), .second, .val (.long lx), .second, .val (.long mx), .second, .val (.long v4), .second, .val (.long v9), .second, .val (.ref b11), .val (.int v19), .val (.int v24), .val (.int v29), .val (.int v34), .val (.int v39), .val (.int v44), .val (.int (bz (¬ (lx < v4)))), .val (.int (bz (¬ (mx < v9))))] [])) _
      refine XS.iload X42.here hx rfl (hb hby at_168) rfl ?_
      refine XS.iload X42.here hx rfl (hb hby at_170) rfl ?_
      exact tl66 t k
    · refine XS.icmpYes X42.here hx rfl (pc0 := 165) (pc' := 192) rfl (hb hby at_165) rfl (feq hb58).2 (by decide) (by decide) ?_
      rw [bz_zero (P := ((v29 = (bz (¬ (mx < v9)))) ∧ (if v24 = (0 : Int32) then (if v29 = (0 : Int32) then (v19 = (0 : Int32)) else (v19 = (1 : Int32))) else (v19 = (1 : Int32))))) (iff_false_intro (fun q => hb58 q.1))] at k
      show Steps p.tables e below (T42.setTop (mkF m 192 #[.val (.long px), .second, .val (.long qx), .second, .val (.long lx), .second, .val (.long mx), .second, .val (.long v4), .second, .val (.long v9), .second, .val (.ref b11), .val (.int v19), .val (.int v24), .val (.int v29), .val (.int v34), .val (.int v39), .val (.int v44), .val (.int (bz (¬ (lx < v4)))), .val (.int (bz (¬ (mx < v9))))] [])) _
      refine XS.iconst X42.here hx rfl (hb hby at_192) ?_
      exact k
  have tl68 : ∀ t, Steps p.tables e below (T42.setTop (mkF m 193 #[.val (.long px), .second, .val (.long qx), .second, .val (.long lx), .second, .val (.long mx), .second, .val (.long v4), .second, .val (.long v9), .second, .val (.ref b11), .val (.int v19), .val (.int v24), .val (.int v29), .val (.int v34), .val (.int v39), .val (.int v44), .val (.int (bz (¬ (lx < v4)))), .val (.int (bz (¬ (mx < v9))))] [(.int (bz ((v24 = (bz (¬ (lx < v4)))) ∧ ((v29 = (bz (¬ (mx < v9)))) ∧ (if v24 = (0 : Int32) then (if v29 = (0 : Int32) then (v19 = (0 : Int32)) else (v19 = (1 : Int32))) else (v19 = (1 : Int32)))))))])) t → Steps p.tables e below (T42.setTop (mkF m 158 #[.val (.long px), .second, .val (.long qx), .second, .val (.long lx), .second, .val (.long mx), .second, .val (.long v4), .second, .val (.long v9), .second, .val (.ref b11), .val (.int v19), .val (.int v24), .val (.int v29), .val (.int v34), .val (.int v39), .val (.int v44), .val (.int (bz (¬ (lx < v4)))), .val (.int (bz (¬ (mx < v9))))] [(.int (bz (¬ (lx < v4)))), (.int v24)])) t := fun t k => by
    by_cases hb57 : v24 = (bz (¬ (lx < v4)))
    · refine XS.icmpNo X42.here hx rfl (hb hby at_158) rfl (teq hb57).2 ?_
      rw [bz_congr (P := ((v24 = (bz (¬ (lx < v4)))) ∧ ((v29 = (bz (¬ (mx < v9)))) ∧ (if v24 = (0 : Int32) then (if v29 = (0 : Int32) then (v19 = (0 : Int32)) else (v19 = (1 : Int32))) else (v19 = (1 : Int32)))))) (Q := ((v29 = (bz (¬ (mx < v9)))) ∧ (if v24 = (0 : Int32) then (if v29 = (0 : Int32) then (v19 = (0 : Int32)) else (v19 = (1 : Int32))) else (v19 = (1 : Int32))))) (and_iff_right hb57)] at k
      show Steps p.tables e below (T42.setTop (mkF m 161 #[.val (.long px), .second, .val (.long qx), .second, .val (.long lx), .second, .val (.long mx), .second, .val (.long v4), .second, .val (.long v9), .second, .val (.ref b11), .val (.int v19), .val (.int v24), .val (.int v29), .val (.int v34), .val (.int v39), .val (.int v44), .val (.int (bz (¬ (lx < v4)))), .val (.int (bz (¬ (mx < v9))))] [])) _
      refine XS.iload X42.here hx rfl (hb hby at_161) rfl ?_
      refine XS.iload X42.here hx rfl (hb hby at_163) rfl ?_
      exact tl67 t k
    · refine XS.icmpYes X42.here hx rfl (pc0 := 158) (pc' := 192) rfl (hb hby at_158) rfl (feq hb57).2 (by decide) (by decide) ?_
      rw [bz_zero (P := ((v24 = (bz (¬ (lx < v4)))) ∧ ((v29 = (bz (¬ (mx < v9)))) ∧ (if v24 = (0 : Int32) then (if v29 = (0 : Int32) then (v19 = (0 : Int32)) else (v19 = (1 : Int32))) else (v19 = (1 : Int32)))))) (iff_false_intro (fun q => hb57 q.1))] at k
      show Steps p.tables e below (T42.setTop (mkF m 192 #[.val (.long px), .second, .val (.long qx), .second, .val (.long lx), .second, .val (.long mx), .second, .val (.long v4), .second, .val (.long v9), .second, .val (.ref b11), .val (.int v19), .val (.int v24), .val (.int v29), .val (.int v34), .val (.int v39), .val (.int v44), .val (.int (bz (¬ (lx < v4)))), .val (.int (bz (¬ (mx < v9))))] [])) _
      refine XS.iconst X42.here hx rfl (hb hby at_192) ?_
      exact k
  have tl69 : ∀ t, Steps p.tables e below (T42.setTop (mkF m 193 #[.val (.long px), .second, .val (.long qx), .second, .val (.long lx), .second, .val (.long mx), .second, .val (.long v4), .second, .val (.long v9), .second, .val (.ref b11), .val (.int v19), .val (.int v24), .val (.int v29), .val (.int v34), .val (.int v39), .val (.int v44), .val (.int (bz (¬ (lx < v4)))), .val (.int (bz (¬ (mx < v9))))] [(.int (bz ((¬ (v44 = (0 : Int32))) ∧ ((v24 = (bz (¬ (lx < v4)))) ∧ ((v29 = (bz (¬ (mx < v9)))) ∧ (if v24 = (0 : Int32) then (if v29 = (0 : Int32) then (v19 = (0 : Int32)) else (v19 = (1 : Int32))) else (v19 = (1 : Int32))))))))])) t → Steps p.tables e below (T42.setTop (mkF m 151 #[.val (.long px), .second, .val (.long qx), .second, .val (.long lx), .second, .val (.long mx), .second, .val (.long v4), .second, .val (.long v9), .second, .val (.ref b11), .val (.int v19), .val (.int v24), .val (.int v29), .val (.int v34), .val (.int v39), .val (.int v44), .val (.int (bz (¬ (lx < v4)))), .val (.int (bz (¬ (mx < v9))))] [(.int v44)])) t := fun t k => by
    by_cases hb56 : v44 = (0 : Int32)
    · refine XS.ifYes X42.here hx rfl (pc0 := 151) (pc' := 192) rfl (hb hby at_151) rfl ((if0 _ _).trans (teq hb56).1) (by decide) (by decide) ?_
      rw [bz_zero (P := ((¬ (v44 = (0 : Int32))) ∧ ((v24 = (bz (¬ (lx < v4)))) ∧ ((v29 = (bz (¬ (mx < v9)))) ∧ (if v24 = (0 : Int32) then (if v29 = (0 : Int32) then (v19 = (0 : Int32)) else (v19 = (1 : Int32))) else (v19 = (1 : Int32))))))) (iff_false_intro (fun q => q.1 hb56))] at k
      show Steps p.tables e below (T42.setTop (mkF m 192 #[.val (.long px), .second, .val (.long qx), .second, .val (.long lx), .second, .val (.long mx), .second, .val (.long v4), .second, .val (.long v9), .second, .val (.ref b11), .val (.int v19), .val (.int v24), .val (.int v29), .val (.int v34), .val (.int v39), .val (.int v44), .val (.int (bz (¬ (lx < v4)))), .val (.int (bz (¬ (mx < v9))))] [])) _
      refine XS.iconst X42.here hx rfl (hb hby at_192) ?_
      exact k
    · refine XS.ifNo X42.here hx rfl (hb hby at_151) rfl ((if0 _ _).trans (feq hb56).1) ?_
      rw [bz_congr (P := ((¬ (v44 = (0 : Int32))) ∧ ((v24 = (bz (¬ (lx < v4)))) ∧ ((v29 = (bz (¬ (mx < v9)))) ∧ (if v24 = (0 : Int32) then (if v29 = (0 : Int32) then (v19 = (0 : Int32)) else (v19 = (1 : Int32))) else (v19 = (1 : Int32))))))) (Q := ((v24 = (bz (¬ (lx < v4)))) ∧ ((v29 = (bz (¬ (mx < v9)))) ∧ (if v24 = (0 : Int32) then (if v29 = (0 : Int32) then (v19 = (0 : Int32)) else (v19 = (1 : Int32))) else (v19 = (1 : Int32)))))) (and_iff_right hb56)] at k
      show Steps p.tables e below (T42.setTop (mkF m 154 #[.val (.long px), .second, .val (.long qx), .second, .val (.long lx), .second, .val (.long mx), .second, .val (.long v4), .second, .val (.long v9), .second, .val (.ref b11), .val (.int v19), .val (.int v24), .val (.int v29), .val (.int v34), .val (.int v39), .val (.int v44), .val (.int (bz (¬ (lx < v4)))), .val (.int (bz (¬ (mx < v9))))] [])) _
      refine XS.iload X42.here hx rfl (hb hby at_154) rfl ?_
      refine XS.iload X42.here hx rfl (hb hby at_156) rfl ?_
      exact tl68 t k
  have tl70 : ∀ t, Steps p.tables e below (T42.setTop (mkF m 193 #[.val (.long px), .second, .val (.long qx), .second, .val (.long lx), .second, .val (.long mx), .second, .val (.long v4), .second, .val (.long v9), .second, .val (.ref b11), .val (.int v19), .val (.int v24), .val (.int v29), .val (.int v34), .val (.int v39), .val (.int v44), .val (.int (bz (¬ (lx < v4)))), .val (.int (bz (¬ (mx < v9))))] [(.int (bz ((¬ (v39 = (0 : Int32))) ∧ ((¬ (v44 = (0 : Int32))) ∧ ((v24 = (bz (¬ (lx < v4)))) ∧ ((v29 = (bz (¬ (mx < v9)))) ∧ (if v24 = (0 : Int32) then (if v29 = (0 : Int32) then (v19 = (0 : Int32)) else (v19 = (1 : Int32))) else (v19 = (1 : Int32)))))))))])) t → Steps p.tables e below (T42.setTop (mkF m 146 #[.val (.long px), .second, .val (.long qx), .second, .val (.long lx), .second, .val (.long mx), .second, .val (.long v4), .second, .val (.long v9), .second, .val (.ref b11), .val (.int v19), .val (.int v24), .val (.int v29), .val (.int v34), .val (.int v39), .val (.int v44), .val (.int (bz (¬ (lx < v4)))), .val (.int (bz (¬ (mx < v9))))] [(.int v39)])) t := fun t k => by
    by_cases hb55 : v39 = (0 : Int32)
    · refine XS.ifYes X42.here hx rfl (pc0 := 146) (pc' := 192) rfl (hb hby at_146) rfl ((if0 _ _).trans (teq hb55).1) (by decide) (by decide) ?_
      rw [bz_zero (P := ((¬ (v39 = (0 : Int32))) ∧ ((¬ (v44 = (0 : Int32))) ∧ ((v24 = (bz (¬ (lx < v4)))) ∧ ((v29 = (bz (¬ (mx < v9)))) ∧ (if v24 = (0 : Int32) then (if v29 = (0 : Int32) then (v19 = (0 : Int32)) else (v19 = (1 : Int32))) else (v19 = (1 : Int32)))))))) (iff_false_intro (fun q => q.1 hb55))] at k
      show Steps p.tables e below (T42.setTop (mkF m 192 #[.val (.long px), .second, .val (.long qx), .second, .val (.long lx), .second, .val (.long mx), .second, .val (.long v4), .second, .val (.long v9), .second, .val (.ref b11), .val (.int v19), .val (.int v24), .val (.int v29), .val (.int v34), .val (.int v39), .val (.int v44), .val (.int (bz (¬ (lx < v4)))), .val (.int (bz (¬ (mx < v9))))] [])) _
      refine XS.iconst X42.here hx rfl (hb hby at_192) ?_
      exact k
    · refine XS.ifNo X42.here hx rfl (hb hby at_146) rfl ((if0 _ _).trans (feq hb55).1) ?_
      rw [bz_congr (P := ((¬ (v39 = (0 : Int32))) ∧ ((¬ (v44 = (0 : Int32))) ∧ ((v24 = (bz (¬ (lx < v4)))) ∧ ((v29 = (bz (¬ (mx < v9)))) ∧ (if v24 = (0 : Int32) then (if v29 = (0 : Int32) then (v19 = (0 : Int32)) else (v19 = (1 : Int32))) else (v19 = (1 : Int32)))))))) (Q := ((¬ (v44 = (0 : Int32))) ∧ ((v24 = (bz (¬ (lx < v4)))) ∧ ((v29 = (bz (¬ (mx < v9)))) ∧ (if v24 = (0 : Int32) then (if v29 = (0 : Int32) then (v19 = (0 : Int32)) else (v19 = (1 : Int32))) else (v19 = (1 : Int32))))))) (and_iff_right hb55)] at k
      show Steps p.tables e below (T42.setTop (mkF m 149 #[.val (.long px), .second, .val (.long qx), .second, .val (.long lx), .second, .val (.long mx), .second, .val (.long v4), .second, .val (.long v9), .second, .val (.ref b11), .val (.int v19), .val (.int v24), .val (.int v29), .val (.int v34), .val (.int v39), .val (.int v44), .val (.int (bz (¬ (lx < v4)))), .val (.int (bz (¬ (mx < v9))))] [])) _
      refine XS.iload X42.here hx rfl (hb hby at_149) rfl ?_
      exact tl69 t k
  have tl71 : ∀ t, Steps p.tables e below (T42.setTop (mkF m 193 #[.val (.long px), .second, .val (.long qx), .second, .val (.long lx), .second, .val (.long mx), .second, .val (.long v4), .second, .val (.long v9), .second, .val (.ref b11), .val (.int v19), .val (.int v24), .val (.int v29), .val (.int v34), .val (.int v39), .val (.int v44), .val (.int (bz (¬ (lx < v4)))), .val (.int (bz (¬ (mx < v9))))] [(.int (bz ((v34 = (0 : Int32)) ∧ ((¬ (v39 = (0 : Int32))) ∧ ((¬ (v44 = (0 : Int32))) ∧ ((v24 = (bz (¬ (lx < v4)))) ∧ ((v29 = (bz (¬ (mx < v9)))) ∧ (if v24 = (0 : Int32) then (if v29 = (0 : Int32) then (v19 = (0 : Int32)) else (v19 = (1 : Int32))) else (v19 = (1 : Int32))))))))))])) t → Steps p.tables e below (T42.setTop (mkF m 141 #[.val (.long px), .second, .val (.long qx), .second, .val (.long lx), .second, .val (.long mx), .second, .val (.long v4), .second, .val (.long v9), .second, .val (.ref b11), .val (.int v19), .val (.int v24), .val (.int v29), .val (.int v34), .val (.int v39), .val (.int v44), .val (.int (bz (¬ (lx < v4)))), .val (.int (bz (¬ (mx < v9))))] [(.int v34)])) t := fun t k => by
    by_cases hb54 : v34 = (0 : Int32)
    · refine XS.ifNo X42.here hx rfl (hb hby at_141) rfl ((if0 _ _).trans (teq hb54).2) ?_
      rw [bz_congr (P := ((v34 = (0 : Int32)) ∧ ((¬ (v39 = (0 : Int32))) ∧ ((¬ (v44 = (0 : Int32))) ∧ ((v24 = (bz (¬ (lx < v4)))) ∧ ((v29 = (bz (¬ (mx < v9)))) ∧ (if v24 = (0 : Int32) then (if v29 = (0 : Int32) then (v19 = (0 : Int32)) else (v19 = (1 : Int32))) else (v19 = (1 : Int32))))))))) (Q := ((¬ (v39 = (0 : Int32))) ∧ ((¬ (v44 = (0 : Int32))) ∧ ((v24 = (bz (¬ (lx < v4)))) ∧ ((v29 = (bz (¬ (mx < v9)))) ∧ (if v24 = (0 : Int32) then (if v29 = (0 : Int32) then (v19 = (0 : Int32)) else (v19 = (1 : Int32))) else (v19 = (1 : Int32)))))))) (and_iff_right hb54)] at k
      show Steps p.tables e below (T42.setTop (mkF m 144 #[.val (.long px), .second, .val (.long qx), .second, .val (.long lx), .second, .val (.long mx), .second, .val (.long v4), .second, .val (.long v9), .second, .val (.ref b11), .val (.int v19), .val (.int v24), .val (.int v29), .val (.int v34), .val (.int v39), .val (.int v44), .val (.int (bz (¬ (lx < v4)))), .val (.int (bz (¬ (mx < v9))))] [])) _
      refine XS.iload X42.here hx rfl (hb hby at_144) rfl ?_
      exact tl70 t k
    · refine XS.ifYes X42.here hx rfl (pc0 := 141) (pc' := 192) rfl (hb hby at_141) rfl ((if0 _ _).trans (feq hb54).2) (by decide) (by decide) ?_
      rw [bz_zero (P := ((v34 = (0 : Int32)) ∧ ((¬ (v39 = (0 : Int32))) ∧ ((¬ (v44 = (0 : Int32))) ∧ ((v24 = (bz (¬ (lx < v4)))) ∧ ((v29 = (bz (¬ (mx < v9)))) ∧ (if v24 = (0 : Int32) then (if v29 = (0 : Int32) then (v19 = (0 : Int32)) else (v19 = (1 : Int32))) else (v19 = (1 : Int32))))))))) (iff_false_intro (fun q => hb54 q.1))] at k
      show Steps p.tables e below (T42.setTop (mkF m 192 #[.val (.long px), .second, .val (.long qx), .second, .val (.long lx), .second, .val (.long mx), .second, .val (.long v4), .second, .val (.long v9), .second, .val (.ref b11), .val (.int v19), .val (.int v24), .val (.int v29), .val (.int v34), .val (.int v39), .val (.int v44), .val (.int (bz (¬ (lx < v4)))), .val (.int (bz (¬ (mx < v9))))] [])) _
      refine XS.iconst X42.here hx rfl (hb hby at_192) ?_
      exact k
  have pre73 : ∀ t, Steps p.tables e below (T42.setTop (mkF m 193 #[.val (.long px), .second, .val (.long qx), .second, .val (.long lx), .second, .val (.long mx), .second, .val (.long v4), .second, .val (.long v9), .second, .val (.ref b11), .val (.int v19), .val (.int v24), .val (.int v29), .val (.int v34), .val (.int v39), .val (.int v44), .val (.int (bz (¬ (lx < v4)))), .val (.int (bz (¬ (mx < v9))))] [(.int (bz ((v34 = (0 : Int32)) ∧ ((¬ (v39 = (0 : Int32))) ∧ ((¬ (v44 = (0 : Int32))) ∧ ((v24 = (bz (¬ (lx < v4)))) ∧ ((v29 = (bz (¬ (mx < v9)))) ∧ (if v24 = (0 : Int32) then (if v29 = (0 : Int32) then (v19 = (0 : Int32)) else (v19 = (1 : Int32))) else (v19 = (1 : Int32))))))))))])) t → Steps p.tables e below (s₁.setTop (entryFrame m #[(.long px), (.long qx), (.long lx), (.long mx)] maxLocals)) t := fun t k => pre72 t (by
    exact tl71 t k)
  obtain ⟨fs, hr, hrun, hended, hW, hsame⟩ := X42.leave (v := some (.int (nar .boolean (bz ((v34 = (0 : Int32)) ∧ ((¬ (v39 = (0 : Int32))) ∧ ((¬ (v44 = (0 : Int32))) ∧ ((v24 = (bz (¬ (lx < v4)))) ∧ ((v29 = (bz (¬ (mx < v9)))) ∧ (if v24 = (0 : Int32) then (if v29 = (0 : Int32) then (v19 = (0 : Int32)) else (v19 = (1 : Int32))) else (v19 = (1 : Int32)))))))))))) (fun h => by rw [Bd.returns] at h; cases h)
  refine ⟨_, _, pre73 _ ?_, hrun, hended, _, _, rfl, ?_, ⟨_, rfl⟩, hW, hsame.mono (by decide) (by decide)⟩
  · show Steps p.tables e below (T42.setTop (mkF m 193 #[.val (.long px), .second, .val (.long qx), .second, .val (.long lx), .second, .val (.long mx), .second, .val (.long v4), .second, .val (.long v9), .second, .val (.ref b11), .val (.int v19), .val (.int v24), .val (.int v29), .val (.int v34), .val (.int v39), .val (.int v44), .val (.int (bz (¬ (lx < v4)))), .val (.int (bz (¬ (mx < v9))))] [(.int (bz ((v34 = (0 : Int32)) ∧ ((¬ (v39 = (0 : Int32))) ∧ ((¬ (v44 = (0 : Int32))) ∧ ((v24 = (bz (¬ (lx < v4)))) ∧ ((v29 = (bz (¬ (mx < v9)))) ∧ (if v24 = (0 : Int32) then (if v29 = (0 : Int32) then (v19 = (0 : Int32)) else (v19 = (1 : Int32))) else (v19 = (1 : Int32))))))))))])) _
    exact retN X42 hx (t := .boolean) Bd.returns (by simp) (hb hby at_193) hr
  · show Q0 Z px qx lx mx n0 [] _ T42.heap _
    have R74 : Rep Z n0 T42.heap ([]) := (R42.front 0 rfl rfl : Rep Z n0 T42.heap ((b11, Obj "com/example/regent/regent/storage/SnapshotBound" [("transactions", "J", (.long v4)), ("bytes", "J", (.long v9))]) :: [])).tail
    exact ⟨(by have g1 := own_ge hv4; have g2 := own_ge hv9; subst hv19 hv24 hv29 hv34 hv39 hv44; exact ow_fin (own_law _ _ _ _ g1 g2)), N42, R74⟩
set_option maxRecDepth 65536 in
set_option maxHeartbeats 40000000 in
theorem comes_1 {Post : Tables → Env → Array Value → State → Outcome → State → Prop} (hpost : ∀ tb e args s v u, (limb_1_1.after args s (.returned v) u = true ∧ limb_1_2.after args s (.returned v) u = true ∧ True) → FrameEnd s (.returned v) u (Jvm.fieldLocs frame_1_writes args s ++ Jvm.arrayLocs frame_1_arrays args s ++ Jvm.staticLocs frame_1_statics s) 16 128 → Post tb e args s (.returned v) u) :
    ArmFor flags0 classFile x code maxLocals ret World_1 tables_1 room_1 Calls_1 rest_1 Pre_1 Post := by
  intro l hfl _ _ p e ha hc hk s m args below hf hA hF happ hP
  obtain ⟨hcalls, hrest, hpre⟩ := hP
  obtain ⟨-, -, -, hnamed, -, -, -, hat⟩ := (Spec.applies_iff hf).mp happ
  obtain ⟨hg, hn⟩ := and_e (Cond.before_iff.mp (show (Jvm.Cond.and given_1 narrow_1).before args s = true from hpre))
  obtain ⟨hct, hg⟩ := and_e hg
  obtain ⟨hg0, hg⟩ := and_e hg
  obtain ⟨hg1, hg⟩ := and_e hg
  obtain ⟨hg2, hg⟩ := and_e hg
  have hg3 := hg
  obtain ⟨w0, w1, w2, w3, rfl⟩ : ∃ w0 w1 w2 w3 : Value, args = #[w0, w1, w2, w3] := by
    have hs : args.size = 4 := by simpa [Cond.value, given_1] using hct
    obtain ⟨L⟩ := args
    match L, hs with
    | [w0, w1, w2, w3], _ => exact ⟨w0, w1, w2, w3, rfl⟩
  have hw := fun d (hd : d ∈ tables_1) => atoms_spec (ws := Jvm.Cond.code x code maxLocals ret :: tables_1) hat d (List.mem_cons_of_mem _ hd)
  obtain ⟨i0, ei0⟩ := isL_v hg0
  obtain rfl : w0 = (.long i0) := Option.some.inj ei0
  obtain ⟨i1, ei1⟩ := isL_v hg1
  obtain rfl : w1 = (.long i1) := Option.some.inj ei1
  obtain ⟨i2, ei2⟩ := isL_v hg2
  obtain rfl : w2 = (.long i2) := Option.some.inj ei2
  obtain ⟨i3, ei3⟩ := isL_v hg3
  obtain rfl : w3 = (.long i3) := Option.some.inj ei3
  obtain ⟨n, o, h1, h2, h3, _, L, rfl, ⟨rfl, N, -⟩, hq⟩ := rm0 l s _ hw tables_1 i0 i1 i2 i3 s.heap s.heap.size (Rep.nil _) p e ha hc hk s m _ below hf ((Spec.applies_iff_loose hf).mp happ).1 ⟨rfl, State.Warmed39.refl s, rfl⟩ trivial
  refine ⟨n, _, h1, h2, h3, hpost _ _ _ _ _ _ ⟨Cond.after_iff.mpr rfl, Cond.after_iff.mpr (eq_i res_at (Term.int_eval (1)) rfl), trivial⟩ ⟨hq.1, hq.2.1, (hq.2.2.sift fun y hy => Or.inr (N y hy)).mono (by decide) (by decide)⟩⟩
theorem main_1_1 : Claimed_1_1 := comes_1 fun _ _ _ _ _ _ h hF => ⟨h.1, hF⟩
theorem main_1_2 : Claimed_1_2 := comes_1 fun _ _ _ _ _ _ h hF => ⟨h.2.1, hF⟩
end Jvm.Pilot.@@N@@
namespace Jvm.Pilot.@@N@@
open Jvm Jvm.ClassFile Sem Op Lib Jvm.Free Jvm.Stand Jvm.Pilot.@@N@@.Jvm.D
/-! MADE BY PROGRAM (witnessworld.py) out of the Statement's table words and the real class files: 11 classes; the members and pool entries that the words name. The judged class is class 1, her method 1. -/
namespace start1
open Jvm.ClassFile
def u (s : String) : CpInfo := .utf8 (stringToUtf16 s)
/-- a pool by its gaps: so many unusable entries, then the entry; so many at the end -/
def gap : Nat → List CpInfo → List CpInfo
  | 0, r => r
  | n + 1, r => .unusable :: gap n r
def poolList (es : List (Nat × CpInfo)) (last : Nat) : List CpInfo := es.foldr (fun e r => gap e.1 (e.2 :: r)) (gap last [])
def pool (es : List (Nat × CpInfo)) (last : Nat) : Array CpInfo := ⟨poolList es last⟩
def fileOf (pool : Array CpInfo) (this : Nat) (attrs : Array Attribute := #[]) (ms : Array MethodInfo := #[]) (fl : Nat := 33) (sup : Nat := 0) (ifs : Array Nat := #[]) (fds : Array FieldInfo := #[]) : ClassFile where
  minorVersion := 0
  majorVersion := 65
  constantPool := pool
  accessFlags := fl
  thisClass := this
  superClass := sup
  interfaces := ifs
  fields := fds
  methods := ms
  attributes := attrs
def plain (name : String) (sup : Option ClassId) : Class where
  name := name
  kind := .ordinary
  loader := none
  accessFlags := 33
  super := sup
  interfaces := #[]
  cf := none
  fields := #[]
  methods := #[]
  instanceTypes := #[]
  staticTypes := #[]
  resolved := #[]
  callSites := []
  init := .initialized
  statics := none
  mirror := none

def pool0 : Array CpInfo := pool [(5, u "<init>"), (0, u "()V"), (1, .class_ 10), (1, u "java/lang/Object")] 113

def k0c0 : Code := { maxStack := 0, maxLocals := 1, code := object_method_1_code, exceptionTable := #[], attributes := #[] }
def k0m0 : Method := { name := "<init>", desc := "()V", sig := { parameters := [], returnType := none }, accessFlags := 1, code := some k0c0 }
/-- java/lang/Object -/
def k0 : Class := { plain "java/lang/Object" none with
  accessFlags := 33
  interfaces := #[]
  cf := some (fileOf pool0 8 #[] #[{ accessFlags := 1, nameIndex := 5, descriptorIndex := 6, attributes := #[] }] 33 0 #[] #[])
  fields := #[]
  methods := #[k0m0]
  instanceTypes := #[]
  staticTypes := #[]
  resolved := Array.replicate 124 none
  statics := none }

def pool1 : Array CpInfo := pool [(2, .class_ 4), (1, u "java/lang/Object"), (0, u "<init>"), (0, u "()V"), (2, .long 9223372036854775807), (1, .methodref 12 13), (0, .class_ 14), (0, .nameAndType 15 16), (0, u "java/lang/Math"), (0, u "max"), (0, u "(JJ)J"), (0, .class_ 18), (0, u "com/example/regent/regent/storage/SnapshotBound"), (0, .methodref 17 20), (0, .nameAndType 5 21), (0, u "(JJ)V"), (0, .methodref 17 23), (0, .nameAndType 24 25), (0, u "passed"), (0, u "(JJ)Z"), (0, .long 9223372036854775808), (1, .class_ 29), (0, u "com/example/regent/regent/storage/SnapshotBoundPassedPinLaw"), (2, u "law"), (0, u "(JJJJ)Z")] 3

def k1m0 : Method := { name := "<init>", desc := "()V", sig := { parameters := [], returnType := none }, accessFlags := 1, code := none }
def k1c1 : Code := { maxStack := 7, maxLocals := 21, code := code, exceptionTable := #[], attributes := #[] }
def k1m1 : Method := { name := "law", desc := "(JJJJ)Z", sig := { parameters := [.long, .long, .long, .long], returnType := some .boolean }, accessFlags := 9, code := some k1c1 }
/-- com/example/regent/regent/storage/SnapshotBoundPassedPinLaw -/
def k1 : Class := { plain "com/example/regent/regent/storage/SnapshotBoundPassedPinLaw" (some 0) with
  accessFlags := 49
  interfaces := #[]
  cf := some (fileOf pool1 28 #[] #[{ accessFlags := 1, nameIndex := 5, descriptorIndex := 6, attributes := #[] }, { accessFlags := 9, nameIndex := 32, descriptorIndex := 33, attributes := #[] }] 49 2 #[] #[])
  fields := #[]
  methods := #[k1m0, k1m1]
  instanceTypes := #[]
  staticTypes := #[]
  resolved := Array.replicate 37 none
  statics := none }

def pool2 : Array CpInfo := pool [(1, .class_ 2), (0, u "java/lang/Math"), (1, .class_ 6), (1, u "java/lang/Object"), (0, u "<init>"), (0, u "()V"), (89, .class_ 100), (1, u "java/lang/Math$RandomNumberGeneratorHolder"), (20, u "(JJ)J"), (50, u "negativeZeroFloatBits"), (0, u "J"), (2, u "negativeZeroDoubleBits"), (21, u "max"), (46, u "$assertionsDisabled"), (0, u "Z"), (91, u "twoToTheDoubleScaleDown"), (0, u "D"), (4, u "twoToTheDoubleScaleUp"), (9, u "E"), (3, u "PI"), (2, u "TAU"), (2, u "DEGREES_TO_RADIANS"), (0, u "RADIANS_TO_DEGREES")] 94

def k2m0 : Method := { name := "<init>", desc := "()V", sig := { parameters := [], returnType := none }, accessFlags := 2, code := none }
def k2c1 : Code := { maxStack := 4, maxLocals := 4, code := jdk_29_method_66_code, exceptionTable := #[], attributes := #[] }
def k2m1 : Method := { name := "max", desc := "(JJ)J", sig := { parameters := [.long, .long], returnType := some .long }, accessFlags := 9, code := some k2c1 }
/-- java/lang/Math -/
def k2 : Class := { plain "java/lang/Math" (some 0) with
  accessFlags := 49
  interfaces := #[]
  cf := some (fileOf pool2 1 #[.nestMembers #[98]] #[{ accessFlags := 2, nameIndex := 7, descriptorIndex := 8, attributes := #[] }, { accessFlags := 9, nameIndex := 198, descriptorIndex := 121, attributes := #[] }] 49 4 #[] #[{ accessFlags := 25, nameIndex := 354, descriptorIndex := 339, attributes := #[] }, { accessFlags := 25, nameIndex := 358, descriptorIndex := 339, attributes := #[] }, { accessFlags := 25, nameIndex := 361, descriptorIndex := 339, attributes := #[] }, { accessFlags := 26, nameIndex := 364, descriptorIndex := 339, attributes := #[] }, { accessFlags := 26, nameIndex := 365, descriptorIndex := 339, attributes := #[] }, { accessFlags := 26, nameIndex := 172, descriptorIndex := 173, attributes := #[] }, { accessFlags := 26, nameIndex := 176, descriptorIndex := 173, attributes := #[] }, { accessFlags := 8, nameIndex := 344, descriptorIndex := 339, attributes := #[] }, { accessFlags := 8, nameIndex := 338, descriptorIndex := 339, attributes := #[] }, { accessFlags := 4120, nameIndex := 245, descriptorIndex := 246, attributes := #[] }])
  fields := #[{ name := "E", type := .double, accessFlags := 25, slot := 0, constantValue := 0 }, { name := "PI", type := .double, accessFlags := 25, slot := 1, constantValue := 0 }, { name := "TAU", type := .double, accessFlags := 25, slot := 2, constantValue := 0 }, { name := "DEGREES_TO_RADIANS", type := .double, accessFlags := 26, slot := 3, constantValue := 0 }, { name := "RADIANS_TO_DEGREES", type := .double, accessFlags := 26, slot := 4, constantValue := 0 }, { name := "negativeZeroFloatBits", type := .long, accessFlags := 26, slot := 5, constantValue := 0 }, { name := "negativeZeroDoubleBits", type := .long, accessFlags := 26, slot := 6, constantValue := 0 }, { name := "twoToTheDoubleScaleUp", type := .double, accessFlags := 8, slot := 7, constantValue := 0 }, { name := "twoToTheDoubleScaleDown", type := .double, accessFlags := 8, slot := 8, constantValue := 0 }, { name := "$assertionsDisabled", type := .boolean, accessFlags := 4120, slot := 9, constantValue := 0 }]
  methods := #[k2m0, k2m1]
  instanceTypes := #[]
  staticTypes := #[.double, .double, .double, .double, .double, .long, .long, .double, .double, .boolean]
  resolved := Array.replicate 460 none
  statics := none }

def pool3 : Array CpInfo := pool [(1, .methodref 2 3), (0, .class_ 4), (0, .nameAndType 5 6), (0, u "java/lang/Object"), (0, u "<init>"), (0, u "()V"), (0, .class_ 8), (0, u "java/lang/Record")] 13

def k3c0 : Code := { maxStack := 1, maxLocals := 1, code := jdk_30_method_1_code, exceptionTable := #[], attributes := #[] }
def k3m0 : Method := { name := "<init>", desc := "()V", sig := { parameters := [], returnType := none }, accessFlags := 4, code := some k3c0 }
/-- java/lang/Record -/
def k3 : Class := { plain "java/lang/Record" (some 0) with
  accessFlags := 1057
  interfaces := #[]
  cf := some (fileOf pool3 7 #[] #[{ accessFlags := 4, nameIndex := 5, descriptorIndex := 6, attributes := #[] }] 1057 2 #[] #[])
  fields := #[]
  methods := #[k3m0]
  instanceTypes := #[]
  staticTypes := #[]
  resolved := Array.replicate 22 none
  statics := none }

def pool4 : Array CpInfo := pool [(1, .methodref 2 3), (0, .class_ 4), (0, .nameAndType 5 6), (0, u "java/lang/Record"), (0, u "<init>"), (0, u "()V"), (9, .fieldref 17 18), (0, .class_ 19), (0, .nameAndType 20 21), (0, u "com/example/regent/regent/storage/SnapshotBound"), (0, u "transactions"), (0, u "J"), (0, .fieldref 17 23), (0, .nameAndType 24 21), (0, u "bytes"), (18, u "(JJ)V"), (2, u "DEFAULT"), (0, u "Lcom/example/regent/regent/storage/SnapshotBound;"), (4, u "passed"), (0, u "(JJ)Z")] 34

def k4c0 : Code := { maxStack := 6, maxLocals := 5, code := prog_65_method_1_code, exceptionTable := #[], attributes := #[] }
def k4m0 : Method := { name := "<init>", desc := "(JJ)V", sig := { parameters := [.long, .long], returnType := none }, accessFlags := 1, code := some k4c0 }
def k4c1 : Code := { maxStack := 4, maxLocals := 5, code := prog_65_method_2_code, exceptionTable := #[], attributes := #[] }
def k4m1 : Method := { name := "passed", desc := "(JJ)Z", sig := { parameters := [.long, .long], returnType := some .boolean }, accessFlags := 0, code := some k4c1 }
/-- com/example/regent/regent/storage/SnapshotBound -/
def k4 : Class := { plain "com/example/regent/regent/storage/SnapshotBound" (some 3) with
  accessFlags := 49
  interfaces := #[]
  cf := some (fileOf pool4 17 #[] #[{ accessFlags := 1, nameIndex := 5, descriptorIndex := 43, attributes := #[] }, { accessFlags := 0, nameIndex := 52, descriptorIndex := 53, attributes := #[] }] 49 2 #[] #[{ accessFlags := 18, nameIndex := 20, descriptorIndex := 21, attributes := #[] }, { accessFlags := 18, nameIndex := 24, descriptorIndex := 21, attributes := #[] }, { accessFlags := 25, nameIndex := 46, descriptorIndex := 47, attributes := #[] }])
  fields := #[{ name := "transactions", type := .long, accessFlags := 18, slot := 0, constantValue := 0 }, { name := "bytes", type := .long, accessFlags := 18, slot := 1, constantValue := 0 }, { name := "DEFAULT", type := (.object "com/example/regent/regent/storage/SnapshotBound"), accessFlags := 25, slot := 0, constantValue := 0 }]
  methods := #[k4m0, k4m1]
  instanceTypes := #[.long, .long]
  staticTypes := #[(.object "com/example/regent/regent/storage/SnapshotBound")]
  resolved := Array.replicate 88 none
  statics := none }

def pool5 : Array CpInfo := pool [(1, u "java/lang/Cloneable"), (0, .class_ 1), (0, u "java/lang/Object"), (0, .class_ 3)] 3

/-- java/lang/Cloneable -/
def k5 : Class := { plain "java/lang/Cloneable" (some 0) with
  accessFlags := 1537
  interfaces := #[]
  cf := some (fileOf pool5 2 #[] #[] 1537 4 #[] #[])
  fields := #[]
  methods := #[]
  instanceTypes := #[]
  staticTypes := #[]
  resolved := Array.replicate 8 none
  statics := none }

def pool6 : Array CpInfo := pool [(1, u "java/io/Serializable"), (0, .class_ 1), (0, u "java/lang/Object"), (0, .class_ 3)] 3

/-- java/io/Serializable -/
def k6 : Class := { plain "java/io/Serializable" (some 0) with
  accessFlags := 1537
  interfaces := #[]
  cf := some (fileOf pool6 2 #[] #[] 1537 4 #[] #[])
  fields := #[]
  methods := #[]
  instanceTypes := #[]
  staticTypes := #[]
  resolved := Array.replicate 8 none
  statics := none }

/-- the primitive byte -/
def k7 : Class := { plain "byte" none with kind := .primitive 'B', accessFlags := 0x411 }
/-- [B -/
def k8 : Class := { plain "[B" (some 0) with kind := .array 7 .byte, interfaces := #[5, 6], accessFlags := 1041 }

/-- the primitive int -/
def k9 : Class := { plain "int" none with kind := .primitive 'I', accessFlags := 0x411 }
/-- [I -/
def k10 : Class := { plain "[I" (some 0) with kind := .array 9 .int, interfaces := #[5, 6], accessFlags := 1041 }

def heap : Heap := #[]
def classes : Array Class := #[k0, k1, k2, k3, k4, k5, k6, k7, k8, k9, k10]
def interned : List (Array UInt16 × Addr) := []
def slotsUsed : Nat := 0
def theMethod : MethodId := ⟨1, 1⟩
def args0 : Array Value := #[.long 5, .long 7, .long 3, .long 4]
def aboutOver (below : List Frame) : State where
  vm := { classes := classes, interned := interned.toArray }
  heap := heap
  slotsUsed := slotsUsed
  threads := #[{ frames := .invoking theMethod args0 :: below }]
def below0 : List Frame := [.native { method := ⟨0, 0⟩, args := #[] }]
def about1 : State := aboutOver below0
def p0 : Program := .bare "" "" ""
def e0 : Env := launch0.env 0 0 0
theorem w_frames : about1.frames = Frame.invoking theMethod args0 :: below0 := rfl
set_option maxRecDepth 65536 in
theorem w_args : argsFit about1.vm theMethod args0 = true := by decide +kernel
set_option maxRecDepth 65536 in
theorem w_heap : heapFits about1 = true := by decide +kernel
set_option maxRecDepth 65536 in
theorem w_runnable : about1.curStatus? = some .runnable := by decide +kernel
set_option maxRecDepth 65536 in
theorem w_alone : about1.alone = true := by decide +kernel
set_option maxRecDepth 65536 in
theorem w_named : about1.methodNamed? x = some theMethod := by decide +kernel
set_option maxRecDepth 65536 in
theorem w_hears : about1.hears theMethod below0 = true := by decide +kernel
set_option maxRecDepth 65536 in
theorem w_ripe : about1.ripe theMethod args0 below0 = true := by decide +kernel
theorem w_running : about1.status = .running := rfl
set_option maxRecDepth 65536 in
theorem w_room : about1.hasRoom e0.platform room_1 = true :=
  launch0.hasRoom_least _ room_1 (by decide +kernel) (by decide +kernel) (by decide +kernel) (by decide +kernel) (by decide +kernel) (by decide +kernel)
theorem allAtoms_all (ts : List Jvm.Cond) (a : Array Jvm.Value) (st : Jvm.State) : (allAtoms ts).before a st = ts.all (fun c => c.before a st) := by
  induction ts with
  | nil => rfl
  | cons c t ih =>
    show (Jvm.Cond.and c (allAtoms t)).before a st = _
    rw [Jvm.Cond.before_and, ih, List.all_cons]
def words1 : List Jvm.Cond := Jvm.Cond.code x code maxLocals ret :: tables_1
/-- a 'code' word, met by the world's own term for the bytes: nothing is compared byte by byte -/
theorem code_word {y : MethodName} {bytes : ByteArray} {mx : Nat} {rt : Option FieldType} {a : Array Value} {s : State} {m : MethodId} {meth : Method} {c : Code} (h1 : s.methodNamed? y = some m) (h2 : s.vm.method? m = some meth) (h3 : meth.code = some c) (h4 : c.code = bytes)
    (h5 : (c.maxLocals == mx && c.exceptionTable.isEmpty && decide (c.maxStack ≤ mostOperands) && decide (meth.sig.returnType = rt) && !meth.locks && decide (parseMethodDescriptor y.desc = some meth.sig)) = true) : (Jvm.Cond.code y bytes mx rt).before a s = true := by
  simp only [Bool.and_eq_true, beq_iff_eq, Bool.not_eq_true', decide_eq_true_eq] at h5
  obtain ⟨⟨⟨⟨⟨g1, g2⟩, g3⟩, g4⟩, g5⟩, g6⟩ := h5
  simp [Cond.before, Cond.holds, Cond.value, h1, h2, h3, h4, g1, g2, g3, g4, g5, g6]
def isCode : Jvm.Cond → Bool
  | .code _ _ _ _ => true
  | _ => false
theorem all_split {L : List Jvm.Cond} {P : Jvm.Cond → Bool} (h1 : L.all (fun c => isCode c || P c) = true) (h2 : ∀ c ∈ L.filter isCode, P c = true) : L.all P = true := by
  refine List.all_eq_true.mpr fun c hc => ?_
  have h := List.all_eq_true.mp h1 c hc
  rcases Bool.eq_false_or_eq_true (isCode c) with hi | hi
  · exact h2 c (List.mem_filter.mpr ⟨hc, hi⟩)
  · simpa [hi] using h
set_option maxRecDepth 65536 in
theorem w_c0 : (Jvm.Cond.code x code maxLocals ret).before args0 about1 = true := code_word (m := ⟨1, 1⟩) (meth := k1m1) (c := k1c1) (by decide +kernel) rfl rfl rfl (by decide +kernel)
set_option maxRecDepth 65536 in
theorem w_c1 : (Jvm.Cond.code ({ cls := "java/lang/Math", name := "max", desc := "(JJ)J" } : Jvm.MethodName) jdk_29_method_66_code (4 : Nat) (Option.some Jvm.ClassFile.FieldType.long)).before args0 about1 = true := code_word (m := ⟨2, 1⟩) (meth := k2m1) (c := k2c1) (by decide +kernel) rfl rfl rfl (by decide +kernel)
set_option maxRecDepth 65536 in
theorem w_c2 : (Jvm.Cond.code ({ cls := "com/example/regent/regent/storage/SnapshotBound", name := "<init>", desc := "(JJ)V" } : Jvm.MethodName) prog_65_method_1_code (5 : Nat) (Option.none : Option Jvm.ClassFile.FieldType)).before args0 about1 = true := code_word (m := ⟨4, 0⟩) (meth := k4m0) (c := k4c0) (by decide +kernel) rfl rfl rfl (by decide +kernel)
set_option maxRecDepth 65536 in
theorem w_c3 : (Jvm.Cond.code ({ cls := "java/lang/Record", name := "<init>", desc := "()V" } : Jvm.MethodName) jdk_30_method_1_code (1 : Nat) (Option.none : Option Jvm.ClassFile.FieldType)).before args0 about1 = true := code_word (m := ⟨3, 0⟩) (meth := k3m0) (c := k3c0) (by decide +kernel) rfl rfl rfl (by decide +kernel)
set_option maxRecDepth 65536 in
theorem w_c4 : (Jvm.Cond.code ({ cls := "java/lang/Object", name := "<init>", desc := "()V" } : Jvm.MethodName) object_method_1_code (1 : Nat) (Option.none : Option Jvm.ClassFile.FieldType)).before args0 about1 = true := code_word (m := ⟨0, 0⟩) (meth := k0m0) (c := k0c0) (by decide +kernel) rfl rfl rfl (by decide +kernel)
set_option maxRecDepth 65536 in
theorem w_c5 : (Jvm.Cond.code ({ cls := "com/example/regent/regent/storage/SnapshotBound", name := "passed", desc := "(JJ)Z" } : Jvm.MethodName) prog_65_method_2_code (5 : Nat) (Option.some Jvm.ClassFile.FieldType.boolean)).before args0 about1 = true := code_word (m := ⟨4, 1⟩) (meth := k4m1) (c := k4c1) (by decide +kernel) rfl rfl rfl (by decide +kernel)
def codes1 : List Jvm.Cond := [Jvm.Cond.code x code maxLocals ret, Jvm.Cond.code ({ cls := "java/lang/Math", name := "max", desc := "(JJ)J" } : Jvm.MethodName) jdk_29_method_66_code (4 : Nat) (Option.some Jvm.ClassFile.FieldType.long), Jvm.Cond.code ({ cls := "com/example/regent/regent/storage/SnapshotBound", name := "<init>", desc := "(JJ)V" } : Jvm.MethodName) prog_65_method_1_code (5 : Nat) (Option.none : Option Jvm.ClassFile.FieldType), Jvm.Cond.code ({ cls := "java/lang/Record", name := "<init>", desc := "()V" } : Jvm.MethodName) jdk_30_method_1_code (1 : Nat) (Option.none : Option Jvm.ClassFile.FieldType), Jvm.Cond.code ({ cls := "java/lang/Object", name := "<init>", desc := "()V" } : Jvm.MethodName) object_method_1_code (1 : Nat) (Option.none : Option Jvm.ClassFile.FieldType), Jvm.Cond.code ({ cls := "com/example/regent/regent/storage/SnapshotBound", name := "passed", desc := "(JJ)Z" } : Jvm.MethodName) prog_65_method_2_code (5 : Nat) (Option.some Jvm.ClassFile.FieldType.boolean)]
set_option maxRecDepth 65536 in
theorem codes_eq : words1.filter isCode = codes1 := rfl
theorem w_codes : ∀ c ∈ words1.filter isCode, c.before args0 about1 = true := by
  rw [codes_eq]
  intro c hc
  simp only [codes1, List.mem_cons, List.not_mem_nil, or_false] at hc
  rcases hc with rfl | rfl | rfl | rfl | rfl | rfl
  · exact w_c0
  · exact w_c1
  · exact w_c2
  · exact w_c3
  · exact w_c4
  · exact w_c5
set_option maxRecDepth 65536 in
theorem w_t1 : (words1.take 24).all (fun c => isCode c || c.before args0 about1) = true := by decide +kernel
set_option maxRecDepth 65536 in
theorem w_t2 : (words1.drop 24).all (fun c => isCode c || c.before args0 about1) = true := by decide +kernel
theorem w_tables : (allAtoms (Jvm.Cond.code x code maxLocals ret :: tables_1)).before args0 about1 = true := by
  rw [allAtoms_all]
  show words1.all (fun c => c.before args0 about1) = true
  refine all_split ?_ w_codes
  rw [← List.take_append_drop 24 words1, List.all_append, w_t1, w_t2]
  rfl
set_option maxRecDepth 65536 in
theorem w_case : (Jvm.Cond.and given_1 narrow_1).before args0 about1 = true := by decide +kernel
theorem w_applies : (headSpec (Jvm.Cond.code x code maxLocals ret :: tables_1) room_1).applies x e0.platform about1 = true :=
  (Spec.applies_iff w_frames).mpr ⟨w_running, w_runnable, w_alone, w_named, w_hears, w_ripe, w_room, w_tables⟩
theorem atStart : AtStart classFile x code maxLocals ret World_1 tables_1 room_1 Calls_1 rest_1 Pre_1 launch0 p0 e0 about1 theMethod args0 below0 :=
  ⟨lists_1, trivial, launch0.admits_env _ _ _, launch0.least_env, fairChoices_fair.cas, fairChoices_fair.clock, w_frames, w_args, w_heap, w_applies, trivial, trivial, w_case⟩
end start1
theorem witness_1 : WitnessClaimed_1 := ⟨start1.p0, start1.e0, start1.about1, start1.theMethod, start1.args0, start1.below0, start1.atStart⟩
end Jvm.Pilot.@@N@@
