import JvmDerived
import JvmDerived.Pilot.@@N@@Statement
import JvmDerived.Pilot.@@N@@Code
set_option linter.unusedVariables false
set_option linter.unusedSimpArgs false
namespace Jvm.Own
open Jvm Jvm.ClassFile Sem Op Lib Jvm.Free Jvm.Stand Jvm.LawKit Jvm.RoadKit
/-! ## A heap told by a list: each new object or array by its address and what its cell is -/
abbrev Des : Type := State → Cell → Prop
abbrev RL : Type := List (Addr × Des)
/-- an object of class C, its fields (name, descriptor, value), all declared in C -/
def Obj (C : String) (fs : List (String × String × Value)) : Des := fun Z c =>
  Exa Z (#[c] : Heap) 0 C ∧ (∀ (j : Nat) (x : String × String × Value), fs[j]? = some x → Fld Z (#[c] : Heap) 0 C x.1 x.2.1 x.2.2) ∧
  ∀ (i j : Nat) (x y : String × String × Value), i ≠ j → fs[i]? = some x → fs[j]? = some y → Jvm.RoadKit.slotOf Z C x.1 x.2.1 ≠ Jvm.RoadKit.slotOf Z C y.1 y.2.1
/-- an array of ty, all its values -/
def Ar (ty : FieldType) (vs : List Value) : Des := fun Z c => Z.isArrayOf c ty ∧ c.vm ≠ .unknown ∧ c.slots.toList = vs ∧ (∀ v ∈ vs, fits ty v = true) ∧ Exa Z (#[c] : Heap) 0 ("[" ++ ty.toString)
/-- every one of L lies in h, at or behind n0, no two at one place -/
def Rep (Z : State) (n0 : Nat) (h : Heap) (L : RL) : Prop := n0 ≤ h.size ∧ (L.map (·.1)).Nodup ∧ ∀ x ∈ L, n0 ≤ x.1 ∧ ∃ c : Cell, h[x.1]? = some c ∧ x.2 Z c
section Facts
variable {Z : State} {n0 : Nat} {h h' : Heap} {L : RL} {a : Addr} {c : Cell} {C n d : String} {v w : Value} {i j : Nat} {fs : List (String × String × Value)} {P P' : Des} {ty : FieldType} {vs : List Value}
theorem one_eq {c c' : Cell} (q : (#[c] : Heap)[0]? = some c') : c' = c := by simpa using q.symm
theorem fld_of (hc : h[a]? = some c) (F : Fld Z (#[c] : Heap) 0 C n d v) : Fld Z h a C n d v := by
  obtain ⟨cell, cf, k, i, f, h1, r⟩ := F
  cases one_eq h1
  exact ⟨_, cf, k, i, f, hc, r⟩
theorem fld_to (hc : h[a]? = some c) (F : Fld Z h a C n d v) : Fld Z (#[c] : Heap) 0 C n d v := by
  obtain ⟨cell, cf, k, i, f, h1, r⟩ := F
  cases hc.symm.trans h1
  exact ⟨_, cf, k, i, f, rfl, r⟩
theorem exa_of (hc : h[a]? = some c) (F : Exa Z (#[c] : Heap) 0 C) : Exa Z h a C := by
  obtain ⟨cell, k, h1, r⟩ := F
  cases one_eq h1
  exact ⟨_, k, hc, r⟩
theorem exa_to (hc : h[a]? = some c) (F : Exa Z h a C) : Exa Z (#[c] : Heap) 0 C := by
  obtain ⟨cell, k, h1, r⟩ := F
  cases hc.symm.trans h1
  exact ⟨_, k, rfl, r⟩
theorem Rep.nil (h : Heap) : Rep Z h.size h [] := ⟨Nat.le_refl _, List.nodup_nil, fun _ q => nomatch q⟩
theorem Rep.at (R : Rep Z n0 h L) (hi : L[i]? = some (a, P)) : n0 ≤ a ∧ ∃ c : Cell, h[a]? = some c ∧ P Z c := R.2.2 _ (List.mem_of_getElem? hi)
theorem Rep.ge (R : Rep Z n0 h L) (hi : L[i]? = some (a, P)) : n0 ≤ a := (R.at hi).1
theorem Rep.fld (R : Rep Z n0 h L) (hi : L[i]? = some (a, Obj C fs)) (hj : fs[j]? = some (n, d, v)) : Fld Z h a C n d v := by
  obtain ⟨-, c, hc, -, F, -⟩ := R.at hi
  exact fld_of hc (F j _ hj)
theorem Rep.exa (R : Rep Z n0 h L) (hi : L[i]? = some (a, Obj C fs)) : Exa Z h a C := by
  obtain ⟨-, c, hc, E, -⟩ := R.at hi
  exact exa_of hc E
theorem Rep.arr (R : Rep Z n0 h L) (hi : L[i]? = some (a, Ar ty vs)) : ∃ cl : Cell, Arr Z h a cl ty ∧ cl.slots.toList = vs := by
  obtain ⟨-, c, hc, A, B, V, -⟩ := R.at hi
  exact ⟨c, ⟨hc, A, B⟩, V⟩
theorem Rep.arr' (R : Rep Z n0 h L) (hi : L[i]? = some (a, Ar ty vs)) : ∃ cl : Cell, Arr Z h a cl ty ∧ cl.slots.toList = vs ∧ (∀ v ∈ vs, fits ty v = true) ∧ Exa Z h a ("[" ++ ty.toString) := by
  obtain ⟨-, c, hc, A, B, V, F, E⟩ := R.at hi
  exact ⟨c, ⟨hc, A, B⟩, V, F, exa_of hc E⟩
theorem wr_one {sl : Nat} (hc : h[a]? = some c) (W : Wr h h' a sl v) : Wr (#[c] : Heap) (#[c.setSlot sl v] : Heap) 0 sl v := by
  obtain ⟨cell, h1, h2, h3, -⟩ := W
  cases hc.symm.trans h1
  exact ⟨_, rfl, h2, h3, rfl⟩
theorem Rep.upd {sl : Nat} (R : Rep Z n0 h L) (hi : L[i]? = some (a, P)) (W : Wr h h' a sl v) (hP : ∀ c : Cell, h[a]? = some c → P Z c → P' Z (c.setSlot sl v)) : Rep Z n0 h' (L.set i (a, P')) := by
  have em : (L.set i (a, P')).map (·.1) = L.map (·.1) := by
    rw [List.map_set]
    apply List.ext_getElem?
    intro k
    rw [List.getElem?_set]
    split
    · rename_i e; subst e
      split
      · simp [hi]
      · rename_i e; simp only [List.length_map] at e; simp [List.getElem?_eq_none (Nat.le_of_not_lt e)]
    · rfl
  have il : i < L.length := (List.getElem?_eq_some_iff.mp hi).1
  refine ⟨by rw [W.size]; exact R.1, by rw [em]; exact R.2.1, fun x hx => ?_⟩
  obtain ⟨k, hk⟩ := List.mem_iff_getElem?.mp hx
  rw [List.getElem?_set] at hk
  split at hk
  · rename_i e; subst e
    cases hk
    obtain ⟨g, c, hc, p⟩ := R.at hi
    obtain ⟨c', e1, -, -, -, -, -, e7⟩ := wr_at W hc
    exact ⟨g, c', e1, by rw [(e7 rfl).1]; exact hP c hc p⟩
  · rename_i e
    obtain ⟨g, c, hc, p⟩ := R.2.2 x (List.mem_of_getElem? hk)
    have ne : x.1 ≠ a := fun q => by
      refine e ((List.getElem?_inj (l := L.map (·.1)) (by simpa using il) R.2.1).mp ?_)
      simp [hi, hk, q]
    obtain ⟨c', e1, -, -, -, e5, -⟩ := wr_at W hc
    exact ⟨g, c', e1, by rw [e5 ne]; exact p⟩
theorem Rep.put (R : Rep Z n0 h L) (hi : L[i]? = some (a, Obj C fs)) (hj : fs[j]? = some (n, d, w)) (W : Wr h h' a (Jvm.RoadKit.slotOf Z C n d) v) : Rep Z n0 h' (L.set i (a, Obj C (fs.set j (n, d, v)))) := by
  refine R.upd hi W fun c hc ⟨E, F, S⟩ => ?_
  have W1 := wr_one hc W
  have jl : j < fs.length := (List.getElem?_eq_some_iff.mp hj).1
  have key : ∀ (k : Nat) (x : String × String × Value), (fs.set j (n, d, v))[k]? = some x → ∃ y, fs[k]? = some y ∧ y.1 = x.1 ∧ y.2.1 = x.2.1 ∧ (k ≠ j → y = x) ∧ (k = j → x = (n, d, v)) := by
    intro k x hk
    rw [List.getElem?_set] at hk
    split at hk
    · rename_i e; subst e
      have hx := (Option.some.inj hk).symm
      exact ⟨(n, d, w), hj, by rw [hx], by rw [hx], fun q => absurd rfl q, fun _ => hx⟩
    · rename_i e
      exact ⟨x, hk, rfl, rfl, fun _ => rfl, fun q => absurd q.symm e⟩
  refine ⟨E.wr W1, fun k x hk => ?_, fun k k' x y ne hk hk' => ?_⟩
  · obtain ⟨y, y1, y2, y3, y4, y5⟩ := key k x hk
    by_cases e : k = j
    · subst e
      have hx := y5 rfl
      rw [hx]
      exact (F _ _ hj).same W1
    · have hx := y4 e
      subst hx
      have s : Jvm.RoadKit.slotOf Z C y.1 y.2.1 ≠ Jvm.RoadKit.slotOf Z C n d := S k j y (n, d, w) e y1 hj
      exact Fld.other W1 (F k y y1) (Or.inr s)
  · have kx := key k x hk
    have ky := key k' y hk'
    obtain ⟨x', x1, x2, x3, _⟩ := kx
    obtain ⟨y', y1, y2, y3, _⟩ := ky
    have := S k k' x' y' ne x1 y1
    rw [x2, x3, y2, y3] at this
    exact this
theorem Rep.sto {k : Nat} (R : Rep Z n0 h L) (hi : L[i]? = some (a, Ar ty vs)) (W : Wr h h' a k v) (hf : fits ty v = true) : Rep Z n0 h' (L.set i (a, Ar ty (vs.set k v))) := by
  refine R.upd hi W fun c hc ⟨A, B, V, F, E⟩ => ⟨A, B, ?_, fun x hx => ?_, E.wr (wr_one hc W)⟩
  · show (c.slots.setIfInBounds k v).toList = _
    rw [Array.toList_setIfInBounds, V]
  · rcases List.mem_or_eq_of_mem_set hx with q | q
    · exact F x q
    · rw [q]; exact hf
theorem Rep.add (R : Rep Z n0 h L) (E : Ext h h') (g : a = h.size) (hc : h'[a]? = some c) (p : P Z c) : Rep Z n0 h' ((a, P) :: L) := by
  refine ⟨Nat.le_trans R.1 E.1, ?_, fun x hx => ?_⟩
  · rw [List.map_cons, List.nodup_cons]
    refine ⟨fun q => ?_, R.2.1⟩
    obtain ⟨x, hx, e⟩ := List.mem_map.mp q
    obtain ⟨-, c, hc, -⟩ := R.2.2 x hx
    have := (Array.getElem?_eq_some_iff.mp hc).1
    exact absurd (e.trans g) (Nat.ne_of_lt this)
  · rcases List.mem_cons.mp hx with rfl | hx
    · exact ⟨g ▸ R.1, c, hc, p⟩
    · obtain ⟨q, c, hc, p⟩ := R.2.2 x hx
      exact ⟨q, c, E.2 _ _ hc, p⟩
theorem Rep.ext (R : Rep Z n0 h L) (E : Ext h h') : Rep Z n0 h' L := ⟨Nat.le_trans R.1 E.1, R.2.1, fun x hx => by
  obtain ⟨q, c, hc, p⟩ := R.2.2 x hx
  exact ⟨q, c, E.2 _ _ hc, p⟩⟩
theorem perm_front {α : Type} : ∀ (L : List α) (i : Nat) (x : α), L[i]? = some x → (x :: L.eraseIdx i).Perm L
  | [], _, _, q => nomatch q
  | y :: t, 0, x, q => by cases q; exact List.Perm.refl _
  | y :: t, i + 1, x, q => by
    have ih := perm_front t i x (by simpa using q)
    exact (List.Perm.swap y x (t.eraseIdx i)).trans (ih.cons y)
theorem Rep.front {x : Addr × Des} {L' : RL} (R : Rep Z n0 h L) (i : Nat) (hi : L[i]? = some x) (e : L.eraseIdx i = L') : Rep Z n0 h (x :: L') := by
  subst e
  have pm : (x :: L.eraseIdx i).Perm L := perm_front L i x hi
  exact ⟨R.1, (pm.map _).nodup_iff.mpr R.2.1, fun y hy => R.2.2 y (pm.mem_iff.mp hy)⟩
theorem Rep.tail {x : Addr × Des} (R : Rep Z n0 h (x :: L)) : Rep Z n0 h L := ⟨R.1, (List.nodup_cons.mp (by simpa using R.2.1)).2, fun y hy => R.2.2 y (List.mem_cons_of_mem _ hy)⟩
/-- what the sheet says of the fields of a new object, one by one -/
def LaidAll (Z : State) (a0 : Array Value) (C : String) : List (String × String × Value) → Prop
  | [] => True
  | x :: r => (Laid Z a0 C C x.1 x.2.1 ∧ ∃ ty, parseFieldDescriptor x.2.1 = some ty ∧ x.2.2 = defaultValue ty) ∧ LaidAll Z a0 C r
theorem LaidAll.mem {a0 : Array Value} : ∀ {fs : List (String × String × Value)}, LaidAll Z a0 C fs → ∀ x ∈ fs, Laid Z a0 C C x.1 x.2.1 ∧ ∃ ty, parseFieldDescriptor x.2.1 = some ty ∧ x.2.2 = defaultValue ty
  | [], _, _, hx => nomatch hx
  | y :: r, q, x, hx => (List.mem_cons.mp hx).elim (fun e => e ▸ q.1) (LaidAll.mem q.2 x)
theorem Rep.newO {a0 : Array Value} (R : Rep Z n0 h L) (E : Ext h h') (g : a = h.size) (A : Exa Z h' a C) (D : ∀ {O nm d : String} {ty : FieldType}, Laid Z a0 C O nm d → parseFieldDescriptor d = some ty → Fld Z h' a O nm d (defaultValue ty)) (hl : LaidAll Z a0 C fs) (hn : (fs.map (·.1)).Nodup) : Rep Z n0 h' ((a, Obj C fs) :: L) := by
  obtain ⟨c, k, hc, r⟩ := id A
  refine R.add E g hc ⟨exa_to hc A, fun j x hx => ?_, fun i j x y ne hx hy e => ?_⟩
  · obtain ⟨l, ty, p, q⟩ := hl.mem x (List.mem_of_getElem? hx)
    rw [q]; exact fld_to hc (D l p)
  · obtain ⟨l, ty, p, q⟩ := hl.mem x (List.mem_of_getElem? hx)
    obtain ⟨l', ty', p', q'⟩ := hl.mem y (List.mem_of_getElem? hy)
    refine slot_ne l l' (fun en => ne ?_) p p' e
    refine (List.getElem?_inj (l := fs.map (·.1)) (by simpa using (List.getElem?_eq_some_iff.mp hx).1) hn).mp ?_
    simp [hx, hy, en]
theorem Rep.newAr {z : Int32} {k : ClassId} (R : Rep Z n0 h L) (E : Ext h h') (g : a = h.size) (A : Arr Z h' a (newA k ty z) ty) (X : Exa Z h' a ("[" ++ ty.toString)) (hf : fits ty (defaultValue ty) = true) (hv : List.replicate z.toNatClampNeg (defaultValue ty) = vs) : Rep Z n0 h' ((a, Ar ty vs) :: L) := by
  refine R.add E g A.1 ⟨A.2.1, A.2.2, ?_, fun v hq => ?_, exa_to A.1 X⟩
  · rw [← hv]; simp [newA]
  · rw [← hv] at hq; rw [List.eq_of_mem_replicate hq]; exact hf
theorem in_of {cl : Cell} {q : Int32} (V : cl.slots.toList = vs) (hq : ¬ q < 0) (hv : q.toNatClampNeg < vs.length) : ¬ (q < 0 ∨ cl.slots.size ≤ q.toNatClampNeg) := by
  rintro (q1 | q1)
  · exact hq q1
  · rw [← V, Array.length_toList] at hv; omega
theorem at_of {cl : Cell} {k : Nat} (V : cl.slots.toList = vs) (hv : vs[k]? = some v) : cl.slots[k]? = some v := by
  rw [← hv, ← V, Array.getElem?_toList]
theorem lt_of {k : Nat} (hv : vs[k]? = some v) : k < vs.length := (List.getElem?_eq_some_iff.mp hv).1
end Facts
/-! ## One law a step -/
section Steps
variable {p : Program} {l : Launch} {e : Env} {R : Room} {s : State} {m : MethodId} {args : Array Value} {below : List Frame} {meth : Method} {c : Code} {T : State} {locs : List Loc} {cells slots : Nat} {Z : State} {a0 : Array Value} {h : Heap} {n0 : Nat} {L : RL}
theorem gGet (X : Stand p l e R s m args below meth c T locs cells slots) (hx : p.tables.exec = Jvm.exec) (hZ : Z.Warmed39 s.vm) {own C n d host : String} {index : Nat} (hown : s.vm.findClass own = some m.cls) (w : (Cond.fieldLink own index C n d).before a0 Z = true ∨ (Cond.fieldLinkNest own index C n d host).before a0 Z = true)
    (eT : T.heap = h) (Q : Rep Z n0 h L) (i j : Nat) {a : Addr} {fs : List (String × String × Value)} {v : Value} (hi : L[i]? = some (a, Obj C fs)) (hj : fs[j]? = some (n, d, v)) {g : JFrame} (hg : g.method = m) {rest : List Value} (hs : g.stack = .ref a :: rest) (hd : decode c.code g.pc = .ok (.getfield index, 3)) :
    ∃ T', Stand p l e R s m args below meth c T' locs cells slots ∧ T'.heap = h ∧ ∀ target, Steps p.tables e below (T'.setTop { g with pc := g.pc + 3, stack := v :: rest }) target → Steps p.tables e below (T.setTop g) target :=
  getF X hx hZ hown w Via.refl eT (Q.fld hi hj) hg hs hd
theorem gPut (X : Stand p l e R s m args below meth c T locs cells slots) (hx : p.tables.exec = Jvm.exec) (hZ : Z.Warmed39 s.vm) {own C n d host : String} {index kk : Nat} {ty : FieldType} (hown : s.vm.findClass own = some m.cls) (w : (Cond.fieldLink own index C n d).before a0 Z = true ∨ (Cond.fieldLinkNest own index C n d host).before a0 Z = true)
    (eT : T.heap = h) (N : Fr n0 locs) (Q : Rep Z n0 h L) (i j : Nat) {a : Addr} {fs : List (String × String × Value)} {v old : Value} (hi : L[i]? = some (a, Obj C fs)) (hj : fs[j]? = some (n, d, old))
    (Lw : (Cond.lays C C n d).before a0 Z = true ∨ ((Cond.laysFinal C C n d).before a0 Z = true ∧ own = C ∧ meth.name = "<init>")) (wi : (Cond.instantiable C kk).before a0 Z = true)
    (hty : parseFieldDescriptor d = some ty) (hn : narrow ty v = v) (hf : fits ty v = true) {g : JFrame} (hg : g.method = m) {rest : List Value} (hs : g.stack = v :: .ref a :: rest) (hd : decode c.code g.pc = .ok (.putfield index, 3)) :
    ∃ T' h' locs', Stand p l e R s m args below meth c T' locs' cells slots ∧ T'.heap = h' ∧ Fr n0 locs' ∧ Rep Z n0 h' (L.set i (a, Obj C (fs.set j (n, d, v)))) ∧ ∀ target, Steps p.tables e below (T'.setTop { g with pc := g.pc + 3, stack := rest }) target → Steps p.tables e below (T.setTop g) target := by
  obtain ⟨T', h', X', e', W, st⟩ := putF X hx hZ hown w Via.refl eT (Q.fld hi hj) (Q.exa hi) Lw wi hty hn hf hg hs hd
  exact ⟨T', h', _, X', e', Fr.snoc X' N (Q.ge hi), Q.put hi hj W, st⟩
theorem gNew (X : Stand p l e R s m args below meth c T locs cells slots) (hx : p.tables.exec = Jvm.exec) (hZ : Z.Warmed39 s.vm) {own C : String} {index n : Nat} (hown : s.vm.findClass own = some m.cls) (w : (Cond.classLink own index C).before a0 Z = true) (wi : (Cond.instantiable C n).before a0 Z = true) (wz : (Cond.initialized C).before a0 Z = true)
    (eT : T.heap = h) (Q : Rep Z n0 h L) {fs : List (String × String × Value)} (hl : LaidAll Z a0 C fs) (hn : (fs.map (·.1)).Nodup) {g : JFrame} (hg : g.method = m) (hd : decode c.code g.pc = .ok (.new index, 3)) (hc : cells + 1 ≤ R.cells) (hs : slots + n ≤ R.slots) :
    ∃ T' h' a, Stand p l e R s m args below meth c T' locs (cells + 1) (slots + n) ∧ T'.heap = h' ∧ Rep Z n0 h' ((a, Obj C fs) :: L) ∧ ∀ target, Steps p.tables e below (T'.setTop { g with pc := g.pc + 3, stack := .ref a :: g.stack }) target → Steps p.tables e below (T.setTop g) target := by
  obtain ⟨T', h', X', e', E, A, D, -, st⟩ := newO X hx hZ hown w wi wz eT hg hd hc hs
  exact ⟨T', h', _, X', e', Q.newO E rfl A D hl hn, st⟩
theorem gNewP (X : Stand p l e R s m args below meth c T locs cells slots) (hx : p.tables.exec = Jvm.exec) (hZ : Z.Warmed39 s.vm) {aty : ArrayType} (w : (Cond.arrayClass (newarray.typeOf aty)).before a0 Z = true)
    (eT : T.heap = h) (Q : Rep Z n0 h L) {g : JFrame} (hg : g.method = m) (hd : decode c.code g.pc = .ok (.newarray aty, 2)) {n : Int32} {rest : List Value} (hs : g.stack = .int n :: rest) (hn : ¬ n < 0) (cap : Nat) (hcap : n.toNatClampNeg ≤ cap) (hb : cap * 8 ≤ 536870912) (hc : cells + 1 ≤ R.cells) (hl : slots + cap ≤ R.slots)
    {vs : List Value} (hv : List.replicate n.toNatClampNeg (defaultValue (newarray.typeOf aty)) = vs) :
    ∃ T' h' a, Stand p l e R s m args below meth c T' locs (cells + 1) (slots + cap) ∧ T'.heap = h' ∧ Rep Z n0 h' ((a, Ar (newarray.typeOf aty) vs) :: L) ∧ ∀ target, Steps p.tables e below (T'.setTop { g with pc := g.pc + 2, stack := .ref a :: rest }) target → Steps p.tables e below (T.setTop g) target := by
  obtain ⟨T', h', cA, X', e', E, A, EX, st⟩ := newPE X hx hZ w eT hg hd hs hn hcap hb hc hl rfl
  exact ⟨T', h', _, X', e', Q.newAr E rfl A EX (by cases aty <;> rfl) hv, st⟩
theorem gLen (X : Stand p l e R s m args below meth c T locs cells slots) (hx : p.tables.exec = Jvm.exec) (hZ : Z.Warmed39 s.vm) (eT : T.heap = h) (Q : Rep Z n0 h L) (i : Nat) {a : Addr} {ty : FieldType} {vs : List Value} (hi : L[i]? = some (a, Ar ty vs))
    {g : JFrame} (hg : g.method = m) {rest : List Value} (hs : g.stack = .ref a :: rest) (hd : decode c.code g.pc = .ok (.arraylength, 1)) {z : Int32} (hz : Int32.ofNat vs.length = z) :
    ∀ target, Steps p.tables e below (T.setTop { g with pc := g.pc + 1, stack := .int z :: rest }) target → Steps p.tables e below (T.setTop g) target := by
  obtain ⟨cl, A, V⟩ := Q.arr hi
  intro target k
  refine X.arraylength hx (cell := cl) (by rw [eT]; exact A.1) (State.isArrayOf_alike hZ.alike A.2.1) hg hs hd _ ?_
  have q : cl.slots.size.toInt32 = z := by rw [← hz, ← V, Array.length_toList]
  rw [q]; exact k
theorem gIald (X : Stand p l e R s m args below meth c T locs cells slots) (hx : p.tables.exec = Jvm.exec) (hZ : Z.Warmed39 s.vm) (eT : T.heap = h) (Q : Rep Z n0 h L) (i : Nat) {a : Addr} {vs : List Value} (hi : L[i]? = some (a, Ar .int vs))
    {j : Int32} {v : Value} (hj : ¬ j < 0) (hv : vs[j.toNatClampNeg]? = some v) {g : JFrame} (hg : g.method = m) {rest : List Value} (hs : g.stack = .int j :: .ref a :: rest) (hd : decode c.code g.pc = .ok (.iaload, 1)) :
    ∀ target, Steps p.tables e below (T.setTop { g with pc := g.pc + 1, stack := v :: rest }) target → Steps p.tables e below (T.setTop g) target := by
  obtain ⟨cl, A, V⟩ := Q.arr hi
  intro target k
  exact X.iaload hx (by rw [eT]; exact A.1) (State.isArrayOf_alike hZ.alike A.2.1) A.2.2 (in_of V hj (lt_of hv)) (at_of V hv) hg hs hd _ k
theorem gLald (X : Stand p l e R s m args below meth c T locs cells slots) (hx : p.tables.exec = Jvm.exec) (hZ : Z.Warmed39 s.vm) (eT : T.heap = h) (Q : Rep Z n0 h L) (i : Nat) {a : Addr} {vs : List Value} (hi : L[i]? = some (a, Ar .long vs))
    {j : Int32} {v : Value} (hj : ¬ j < 0) (hv : vs[j.toNatClampNeg]? = some v) {g : JFrame} (hg : g.method = m) {rest : List Value} (hs : g.stack = .int j :: .ref a :: rest) (hd : decode c.code g.pc = .ok (.laload, 1)) :
    ∀ target, Steps p.tables e below (T.setTop { g with pc := g.pc + 1, stack := v :: rest }) target → Steps p.tables e below (T.setTop g) target := by
  obtain ⟨cl, A, V⟩ := Q.arr hi
  intro target k
  exact X.laload hx (by rw [eT]; exact A.1) (State.isArrayOf_alike hZ.alike A.2.1) A.2.2 (in_of V hj (lt_of hv)) (at_of V hv) hg hs hd _ k
theorem gBald (X : Stand p l e R s m args below meth c T locs cells slots) (hx : p.tables.exec = Jvm.exec) (hZ : Z.Warmed39 s.vm) (eT : T.heap = h) (Q : Rep Z n0 h L) (i : Nat) {a : Addr} {vs : List Value} (hi : L[i]? = some (a, Ar .byte vs))
    {j : Int32} {v : Value} (hj : ¬ j < 0) (hv : vs[j.toNatClampNeg]? = some v) {g : JFrame} (hg : g.method = m) {rest : List Value} (hs : g.stack = .int j :: .ref a :: rest) (hd : decode c.code g.pc = .ok (.baload, 1)) :
    ∀ target, Steps p.tables e below (T.setTop { g with pc := g.pc + 1, stack := v :: rest }) target → Steps p.tables e below (T.setTop g) target := by
  obtain ⟨cl, A, V⟩ := Q.arr hi
  intro target k
  exact X.baloadBytes hx (by rw [eT]; exact A.1) (State.isArrayOf_alike hZ.alike A.2.1) A.2.2 (in_of V hj (lt_of hv)) (at_of V hv) hg hs hd _ k
theorem gIst (X : Stand p l e R s m args below meth c T locs cells slots) (hx : p.tables.exec = Jvm.exec) (hZ : Z.Warmed39 s.vm) (eT : T.heap = h) (N : Fr n0 locs) (Q : Rep Z n0 h L) (i : Nat) {a : Addr} {vs : List Value} (hi : L[i]? = some (a, Ar .int vs))
    {j x : Int32} (hj : ¬ j < 0) (k : Nat) (hk : j.toNatClampNeg = k) (hv : k < vs.length) {g : JFrame} (hg : g.method = m) {rest : List Value} (hs : g.stack = .int x :: .int j :: .ref a :: rest) (hd : decode c.code g.pc = .ok (.iastore, 1)) :
    ∃ T' h' locs', Stand p l e R s m args below meth c T' locs' cells slots ∧ T'.heap = h' ∧ Fr n0 locs' ∧ Rep Z n0 h' (L.set i (a, Ar .int (vs.set k (.int x)))) ∧ ∀ target, Steps p.tables e below (T'.setTop { g with pc := g.pc + 1, stack := rest }) target → Steps p.tables e below (T.setTop g) target := by
  obtain ⟨cl, A, V⟩ := Q.arr hi
  subst hk
  obtain ⟨T', h', X', e', W, st⟩ := stI X hx hZ eT A (j := j) (x := x) (in_of V hj hv) hg hs hd
  exact ⟨T', h', _, X', e', Fr.snoc X' N (Q.ge hi), Q.sto hi W rfl, st⟩
theorem gLst (X : Stand p l e R s m args below meth c T locs cells slots) (hx : p.tables.exec = Jvm.exec) (hZ : Z.Warmed39 s.vm) (eT : T.heap = h) (N : Fr n0 locs) (Q : Rep Z n0 h L) (i : Nat) {a : Addr} {vs : List Value} (hi : L[i]? = some (a, Ar .long vs))
    {j : Int32} {x : Int64} (hj : ¬ j < 0) (k : Nat) (hk : j.toNatClampNeg = k) (hv : k < vs.length) {g : JFrame} (hg : g.method = m) {rest : List Value} (hs : g.stack = .long x :: .int j :: .ref a :: rest) (hd : decode c.code g.pc = .ok (.lastore, 1)) :
    ∃ T' h' locs', Stand p l e R s m args below meth c T' locs' cells slots ∧ T'.heap = h' ∧ Fr n0 locs' ∧ Rep Z n0 h' (L.set i (a, Ar .long (vs.set k (.long x)))) ∧ ∀ target, Steps p.tables e below (T'.setTop { g with pc := g.pc + 1, stack := rest }) target → Steps p.tables e below (T.setTop g) target := by
  obtain ⟨cl, A, V⟩ := Q.arr hi
  subst hk
  obtain ⟨T', h', X', e', W, st⟩ := stJ X hx hZ eT A (j := j) (x := x) (in_of V hj hv) hg hs hd
  exact ⟨T', h', _, X', e', Fr.snoc X' N (Q.ge hi), Q.sto hi W rfl, st⟩
theorem gBst (X : Stand p l e R s m args below meth c T locs cells slots) (hx : p.tables.exec = Jvm.exec) (hZ : Z.Warmed39 s.vm) (eT : T.heap = h) (N : Fr n0 locs) (Q : Rep Z n0 h L) (i : Nat) {a : Addr} {vs : List Value} (hi : L[i]? = some (a, Ar .byte vs))
    {j x : Int32} (hj : ¬ j < 0) (k : Nat) (hk : j.toNatClampNeg = k) (hv : k < vs.length) {g : JFrame} (hg : g.method = m) {rest : List Value} (hs : g.stack = .int x :: .int j :: .ref a :: rest) (hd : decode c.code g.pc = .ok (.bastore, 1)) :
    ∃ T' h' locs', Stand p l e R s m args below meth c T' locs' cells slots ∧ T'.heap = h' ∧ Fr n0 locs' ∧ Rep Z n0 h' (L.set i (a, Ar .byte (vs.set k (.int x.toInt8.toInt32)))) ∧ ∀ target, Steps p.tables e below (T'.setTop { g with pc := g.pc + 1, stack := rest }) target → Steps p.tables e below (T.setTop g) target := by
  obtain ⟨cl, A, V⟩ := Q.arr hi
  subst hk
  obtain ⟨T', h', X', e', W, st⟩ := stB X hx hZ eT A (j := j) (x := x) (in_of V hj hv) hg hs hd
  exact ⟨T', h', _, X', e', Fr.snoc X' N (Q.ge hi), Q.sto hi W (fits_nar_byte x), st⟩
theorem gClone (X : Stand p l e R s m args below meth c T locs cells slots) (hx : p.tables.exec = Jvm.exec) (hZ : Z.Warmed39 s.vm) {own ad : String} {index : Nat} (hown : s.vm.findClass own = some m.cls)
    (w1 : (Cond.methodLink own index ⟨ad, "clone", "()Ljava/lang/Object;"⟩).before a0 Z = true) (w2 : (Cond.sameMethod ad "java/lang/Object" "clone" "()Ljava/lang/Object;").before a0 Z = true) (w3 : (Cond.native ⟨"java/lang/Object", "clone", "()Ljava/lang/Object;"⟩).before a0 Z = true)
    (w4 : (Cond.instanceMethod ⟨"java/lang/Object", "clone", "()Ljava/lang/Object;"⟩).before a0 Z = true) (w5 : (Cond.selects ad ⟨ad, "clone", "()Ljava/lang/Object;"⟩ ⟨"java/lang/Object", "clone", "()Ljava/lang/Object;"⟩).before a0 Z = true) (w6 : (Cond.castable ad "java/lang/Cloneable").before a0 Z = true)
    (eT : T.heap = h) (Q : Rep Z n0 h L) (i : Nat) {a : Addr} {ty : FieldType} {vs : List Value} (hi : L[i]? = some (a, Ar ty vs)) (had : "[" ++ ty.toString = ad) {g : JFrame} (hg : g.method = m) (hsize : g.locals.size = c.maxLocals) {rest : List Value} (hs : g.stack = .ref a :: rest) (hd : decode c.code g.pc = .ok (.invokevirtual index, 3))
    (hf : 1 ≤ R.frames) {W : Nat} (cap : Nat) (hW : 2 * g.monitorRoom + (rest.map fun v => v.category).sum ≤ W) (hl : W + 14 ≤ R.locals) (hcap : vs.length ≤ cap) (hc : cells + 1 ≤ R.cells) (hsl : slots + cap ≤ R.slots) :
    ∃ T' h' b, Stand p l e R s m args below meth c T' locs (cells + 1) (slots + cap) ∧ T'.heap = h' ∧ Rep Z n0 h' ((b, Ar ty vs) :: L) ∧ Exa Z h' b ad ∧
      ∀ target, Steps p.tables e below (T'.setTop { g with pc := g.pc + 3, stack := .ref b :: rest }) target → Steps p.tables e below (T.setTop g) target := by
  subst had
  obtain ⟨cl, A, V, F, E⟩ := Q.arr' hi
  have FC : FitC Z cl := fitC_of A fun k hk v hv => F v (by rw [← V]; exact Array.mem_toList_iff.mpr (Array.mem_of_getElem? hv))
  obtain ⟨T', h', X', e', ex, A', E', st⟩ := cloneA X hx hZ hown w1 w2 w3 w4 w5 w6 eT A E FC hg hsize hs hd hf hW hl (by rw [← V, Array.length_toList] at hcap; exact hcap) hc hsl
  exact ⟨T', h', _, X', e', Q.add ex rfl A'.1 ⟨A'.2.1, A'.2.2, V, F, exa_to A'.1 E'⟩, E', st⟩
theorem gCast (X : Stand p l e R s m args below meth c T locs cells slots) (hx : p.tables.exec = Jvm.exec) (hZ : Z.Warmed39 s.vm) {own K : String} {index : Nat} (hown : s.vm.findClass own = some m.cls) (w : (Cond.classLink own index K).before a0 Z = true) (eT : T.heap = h) {a : Addr} (E : Exa Z h a K)
    {g : JFrame} (hg : g.method = m) {rest : List Value} (hs : g.stack = .ref a :: rest) (hd : decode c.code g.pc = .ok (.checkcast index, 3)) : ∃ T', Stand p l e R s m args below meth c T' locs cells slots ∧ T'.heap = h ∧ ∀ target, Steps p.tables e below (T'.setTop { g with pc := g.pc + 3 }) target → Steps p.tables e below (T.setTop g) target :=
  castY X hx hZ hown w eT (Ins.self E) hg hs hd
theorem arv_of {a : Addr} {ty : FieldType} {vs : List Value} {dv : Value} {cl : Cell} (A : Arr Z h a cl ty) (V : cl.slots.toList = vs) (F : ∀ v ∈ vs, fits ty v = true) (hl : vs.length < 2 ^ 31) : Arv Z h a cl.cls ty (Int32.ofNat vs.length) vs dv := by
  have q : (Int32.ofNat vs.length).toNatClampNeg = vs.length := by
    rw [Int32.toNatClampNeg, Int32.toInt_ofNat_of_lt hl]; rfl
  have S : cl.slots.size = vs.length := by rw [← V, Array.length_toList]
  have G : ∀ k, k < cl.slots.size → cl.slots[k]? = some (vs.getD k dv) := fun k hk => by
    rw [← Array.getElem?_toList, V, List.getD_eq_getElem?_getD, List.getElem?_eq_getElem (by omega)]; rfl
  refine ⟨cl, A, rfl, by rw [q, S], ?_, G, fun k hk => ?_⟩
  · rw [Int32.lt_iff_toInt_lt, Int32.toInt_ofNat_of_lt hl, show (0 : Int32).toInt = 0 from rfl]; omega
  · rw [List.getD_eq_getElem?_getD, List.getElem?_eq_getElem (by omega)]
    exact F _ (List.getElem_mem _)
theorem Rep.kept {h' : Heap} {i : Nat} {b : Addr} {P P' : Des} {cb : Cell} (Q : Rep Z n0 h L) (hi : L[i]? = some (b, P)) (K : Keep h h' [b]) (hc : h'[b]? = some cb) (p : P' Z cb) : Rep Z n0 h' (L.set i (b, P')) := by
  have em : (L.set i (b, P')).map (·.1) = L.map (·.1) := by
    rw [List.map_set]
    apply List.ext_getElem?
    intro k
    rw [List.getElem?_set]
    split
    · rename_i e; subst e
      split
      · simp [hi]
      · rename_i e; simp only [List.length_map] at e; simp [List.getElem?_eq_none (Nat.le_of_not_lt e)]
    · rfl
  have il : i < L.length := (List.getElem?_eq_some_iff.mp hi).1
  refine ⟨Nat.le_trans Q.1 K.1, by rw [em]; exact Q.2.1, fun x hx => ?_⟩
  obtain ⟨k, hk⟩ := List.mem_iff_getElem?.mp hx
  rw [List.getElem?_set] at hk
  split at hk
  · rename_i e; subst e
    cases hk
    exact ⟨Q.ge hi, cb, hc, p⟩
  · rename_i e
    obtain ⟨g, c, hc', p'⟩ := Q.2.2 x (List.mem_of_getElem? hk)
    have ne : x.1 ≠ b := fun q => by
      refine e ((List.getElem?_inj (l := L.map (·.1)) (by simpa using il) Q.2.1).mp ?_)
      simp [hi, hk, q]
    exact ⟨g, c, K.2.1 _ _ hc' (by simpa using ne), p'⟩
theorem gCopy (X : Stand p l e R s m args below meth c T locs cells slots) (hx : p.tables.exec = Jvm.exec) (hZ : Z.Warmed39 s.vm) {own : String} {index : Nat} (hown : s.vm.findClass own = some m.cls)
    (w1 : (Cond.methodLink own index Jvm.Stand.acN).before a0 Z = true) (w2 : (Cond.native Jvm.Stand.acN).before a0 Z = true) (w3 : (Cond.static Jvm.Stand.acN).before a0 Z = true) (w4 : (Cond.initialized "java/lang/System").before a0 Z = true) (eT : T.heap = h) (N : Fr n0 locs) (Q : Rep Z n0 h L) (i j : Nat)
    {a b : Addr} {ty : FieldType} {vs vd : List Value} (hi : L[i]? = some (a, Ar ty vs)) (hj : L[j]? = some (b, Ar ty vd)) (hty : refKind ty = false) (l1 : vs.length < 2 ^ 31) (l2 : vd.length < 2 ^ 31) {sp dp nn : Int32} (h1 : ¬ sp < 0) (h2 : ¬ dp < 0) (h3 : ¬ nn < 0) (si di ni : Nat) (es : sp.toNatClampNeg = si) (ed : dp.toNatClampNeg = di) (en : nn.toNatClampNeg = ni)
    (h4 : si + ni ≤ vs.length) (h5 : di + ni ≤ vd.length)
    {g : JFrame} (hg : g.method = m) (hsize : g.locals.size = c.maxLocals) {rest : List Value} (hs : g.stack = .int nn :: .int dp :: .ref b :: .int sp :: .ref a :: rest) (hd : decode c.code g.pc = .ok (.invokestatic index, 3))
    (hf : 1 ≤ R.frames) {W : Nat} (hW : 2 * g.monitorRoom + (rest.map fun v => v.category).sum ≤ W) (hlo : W + (nativeFrameWords "java/lang/System" "arraycopy" 5 + 11) ≤ R.locals) :
    ∃ T' h' L', Stand p l e R s m args below meth c T' L' cells slots ∧ T'.heap = h' ∧ Fr n0 L' ∧ Rep Z n0 h' (L.set j (b, Ar ty (vd.take di ++ (vs.drop si).take ni ++ vd.drop (di + ni)))) ∧
      ∀ target, Steps p.tables e below (T'.setTop { g with pc := g.pc + 3, stack := rest }) target → Steps p.tables e below (T.setTop g) target := by
  subst es ed en
  obtain ⟨ca, A, Va, Fa, Ea⟩ := Q.arr' hi
  obtain ⟨cb, B, Vb, Fb, Eb⟩ := Q.arr' hj
  have za : (Int32.ofNat vs.length).toNatClampNeg = vs.length := by rw [Int32.toNatClampNeg, Int32.toInt_ofNat_of_lt l1]; rfl
  have zb : (Int32.ofNat vd.length).toNatClampNeg = vd.length := by rw [Int32.toNatClampNeg, Int32.toInt_ofNat_of_lt l2]; rfl
  have hus : (vs.drop sp.toNatClampNeg).take nn.toNatClampNeg = (List.range nn.toNatClampNeg).map fun k => vs.getD (sp.toNatClampNeg + k) .null := by
    apply List.ext_getElem?
    intro k
    rw [List.getElem?_take, List.getElem?_drop, List.getElem?_map]
    by_cases q : k < nn.toNatClampNeg
    · rw [if_pos q, List.getElem?_range q, List.getElem?_eq_getElem (by omega)]
      simp [List.getD_eq_getElem?_getD, List.getElem?_eq_getElem (show sp.toNatClampNeg + k < vs.length by omega)]
    · rw [if_neg q, List.getElem?_eq_none (by simpa using q)]; rfl
  obtain ⟨T', h', L', X', e', N', K, ⟨c', A', -, S', -, H', G'⟩, st⟩ := cpA X hx hZ hown w1 w2 w3 w4 eT (arv_of (dv := .null) A Va Fa l1) (arv_of (dv := .null) B Vb Fb l2) (Or.inl ⟨rfl, hty⟩) h1 h2 h3 (by rw [za]; exact h4) (by rw [zb]; exact h5) hus h5 N (Q.ge hj) hg hsize hs hd hf hW hlo
  refine ⟨T', h', L', X', e', N', Q.kept hj K A'.1 ⟨A'.2.1, A'.2.2, ?_, fun v hv => ?_, exa_to A'.1 (Eb.keep K)⟩, st⟩
  · apply List.ext_getElem?
    intro k
    rw [Array.getElem?_toList]
    by_cases q : k < c'.slots.size
    · rw [H' k q, List.getD_eq_getElem?_getD, List.getElem?_eq_getElem]
      · rfl
      · rw [S', zb] at q; simp only [List.length_append, List.length_take, List.length_drop]; omega
    · rw [Array.getElem?_eq_none (by omega), List.getElem?_eq_none]
      rw [S', zb] at q; simp only [List.length_append, List.length_take, List.length_drop]; omega
  · rcases List.mem_append.mp hv with hv | hv
    · rcases List.mem_append.mp hv with hv | hv
      · exact Fb v (List.mem_of_mem_take hv)
      · exact Fa v (List.mem_of_mem_drop (List.mem_of_mem_take hv))
    · exact Fb v (List.mem_of_mem_drop hv)
theorem gMono (X : Stand p l e R s m args below meth c T locs cells slots) {cells' slots' : Nat} (h1 : cells ≤ cells') (h2 : slots ≤ slots') : Stand p l e R s m args below meth c T locs cells' slots' := { X with same := X.same.mono h1 h2 }
theorem retI (X : Stand p l e R s m args below meth c T locs cells slots) (hx : p.tables.exec = Jvm.exec) {pc : Nat} {Ls : Array Slot} {z : Int32} {rest : List Value} (hret : meth.sig.returnType = some .int) (hd : decode c.code pc = .ok (.ireturn, 1)) {fs : List Frame}
    (hl : ∀ (f : JFrame) (acts : List Action), f.method = m → f.locked = none → f.entered = [] → (doReturn e (T.setTop f) acts (some (.int z))).1 = T.setFrames fs) : Steps p.tables e below (T.setTop (mkF m pc Ls (.int z :: rest))) (T.setFrames fs) := by
  have hm' : T.vm.method? m = some meth := X.method'
  have hn : narrow .int (.int z) = .int z := rfl
  show Steps p.tables e below (T.setTop { method := m, pc := pc, locals := Ls, stack := _ :: rest, locked := none }) _
  jvm_step X.here [X.here.top, hx, hd, hm', hret, hn]
  first | (intro acts; rw [hl _ acts rfl rfl rfl]) | rw [hl _ _ rfl rfl rfl]
  exact Steps.refl _
theorem retL (X : Stand p l e R s m args below meth c T locs cells slots) (hx : p.tables.exec = Jvm.exec) {pc : Nat} {Ls : Array Slot} {z : Int64} {rest : List Value} (hret : meth.sig.returnType = some .long) (hd : decode c.code pc = .ok (.lreturn, 1)) {fs : List Frame}
    (hl : ∀ (f : JFrame) (acts : List Action), f.method = m → f.locked = none → f.entered = [] → (doReturn e (T.setTop f) acts (some (.long z))).1 = T.setFrames fs) : Steps p.tables e below (T.setTop (mkF m pc Ls (.long z :: rest))) (T.setFrames fs) := by
  have hm' : T.vm.method? m = some meth := X.method'
  have hn : narrow .long (.long z) = .long z := rfl
  show Steps p.tables e below (T.setTop { method := m, pc := pc, locals := Ls, stack := _ :: rest, locked := none }) _
  jvm_step X.here [X.here.top, hx, hd, hm', hret, hn]
  first | (intro acts; rw [hl _ acts rfl rfl rfl]) | rw [hl _ _ rfl rfl rfl]
  exact Steps.refl _
theorem retA (X : Stand p l e R s m args below meth c T locs cells slots) (hx : p.tables.exec = Jvm.exec) {pc : Nat} {Ls : Array Slot} {a : Addr} {rest : List Value} {t : FieldType} (ht : t.isReference = true) (hret : meth.sig.returnType = some t) (hd : decode c.code pc = .ok (.areturn, 1)) {fs : List Frame}
    (hl : ∀ (f : JFrame) (acts : List Action), f.method = m → f.locked = none → f.entered = [] → (doReturn e (T.setTop f) acts (some (.ref a))).1 = T.setFrames fs) : Steps p.tables e below (T.setTop (mkF m pc Ls (.ref a :: rest))) (T.setFrames fs) := by
  have hm' : T.vm.method? m = some meth := X.method'
  show Steps p.tables e below (T.setTop { method := m, pc := pc, locals := Ls, stack := _ :: rest, locked := none }) _
  jvm_step X.here [X.here.top, hx, hd, hm', hret, ht, Value.isRef]
  first | (intro acts; rw [hl _ acts rfl rfl rfl]) | rw [hl _ _ rfl rfl rfl]
  exact Steps.refl _
end Steps
abbrev iushr (x y : Int32) : Int32 := (x.toUInt32 >>> (y &&& 31).toUInt32).toInt32
abbrev lushr (x : Int64) (y : Int32) : Int64 := (x.toUInt64 >>> (y &&& 0x3f).toInt64.toUInt64).toInt64
abbrev ishl (x y : Int32) : Int32 := x <<< (y &&& 31)
abbrev ishr (x y : Int32) : Int32 := x >>> (y &&& 31)
abbrev lshl (x : Int64) (y : Int32) : Int64 := x <<< (y &&& 0x3f).toInt64
abbrev lshr (x : Int64) (y : Int32) : Int64 := x >>> (y &&& 0x3f).toInt64
/-- a boolean told by a condition, as an int of the machine's -/
abbrev bz (P : Prop) [Decidable P] : Int32 := if P then 1 else 0
theorem nar_b (P : Prop) [Decidable P] : nar .boolean (bz P) = bz P := by unfold bz; split <;> rfl
theorem bz_t {P : Prop} [Decidable P] (h : P) : bz P = 1 := if_pos h
theorem bz_congr {P Q : Prop} [Decidable P] [Decidable Q] (h : P ↔ Q) : bz P = bz Q := by
  by_cases q : Q
  · rw [bz, bz, if_pos q, if_pos (h.mpr q)]
  · rw [bz, bz, if_neg q, if_neg (fun p => q (h.mp p))]
theorem bz_one {P : Prop} [Decidable P] (h : P ↔ True) : bz P = 1 := if_pos (h.mpr trivial)
theorem bz_zero {P : Prop} [Decidable P] (h : P ↔ False) : bz P = 0 := if_neg h.mp
theorem ow_bne_t {P : Prop} [Decidable P] (h : P) : ifCond.holds .ne (bz P) = true := by rw [if0, bz_t h]; decide
theorem ow_bne_f {P : Prop} [Decidable P] (h : ¬ P) : ifCond.holds .ne (bz P) = false := by rw [if0, bz, if_neg h]; decide
theorem ow_beq_t {P : Prop} [Decidable P] (h : ¬ P) : ifCond.holds .eq (bz P) = true := by rw [if0, bz, if_neg h]; decide
theorem ow_beq_f {P : Prop} [Decidable P] (h : P) : ifCond.holds .eq (bz P) = false := by rw [if0, bz_t h]; decide
theorem bz_f {P : Prop} [Decidable P] (h : ¬ P) : bz P = 0 := if_neg h
theorem ite_or_t {α : Type} {c d : Prop} [Decidable c] [Decidable d] {a y : α} (h : c) : (if c ∨ d then a else y) = a := if_pos (Or.inl h)
theorem ite_or_f {α : Type} {c d : Prop} [Decidable c] [Decidable d] {a y : α} (h : ¬ c) : (if c ∨ d then a else y) = (if d then a else y) := by
  by_cases q : d
  · rw [if_pos q, if_pos (Or.inr q)]
  · rw [if_neg q, if_neg (fun z => z.elim h q)]
theorem ite_and_t {α : Type} {c d : Prop} [Decidable c] [Decidable d] {a y : α} (h : c) : (if c ∧ d then a else y) = (if d then a else y) := by
  by_cases q : d
  · rw [if_pos q, if_pos ⟨h, q⟩]
  · rw [if_neg q, if_neg (fun z => q z.2)]
theorem ite_and_f {α : Type} {c d : Prop} [Decidable c] [Decidable d] {a y : α} (h : ¬ c) : (if c ∧ d then a else y) = y := if_neg fun q => h q.1
theorem ow_fin {P : Prop} [Decidable P] (h : P) : some (Value.int (nar .boolean (bz P))) = some (Value.int (1 : Int32)) := by rw [bz_t h]; rfl
theorem ow_fin' {P : Prop} [Decidable P] (h : P) : some (Value.int (bz P)) = some (Value.int (1 : Int32)) := by rw [bz_t h]
end Jvm.Own
namespace Jvm.Own
open Jvm Jvm.RoadKit
/-! ## Longs and ints as natural numbers -/
def nj (x : Int64) : Nat := x.toBitVec.toNat
def ni (x : Int32) : Nat := x.toBitVec.toNat
theorem nj_lt (x : Int64) : nj x < 18446744073709551616 := x.toBitVec.isLt
theorem ni_lt (x : Int32) : ni x < 4294967296 := x.toBitVec.isLt
theorem nj_inj {x y : Int64} (h : nj x = nj y) : x = y := Int64.toBitVec_inj.mp (BitVec.eq_of_toNat_eq h)
theorem ni_inj {x y : Int32} (h : ni x = ni y) : x = y := Int32.toBitVec_inj.mp (BitVec.eq_of_toNat_eq h)
theorem nj_int (x : Int64) : x.toInt = if nj x < 9223372036854775808 then (nj x : Int) else (nj x : Int) - 18446744073709551616 := by
  show x.toBitVec.toInt = _
  rw [BitVec.toInt_eq_toNat_cond]
  show (if 2 * nj x < 2 ^ 64 then (nj x : Int) else (nj x : Int) - (2 ^ 64 : Nat)) = _
  split <;> split <;> omega
theorem ni_int (x : Int32) : x.toInt = if ni x < 2147483648 then (ni x : Int) else (ni x : Int) - 4294967296 := by
  show x.toBitVec.toInt = _
  rw [BitVec.toInt_eq_toNat_cond]
  show (if 2 * ni x < 2 ^ 32 then (ni x : Int) else (ni x : Int) - (2 ^ 32 : Nat)) = _
  split <;> split <;> omega
theorem nj_and (x y : Int64) : nj (x &&& y) = nj x &&& nj y := by show (x.toBitVec &&& y.toBitVec).toNat = _; rw [BitVec.toNat_and]; rfl
theorem nj_or (x y : Int64) : nj (x ||| y) = nj x ||| nj y := by show (x.toBitVec ||| y.toBitVec).toNat = _; rw [BitVec.toNat_or]; rfl
theorem nj_xor (x y : Int64) : nj (x ^^^ y) = nj x ^^^ nj y := by show (x.toBitVec ^^^ y.toBitVec).toNat = _; rw [BitVec.toNat_xor]; rfl
theorem nj_add (x y : Int64) : nj (x + y) = (nj x + nj y) % 18446744073709551616 := by show (x.toBitVec + y.toBitVec).toNat = _; rw [BitVec.toNat_add]; rfl
theorem nj_sub (x y : Int64) : nj (x - y) = (18446744073709551616 - nj y + nj x) % 18446744073709551616 := by show (x.toBitVec - y.toBitVec).toNat = _; rw [BitVec.toNat_sub]; rfl
theorem ni_and (x y : Int32) : ni (x &&& y) = ni x &&& ni y := by show (x.toBitVec &&& y.toBitVec).toNat = _; rw [BitVec.toNat_and]; rfl
theorem nj_lushr (x : Int64) (q : Int32) (k : Nat) (hk : ni q % 64 = k) : nj (lushr x q) = nj x / 2 ^ k := by
  show (x.toBitVec >>> ((q &&& 0x3f).toInt64.toBitVec % 64)).toNat = x.toBitVec.toNat / 2 ^ k
  have h5 := (sm64 q k hk).2
  rw [BitVec.ushiftRight_eq', BitVec.toNat_ushiftRight, Nat.shiftRight_eq_div_pow, BitVec.toNat_umod, (sm64 q k hk).1, BitVec.toNat_ofNat]; congr 2; show k % 2 ^ 64 % 64 = k; omega
theorem nj_lshl (x : Int64) (q : Int32) (k : Nat) (hk : ni q % 64 = k) : nj (lshl x q) = nj x * 2 ^ k % 18446744073709551616 := by
  show (x.toBitVec <<< ((q &&& 0x3f).toInt64.toBitVec.smod 64)).toNat = _
  rw [BitVec.shiftLeft_eq', (sm64 q k hk).1, smod64 k (sm64 q k hk).2, BitVec.toNat_shiftLeft, Nat.shiftLeft_eq]; rfl
theorem ni_l2i (x : Int64) : ni x.toInt32 = nj x % 4294967296 := by
  show (x.toBitVec.signExtend 32).toNat = _
  rw [BitVec.signExtend_eq_setWidth_of_le _ (by decide), BitVec.toNat_setWidth]; rfl
theorem nj_i2l (x : Int32) (h : ni x < 2147483648) : nj x.toInt64 = ni x := by
  have e := nj_int x.toInt64
  rw [Int32.toInt_toInt64, ni_int, if_pos h] at e
  have := nj_lt x.toInt64
  split at e <;> omega
theorem mask_n (x k : Nat) : x &&& (2 ^ k - 1) = x % 2 ^ k := Nat.and_two_pow_sub_one_eq_mod x k
theorem lt64 {x y : Int64} : x < y ↔ x.toInt < y.toInt := Int64.lt_iff_toInt_lt
theorem lt32 {x y : Int32} : x < y ↔ x.toInt < y.toInt := Int32.lt_iff_toInt_lt
/-- the byte at place k of a long, as javac reads it into an int -/
theorem byteI (w : Int64) (q : Int32) (k : Nat) (hk : ni q % 64 = k) : ((lushr w q).toInt32 &&& (255 : Int32)) = Int32.ofNat (nj w / 2 ^ k % 256) := by
  apply ni_inj
  rw [ni_and, ni_l2i, nj_lushr w q k hk, show ni (255 : Int32) = 2 ^ 8 - 1 from rfl, mask_n]
  show _ = (BitVec.ofNat 32 _).toNat
  rw [BitVec.toNat_ofNat]
  omega
theorem byteJ (w : Int64) (q : Int32) (k : Nat) (hk : ni q % 64 = k) : ((lushr w q) &&& (255 : Int64)) = Int64.ofNat (nj w / 2 ^ k % 256) := by
  apply nj_inj
  rw [nj_and, nj_lushr w q k hk, show nj (255 : Int64) = 2 ^ 8 - 1 from rfl, mask_n]
  show _ = (BitVec.ofNat 64 _).toNat
  rw [BitVec.toNat_ofNat]
  omega
theorem all8 {P : Int8 → Prop} (h : ∀ n : Fin 256, P (Int8.ofNat n.1)) (y : Int8) : P y := by
  have q := h ⟨y.toBitVec.toNat, y.toBitVec.isLt⟩
  have e : Int8.ofNat y.toBitVec.toNat = y := by
    apply Int8.toBitVec_inj.mp
    show BitVec.ofNat 8 y.toBitVec.toNat = y.toBitVec
    rw [BitVec.ofNat_toNat]; simp
  rw [e] at q; exact q
/-- an int told by its natural number -/
theorem ofni (x : Int32) : Int32.ofNat (ni x) = x := by
  apply ni_inj
  show (BitVec.ofNat 32 x.toBitVec.toNat).toNat = x.toBitVec.toNat
  rw [BitVec.toNat_ofNat, Nat.mod_eq_of_lt x.toBitVec.isLt]
/-- (x & 0x7fffffff) % m for a small m -/
theorem remN (x : Int32) (m : Int32) (k : Nat) (hm : ni m = k) (h0 : 0 < k) (h1 : k < 2147483648) : ∃ n : Nat, n < k ∧ ((x &&& (2147483647 : Int32)) % m) = Int32.ofNat n := by
  have e1 : ni (x &&& (2147483647 : Int32)) = ni x % 2147483648 := by rw [ni_and, show ni (2147483647 : Int32) = 2 ^ 31 - 1 from rfl, mask_n]
  have m1 : m.toInt = k := by rw [ni_int, if_pos (by omega), hm]
  have a1 : (x &&& (2147483647 : Int32)).toInt = (ni x % 2147483648 : Nat) := by rw [ni_int, if_pos (by omega), e1]
  obtain ⟨p, -⟩ := c_irem (x &&& (2147483647 : Int32)) m k m1
  have r := p (by omega)
  refine ⟨ni x % 2147483648 % k, Nat.mod_lt _ h0, ?_⟩
  have q : ni x % 2147483648 % k < k := Nat.mod_lt _ h0
  apply Int32.toInt_inj.mp
  rw [r, a1, Int32.toInt_ofNat_of_lt (by omega)]; rfl
end Jvm.Own
namespace Jvm.Pilot.@@N@@
open Jvm Jvm.ClassFile Sem Op Lib Jvm.Free Jvm.Stand Jvm.LawKit Jvm.RoadKit Bundle Jvm.Own Jvm.Pilot.@@N@@.Jvm.D
theorem d2_0 : decode jdk_30_method_1_code 0 = .ok (.aload_n 0, 1) := by decide +kernel
theorem d2_1 : decode jdk_30_method_1_code 1 = .ok (.invokespecial 1, 3) := by decide +kernel
theorem d2_4 : decode jdk_30_method_1_code 4 = .ok (.return_, 1) := by decide +kernel
theorem pn_java_lang_Record : plainName "java/lang/Record" = true := by first | (simp [plainName, overriddenIn]; done) | decide +kernel
theorem ef_2 (m : MethodId) (x0 : Addr) : entryFrame m #[(.ref x0)] 1 = mkF m 0 #[.val (.ref x0)] [] := by first | (simp [entryFrame, mkF, argsToLocals, Value.category]; done) | rfl
def Q2 (Z : State) (ax : Addr) (n0 : Nat) (Rst : RL) (v : Option Value) (h : Heap) (L : List Loc) : Prop := v = none ∧ Fr n0 L ∧ Rep Z n0 h (Rst)
set_option maxRecDepth 65536 in
set_option maxHeartbeats 40000000 in
theorem rm2 (l : Launch) (Z : State) (a0 : Array Value) (hw : ∀ d ∈ tables_1, d.before a0 Z = true) (ws : List Jvm.Cond) (ax : Addr) (h0 : Heap) (n0 : Nat) (Rst : RL) (R0 : Rep Z n0 h0 (Rst)) :
    MetFree l (⟨"java/lang/Record", "<init>", "()V"⟩ : MethodName) (head1 (Jvm.Cond.code (⟨"java/lang/Record", "<init>", "()V"⟩ : MethodName) jdk_30_method_1_code 1 none :: ws) ({ frames := 1, cells := 0, slots := 0, locals := 12 } : Room)) (fun a U => a = #[(.ref ax)] ∧ Z.Warmed39 U.vm ∧ U.heap = h0) (fun _ _ _ _ _ => True) (fun _ U o U' => ∃ v L, o = .returned v ∧ Q2 Z ax n0 Rst v U'.heap L ∧ FrameEnd U o U' L ({ frames := 1, cells := 0, slots := 0, locals := 12 } : Room).cells ({ frames := 1, cells := 0, slots := 0, locals := 12 } : Room).slots) := by
  refine MetFree.of_bodySF (plainFor_of_name pn_java_lang_Record) hisR ?_
  intro p e s m args below meth c s₁ Bd hml0 hP hK
  obtain ⟨rfl, hZ, hh⟩ := hP
  have hx := Bd.exec
  have hby := Bd.bytes
  have hml : c.maxLocals = 1 := hml0
  have hown : s.vm.findClass "java/lang/Record" = some m.cls := findClass_of_methodNamed Bd.named
  have hnm := (name_of_methodNamed Bd.named Bd.method).1
  have X0 : Stand p l e ({ frames := 1, cells := 0, slots := 0, locals := 12 } : Room) s m #[(.ref ax)] below meth c s₁ [] 0 0 := Stand.of_body Bd
  have e0 : s₁.heap = h0 := by rw [← hh, Bd.state]; rfl
  have N0 := Fr.nil n0
  have pre0 : ∀ t, Steps p.tables e below (s₁.setTop (mkF m 0 #[.val (.ref ax)] [])) t → Steps p.tables e below (s₁.setTop (entryFrame m #[(.ref ax)] 1)) t := fun t k => castTop (ef_2 m ax) k
  have pre1 : ∀ t, Steps p.tables e below (s₁.setTop (mkF m 1 #[.val (.ref ax)] [(.ref ax)])) t → Steps p.tables e below (s₁.setTop (entryFrame m #[(.ref ax)] 1)) t := fun t k => pre0 t (by
    show Steps p.tables e below (s₁.setTop (mkF m 0 #[.val (.ref ax)] [])) _
    refine XS.aloadN X0.here hx rfl (hb hby d2_0) rfl rfl ?_
    exact k)
  obtain ⟨T2, X2, e2, st2⟩ := initO X0 hx hZ hown (hw _ (List.mem_of_getElem? (i := 15) rfl)) (hw _ (List.mem_of_getElem? (i := 16) rfl)) (hw _ (List.mem_of_getElem? (i := 17) rfl)) e0 (g := (mkF m 1 #[.val (.ref ax)] [(.ref ax)])) rfl (by rw [hml]; rfl) rfl (hb hby d2_1) (by decide) (W := 0) (by show 2 * 0 + _ ≤ _; exact Nat.le_of_eq rfl) (by decide)
  have pre3 : ∀ t, Steps p.tables e below (T2.setTop (mkF m 4 #[.val (.ref ax)] [])) t → Steps p.tables e below (s₁.setTop (entryFrame m #[(.ref ax)] 1)) t := fun t k => pre1 t (st2 t k)
  obtain ⟨fs, hr, hrun, hended, hW, hsame⟩ := X2.leave (v := none) (fun _ => rfl)
  refine ⟨_, _, pre3 _ ?_, hrun, hended, _, _, rfl, ?_, ⟨_, rfl⟩, hW, hsame.mono (by decide) (by decide)⟩
  · show Steps p.tables e below (T2.setTop (mkF m 4 #[.val (.ref ax)] [])) _
    exact X2.returnOut hx Bd.returns (hb hby d2_4) hr
  · show Q2 Z ax n0 Rst _ T2.heap _
    rw [e2]
    exact ⟨rfl, N0, R0⟩
theorem d1_0 : decode prog_38_method_1_code 0 = .ok (.aload_n 0, 1) := by decide +kernel
theorem d1_1 : decode prog_38_method_1_code 1 = .ok (.invokespecial 1, 3) := by decide +kernel
theorem pd__28_29V : parseMethodDescriptor "()V" = some ⟨[], none⟩ := by decide +kernel
theorem d1_4 : decode prog_38_method_1_code 4 = .ok (.lload_n 1, 1) := by decide +kernel
theorem d1_5 : decode prog_38_method_1_code 5 = .ok (.lconst 0, 1) := by decide +kernel
theorem d1_6 : decode prog_38_method_1_code 6 = .ok (.lcmp, 1) := by decide +kernel
theorem d1_7 : decode prog_38_method_1_code 7 = .ok (.ifCond .lt 9, 3) := by decide +kernel
theorem d1_10 : decode prog_38_method_1_code 10 = .ok (.lload_n 1, 1) := by decide +kernel
theorem d1_11 : decode prog_38_method_1_code 11 = .ok (.lload_n 3, 1) := by decide +kernel
theorem d1_12 : decode prog_38_method_1_code 12 = .ok (.lcmp, 1) := by decide +kernel
theorem d1_13 : decode prog_38_method_1_code 13 = .ok (.ifCond .lt 18, 3) := by decide +kernel
theorem d1_31 : decode prog_38_method_1_code 31 = .ok (.aload_n 0, 1) := by decide +kernel
theorem d1_32 : decode prog_38_method_1_code 32 = .ok (.lload_n 1, 1) := by decide +kernel
theorem d1_33 : decode prog_38_method_1_code 33 = .ok (.putfield 16, 3) := by decide +kernel
theorem d1_36 : decode prog_38_method_1_code 36 = .ok (.aload_n 0, 1) := by decide +kernel
theorem d1_37 : decode prog_38_method_1_code 37 = .ok (.lload_n 3, 1) := by decide +kernel
theorem d1_38 : decode prog_38_method_1_code 38 = .ok (.putfield 22, 3) := by decide +kernel
theorem d1_41 : decode prog_38_method_1_code 41 = .ok (.return_, 1) := by decide +kernel
theorem pn_com_example_gapless_log_gaplesslog_tree_Subtree : plainName "com/example/gapless_log/gaplesslog/tree/Subtree" = true := by first | (simp [plainName, overriddenIn]; done) | decide +kernel
theorem ef_1 (m : MethodId) (x0 : Addr) (x1 : Int64) (x2 : Int64) : entryFrame m #[(.ref x0), (.long x1), (.long x2)] 5 = mkF m 0 #[.val (.ref x0), .val (.long x1), .second, .val (.long x2), .second] [] := by first | (simp [entryFrame, mkF, argsToLocals, Value.category]; done) | rfl
def Q1 (Z : State) (ax : Addr) (sx : Int64) (ex : Int64) (u1 : Value) (u2 : Value) (n0 : Nat) (Rst : RL) (v : Option Value) (h : Heap) (L : List Loc) : Prop := v = none ∧ Fr n0 L ∧ Rep Z n0 h ((ax, Obj "com/example/gapless_log/gaplesslog/tree/Subtree" [("start", "J", (.long sx)), ("end", "J", (.long ex))]) :: Rst)
set_option maxRecDepth 65536 in
set_option maxHeartbeats 40000000 in
theorem rm1 (l : Launch) (Z : State) (a0 : Array Value) (hw : ∀ d ∈ tables_1, d.before a0 Z = true) (ws : List Jvm.Cond) (ax : Addr) (sx : Int64) (ex : Int64) (u1 : Value) (u2 : Value) (h0 : Heap) (n0 : Nat) (Rst : RL) (R0 : Rep Z n0 h0 ((ax, Obj "com/example/gapless_log/gaplesslog/tree/Subtree" [("start", "J", u1), ("end", "J", u2)]) :: Rst)) (hg1 : ¬ (sx < (0 : Int64))) (hg2 : sx < ex) :
    MetFree l (⟨"com/example/gapless_log/gaplesslog/tree/Subtree", "<init>", "(JJ)V"⟩ : MethodName) (head1 (Jvm.Cond.code (⟨"com/example/gapless_log/gaplesslog/tree/Subtree", "<init>", "(JJ)V"⟩ : MethodName) prog_38_method_1_code 5 none :: ws) ({ frames := 2, cells := 0, slots := 0, locals := 24 } : Room)) (fun a U => a = #[(.ref ax), (.long sx), (.long ex)] ∧ Z.Warmed39 U.vm ∧ U.heap = h0) (fun _ _ _ _ _ => True) (fun _ U o U' => ∃ v L, o = .returned v ∧ Q1 Z ax sx ex u1 u2 n0 Rst v U'.heap L ∧ FrameEnd U o U' L ({ frames := 2, cells := 0, slots := 0, locals := 24 } : Room).cells ({ frames := 2, cells := 0, slots := 0, locals := 24 } : Room).slots) := by
  refine MetFree.of_bodySF (plainFor_of_name pn_com_example_gapless_log_gaplesslog_tree_Subtree) hisR ?_
  intro p e s m args below meth c s₁ Bd hml0 hP hK
  obtain ⟨rfl, hZ, hh⟩ := hP
  have hx := Bd.exec
  have hby := Bd.bytes
  have hml : c.maxLocals = 5 := hml0
  have hown : s.vm.findClass "com/example/gapless_log/gaplesslog/tree/Subtree" = some m.cls := findClass_of_methodNamed Bd.named
  have hnm := (name_of_methodNamed Bd.named Bd.method).1
  have X0 : Stand p l e ({ frames := 2, cells := 0, slots := 0, locals := 24 } : Room) s m #[(.ref ax), (.long sx), (.long ex)] below meth c s₁ [] 0 0 := Stand.of_body Bd
  have e0 : s₁.heap = h0 := by rw [← hh, Bd.state]; rfl
  have N0 := Fr.nil n0
  have pre0 : ∀ t, Steps p.tables e below (s₁.setTop (mkF m 0 #[.val (.ref ax), .val (.long sx), .second, .val (.long ex), .second] [])) t → Steps p.tables e below (s₁.setTop (entryFrame m #[(.ref ax), (.long sx), (.long ex)] 5)) t := fun t k => castTop (ef_1 m ax sx ex) k
  have pre1 : ∀ t, Steps p.tables e below (s₁.setTop (mkF m 1 #[.val (.ref ax), .val (.long sx), .second, .val (.long ex), .second] [(.ref ax)])) t → Steps p.tables e below (s₁.setTop (entryFrame m #[(.ref ax), (.long sx), (.long ex)] 5)) t := fun t k => pre0 t (by
    show Steps p.tables e below (s₁.setTop (mkF m 0 #[.val (.ref ax), .val (.long sx), .second, .val (.long ex), .second] [])) _
    refine XS.aloadN X0.here hx rfl (hb hby d1_0) rfl rfl ?_
    exact k)
  obtain ⟨_, _, ⟨T2, L2, k2, n2⟩, -, X2, ⟨Lc2, hQ2, l2, y2, z2⟩, st2⟩ := X0.specialBack hx (y := (⟨"java/lang/Record", "<init>", "()V"⟩ : MethodName)) rfl hown (mvT hZ (hw _ (List.mem_of_getElem? (i := 10) rfl))) (mvT hZ (hw _ (List.mem_of_getElem? (i := 11) rfl))) (mvT hZ (hw _ (List.mem_of_getElem? (i := 14) rfl))) (by decide) (backOf (W := 0) (rm2 l Z a0 hw [] ax  h0 n0 _ R0 ) hZ (hw _ (List.mem_of_getElem? (i := 14) rfl)) (hw _ (List.mem_of_getElem? (i := 13) rfl)) (by decide) (by decide)) (g := (mkF m 1 #[.val (.ref ax), .val (.long sx), .second, .val (.long ex), .second] [(.ref ax)])) rfl (by rw [hml]; rfl) (Steps.refl _) (a := ax) (argsL := []) (rest := []) (lenOf pd__28_29V rfl) rfl (by show 2 * 0 + _ ≤ _; exact Nat.le_of_eq rfl) (hb hby d1_1) (fun _ _ => ⟨rfl, e0, (by decide : 0 + 0 ≤ _), (by decide : 0 + 0 ≤ _)⟩)
  dsimp only [Pt.U, Pt.locs, Pt.cells, Pt.slots] at X2 l2 y2 z2 st2 hQ2
  subst y2 z2
  obtain ⟨rfl, N2q, R2⟩ := hQ2
  have N2 : Fr n0 L2 := by rw [l2]; exact Fr.app N0 N2q
  replace R2 : Rep Z n0 T2.heap ((ax, Obj "com/example/gapless_log/gaplesslog/tree/Subtree" [("start", "J", u1), ("end", "J", u2)]) :: Rst) := R2
  have pre3 : ∀ t, Steps p.tables e below (T2.setTop (mkF m 4 #[.val (.ref ax), .val (.long sx), .second, .val (.long ex), .second] [])) t → Steps p.tables e below (s₁.setTop (entryFrame m #[(.ref ax), (.long sx), (.long ex)] 5)) t := fun t k => pre1 t (st2.trans k)
  have pre5 : ∀ t, Steps p.tables e below (T2.setTop (mkF m 7 #[.val (.ref ax), .val (.long sx), .second, .val (.long ex), .second] [(.int (XT.cmpL sx (0 : Int64)))])) t → Steps p.tables e below (s₁.setTop (entryFrame m #[(.ref ax), (.long sx), (.long ex)] 5)) t := fun t k => pre3 t (by
    show Steps p.tables e below (T2.setTop (mkF m 4 #[.val (.ref ax), .val (.long sx), .second, .val (.long ex), .second] [])) _
    refine XS.lloadN X2.here hx rfl (hb hby d1_4) rfl ?_
    refine XS.lconst X2.here hx rfl (hb hby d1_5) ?_
    refine XS.lcmp X2.here hx rfl (hb hby d1_6) rfl ?_
    exact k)
  have hb4 : ¬ (sx < (0 : Int64)) := hg1
  have pre7 : ∀ t, Steps p.tables e below (T2.setTop (mkF m 13 #[.val (.ref ax), .val (.long sx), .second, .val (.long ex), .second] [(.int (XT.cmpL sx ex))])) t → Steps p.tables e below (s₁.setTop (entryFrame m #[(.ref ax), (.long sx), (.long ex)] 5)) t := fun t k => pre5 t (by
    show Steps p.tables e below (T2.setTop (mkF m 7 #[.val (.ref ax), .val (.long sx), .second, .val (.long ex), .second] [(.int (XT.cmpL sx (0 : Int64)))])) _
    refine XS.ifNo X2.here hx rfl (hb hby d1_7) rfl (XT.ll_lt_f hb4) ?_
    refine XS.lloadN X2.here hx rfl (hb hby d1_10) rfl ?_
    refine XS.lloadN X2.here hx rfl (hb hby d1_11) rfl ?_
    refine XS.lcmp X2.here hx rfl (hb hby d1_12) rfl ?_
    exact k)
  have hb6 : sx < ex := hg2
  have pre8 : ∀ t, Steps p.tables e below (T2.setTop (mkF m 33 #[.val (.ref ax), .val (.long sx), .second, .val (.long ex), .second] [(.long sx), (.ref ax)])) t → Steps p.tables e below (s₁.setTop (entryFrame m #[(.ref ax), (.long sx), (.long ex)] 5)) t := fun t k => pre7 t (by
    show Steps p.tables e below (T2.setTop (mkF m 13 #[.val (.ref ax), .val (.long sx), .second, .val (.long ex), .second] [(.int (XT.cmpL sx ex))])) _
    refine XS.ifYes X2.here hx rfl (pc0 := 13) (pc' := 31) rfl (hb hby d1_13) rfl (XT.ll_lt_t hb6) (by decide) (by decide) ?_
    refine XS.aloadN X2.here hx rfl (hb hby d1_31) rfl rfl ?_
    refine XS.lloadN X2.here hx rfl (hb hby d1_32) rfl ?_
    exact k)
  obtain ⟨T9, h9, ls9, X9, e9, N9, R9, st9⟩ := gPut X2 hx hZ hown (host := "") (Or.inl (hw _ (List.mem_of_getElem? (i := 18) rfl))) rfl N2 R2 0 0 rfl rfl (Or.inr ⟨(hw _ (List.mem_of_getElem? (i := 19) rfl)), rfl, hnm⟩) (hw _ (List.mem_of_getElem? (i := 5) rfl)) (ty := .long) (by decide) rfl rfl (g := (mkF m 33 #[.val (.ref ax), .val (.long sx), .second, .val (.long ex), .second] [(.long sx), (.ref ax)])) rfl rfl (hb hby d1_33)
  replace R9 : Rep Z n0 h9 ((ax, Obj "com/example/gapless_log/gaplesslog/tree/Subtree" [("start", "J", (.long sx)), ("end", "J", u2)]) :: Rst) := R9
  have pre10 : ∀ t, Steps p.tables e below (T9.setTop (mkF m 36 #[.val (.ref ax), .val (.long sx), .second, .val (.long ex), .second] [])) t → Steps p.tables e below (s₁.setTop (entryFrame m #[(.ref ax), (.long sx), (.long ex)] 5)) t := fun t k => pre8 t (st9 t k)
  have pre11 : ∀ t, Steps p.tables e below (T9.setTop (mkF m 38 #[.val (.ref ax), .val (.long sx), .second, .val (.long ex), .second] [(.long ex), (.ref ax)])) t → Steps p.tables e below (s₁.setTop (entryFrame m #[(.ref ax), (.long sx), (.long ex)] 5)) t := fun t k => pre10 t (by
    show Steps p.tables e below (T9.setTop (mkF m 36 #[.val (.ref ax), .val (.long sx), .second, .val (.long ex), .second] [])) _
    refine XS.aloadN X9.here hx rfl (hb hby d1_36) rfl rfl ?_
    refine XS.lloadN X9.here hx rfl (hb hby d1_37) rfl ?_
    exact k)
  obtain ⟨T12, h12, ls12, X12, e12, N12, R12, st12⟩ := gPut X9 hx hZ hown (host := "") (Or.inl (hw _ (List.mem_of_getElem? (i := 20) rfl))) e9 N9 R9 0 1 rfl rfl (Or.inr ⟨(hw _ (List.mem_of_getElem? (i := 21) rfl)), rfl, hnm⟩) (hw _ (List.mem_of_getElem? (i := 5) rfl)) (ty := .long) (by decide) rfl rfl (g := (mkF m 38 #[.val (.ref ax), .val (.long sx), .second, .val (.long ex), .second] [(.long ex), (.ref ax)])) rfl rfl (hb hby d1_38)
  replace R12 : Rep Z n0 h12 ((ax, Obj "com/example/gapless_log/gaplesslog/tree/Subtree" [("start", "J", (.long sx)), ("end", "J", (.long ex))]) :: Rst) := R12
  have pre13 : ∀ t, Steps p.tables e below (T12.setTop (mkF m 41 #[.val (.ref ax), .val (.long sx), .second, .val (.long ex), .second] [])) t → Steps p.tables e below (s₁.setTop (entryFrame m #[(.ref ax), (.long sx), (.long ex)] 5)) t := fun t k => pre11 t (st12 t k)
  obtain ⟨fs, hr, hrun, hended, hW, hsame⟩ := X12.leave (v := none) (fun _ => rfl)
  refine ⟨_, _, pre13 _ ?_, hrun, hended, _, _, rfl, ?_, ⟨_, rfl⟩, hW, hsame.mono (by decide) (by decide)⟩
  · show Steps p.tables e below (T12.setTop (mkF m 41 #[.val (.ref ax), .val (.long sx), .second, .val (.long ex), .second] [])) _
    exact X12.returnOut hx Bd.returns (hb hby d1_41) hr
  · show Q1 Z ax sx ex u1 u2 n0 Rst _ T12.heap _
    rw [e12]
    exact ⟨rfl, N12, R12⟩
theorem d5_0 : decode prog_38_method_8_code 0 = .ok (.aload_n 0, 1) := by decide +kernel
theorem d5_1 : decode prog_38_method_8_code 1 = .ok (.getfield 22, 3) := by decide +kernel
theorem d5_4 : decode prog_38_method_8_code 4 = .ok (.lreturn, 1) := by decide +kernel
theorem ef_5 (m : MethodId) (x0 : Addr) : entryFrame m #[(.ref x0)] 1 = mkF m 0 #[.val (.ref x0)] [] := by first | (simp [entryFrame, mkF, argsToLocals, Value.category]; done) | rfl
def Q5 (Z : State) (ax : Addr) (sv : Int64) (ev : Int64) (n0 : Nat) (Rst : RL) (v : Option Value) (h : Heap) (L : List Loc) : Prop := v = some (.long ev) ∧ Fr n0 L ∧ Rep Z n0 h ((ax, Obj "com/example/gapless_log/gaplesslog/tree/Subtree" [("start", "J", (.long sv)), ("end", "J", (.long ev))]) :: Rst)
set_option maxRecDepth 65536 in
set_option maxHeartbeats 40000000 in
theorem rm5 (l : Launch) (Z : State) (a0 : Array Value) (hw : ∀ d ∈ tables_1, d.before a0 Z = true) (ws : List Jvm.Cond) (ax : Addr) (sv : Int64) (ev : Int64) (h0 : Heap) (n0 : Nat) (Rst : RL) (R0 : Rep Z n0 h0 ((ax, Obj "com/example/gapless_log/gaplesslog/tree/Subtree" [("start", "J", (.long sv)), ("end", "J", (.long ev))]) :: Rst)) :
    MetFree l (⟨"com/example/gapless_log/gaplesslog/tree/Subtree", "end", "()J"⟩ : MethodName) (head1 (Jvm.Cond.code (⟨"com/example/gapless_log/gaplesslog/tree/Subtree", "end", "()J"⟩ : MethodName) prog_38_method_8_code 1 (some .long) :: ws) ({ frames := 0, cells := 0, slots := 0, locals := 0 } : Room)) (fun a U => a = #[(.ref ax)] ∧ Z.Warmed39 U.vm ∧ U.heap = h0) (fun _ _ _ _ _ => True) (fun _ U o U' => ∃ v L, o = .returned v ∧ Q5 Z ax sv ev n0 Rst v U'.heap L ∧ FrameEnd U o U' L ({ frames := 0, cells := 0, slots := 0, locals := 0 } : Room).cells ({ frames := 0, cells := 0, slots := 0, locals := 0 } : Room).slots) := by
  refine MetFree.of_bodySF (plainFor_of_name pn_com_example_gapless_log_gaplesslog_tree_Subtree) hisR ?_
  intro p e s m args below meth c s₁ Bd hml0 hP hK
  obtain ⟨rfl, hZ, hh⟩ := hP
  have hx := Bd.exec
  have hby := Bd.bytes
  have hml : c.maxLocals = 1 := hml0
  have hown : s.vm.findClass "com/example/gapless_log/gaplesslog/tree/Subtree" = some m.cls := findClass_of_methodNamed Bd.named
  have hnm := (name_of_methodNamed Bd.named Bd.method).1
  have X0 : Stand p l e ({ frames := 0, cells := 0, slots := 0, locals := 0 } : Room) s m #[(.ref ax)] below meth c s₁ [] 0 0 := Stand.of_body Bd
  have e0 : s₁.heap = h0 := by rw [← hh, Bd.state]; rfl
  have N0 := Fr.nil n0
  have pre0 : ∀ t, Steps p.tables e below (s₁.setTop (mkF m 0 #[.val (.ref ax)] [])) t → Steps p.tables e below (s₁.setTop (entryFrame m #[(.ref ax)] 1)) t := fun t k => castTop (ef_5 m ax) k
  have pre1 : ∀ t, Steps p.tables e below (s₁.setTop (mkF m 1 #[.val (.ref ax)] [(.ref ax)])) t → Steps p.tables e below (s₁.setTop (entryFrame m #[(.ref ax)] 1)) t := fun t k => pre0 t (by
    show Steps p.tables e below (s₁.setTop (mkF m 0 #[.val (.ref ax)] [])) _
    refine XS.aloadN X0.here hx rfl (hb hby d5_0) rfl rfl ?_
    exact k)
  obtain ⟨T2, X2, e2, st2⟩ := gGet X0 hx hZ hown (host := "") (Or.inl (hw _ (List.mem_of_getElem? (i := 20) rfl))) e0 R0 0 1 rfl rfl (g := (mkF m 1 #[.val (.ref ax)] [(.ref ax)])) rfl rfl (hb hby d5_1)
  have pre3 : ∀ t, Steps p.tables e below (T2.setTop (mkF m 4 #[.val (.ref ax)] [(.long ev)])) t → Steps p.tables e below (s₁.setTop (entryFrame m #[(.ref ax)] 1)) t := fun t k => pre1 t (st2 t k)
  obtain ⟨fs, hr, hrun, hended, hW, hsame⟩ := X2.leave (v := some (.long ev)) (fun h => by rw [Bd.returns] at h; cases h)
  refine ⟨_, _, pre3 _ ?_, hrun, hended, _, _, rfl, ?_, ⟨_, rfl⟩, hW, hsame.mono (by decide) (by decide)⟩
  · show Steps p.tables e below (T2.setTop (mkF m 4 #[.val (.ref ax)] [(.long ev)])) _
    exact Jvm.Own.retL X2 hx Bd.returns (hb hby d5_4) hr
  · show Q5 Z ax sv ev n0 Rst _ T2.heap _
    rw [e2]
    exact ⟨rfl, N0, R0⟩
theorem d6_0 : decode prog_38_method_7_code 0 = .ok (.aload_n 0, 1) := by decide +kernel
theorem d6_1 : decode prog_38_method_7_code 1 = .ok (.getfield 16, 3) := by decide +kernel
theorem d6_4 : decode prog_38_method_7_code 4 = .ok (.lreturn, 1) := by decide +kernel
theorem ef_6 (m : MethodId) (x0 : Addr) : entryFrame m #[(.ref x0)] 1 = mkF m 0 #[.val (.ref x0)] [] := by first | (simp [entryFrame, mkF, argsToLocals, Value.category]; done) | rfl
def Q6 (Z : State) (ax : Addr) (sv : Int64) (ev : Int64) (n0 : Nat) (Rst : RL) (v : Option Value) (h : Heap) (L : List Loc) : Prop := v = some (.long sv) ∧ Fr n0 L ∧ Rep Z n0 h ((ax, Obj "com/example/gapless_log/gaplesslog/tree/Subtree" [("start", "J", (.long sv)), ("end", "J", (.long ev))]) :: Rst)
set_option maxRecDepth 65536 in
set_option maxHeartbeats 40000000 in
theorem rm6 (l : Launch) (Z : State) (a0 : Array Value) (hw : ∀ d ∈ tables_1, d.before a0 Z = true) (ws : List Jvm.Cond) (ax : Addr) (sv : Int64) (ev : Int64) (h0 : Heap) (n0 : Nat) (Rst : RL) (R0 : Rep Z n0 h0 ((ax, Obj "com/example/gapless_log/gaplesslog/tree/Subtree" [("start", "J", (.long sv)), ("end", "J", (.long ev))]) :: Rst)) :
    MetFree l (⟨"com/example/gapless_log/gaplesslog/tree/Subtree", "start", "()J"⟩ : MethodName) (head1 (Jvm.Cond.code (⟨"com/example/gapless_log/gaplesslog/tree/Subtree", "start", "()J"⟩ : MethodName) prog_38_method_7_code 1 (some .long) :: ws) ({ frames := 0, cells := 0, slots := 0, locals := 0 } : Room)) (fun a U => a = #[(.ref ax)] ∧ Z.Warmed39 U.vm ∧ U.heap = h0) (fun _ _ _ _ _ => True) (fun _ U o U' => ∃ v L, o = .returned v ∧ Q6 Z ax sv ev n0 Rst v U'.heap L ∧ FrameEnd U o U' L ({ frames := 0, cells := 0, slots := 0, locals := 0 } : Room).cells ({ frames := 0, cells := 0, slots := 0, locals := 0 } : Room).slots) := by
  refine MetFree.of_bodySF (plainFor_of_name pn_com_example_gapless_log_gaplesslog_tree_Subtree) hisR ?_
  intro p e s m args below meth c s₁ Bd hml0 hP hK
  obtain ⟨rfl, hZ, hh⟩ := hP
  have hx := Bd.exec
  have hby := Bd.bytes
  have hml : c.maxLocals = 1 := hml0
  have hown : s.vm.findClass "com/example/gapless_log/gaplesslog/tree/Subtree" = some m.cls := findClass_of_methodNamed Bd.named
  have hnm := (name_of_methodNamed Bd.named Bd.method).1
  have X0 : Stand p l e ({ frames := 0, cells := 0, slots := 0, locals := 0 } : Room) s m #[(.ref ax)] below meth c s₁ [] 0 0 := Stand.of_body Bd
  have e0 : s₁.heap = h0 := by rw [← hh, Bd.state]; rfl
  have N0 := Fr.nil n0
  have pre0 : ∀ t, Steps p.tables e below (s₁.setTop (mkF m 0 #[.val (.ref ax)] [])) t → Steps p.tables e below (s₁.setTop (entryFrame m #[(.ref ax)] 1)) t := fun t k => castTop (ef_6 m ax) k
  have pre1 : ∀ t, Steps p.tables e below (s₁.setTop (mkF m 1 #[.val (.ref ax)] [(.ref ax)])) t → Steps p.tables e below (s₁.setTop (entryFrame m #[(.ref ax)] 1)) t := fun t k => pre0 t (by
    show Steps p.tables e below (s₁.setTop (mkF m 0 #[.val (.ref ax)] [])) _
    refine XS.aloadN X0.here hx rfl (hb hby d6_0) rfl rfl ?_
    exact k)
  obtain ⟨T2, X2, e2, st2⟩ := gGet X0 hx hZ hown (host := "") (Or.inl (hw _ (List.mem_of_getElem? (i := 18) rfl))) e0 R0 0 0 rfl rfl (g := (mkF m 1 #[.val (.ref ax)] [(.ref ax)])) rfl rfl (hb hby d6_1)
  have pre3 : ∀ t, Steps p.tables e below (T2.setTop (mkF m 4 #[.val (.ref ax)] [(.long sv)])) t → Steps p.tables e below (s₁.setTop (entryFrame m #[(.ref ax)] 1)) t := fun t k => pre1 t (st2 t k)
  obtain ⟨fs, hr, hrun, hended, hW, hsame⟩ := X2.leave (v := some (.long sv)) (fun h => by rw [Bd.returns] at h; cases h)
  refine ⟨_, _, pre3 _ ?_, hrun, hended, _, _, rfl, ?_, ⟨_, rfl⟩, hW, hsame.mono (by decide) (by decide)⟩
  · show Steps p.tables e below (T2.setTop (mkF m 4 #[.val (.ref ax)] [(.long sv)])) _
    exact Jvm.Own.retL X2 hx Bd.returns (hb hby d6_4) hr
  · show Q6 Z ax sv ev n0 Rst _ T2.heap _
    rw [e2]
    exact ⟨rfl, N0, R0⟩
theorem d8_0 : decode jdk_33_method_48_code 0 = .ok (.iload_n 0, 1) := by decide +kernel
theorem d8_1 : decode jdk_33_method_48_code 1 = .ok (.iconst (-1), 1) := by decide +kernel
theorem d8_2 : decode jdk_33_method_48_code 2 = .ok (.ixor, 1) := by decide +kernel
theorem d8_3 : decode jdk_33_method_48_code 3 = .ok (.iload_n 0, 1) := by decide +kernel
theorem d8_4 : decode jdk_33_method_48_code 4 = .ok (.iconst 1, 1) := by decide +kernel
theorem d8_5 : decode jdk_33_method_48_code 5 = .ok (.isub, 1) := by decide +kernel
theorem d8_6 : decode jdk_33_method_48_code 6 = .ok (.iand, 1) := by decide +kernel
theorem d8_7 : decode jdk_33_method_48_code 7 = .ok (.istore_n 0, 1) := by decide +kernel
theorem d8_8 : decode jdk_33_method_48_code 8 = .ok (.iload_n 0, 1) := by decide +kernel
theorem d8_9 : decode jdk_33_method_48_code 9 = .ok (.ifCond .gt 8, 3) := by decide +kernel
theorem d8_17 : decode jdk_33_method_48_code 17 = .ok (.iconst 1, 1) := by decide +kernel
theorem d8_18 : decode jdk_33_method_48_code 18 = .ok (.istore_n 1, 1) := by decide +kernel
theorem d8_19 : decode jdk_33_method_48_code 19 = .ok (.iload_n 0, 1) := by decide +kernel
theorem d8_20 : decode jdk_33_method_48_code 20 = .ok (.ldc_w 264, 3) := by decide +kernel
theorem d8_23 : decode jdk_33_method_48_code 23 = .ok (.if_icmp .le 11, 3) := by decide +kernel
theorem d8_26 : decode jdk_33_method_48_code 26 = .ok (.iinc 1 16, 3) := by decide +kernel
theorem d8_29 : decode jdk_33_method_48_code 29 = .ok (.iload_n 0, 1) := by decide +kernel
theorem d8_30 : decode jdk_33_method_48_code 30 = .ok (.bipush 16, 2) := by decide +kernel
theorem d8_32 : decode jdk_33_method_48_code 32 = .ok (.iushr, 1) := by decide +kernel
theorem d8_33 : decode jdk_33_method_48_code 33 = .ok (.istore_n 0, 1) := by decide +kernel
theorem d8_34 : decode jdk_33_method_48_code 34 = .ok (.iload_n 0, 1) := by decide +kernel
theorem d8_35 : decode jdk_33_method_48_code 35 = .ok (.sipush 256, 3) := by decide +kernel
theorem d8_38 : decode jdk_33_method_48_code 38 = .ok (.if_icmp .le 11, 3) := by decide +kernel
theorem d8_41 : decode jdk_33_method_48_code 41 = .ok (.iinc 1 8, 3) := by decide +kernel
theorem d8_44 : decode jdk_33_method_48_code 44 = .ok (.iload_n 0, 1) := by decide +kernel
theorem d8_45 : decode jdk_33_method_48_code 45 = .ok (.bipush 8, 2) := by decide +kernel
theorem d8_47 : decode jdk_33_method_48_code 47 = .ok (.iushr, 1) := by decide +kernel
theorem d8_48 : decode jdk_33_method_48_code 48 = .ok (.istore_n 0, 1) := by decide +kernel
theorem d8_49 : decode jdk_33_method_48_code 49 = .ok (.iload_n 0, 1) := by decide +kernel
theorem d8_50 : decode jdk_33_method_48_code 50 = .ok (.bipush 16, 2) := by decide +kernel
theorem d8_52 : decode jdk_33_method_48_code 52 = .ok (.if_icmp .le 10, 3) := by decide +kernel
theorem d8_55 : decode jdk_33_method_48_code 55 = .ok (.iinc 1 4, 3) := by decide +kernel
theorem d8_58 : decode jdk_33_method_48_code 58 = .ok (.iload_n 0, 1) := by decide +kernel
theorem d8_59 : decode jdk_33_method_48_code 59 = .ok (.iconst 4, 1) := by decide +kernel
theorem d8_60 : decode jdk_33_method_48_code 60 = .ok (.iushr, 1) := by decide +kernel
theorem d8_61 : decode jdk_33_method_48_code 61 = .ok (.istore_n 0, 1) := by decide +kernel
theorem d8_62 : decode jdk_33_method_48_code 62 = .ok (.iload_n 0, 1) := by decide +kernel
theorem d8_63 : decode jdk_33_method_48_code 63 = .ok (.iconst 4, 1) := by decide +kernel
theorem d8_64 : decode jdk_33_method_48_code 64 = .ok (.if_icmp .le 10, 3) := by decide +kernel
theorem d8_67 : decode jdk_33_method_48_code 67 = .ok (.iinc 1 2, 3) := by decide +kernel
theorem d8_70 : decode jdk_33_method_48_code 70 = .ok (.iload_n 0, 1) := by decide +kernel
theorem d8_71 : decode jdk_33_method_48_code 71 = .ok (.iconst 2, 1) := by decide +kernel
theorem d8_72 : decode jdk_33_method_48_code 72 = .ok (.iushr, 1) := by decide +kernel
theorem d8_73 : decode jdk_33_method_48_code 73 = .ok (.istore_n 0, 1) := by decide +kernel
theorem d8_74 : decode jdk_33_method_48_code 74 = .ok (.iload_n 1, 1) := by decide +kernel
theorem d8_75 : decode jdk_33_method_48_code 75 = .ok (.iload_n 0, 1) := by decide +kernel
theorem d8_76 : decode jdk_33_method_48_code 76 = .ok (.iconst 1, 1) := by decide +kernel
theorem d8_77 : decode jdk_33_method_48_code 77 = .ok (.iushr, 1) := by decide +kernel
theorem d8_78 : decode jdk_33_method_48_code 78 = .ok (.iadd, 1) := by decide +kernel
theorem d8_79 : decode jdk_33_method_48_code 79 = .ok (.ireturn, 1) := by decide +kernel
theorem d8_12 : decode jdk_33_method_48_code 12 = .ok (.iload_n 0, 1) := by decide +kernel
theorem d8_13 : decode jdk_33_method_48_code 13 = .ok (.bipush 32, 2) := by decide +kernel
theorem d8_15 : decode jdk_33_method_48_code 15 = .ok (.iand, 1) := by decide +kernel
theorem d8_16 : decode jdk_33_method_48_code 16 = .ok (.ireturn, 1) := by decide +kernel
theorem pn_java_lang_Integer : plainName "java/lang/Integer" = true := by first | (simp [plainName, overriddenIn]; done) | decide +kernel
theorem ef_8 (m : MethodId) (x0 : Int32) : entryFrame m #[(.int x0)] 2 = mkF m 0 #[.val (.int x0), .unset] [] := by first | (simp [entryFrame, mkF, argsToLocals, Value.category]; done) | rfl
def F8 (ix : Int32) : Int32 :=
  let v1 : Int32 := ((ix ^^^ (-1 : Int32)) &&& (ix - (1 : Int32)))
  if (0 : Int32) < v1 then
    let v10 : Int32 := (if (65536 : Int32) < v1 then (iushr v1 (16 : Int32)) else v1)
    let v11 : Int32 := (if (65536 : Int32) < v1 then (17 : Int32) else (1 : Int32))
    let v16 : Int32 := (if (256 : Int32) < v10 then (iushr v10 (8 : Int32)) else v10)
    let v17 : Int32 := (if (256 : Int32) < v10 then (v11 + (8 : Int32)) else v11)
    let v22 : Int32 := (if (16 : Int32) < v16 then (iushr v16 (4 : Int32)) else v16)
    let v23 : Int32 := (if (16 : Int32) < v16 then (v17 + (4 : Int32)) else v17)
    let v28 : Int32 := (if (4 : Int32) < v22 then (iushr v22 (2 : Int32)) else v22)
    let v29 : Int32 := (if (4 : Int32) < v22 then (v23 + (2 : Int32)) else v23)
    (v29 + (iushr v28 (1 : Int32)))
  else
    (v1 &&& (32 : Int32))
def Q8 (Z : State) (ix : Int32) (n0 : Nat) (Rst : RL) (v : Option Value) (h : Heap) (L : List Loc) : Prop := v = some (.int (F8 ix)) ∧ Fr n0 L ∧ Rep Z n0 h (Rst)
set_option maxRecDepth 65536 in
set_option maxHeartbeats 40000000 in
theorem rm8 (l : Launch) (Z : State) (a0 : Array Value) (hw : ∀ d ∈ tables_1, d.before a0 Z = true) (ws : List Jvm.Cond) (ix : Int32) (h0 : Heap) (n0 : Nat) (Rst : RL) (R0 : Rep Z n0 h0 (Rst)) :
    MetFree l (⟨"java/lang/Integer", "numberOfTrailingZeros", "(I)I"⟩ : MethodName) (head1 (Jvm.Cond.code (⟨"java/lang/Integer", "numberOfTrailingZeros", "(I)I"⟩ : MethodName) jdk_33_method_48_code 2 (some .int) :: ws) ({ frames := 0, cells := 0, slots := 0, locals := 0 } : Room)) (fun a U => a = #[(.int ix)] ∧ Z.Warmed39 U.vm ∧ U.heap = h0) (fun _ _ _ _ _ => True) (fun _ U o U' => ∃ v L, o = .returned v ∧ Q8 Z ix n0 Rst v U'.heap L ∧ FrameEnd U o U' L ({ frames := 0, cells := 0, slots := 0, locals := 0 } : Room).cells ({ frames := 0, cells := 0, slots := 0, locals := 0 } : Room).slots) := by
  refine MetFree.of_bodySF (plainFor_of_name pn_java_lang_Integer) hisR ?_
  intro p e s m args below meth c s₁ Bd hml0 hP hK
  obtain ⟨rfl, hZ, hh⟩ := hP
  have hx := Bd.exec
  have hby := Bd.bytes
  have hml : c.maxLocals = 2 := hml0
  have hown : s.vm.findClass "java/lang/Integer" = some m.cls := findClass_of_methodNamed Bd.named
  have hnm := (name_of_methodNamed Bd.named Bd.method).1
  have X0 : Stand p l e ({ frames := 0, cells := 0, slots := 0, locals := 0 } : Room) s m #[(.int ix)] below meth c s₁ [] 0 0 := Stand.of_body Bd
  have e0 : s₁.heap = h0 := by rw [← hh, Bd.state]; rfl
  have N0 := Fr.nil n0
  have pre0 : ∀ t, Steps p.tables e below (s₁.setTop (mkF m 0 #[.val (.int ix), .unset] [])) t → Steps p.tables e below (s₁.setTop (entryFrame m #[(.int ix)] 2)) t := fun t k => castTop (ef_8 m ix) k
  have pre2 : ∀ t, Steps p.tables e below (s₁.setTop (mkF m 8 #[.val (.int ((ix ^^^ (-1 : Int32)) &&& (ix - (1 : Int32)))), .unset] [])) t → Steps p.tables e below (s₁.setTop (entryFrame m #[(.int ix)] 2)) t := fun t k => pre0 t (by
    show Steps p.tables e below (s₁.setTop (mkF m 0 #[.val (.int ix), .unset] [])) _
    refine XS.iloadN X0.here hx rfl (hb hby d8_0) rfl ?_
    refine XS.iconst X0.here hx rfl (hb hby d8_1) ?_
    refine XS.ixor X0.here hx rfl (hb hby d8_2) rfl ?_
    refine XS.iloadN X0.here hx rfl (hb hby d8_3) rfl ?_
    refine XS.iconst X0.here hx rfl (hb hby d8_4) ?_
    refine XS.isub X0.here hx rfl (hb hby d8_5) rfl ?_
    refine XS.iand X0.here hx rfl (hb hby d8_6) rfl ?_
    show Steps p.tables e below (s₁.setTop (mkF m 7 #[.val (.int ix), .unset] [(.int ((ix ^^^ (-1 : Int32)) &&& (ix - (1 : Int32))))])) _
    refine XS.istoreN X0.here hx rfl (hb hby d8_7) rfl (l' := #[.val (.int ((ix ^^^ (-1 : Int32)) &&& (ix - (1 : Int32)))), .unset]) rfl ?_
    exact k)
  obtain ⟨v1, hv1⟩ : ∃ z : Int32, z = ((ix ^^^ (-1 : Int32)) &&& (ix - (1 : Int32))) := ⟨_, rfl⟩
  rw [← hv1] at pre2
  have pre3 : ∀ t, Steps p.tables e below (s₁.setTop (mkF m 9 #[.val (.int v1), .unset] [(.int v1)])) t → Steps p.tables e below (s₁.setTop (entryFrame m #[(.int ix)] 2)) t := fun t k => pre2 t (by
    show Steps p.tables e below (s₁.setTop (mkF m 8 #[.val (.int v1), .unset] [])) _
    refine XS.iloadN X0.here hx rfl (hb hby d8_8) rfl ?_
    exact k)
  by_cases hb4 : (0 : Int32) < v1
  · have pre5 : ∀ t, Steps p.tables e below (s₁.setTop (mkF m 17 #[.val (.int v1), .unset] [])) t → Steps p.tables e below (s₁.setTop (entryFrame m #[(.int ix)] 2)) t := fun t k => pre3 t (by show Steps p.tables e below (s₁.setTop (mkF m 9 #[.val (.int v1), .unset] [(.int v1)])) _; refine XS.ifYes X0.here hx rfl (pc0 := 9) (pc' := 17) rfl (hb hby d8_9) rfl ((if0 _ _).trans (tlt hb4).2.2.1) (by decide) (by decide) ?_; exact k)
    have pre8 : ∀ t, Steps p.tables e below (s₁.setTop (mkF m 23 #[.val (.int v1), .val (.int (1 : Int32))] [(.int (65536 : Int32)), (.int v1)])) t → Steps p.tables e below (s₁.setTop (entryFrame m #[(.int ix)] 2)) t := fun t k => pre5 t (by
      show Steps p.tables e below (s₁.setTop (mkF m 17 #[.val (.int v1), .unset] [])) _
      refine XS.iconst X0.here hx rfl (hb hby d8_17) ?_
      refine XS.istoreN X0.here hx rfl (hb hby d8_18) rfl (l' := #[.val (.int v1), .val (.int (1 : Int32))]) rfl ?_
      refine XS.iloadN X0.here hx rfl (hb hby d8_19) rfl ?_
      refine X0.ldcwInt hx hown (mvT hZ (hw _ (List.mem_of_getElem? (i := 70) rfl))) (g := (mkF m 20 #[.val (.int v1), .val (.int (1 : Int32))] [(.int v1)])) rfl (hb hby d8_20) _ ?_
      exact k)
    have tl7 : ∀ t, Steps p.tables e below (s₁.setTop (mkF m 34 #[.val (.int (if (65536 : Int32) < v1 then (iushr v1 (16 : Int32)) else v1)), .val (.int (if (65536 : Int32) < v1 then (17 : Int32) else (1 : Int32)))] [])) t → Steps p.tables e below (s₁.setTop (mkF m 23 #[.val (.int v1), .val (.int (1 : Int32))] [(.int (65536 : Int32)), (.int v1)])) t := fun t k => by
      by_cases hb6 : (65536 : Int32) < v1
      · refine XS.icmpNo X0.here hx rfl (hb hby d8_23) rfl (tlt hb6).2.2.2 ?_
        rw [show (if (65536 : Int32) < v1 then (iushr v1 (16 : Int32)) else v1) = (iushr v1 (16 : Int32)) from if_pos hb6] at k
        rw [show (if (65536 : Int32) < v1 then (17 : Int32) else (1 : Int32)) = (17 : Int32) from if_pos hb6] at k
        show Steps p.tables e below (s₁.setTop (mkF m 26 #[.val (.int v1), .val (.int (1 : Int32))] [])) _
        refine XS.iinc X0.here hx rfl (hb hby d8_26) rfl (l' := #[.val (.int v1), .val (.int (17 : Int32))]) rfl ?_
        refine XS.iloadN X0.here hx rfl (hb hby d8_29) rfl ?_
        refine XS.bipush X0.here hx rfl (hb hby d8_30) ?_
        refine XS.iushr X0.here hx rfl (hb hby d8_32) rfl ?_
        refine XS.istoreN X0.here hx rfl (hb hby d8_33) rfl (l' := #[.val (.int (iushr v1 (16 : Int32))), .val (.int (17 : Int32))]) rfl ?_
        exact k
      · refine XS.icmpYes X0.here hx rfl (pc0 := 23) (pc' := 34) rfl (hb hby d8_23) rfl (flt hb6).2.2.2 (by decide) (by decide) ?_
        rw [show (if (65536 : Int32) < v1 then (iushr v1 (16 : Int32)) else v1) = v1 from if_neg hb6] at k
        rw [show (if (65536 : Int32) < v1 then (17 : Int32) else (1 : Int32)) = (1 : Int32) from if_neg hb6] at k
        exact k
    have pre9 : ∀ t, Steps p.tables e below (s₁.setTop (mkF m 34 #[.val (.int (if (65536 : Int32) < v1 then (iushr v1 (16 : Int32)) else v1)), .val (.int (if (65536 : Int32) < v1 then (17 : Int32) else (1 : Int32)))] [])) t → Steps p.tables e below (s₁.setTop (entryFrame m #[(.int ix)] 2)) t := fun t k => pre8 t (by
      exact tl7 t k)
    obtain ⟨v10, hv10⟩ : ∃ z : Int32, z = (if (65536 : Int32) < v1 then (iushr v1 (16 : Int32)) else v1) := ⟨_, rfl⟩
    rw [← hv10] at pre9
    obtain ⟨v11, hv11⟩ : ∃ z : Int32, z = (if (65536 : Int32) < v1 then (17 : Int32) else (1 : Int32)) := ⟨_, rfl⟩
    rw [← hv11] at pre9
    have pre14 : ∀ t, Steps p.tables e below (s₁.setTop (mkF m 38 #[.val (.int v10), .val (.int v11)] [(.int (256 : Int32)), (.int v10)])) t → Steps p.tables e below (s₁.setTop (entryFrame m #[(.int ix)] 2)) t := fun t k => pre9 t (by
      show Steps p.tables e below (s₁.setTop (mkF m 34 #[.val (.int v10), .val (.int v11)] [])) _
      refine XS.iloadN X0.here hx rfl (hb hby d8_34) rfl ?_
      refine XS.sipush X0.here hx rfl (hb hby d8_35) ?_
      exact k)
    have tl13 : ∀ t, Steps p.tables e below (s₁.setTop (mkF m 49 #[.val (.int (if (256 : Int32) < v10 then (iushr v10 (8 : Int32)) else v10)), .val (.int (if (256 : Int32) < v10 then (v11 + (8 : Int32)) else v11))] [])) t → Steps p.tables e below (s₁.setTop (mkF m 38 #[.val (.int v10), .val (.int v11)] [(.int (256 : Int32)), (.int v10)])) t := fun t k => by
      by_cases hb12 : (256 : Int32) < v10
      · refine XS.icmpNo X0.here hx rfl (hb hby d8_38) rfl (tlt hb12).2.2.2 ?_
        rw [show (if (256 : Int32) < v10 then (iushr v10 (8 : Int32)) else v10) = (iushr v10 (8 : Int32)) from if_pos hb12] at k
        rw [show (if (256 : Int32) < v10 then (v11 + (8 : Int32)) else v11) = (v11 + (8 : Int32)) from if_pos hb12] at k
        show Steps p.tables e below (s₁.setTop (mkF m 41 #[.val (.int v10), .val (.int v11)] [])) _
        refine XS.iinc X0.here hx rfl (hb hby d8_41) rfl (l' := #[.val (.int v10), .val (.int (v11 + (8 : Int32)))]) rfl ?_
        refine XS.iloadN X0.here hx rfl (hb hby d8_44) rfl ?_
        refine XS.bipush X0.here hx rfl (hb hby d8_45) ?_
        refine XS.iushr X0.here hx rfl (hb hby d8_47) rfl ?_
        refine XS.istoreN X0.here hx rfl (hb hby d8_48) rfl (l' := #[.val (.int (iushr v10 (8 : Int32))), .val (.int (v11 + (8 : Int32)))]) rfl ?_
        exact k
      · refine XS.icmpYes X0.here hx rfl (pc0 := 38) (pc' := 49) rfl (hb hby d8_38) rfl (flt hb12).2.2.2 (by decide) (by decide) ?_
        rw [show (if (256 : Int32) < v10 then (iushr v10 (8 : Int32)) else v10) = v10 from if_neg hb12] at k
        rw [show (if (256 : Int32) < v10 then (v11 + (8 : Int32)) else v11) = v11 from if_neg hb12] at k
        exact k
    have pre15 : ∀ t, Steps p.tables e below (s₁.setTop (mkF m 49 #[.val (.int (if (256 : Int32) < v10 then (iushr v10 (8 : Int32)) else v10)), .val (.int (if (256 : Int32) < v10 then (v11 + (8 : Int32)) else v11))] [])) t → Steps p.tables e below (s₁.setTop (entryFrame m #[(.int ix)] 2)) t := fun t k => pre14 t (by
      exact tl13 t k)
    obtain ⟨v16, hv16⟩ : ∃ z : Int32, z = (if (256 : Int32) < v10 then (iushr v10 (8 : Int32)) else v10) := ⟨_, rfl⟩
    rw [← hv16] at pre15
    obtain ⟨v17, hv17⟩ : ∃ z : Int32, z = (if (256 : Int32) < v10 then (v11 + (8 : Int32)) else v11) := ⟨_, rfl⟩
    rw [← hv17] at pre15
    have pre20 : ∀ t, Steps p.tables e below (s₁.setTop (mkF m 52 #[.val (.int v16), .val (.int v17)] [(.int (16 : Int32)), (.int v16)])) t → Steps p.tables e below (s₁.setTop (entryFrame m #[(.int ix)] 2)) t := fun t k => pre15 t (by
      show Steps p.tables e below (s₁.setTop (mkF m 49 #[.val (.int v16), .val (.int v17)] [])) _
      refine XS.iloadN X0.here hx rfl (hb hby d8_49) rfl ?_
      refine XS.bipush X0.here hx rfl (hb hby d8_50) ?_
      exact k)
    have tl19 : ∀ t, Steps p.tables e below (s₁.setTop (mkF m 62 #[.val (.int (if (16 : Int32) < v16 then (iushr v16 (4 : Int32)) else v16)), .val (.int (if (16 : Int32) < v16 then (v17 + (4 : Int32)) else v17))] [])) t → Steps p.tables e below (s₁.setTop (mkF m 52 #[.val (.int v16), .val (.int v17)] [(.int (16 : Int32)), (.int v16)])) t := fun t k => by
      by_cases hb18 : (16 : Int32) < v16
      · refine XS.icmpNo X0.here hx rfl (hb hby d8_52) rfl (tlt hb18).2.2.2 ?_
        rw [show (if (16 : Int32) < v16 then (iushr v16 (4 : Int32)) else v16) = (iushr v16 (4 : Int32)) from if_pos hb18] at k
        rw [show (if (16 : Int32) < v16 then (v17 + (4 : Int32)) else v17) = (v17 + (4 : Int32)) from if_pos hb18] at k
        show Steps p.tables e below (s₁.setTop (mkF m 55 #[.val (.int v16), .val (.int v17)] [])) _
        refine XS.iinc X0.here hx rfl (hb hby d8_55) rfl (l' := #[.val (.int v16), .val (.int (v17 + (4 : Int32)))]) rfl ?_
        refine XS.iloadN X0.here hx rfl (hb hby d8_58) rfl ?_
        refine XS.iconst X0.here hx rfl (hb hby d8_59) ?_
        refine XS.iushr X0.here hx rfl (hb hby d8_60) rfl ?_
        refine XS.istoreN X0.here hx rfl (hb hby d8_61) rfl (l' := #[.val (.int (iushr v16 (4 : Int32))), .val (.int (v17 + (4 : Int32)))]) rfl ?_
        exact k
      · refine XS.icmpYes X0.here hx rfl (pc0 := 52) (pc' := 62) rfl (hb hby d8_52) rfl (flt hb18).2.2.2 (by decide) (by decide) ?_
        rw [show (if (16 : Int32) < v16 then (iushr v16 (4 : Int32)) else v16) = v16 from if_neg hb18] at k
        rw [show (if (16 : Int32) < v16 then (v17 + (4 : Int32)) else v17) = v17 from if_neg hb18] at k
        exact k
    have pre21 : ∀ t, Steps p.tables e below (s₁.setTop (mkF m 62 #[.val (.int (if (16 : Int32) < v16 then (iushr v16 (4 : Int32)) else v16)), .val (.int (if (16 : Int32) < v16 then (v17 + (4 : Int32)) else v17))] [])) t → Steps p.tables e below (s₁.setTop (entryFrame m #[(.int ix)] 2)) t := fun t k => pre20 t (by
      exact tl19 t k)
    obtain ⟨v22, hv22⟩ : ∃ z : Int32, z = (if (16 : Int32) < v16 then (iushr v16 (4 : Int32)) else v16) := ⟨_, rfl⟩
    rw [← hv22] at pre21
    obtain ⟨v23, hv23⟩ : ∃ z : Int32, z = (if (16 : Int32) < v16 then (v17 + (4 : Int32)) else v17) := ⟨_, rfl⟩
    rw [← hv23] at pre21
    have pre26 : ∀ t, Steps p.tables e below (s₁.setTop (mkF m 64 #[.val (.int v22), .val (.int v23)] [(.int (4 : Int32)), (.int v22)])) t → Steps p.tables e below (s₁.setTop (entryFrame m #[(.int ix)] 2)) t := fun t k => pre21 t (by
      show Steps p.tables e below (s₁.setTop (mkF m 62 #[.val (.int v22), .val (.int v23)] [])) _
      refine XS.iloadN X0.here hx rfl (hb hby d8_62) rfl ?_
      refine XS.iconst X0.here hx rfl (hb hby d8_63) ?_
      exact k)
    have tl25 : ∀ t, Steps p.tables e below (s₁.setTop (mkF m 74 #[.val (.int (if (4 : Int32) < v22 then (iushr v22 (2 : Int32)) else v22)), .val (.int (if (4 : Int32) < v22 then (v23 + (2 : Int32)) else v23))] [])) t → Steps p.tables e below (s₁.setTop (mkF m 64 #[.val (.int v22), .val (.int v23)] [(.int (4 : Int32)), (.int v22)])) t := fun t k => by
      by_cases hb24 : (4 : Int32) < v22
      · refine XS.icmpNo X0.here hx rfl (hb hby d8_64) rfl (tlt hb24).2.2.2 ?_
        rw [show (if (4 : Int32) < v22 then (iushr v22 (2 : Int32)) else v22) = (iushr v22 (2 : Int32)) from if_pos hb24] at k
        rw [show (if (4 : Int32) < v22 then (v23 + (2 : Int32)) else v23) = (v23 + (2 : Int32)) from if_pos hb24] at k
        show Steps p.tables e below (s₁.setTop (mkF m 67 #[.val (.int v22), .val (.int v23)] [])) _
        refine XS.iinc X0.here hx rfl (hb hby d8_67) rfl (l' := #[.val (.int v22), .val (.int (v23 + (2 : Int32)))]) rfl ?_
        refine XS.iloadN X0.here hx rfl (hb hby d8_70) rfl ?_
        refine XS.iconst X0.here hx rfl (hb hby d8_71) ?_
        refine XS.iushr X0.here hx rfl (hb hby d8_72) rfl ?_
        refine XS.istoreN X0.here hx rfl (hb hby d8_73) rfl (l' := #[.val (.int (iushr v22 (2 : Int32))), .val (.int (v23 + (2 : Int32)))]) rfl ?_
        exact k
      · refine XS.icmpYes X0.here hx rfl (pc0 := 64) (pc' := 74) rfl (hb hby d8_64) rfl (flt hb24).2.2.2 (by decide) (by decide) ?_
        rw [show (if (4 : Int32) < v22 then (iushr v22 (2 : Int32)) else v22) = v22 from if_neg hb24] at k
        rw [show (if (4 : Int32) < v22 then (v23 + (2 : Int32)) else v23) = v23 from if_neg hb24] at k
        exact k
    have pre27 : ∀ t, Steps p.tables e below (s₁.setTop (mkF m 74 #[.val (.int (if (4 : Int32) < v22 then (iushr v22 (2 : Int32)) else v22)), .val (.int (if (4 : Int32) < v22 then (v23 + (2 : Int32)) else v23))] [])) t → Steps p.tables e below (s₁.setTop (entryFrame m #[(.int ix)] 2)) t := fun t k => pre26 t (by
      exact tl25 t k)
    obtain ⟨v28, hv28⟩ : ∃ z : Int32, z = (if (4 : Int32) < v22 then (iushr v22 (2 : Int32)) else v22) := ⟨_, rfl⟩
    rw [← hv28] at pre27
    obtain ⟨v29, hv29⟩ : ∃ z : Int32, z = (if (4 : Int32) < v22 then (v23 + (2 : Int32)) else v23) := ⟨_, rfl⟩
    rw [← hv29] at pre27
    have pre30 : ∀ t, Steps p.tables e below (s₁.setTop (mkF m 79 #[.val (.int v28), .val (.int v29)] [(.int (v29 + (iushr v28 (1 : Int32))))])) t → Steps p.tables e below (s₁.setTop (entryFrame m #[(.int ix)] 2)) t := fun t k => pre27 t (by
      show Steps p.tables e below (s₁.setTop (mkF m 74 #[.val (.int v28), .val (.int v29)] [])) _
      refine XS.iloadN X0.here hx rfl (hb hby d8_74) rfl ?_
      refine XS.iloadN X0.here hx rfl (hb hby d8_75) rfl ?_
      refine XS.iconst X0.here hx rfl (hb hby d8_76) ?_
      refine XS.iushr X0.here hx rfl (hb hby d8_77) rfl ?_
      refine XS.iadd X0.here hx rfl (hb hby d8_78) rfl ?_
      exact k)
    obtain ⟨fs, hr, hrun, hended, hW, hsame⟩ := X0.leave (v := some (.int (v29 + (iushr v28 (1 : Int32))))) (fun h => by rw [Bd.returns] at h; cases h)
    refine ⟨_, _, pre30 _ ?_, hrun, hended, _, _, rfl, ?_, ⟨_, rfl⟩, hW, hsame.mono (by decide) (by decide)⟩
    · show Steps p.tables e below (s₁.setTop (mkF m 79 #[.val (.int v28), .val (.int v29)] [(.int (v29 + (iushr v28 (1 : Int32))))])) _
      exact Jvm.Own.retI X0 hx Bd.returns (hb hby d8_79) hr
    · show Q8 Z ix n0 Rst _ s₁.heap _
      rw [e0]
      exact ⟨(by subst hv1 hv10 hv11 hv16 hv17 hv22 hv23 hv28 hv29; simp only [F8, if_pos hb4]), N0, R0⟩
  · have pre31 : ∀ t, Steps p.tables e below (s₁.setTop (mkF m 12 #[.val (.int v1), .unset] [])) t → Steps p.tables e below (s₁.setTop (entryFrame m #[(.int ix)] 2)) t := fun t k => pre3 t (by show Steps p.tables e below (s₁.setTop (mkF m 9 #[.val (.int v1), .unset] [(.int v1)])) _; refine XS.ifNo X0.here hx rfl (hb hby d8_9) rfl ((if0 _ _).trans (flt hb4).2.2.1) ?_; exact k)
    have pre32 : ∀ t, Steps p.tables e below (s₁.setTop (mkF m 16 #[.val (.int v1), .unset] [(.int (v1 &&& (32 : Int32)))])) t → Steps p.tables e below (s₁.setTop (entryFrame m #[(.int ix)] 2)) t := fun t k => pre31 t (by
      show Steps p.tables e below (s₁.setTop (mkF m 12 #[.val (.int v1), .unset] [])) _
      refine XS.iloadN X0.here hx rfl (hb hby d8_12) rfl ?_
      refine XS.bipush X0.here hx rfl (hb hby d8_13) ?_
      refine XS.iand X0.here hx rfl (hb hby d8_15) rfl ?_
      exact k)
    obtain ⟨fs, hr, hrun, hended, hW, hsame⟩ := X0.leave (v := some (.int (v1 &&& (32 : Int32)))) (fun h => by rw [Bd.returns] at h; cases h)
    refine ⟨_, _, pre32 _ ?_, hrun, hended, _, _, rfl, ?_, ⟨_, rfl⟩, hW, hsame.mono (by decide) (by decide)⟩
    · show Steps p.tables e below (s₁.setTop (mkF m 16 #[.val (.int v1), .unset] [(.int (v1 &&& (32 : Int32)))])) _
      exact Jvm.Own.retI X0 hx Bd.returns (hb hby d8_16) hr
    · show Q8 Z ix n0 Rst _ s₁.heap _
      rw [e0]
      exact ⟨(by subst hv1; simp only [F8, if_neg hb4]), N0, R0⟩
theorem d7_0 : decode jdk_35_method_49_code 0 = .ok (.lload_n 0, 1) := by decide +kernel
theorem d7_1 : decode jdk_35_method_49_code 1 = .ok (.l2i, 1) := by decide +kernel
theorem d7_2 : decode jdk_35_method_49_code 2 = .ok (.istore_n 2, 1) := by decide +kernel
theorem d7_3 : decode jdk_35_method_49_code 3 = .ok (.iload_n 2, 1) := by decide +kernel
theorem d7_4 : decode jdk_35_method_49_code 4 = .ok (.ifCond .ne 17, 3) := by decide +kernel
theorem d7_7 : decode jdk_35_method_49_code 7 = .ok (.bipush 32, 2) := by decide +kernel
theorem d7_9 : decode jdk_35_method_49_code 9 = .ok (.lload_n 0, 1) := by decide +kernel
theorem d7_10 : decode jdk_35_method_49_code 10 = .ok (.bipush 32, 2) := by decide +kernel
theorem d7_12 : decode jdk_35_method_49_code 12 = .ok (.lushr, 1) := by decide +kernel
theorem d7_13 : decode jdk_35_method_49_code 13 = .ok (.l2i, 1) := by decide +kernel
theorem d7_14 : decode jdk_35_method_49_code 14 = .ok (.invokestatic 311, 3) := by decide +kernel
theorem pd__28I_29I : parseMethodDescriptor "(I)I" = some ⟨[.int], some .int⟩ := by decide +kernel
theorem d7_17 : decode jdk_35_method_49_code 17 = .ok (.iadd, 1) := by decide +kernel
theorem d7_18 : decode jdk_35_method_49_code 18 = .ok (.goto 7, 3) := by decide +kernel
theorem d7_25 : decode jdk_35_method_49_code 25 = .ok (.ireturn, 1) := by decide +kernel
theorem d7_21 : decode jdk_35_method_49_code 21 = .ok (.iload_n 2, 1) := by decide +kernel
theorem d7_22 : decode jdk_35_method_49_code 22 = .ok (.invokestatic 311, 3) := by decide +kernel
theorem pn_java_lang_Long : plainName "java/lang/Long" = true := by first | (simp [plainName, overriddenIn]; done) | decide +kernel
theorem ef_7 (m : MethodId) (x0 : Int64) : entryFrame m #[(.long x0)] 3 = mkF m 0 #[.val (.long x0), .second, .unset] [] := by first | (simp [entryFrame, mkF, argsToLocals, Value.category]; done) | rfl
def F7 (jx : Int64) : Int32 :=
  if (jx.toInt32) = (0 : Int32) then
    ((32 : Int32) + (F8 ((lushr jx (32 : Int32)).toInt32)))
  else
    (F8 (jx.toInt32))
def Q7 (Z : State) (jx : Int64) (n0 : Nat) (Rst : RL) (v : Option Value) (h : Heap) (L : List Loc) : Prop := v = some (.int (F7 jx)) ∧ Fr n0 L ∧ Rep Z n0 h (Rst)
set_option maxRecDepth 65536 in
set_option maxHeartbeats 40000000 in
theorem rm7 (l : Launch) (Z : State) (a0 : Array Value) (hw : ∀ d ∈ tables_1, d.before a0 Z = true) (ws : List Jvm.Cond) (jx : Int64) (h0 : Heap) (n0 : Nat) (Rst : RL) (R0 : Rep Z n0 h0 (Rst)) :
    MetFree l (⟨"java/lang/Long", "numberOfTrailingZeros", "(J)I"⟩ : MethodName) (head1 (Jvm.Cond.code (⟨"java/lang/Long", "numberOfTrailingZeros", "(J)I"⟩ : MethodName) jdk_35_method_49_code 3 (some .int) :: ws) ({ frames := 1, cells := 0, slots := 0, locals := 14 } : Room)) (fun a U => a = #[(.long jx)] ∧ Z.Warmed39 U.vm ∧ U.heap = h0) (fun _ _ _ _ _ => True) (fun _ U o U' => ∃ v L, o = .returned v ∧ Q7 Z jx n0 Rst v U'.heap L ∧ FrameEnd U o U' L ({ frames := 1, cells := 0, slots := 0, locals := 14 } : Room).cells ({ frames := 1, cells := 0, slots := 0, locals := 14 } : Room).slots) := by
  refine MetFree.of_bodySF (plainFor_of_name pn_java_lang_Long) hisR ?_
  intro p e s m args below meth c s₁ Bd hml0 hP hK
  obtain ⟨rfl, hZ, hh⟩ := hP
  have hx := Bd.exec
  have hby := Bd.bytes
  have hml : c.maxLocals = 3 := hml0
  have hown : s.vm.findClass "java/lang/Long" = some m.cls := findClass_of_methodNamed Bd.named
  have hnm := (name_of_methodNamed Bd.named Bd.method).1
  have X0 : Stand p l e ({ frames := 1, cells := 0, slots := 0, locals := 14 } : Room) s m #[(.long jx)] below meth c s₁ [] 0 0 := Stand.of_body Bd
  have e0 : s₁.heap = h0 := by rw [← hh, Bd.state]; rfl
  have N0 := Fr.nil n0
  have pre0 : ∀ t, Steps p.tables e below (s₁.setTop (mkF m 0 #[.val (.long jx), .second, .unset] [])) t → Steps p.tables e below (s₁.setTop (entryFrame m #[(.long jx)] 3)) t := fun t k => castTop (ef_7 m jx) k
  have pre2 : ∀ t, Steps p.tables e below (s₁.setTop (mkF m 4 #[.val (.long jx), .second, .val (.int (jx.toInt32))] [(.int (jx.toInt32))])) t → Steps p.tables e below (s₁.setTop (entryFrame m #[(.long jx)] 3)) t := fun t k => pre0 t (by
    show Steps p.tables e below (s₁.setTop (mkF m 0 #[.val (.long jx), .second, .unset] [])) _
    refine XS.lloadN X0.here hx rfl (hb hby d7_0) rfl ?_
    refine XS.l2i X0.here hx rfl (hb hby d7_1) rfl ?_
    refine XS.istoreN X0.here hx rfl (hb hby d7_2) rfl (l' := #[.val (.long jx), .second, .val (.int (jx.toInt32))]) rfl ?_
    refine XS.iloadN X0.here hx rfl (hb hby d7_3) rfl ?_
    exact k)
  by_cases hb4 : (jx.toInt32) = (0 : Int32)
  · have pre5 : ∀ t, Steps p.tables e below (s₁.setTop (mkF m 7 #[.val (.long jx), .second, .val (.int (jx.toInt32))] [])) t → Steps p.tables e below (s₁.setTop (entryFrame m #[(.long jx)] 3)) t := fun t k => pre2 t (by show Steps p.tables e below (s₁.setTop (mkF m 4 #[.val (.long jx), .second, .val (.int (jx.toInt32))] [(.int (jx.toInt32))])) _; refine XS.ifNo X0.here hx rfl (hb hby d7_4) rfl ((if0 _ _).trans (teq hb4).2) ?_; exact k)
    have pre6 : ∀ t, Steps p.tables e below (s₁.setTop (mkF m 14 #[.val (.long jx), .second, .val (.int (jx.toInt32))] [(.int ((lushr jx (32 : Int32)).toInt32)), (.int (32 : Int32))])) t → Steps p.tables e below (s₁.setTop (entryFrame m #[(.long jx)] 3)) t := fun t k => pre5 t (by
      show Steps p.tables e below (s₁.setTop (mkF m 7 #[.val (.long jx), .second, .val (.int (jx.toInt32))] [])) _
      refine XS.bipush X0.here hx rfl (hb hby d7_7) ?_
      refine XS.lloadN X0.here hx rfl (hb hby d7_9) rfl ?_
      refine XS.bipush X0.here hx rfl (hb hby d7_10) ?_
      refine XS.lushr X0.here hx rfl (hb hby d7_12) rfl ?_
      refine XS.l2i X0.here hx rfl (hb hby d7_13) rfl ?_
      exact k)
    obtain ⟨_, _, ⟨T7, L7, k7, n7⟩, -, X7, ⟨Lc7, hQ7, l7, y7, z7⟩, st7⟩ := Jvm.LawKit.callS X0 hx (y := (⟨"java/lang/Integer", "numberOfTrailingZeros", "(I)I"⟩ : MethodName)) hown (mvT hZ (hw _ (List.mem_of_getElem? (i := 40) rfl))) (mvT hZ (hw _ (List.mem_of_getElem? (i := 41) rfl))) (mvT hZ (hw _ (List.mem_of_getElem? (i := 42) rfl))) (mvT hZ (hw _ (List.mem_of_getElem? (i := 43) rfl))) (by decide) (backOf (W := 1) (rm8 l Z a0 hw [] ((lushr jx (32 : Int32)).toInt32)  h0 n0 _ R0 ) hZ (hw _ (List.mem_of_getElem? (i := 43) rfl)) (hw _ (List.mem_of_getElem? (i := 42) rfl)) (by decide) (by decide)) (g := (mkF m 14 #[.val (.long jx), .second, .val (.int (jx.toInt32))] [(.int ((lushr jx (32 : Int32)).toInt32)), (.int (32 : Int32))])) rfl (by rw [hml]; rfl) (argsL := [(.int ((lushr jx (32 : Int32)).toInt32))]) (rest := [(.int (32 : Int32))]) (lenOf pd__28I_29I rfl) rfl (by show 2 * 0 + _ ≤ _; exact Nat.le_of_eq rfl) (hb hby d7_14) (fun _ _ => ⟨rfl, e0, (by decide : 0 + 0 ≤ _), (by decide : 0 + 0 ≤ _)⟩)
    dsimp only [Pt.U, Pt.locs, Pt.cells, Pt.slots] at X7 l7 y7 z7 st7 hQ7
    subst y7 z7
    obtain ⟨rfl, N7q, R7⟩ := hQ7
    have N7 : Fr n0 L7 := by rw [l7]; exact Fr.app N0 N7q
    replace R7 : Rep Z n0 T7.heap (Rst) := R7
    have pre8 : ∀ t, Steps p.tables e below (T7.setTop (mkF m 17 #[.val (.long jx), .second, .val (.int (jx.toInt32))] [(.int (F8 ((lushr jx (32 : Int32)).toInt32))), (.int (32 : Int32))])) t → Steps p.tables e below (s₁.setTop (entryFrame m #[(.long jx)] 3)) t := fun t k => pre6 t (st7 t k)
    have pre9 : ∀ t, Steps p.tables e below (T7.setTop (mkF m 25 #[.val (.long jx), .second, .val (.int (jx.toInt32))] [(.int ((32 : Int32) + (F8 ((lushr jx (32 : Int32)).toInt32))))])) t → Steps p.tables e below (s₁.setTop (entryFrame m #[(.long jx)] 3)) t := fun t k => pre8 t (by
      show Steps p.tables e below (T7.setTop (mkF m 17 #[.val (.long jx), .second, .val (.int (jx.toInt32))] [(.int (F8 ((lushr jx (32 : Int32)).toInt32))), (.int (32 : Int32))])) _
      refine XS.iadd X7.here hx rfl (hb hby d7_17) rfl ?_
      refine XS.goto X7.here hx rfl (pc0 := 18) (pc' := 25) rfl (hb hby d7_18) (by decide) (by decide) ?_
      exact k)
    obtain ⟨fs, hr, hrun, hended, hW, hsame⟩ := X7.leave (v := some (.int ((32 : Int32) + (F8 ((lushr jx (32 : Int32)).toInt32))))) (fun h => by rw [Bd.returns] at h; cases h)
    refine ⟨_, _, pre9 _ ?_, hrun, hended, _, _, rfl, ?_, ⟨_, rfl⟩, hW, hsame.mono (by decide) (by decide)⟩
    · show Steps p.tables e below (T7.setTop (mkF m 25 #[.val (.long jx), .second, .val (.int (jx.toInt32))] [(.int ((32 : Int32) + (F8 ((lushr jx (32 : Int32)).toInt32))))])) _
      exact Jvm.Own.retI X7 hx Bd.returns (hb hby d7_25) hr
    · show Q7 Z jx n0 Rst _ T7.heap _
      exact ⟨(by simp only [F7, if_pos hb4]), N7, R7⟩
  · have pre10 : ∀ t, Steps p.tables e below (s₁.setTop (mkF m 21 #[.val (.long jx), .second, .val (.int (jx.toInt32))] [])) t → Steps p.tables e below (s₁.setTop (entryFrame m #[(.long jx)] 3)) t := fun t k => pre2 t (by show Steps p.tables e below (s₁.setTop (mkF m 4 #[.val (.long jx), .second, .val (.int (jx.toInt32))] [(.int (jx.toInt32))])) _; refine XS.ifYes X0.here hx rfl (pc0 := 4) (pc' := 21) rfl (hb hby d7_4) rfl ((if0 _ _).trans (feq hb4).2) (by decide) (by decide) ?_; exact k)
    have pre11 : ∀ t, Steps p.tables e below (s₁.setTop (mkF m 22 #[.val (.long jx), .second, .val (.int (jx.toInt32))] [(.int (jx.toInt32))])) t → Steps p.tables e below (s₁.setTop (entryFrame m #[(.long jx)] 3)) t := fun t k => pre10 t (by
      show Steps p.tables e below (s₁.setTop (mkF m 21 #[.val (.long jx), .second, .val (.int (jx.toInt32))] [])) _
      refine XS.iloadN X0.here hx rfl (hb hby d7_21) rfl ?_
      exact k)
    obtain ⟨_, _, ⟨T12, L12, k12, n12⟩, -, X12, ⟨Lc12, hQ12, l12, y12, z12⟩, st12⟩ := Jvm.LawKit.callS X0 hx (y := (⟨"java/lang/Integer", "numberOfTrailingZeros", "(I)I"⟩ : MethodName)) hown (mvT hZ (hw _ (List.mem_of_getElem? (i := 40) rfl))) (mvT hZ (hw _ (List.mem_of_getElem? (i := 41) rfl))) (mvT hZ (hw _ (List.mem_of_getElem? (i := 42) rfl))) (mvT hZ (hw _ (List.mem_of_getElem? (i := 43) rfl))) (by decide) (backOf (W := 0) (rm8 l Z a0 hw [] (jx.toInt32)  h0 n0 _ R0 ) hZ (hw _ (List.mem_of_getElem? (i := 43) rfl)) (hw _ (List.mem_of_getElem? (i := 42) rfl)) (by decide) (by decide)) (g := (mkF m 22 #[.val (.long jx), .second, .val (.int (jx.toInt32))] [(.int (jx.toInt32))])) rfl (by rw [hml]; rfl) (argsL := [(.int (jx.toInt32))]) (rest := []) (lenOf pd__28I_29I rfl) rfl (by show 2 * 0 + _ ≤ _; exact Nat.le_of_eq rfl) (hb hby d7_22) (fun _ _ => ⟨rfl, e0, (by decide : 0 + 0 ≤ _), (by decide : 0 + 0 ≤ _)⟩)
    dsimp only [Pt.U, Pt.locs, Pt.cells, Pt.slots] at X12 l12 y12 z12 st12 hQ12
    subst y12 z12
    obtain ⟨rfl, N12q, R12⟩ := hQ12
    have N12 : Fr n0 L12 := by rw [l12]; exact Fr.app N0 N12q
    replace R12 : Rep Z n0 T12.heap (Rst) := R12
    have pre13 : ∀ t, Steps p.tables e below (T12.setTop (mkF m 25 #[.val (.long jx), .second, .val (.int (jx.toInt32))] [(.int (F8 (jx.toInt32)))])) t → Steps p.tables e below (s₁.setTop (entryFrame m #[(.long jx)] 3)) t := fun t k => pre11 t (st12 t k)
    obtain ⟨fs, hr, hrun, hended, hW, hsame⟩ := X12.leave (v := some (.int (F8 (jx.toInt32)))) (fun h => by rw [Bd.returns] at h; cases h)
    refine ⟨_, _, pre13 _ ?_, hrun, hended, _, _, rfl, ?_, ⟨_, rfl⟩, hW, hsame.mono (by decide) (by decide)⟩
    · show Steps p.tables e below (T12.setTop (mkF m 25 #[.val (.long jx), .second, .val (.int (jx.toInt32))] [(.int (F8 (jx.toInt32)))])) _
      exact Jvm.Own.retI X12 hx Bd.returns (hb hby d7_25) hr
    · show Q7 Z jx n0 Rst _ T12.heap _
      exact ⟨(by simp only [F7, if_neg hb4]), N12, R12⟩
theorem d4_0 : decode prog_33_method_1_code 0 = .ok (.aload_n 0, 1) := by decide +kernel
theorem d4_1 : decode prog_33_method_1_code 1 = .ok (.invokespecial 1, 3) := by decide +kernel
theorem d4_4 : decode prog_33_method_1_code 4 = .ok (.aload_n 1, 1) := by decide +kernel
theorem d4_5 : decode prog_33_method_1_code 5 = .ok (.invokevirtual 7, 3) := by decide +kernel
theorem pd__28_29J : parseMethodDescriptor "()J" = some ⟨[], some .long⟩ := by decide +kernel
theorem d4_8 : decode prog_33_method_1_code 8 = .ok (.aload_n 1, 1) := by decide +kernel
theorem d4_9 : decode prog_33_method_1_code 9 = .ok (.invokevirtual 13, 3) := by decide +kernel
theorem d4_12 : decode prog_33_method_1_code 12 = .ok (.lsub, 1) := by decide +kernel
theorem d4_13 : decode prog_33_method_1_code 13 = .ok (.invokestatic 16, 3) := by decide +kernel
theorem pd__28J_29I : parseMethodDescriptor "(J)I" = some ⟨[.long], some .int⟩ := by decide +kernel
theorem d4_16 : decode prog_33_method_1_code 16 = .ok (.istore 4, 2) := by decide +kernel
theorem d4_18 : decode prog_33_method_1_code 18 = .ok (.aload_n 0, 1) := by decide +kernel
theorem d4_19 : decode prog_33_method_1_code 19 = .ok (.aload_n 1, 1) := by decide +kernel
theorem d4_20 : decode prog_33_method_1_code 20 = .ok (.invokevirtual 13, 3) := by decide +kernel
theorem d4_23 : decode prog_33_method_1_code 23 = .ok (.iload 4, 2) := by decide +kernel
theorem d4_25 : decode prog_33_method_1_code 25 = .ok (.lushr, 1) := by decide +kernel
theorem d4_26 : decode prog_33_method_1_code 26 = .ok (.putfield 22, 3) := by decide +kernel
theorem d4_29 : decode prog_33_method_1_code 29 = .ok (.aload_n 0, 1) := by decide +kernel
theorem d4_30 : decode prog_33_method_1_code 30 = .ok (.lload_n 2, 1) := by decide +kernel
theorem d4_31 : decode prog_33_method_1_code 31 = .ok (.lconst 1, 1) := by decide +kernel
theorem d4_32 : decode prog_33_method_1_code 32 = .ok (.lsub, 1) := by decide +kernel
theorem d4_33 : decode prog_33_method_1_code 33 = .ok (.iload 4, 2) := by decide +kernel
theorem d4_35 : decode prog_33_method_1_code 35 = .ok (.lushr, 1) := by decide +kernel
theorem d4_36 : decode prog_33_method_1_code 36 = .ok (.putfield 28, 3) := by decide +kernel
theorem d4_39 : decode prog_33_method_1_code 39 = .ok (.return_, 1) := by decide +kernel
theorem pn_com_example_gapless_log_gaplesslog_tree_Ascent : plainName "com/example/gapless_log/gaplesslog/tree/Ascent" = true := by first | (simp [plainName, overriddenIn]; done) | decide +kernel
theorem ef_4 (m : MethodId) (x0 : Addr) (x1 : Addr) (x2 : Int64) : entryFrame m #[(.ref x0), (.ref x1), (.long x2)] 5 = mkF m 0 #[.val (.ref x0), .val (.ref x1), .val (.long x2), .second, .unset] [] := by first | (simp [entryFrame, mkF, argsToLocals, Value.category]; done) | rfl
def Q4 (Z : State) (ax : Addr) (bx : Addr) (nx : Int64) (u1 : Value) (u2 : Value) (sv : Int64) (ev : Int64) (n0 : Nat) (Rst : RL) (v : Option Value) (h : Heap) (L : List Loc) : Prop := v = none ∧ Fr n0 L ∧ Rep Z n0 h ((ax, Obj "com/example/gapless_log/gaplesslog/tree/Ascent" [("node", "J", (.long (lushr sv (F7 (ev - sv))))), ("last", "J", (.long (lushr (nx - (1 : Int64)) (F7 (ev - sv)))))]) :: (bx, Obj "com/example/gapless_log/gaplesslog/tree/Subtree" [("start", "J", (.long sv)), ("end", "J", (.long ev))]) :: Rst)
set_option maxRecDepth 65536 in
set_option maxHeartbeats 40000000 in
theorem rm4 (l : Launch) (Z : State) (a0 : Array Value) (hw : ∀ d ∈ tables_1, d.before a0 Z = true) (ws : List Jvm.Cond) (ax : Addr) (bx : Addr) (nx : Int64) (u1 : Value) (u2 : Value) (sv : Int64) (ev : Int64) (h0 : Heap) (n0 : Nat) (Rst : RL) (R0 : Rep Z n0 h0 ((ax, Obj "com/example/gapless_log/gaplesslog/tree/Ascent" [("node", "J", u1), ("last", "J", u2)]) :: (bx, Obj "com/example/gapless_log/gaplesslog/tree/Subtree" [("start", "J", (.long sv)), ("end", "J", (.long ev))]) :: Rst)) :
    MetFree l (⟨"com/example/gapless_log/gaplesslog/tree/Ascent", "<init>", "(Lcom/example/gapless_log/gaplesslog/tree/Subtree;J)V"⟩ : MethodName) (head1 (Jvm.Cond.code (⟨"com/example/gapless_log/gaplesslog/tree/Ascent", "<init>", "(Lcom/example/gapless_log/gaplesslog/tree/Subtree;J)V"⟩ : MethodName) prog_33_method_1_code 5 none :: ws) ({ frames := 2, cells := 0, slots := 0, locals := 28 } : Room)) (fun a U => a = #[(.ref ax), (.ref bx), (.long nx)] ∧ Z.Warmed39 U.vm ∧ U.heap = h0) (fun _ _ _ _ _ => True) (fun _ U o U' => ∃ v L, o = .returned v ∧ Q4 Z ax bx nx u1 u2 sv ev n0 Rst v U'.heap L ∧ FrameEnd U o U' L ({ frames := 2, cells := 0, slots := 0, locals := 28 } : Room).cells ({ frames := 2, cells := 0, slots := 0, locals := 28 } : Room).slots) := by
  refine MetFree.of_bodySF (plainFor_of_name pn_com_example_gapless_log_gaplesslog_tree_Ascent) hisR ?_
  intro p e s m args below meth c s₁ Bd hml0 hP hK
  obtain ⟨rfl, hZ, hh⟩ := hP
  have hx := Bd.exec
  have hby := Bd.bytes
  have hml : c.maxLocals = 5 := hml0
  have hown : s.vm.findClass "com/example/gapless_log/gaplesslog/tree/Ascent" = some m.cls := findClass_of_methodNamed Bd.named
  have hnm := (name_of_methodNamed Bd.named Bd.method).1
  have X0 : Stand p l e ({ frames := 2, cells := 0, slots := 0, locals := 28 } : Room) s m #[(.ref ax), (.ref bx), (.long nx)] below meth c s₁ [] 0 0 := Stand.of_body Bd
  have e0 : s₁.heap = h0 := by rw [← hh, Bd.state]; rfl
  have N0 := Fr.nil n0
  have pre0 : ∀ t, Steps p.tables e below (s₁.setTop (mkF m 0 #[.val (.ref ax), .val (.ref bx), .val (.long nx), .second, .unset] [])) t → Steps p.tables e below (s₁.setTop (entryFrame m #[(.ref ax), (.ref bx), (.long nx)] 5)) t := fun t k => castTop (ef_4 m ax bx nx) k
  have pre1 : ∀ t, Steps p.tables e below (s₁.setTop (mkF m 1 #[.val (.ref ax), .val (.ref bx), .val (.long nx), .second, .unset] [(.ref ax)])) t → Steps p.tables e below (s₁.setTop (entryFrame m #[(.ref ax), (.ref bx), (.long nx)] 5)) t := fun t k => pre0 t (by
    show Steps p.tables e below (s₁.setTop (mkF m 0 #[.val (.ref ax), .val (.ref bx), .val (.long nx), .second, .unset] [])) _
    refine XS.aloadN X0.here hx rfl (hb hby d4_0) rfl rfl ?_
    exact k)
  obtain ⟨T2, X2, e2, st2⟩ := initO X0 hx hZ hown (hw _ (List.mem_of_getElem? (i := 25) rfl)) (hw _ (List.mem_of_getElem? (i := 16) rfl)) (hw _ (List.mem_of_getElem? (i := 17) rfl)) e0 (g := (mkF m 1 #[.val (.ref ax), .val (.ref bx), .val (.long nx), .second, .unset] [(.ref ax)])) rfl (by rw [hml]; rfl) rfl (hb hby d4_1) (by decide) (W := 0) (by show 2 * 0 + _ ≤ _; exact Nat.le_of_eq rfl) (by decide)
  have pre3 : ∀ t, Steps p.tables e below (T2.setTop (mkF m 4 #[.val (.ref ax), .val (.ref bx), .val (.long nx), .second, .unset] [])) t → Steps p.tables e below (s₁.setTop (entryFrame m #[(.ref ax), (.ref bx), (.long nx)] 5)) t := fun t k => pre1 t (st2 t k)
  have pre4 : ∀ t, Steps p.tables e below (T2.setTop (mkF m 5 #[.val (.ref ax), .val (.ref bx), .val (.long nx), .second, .unset] [(.ref bx)])) t → Steps p.tables e below (s₁.setTop (entryFrame m #[(.ref ax), (.ref bx), (.long nx)] 5)) t := fun t k => pre3 t (by
    show Steps p.tables e below (T2.setTop (mkF m 4 #[.val (.ref ax), .val (.ref bx), .val (.long nx), .second, .unset] [])) _
    refine XS.aloadN X2.here hx rfl (hb hby d4_4) rfl rfl ?_
    exact k)
  have R6 : Rep Z n0 h0 ((bx, Obj "com/example/gapless_log/gaplesslog/tree/Subtree" [("start", "J", (.long sv)), ("end", "J", (.long ev))]) :: (ax, Obj "com/example/gapless_log/gaplesslog/tree/Ascent" [("node", "J", u1), ("last", "J", u2)]) :: Rst) := R0.front 1 rfl rfl
  obtain ⟨cq5, kq5, q5a, q5b, q5c⟩ := isOf hZ e2 (R6.exa (i := 0) rfl)
  obtain ⟨_, _, ⟨T5, L5, k5, n5⟩, -, X5, ⟨Lc5, hQ5, l5, y5, z5⟩, st5⟩ := X2.virtualBack hx (y := (⟨"com/example/gapless_log/gaplesslog/tree/Subtree", "end", "()J"⟩ : MethodName)) (z := (⟨"com/example/gapless_log/gaplesslog/tree/Subtree", "end", "()J"⟩ : MethodName)) hown (mvT hZ (hw _ (List.mem_of_getElem? (i := 26) rfl))) (mvT hZ (hw _ (List.mem_of_getElem? (i := 27) rfl))) (notFace_of_selects (args := #[]) (mvT hZ (hw _ (List.mem_of_getElem? (i := 29) rfl)))) (mvT hZ (hw _ (List.mem_of_getElem? (i := 29) rfl))) (mvT hZ (hw _ (List.mem_of_getElem? (i := 28) rfl))) (by decide) (backOf (W := 0) (rm5 l Z a0 hw [] bx _ _ h0 n0 _ R6 ) hZ (hw _ (List.mem_of_getElem? (i := 30) rfl)) (hw _ (List.mem_of_getElem? (i := 6) rfl)) (by decide) (by decide)) q5a q5c (g := (mkF m 5 #[.val (.ref ax), .val (.ref bx), .val (.long nx), .second, .unset] [(.ref bx)])) rfl (by rw [hml]; rfl) (Steps.refl _) (argsL := []) (rest := []) (lenOf pd__28_29J rfl) rfl (by show 2 * 0 + _ ≤ _; exact Nat.le_of_eq rfl) (hb hby d4_5) (fun _ _ => ⟨rfl, e2, (by decide : 0 + 0 ≤ _), (by decide : 0 + 0 ≤ _)⟩)
  dsimp only [Pt.U, Pt.locs, Pt.cells, Pt.slots] at X5 l5 y5 z5 st5 hQ5
  subst y5 z5
  obtain ⟨rfl, N5q, R5⟩ := hQ5
  have N5 : Fr n0 L5 := by rw [l5]; exact Fr.app N0 N5q
  replace R5 : Rep Z n0 T5.heap ((bx, Obj "com/example/gapless_log/gaplesslog/tree/Subtree" [("start", "J", (.long sv)), ("end", "J", (.long ev))]) :: (ax, Obj "com/example/gapless_log/gaplesslog/tree/Ascent" [("node", "J", u1), ("last", "J", u2)]) :: Rst) := R5
  have pre7 : ∀ t, Steps p.tables e below (T5.setTop (mkF m 8 #[.val (.ref ax), .val (.ref bx), .val (.long nx), .second, .unset] [(.long ev)])) t → Steps p.tables e below (s₁.setTop (entryFrame m #[(.ref ax), (.ref bx), (.long nx)] 5)) t := fun t k => pre4 t (st5.trans k)
  have pre8 : ∀ t, Steps p.tables e below (T5.setTop (mkF m 9 #[.val (.ref ax), .val (.ref bx), .val (.long nx), .second, .unset] [(.ref bx), (.long ev)])) t → Steps p.tables e below (s₁.setTop (entryFrame m #[(.ref ax), (.ref bx), (.long nx)] 5)) t := fun t k => pre7 t (by
    show Steps p.tables e below (T5.setTop (mkF m 8 #[.val (.ref ax), .val (.ref bx), .val (.long nx), .second, .unset] [(.long ev)])) _
    refine XS.aloadN X5.here hx rfl (hb hby d4_8) rfl rfl ?_
    exact k)
  obtain ⟨cq9, kq9, q9a, q9b, q9c⟩ := isOf hZ rfl (R5.exa (i := 0) rfl)
  obtain ⟨_, _, ⟨T9, L9, k9, n9⟩, -, X9, ⟨Lc9, hQ9, l9, y9, z9⟩, st9⟩ := X5.virtualBack hx (y := (⟨"com/example/gapless_log/gaplesslog/tree/Subtree", "start", "()J"⟩ : MethodName)) (z := (⟨"com/example/gapless_log/gaplesslog/tree/Subtree", "start", "()J"⟩ : MethodName)) hown (mvT hZ (hw _ (List.mem_of_getElem? (i := 31) rfl))) (mvT hZ (hw _ (List.mem_of_getElem? (i := 32) rfl))) (notFace_of_selects (args := #[]) (mvT hZ (hw _ (List.mem_of_getElem? (i := 34) rfl)))) (mvT hZ (hw _ (List.mem_of_getElem? (i := 34) rfl))) (mvT hZ (hw _ (List.mem_of_getElem? (i := 33) rfl))) (by decide) (backOf (W := 2) (rm6 l Z a0 hw [] bx _ _ T5.heap n0 _ R5 ) hZ (hw _ (List.mem_of_getElem? (i := 35) rfl)) (hw _ (List.mem_of_getElem? (i := 6) rfl)) (by decide) (by decide)) q9a q9c (g := (mkF m 9 #[.val (.ref ax), .val (.ref bx), .val (.long nx), .second, .unset] [(.ref bx), (.long ev)])) rfl (by rw [hml]; rfl) (Steps.refl _) (argsL := []) (rest := [(.long ev)]) (lenOf pd__28_29J rfl) rfl (by show 2 * 0 + _ ≤ _; exact Nat.le_of_eq rfl) (hb hby d4_9) (fun _ _ => ⟨rfl, rfl, (by decide : 0 + 0 ≤ _), (by decide : 0 + 0 ≤ _)⟩)
  dsimp only [Pt.U, Pt.locs, Pt.cells, Pt.slots] at X9 l9 y9 z9 st9 hQ9
  subst y9 z9
  obtain ⟨rfl, N9q, R9⟩ := hQ9
  have N9 : Fr n0 L9 := by rw [l9]; exact Fr.app N5 N9q
  replace R9 : Rep Z n0 T9.heap ((bx, Obj "com/example/gapless_log/gaplesslog/tree/Subtree" [("start", "J", (.long sv)), ("end", "J", (.long ev))]) :: (ax, Obj "com/example/gapless_log/gaplesslog/tree/Ascent" [("node", "J", u1), ("last", "J", u2)]) :: Rst) := R9
  have pre10 : ∀ t, Steps p.tables e below (T9.setTop (mkF m 12 #[.val (.ref ax), .val (.ref bx), .val (.long nx), .second, .unset] [(.long sv), (.long ev)])) t → Steps p.tables e below (s₁.setTop (entryFrame m #[(.ref ax), (.ref bx), (.long nx)] 5)) t := fun t k => pre8 t (st9.trans k)
  have pre11 : ∀ t, Steps p.tables e below (T9.setTop (mkF m 13 #[.val (.ref ax), .val (.ref bx), .val (.long nx), .second, .unset] [(.long (ev - sv))])) t → Steps p.tables e below (s₁.setTop (entryFrame m #[(.ref ax), (.ref bx), (.long nx)] 5)) t := fun t k => pre10 t (by
    show Steps p.tables e below (T9.setTop (mkF m 12 #[.val (.ref ax), .val (.ref bx), .val (.long nx), .second, .unset] [(.long sv), (.long ev)])) _
    refine XS.lsub X9.here hx rfl (hb hby d4_12) rfl ?_
    exact k)
  obtain ⟨_, _, ⟨T12, L12, k12, n12⟩, -, X12, ⟨Lc12, hQ12, l12, y12, z12⟩, st12⟩ := Jvm.LawKit.callS X9 hx (y := (⟨"java/lang/Long", "numberOfTrailingZeros", "(J)I"⟩ : MethodName)) hown (mvT hZ (hw _ (List.mem_of_getElem? (i := 36) rfl))) (mvT hZ (hw _ (List.mem_of_getElem? (i := 37) rfl))) (mvT hZ (hw _ (List.mem_of_getElem? (i := 38) rfl))) (mvT hZ (hw _ (List.mem_of_getElem? (i := 39) rfl))) (by decide) (backOf (W := 0) (rm7 l Z a0 hw [] (ev - sv)  T9.heap n0 _ R9 ) hZ (hw _ (List.mem_of_getElem? (i := 39) rfl)) (hw _ (List.mem_of_getElem? (i := 38) rfl)) (by decide) (by decide)) (g := (mkF m 13 #[.val (.ref ax), .val (.ref bx), .val (.long nx), .second, .unset] [(.long (ev - sv))])) rfl (by rw [hml]; rfl) (argsL := [(.long (ev - sv))]) (rest := []) (lenOf pd__28J_29I rfl) rfl (by show 2 * 0 + _ ≤ _; exact Nat.le_of_eq rfl) (hb hby d4_13) (fun _ _ => ⟨rfl, rfl, (by decide : 0 + 0 ≤ _), (by decide : 0 + 0 ≤ _)⟩)
  dsimp only [Pt.U, Pt.locs, Pt.cells, Pt.slots] at X12 l12 y12 z12 st12 hQ12
  subst y12 z12
  obtain ⟨rfl, N12q, R12⟩ := hQ12
  have N12 : Fr n0 L12 := by rw [l12]; exact Fr.app N9 N12q
  replace R12 : Rep Z n0 T12.heap ((bx, Obj "com/example/gapless_log/gaplesslog/tree/Subtree" [("start", "J", (.long sv)), ("end", "J", (.long ev))]) :: (ax, Obj "com/example/gapless_log/gaplesslog/tree/Ascent" [("node", "J", u1), ("last", "J", u2)]) :: Rst) := R12
  have pre13 : ∀ t, Steps p.tables e below (T12.setTop (mkF m 16 #[.val (.ref ax), .val (.ref bx), .val (.long nx), .second, .unset] [(.int (F7 (ev - sv)))])) t → Steps p.tables e below (s₁.setTop (entryFrame m #[(.ref ax), (.ref bx), (.long nx)] 5)) t := fun t k => pre11 t (st12 t k)
  have pre14 : ∀ t, Steps p.tables e below (T12.setTop (mkF m 20 #[.val (.ref ax), .val (.ref bx), .val (.long nx), .second, .val (.int (F7 (ev - sv)))] [(.ref bx), (.ref ax)])) t → Steps p.tables e below (s₁.setTop (entryFrame m #[(.ref ax), (.ref bx), (.long nx)] 5)) t := fun t k => pre13 t (by
    show Steps p.tables e below (T12.setTop (mkF m 16 #[.val (.ref ax), .val (.ref bx), .val (.long nx), .second, .unset] [(.int (F7 (ev - sv)))])) _
    refine XS.istore X12.here hx rfl (hb hby d4_16) rfl (l' := #[.val (.ref ax), .val (.ref bx), .val (.long nx), .second, .val (.int (F7 (ev - sv)))]) rfl ?_
    refine XS.aloadN X12.here hx rfl (hb hby d4_18) rfl rfl ?_
    refine XS.aloadN X12.here hx rfl (hb hby d4_19) rfl rfl ?_
    exact k)
  obtain ⟨cq15, kq15, q15a, q15b, q15c⟩ := isOf hZ rfl (R12.exa (i := 0) rfl)
  obtain ⟨_, _, ⟨T15, L15, k15, n15⟩, -, X15, ⟨Lc15, hQ15, l15, y15, z15⟩, st15⟩ := X12.virtualBack hx (y := (⟨"com/example/gapless_log/gaplesslog/tree/Subtree", "start", "()J"⟩ : MethodName)) (z := (⟨"com/example/gapless_log/gaplesslog/tree/Subtree", "start", "()J"⟩ : MethodName)) hown (mvT hZ (hw _ (List.mem_of_getElem? (i := 31) rfl))) (mvT hZ (hw _ (List.mem_of_getElem? (i := 32) rfl))) (notFace_of_selects (args := #[]) (mvT hZ (hw _ (List.mem_of_getElem? (i := 34) rfl)))) (mvT hZ (hw _ (List.mem_of_getElem? (i := 34) rfl))) (mvT hZ (hw _ (List.mem_of_getElem? (i := 33) rfl))) (by decide) (backOf (W := 1) (rm6 l Z a0 hw [] bx _ _ T12.heap n0 _ R12 ) hZ (hw _ (List.mem_of_getElem? (i := 35) rfl)) (hw _ (List.mem_of_getElem? (i := 6) rfl)) (by decide) (by decide)) q15a q15c (g := (mkF m 20 #[.val (.ref ax), .val (.ref bx), .val (.long nx), .second, .val (.int (F7 (ev - sv)))] [(.ref bx), (.ref ax)])) rfl (by rw [hml]; rfl) (Steps.refl _) (argsL := []) (rest := [(.ref ax)]) (lenOf pd__28_29J rfl) rfl (by show 2 * 0 + _ ≤ _; exact Nat.le_of_eq rfl) (hb hby d4_20) (fun _ _ => ⟨rfl, rfl, (by decide : 0 + 0 ≤ _), (by decide : 0 + 0 ≤ _)⟩)
  dsimp only [Pt.U, Pt.locs, Pt.cells, Pt.slots] at X15 l15 y15 z15 st15 hQ15
  subst y15 z15
  obtain ⟨rfl, N15q, R15⟩ := hQ15
  have N15 : Fr n0 L15 := by rw [l15]; exact Fr.app N12 N15q
  replace R15 : Rep Z n0 T15.heap ((bx, Obj "com/example/gapless_log/gaplesslog/tree/Subtree" [("start", "J", (.long sv)), ("end", "J", (.long ev))]) :: (ax, Obj "com/example/gapless_log/gaplesslog/tree/Ascent" [("node", "J", u1), ("last", "J", u2)]) :: Rst) := R15
  have pre16 : ∀ t, Steps p.tables e below (T15.setTop (mkF m 23 #[.val (.ref ax), .val (.ref bx), .val (.long nx), .second, .val (.int (F7 (ev - sv)))] [(.long sv), (.ref ax)])) t → Steps p.tables e below (s₁.setTop (entryFrame m #[(.ref ax), (.ref bx), (.long nx)] 5)) t := fun t k => pre14 t (st15.trans k)
  have pre17 : ∀ t, Steps p.tables e below (T15.setTop (mkF m 26 #[.val (.ref ax), .val (.ref bx), .val (.long nx), .second, .val (.int (F7 (ev - sv)))] [(.long (lushr sv (F7 (ev - sv)))), (.ref ax)])) t → Steps p.tables e below (s₁.setTop (entryFrame m #[(.ref ax), (.ref bx), (.long nx)] 5)) t := fun t k => pre16 t (by
    show Steps p.tables e below (T15.setTop (mkF m 23 #[.val (.ref ax), .val (.ref bx), .val (.long nx), .second, .val (.int (F7 (ev - sv)))] [(.long sv), (.ref ax)])) _
    refine XS.iload X15.here hx rfl (hb hby d4_23) rfl ?_
    refine XS.lushr X15.here hx rfl (hb hby d4_25) rfl ?_
    exact k)
  obtain ⟨T18, h18, ls18, X18, e18, N18, R18, st18⟩ := gPut X15 hx hZ hown (host := "") (Or.inl (hw _ (List.mem_of_getElem? (i := 44) rfl))) rfl N15 R15 1 0 rfl rfl (Or.inl (hw _ (List.mem_of_getElem? (i := 45) rfl))) (hw _ (List.mem_of_getElem? (i := 2) rfl)) (ty := .long) (by decide) rfl rfl (g := (mkF m 26 #[.val (.ref ax), .val (.ref bx), .val (.long nx), .second, .val (.int (F7 (ev - sv)))] [(.long (lushr sv (F7 (ev - sv)))), (.ref ax)])) rfl rfl (hb hby d4_26)
  replace R18 : Rep Z n0 h18 ((bx, Obj "com/example/gapless_log/gaplesslog/tree/Subtree" [("start", "J", (.long sv)), ("end", "J", (.long ev))]) :: (ax, Obj "com/example/gapless_log/gaplesslog/tree/Ascent" [("node", "J", (.long (lushr sv (F7 (ev - sv))))), ("last", "J", u2)]) :: Rst) := R18
  have pre19 : ∀ t, Steps p.tables e below (T18.setTop (mkF m 29 #[.val (.ref ax), .val (.ref bx), .val (.long nx), .second, .val (.int (F7 (ev - sv)))] [])) t → Steps p.tables e below (s₁.setTop (entryFrame m #[(.ref ax), (.ref bx), (.long nx)] 5)) t := fun t k => pre17 t (st18 t k)
  have pre20 : ∀ t, Steps p.tables e below (T18.setTop (mkF m 36 #[.val (.ref ax), .val (.ref bx), .val (.long nx), .second, .val (.int (F7 (ev - sv)))] [(.long (lushr (nx - (1 : Int64)) (F7 (ev - sv)))), (.ref ax)])) t → Steps p.tables e below (s₁.setTop (entryFrame m #[(.ref ax), (.ref bx), (.long nx)] 5)) t := fun t k => pre19 t (by
    show Steps p.tables e below (T18.setTop (mkF m 29 #[.val (.ref ax), .val (.ref bx), .val (.long nx), .second, .val (.int (F7 (ev - sv)))] [])) _
    refine XS.aloadN X18.here hx rfl (hb hby d4_29) rfl rfl ?_
    refine XS.lloadN X18.here hx rfl (hb hby d4_30) rfl ?_
    refine XS.lconst X18.here hx rfl (hb hby d4_31) ?_
    refine XS.lsub X18.here hx rfl (hb hby d4_32) rfl ?_
    refine XS.iload X18.here hx rfl (hb hby d4_33) rfl ?_
    refine XS.lushr X18.here hx rfl (hb hby d4_35) rfl ?_
    exact k)
  obtain ⟨T21, h21, ls21, X21, e21, N21, R21, st21⟩ := gPut X18 hx hZ hown (host := "") (Or.inl (hw _ (List.mem_of_getElem? (i := 46) rfl))) e18 N18 R18 1 1 rfl rfl (Or.inl (hw _ (List.mem_of_getElem? (i := 47) rfl))) (hw _ (List.mem_of_getElem? (i := 2) rfl)) (ty := .long) (by decide) rfl rfl (g := (mkF m 36 #[.val (.ref ax), .val (.ref bx), .val (.long nx), .second, .val (.int (F7 (ev - sv)))] [(.long (lushr (nx - (1 : Int64)) (F7 (ev - sv)))), (.ref ax)])) rfl rfl (hb hby d4_36)
  replace R21 : Rep Z n0 h21 ((bx, Obj "com/example/gapless_log/gaplesslog/tree/Subtree" [("start", "J", (.long sv)), ("end", "J", (.long ev))]) :: (ax, Obj "com/example/gapless_log/gaplesslog/tree/Ascent" [("node", "J", (.long (lushr sv (F7 (ev - sv))))), ("last", "J", (.long (lushr (nx - (1 : Int64)) (F7 (ev - sv)))))]) :: Rst) := R21
  have pre22 : ∀ t, Steps p.tables e below (T21.setTop (mkF m 39 #[.val (.ref ax), .val (.ref bx), .val (.long nx), .second, .val (.int (F7 (ev - sv)))] [])) t → Steps p.tables e below (s₁.setTop (entryFrame m #[(.ref ax), (.ref bx), (.long nx)] 5)) t := fun t k => pre20 t (st21 t k)
  obtain ⟨fs, hr, hrun, hended, hW, hsame⟩ := X21.leave (v := none) (fun _ => rfl)
  refine ⟨_, _, pre22 _ ?_, hrun, hended, _, _, rfl, ?_, ⟨_, rfl⟩, hW, hsame.mono (by decide) (by decide)⟩
  · show Steps p.tables e below (T21.setTop (mkF m 39 #[.val (.ref ax), .val (.ref bx), .val (.long nx), .second, .val (.int (F7 (ev - sv)))] [])) _
    exact X21.returnOut hx Bd.returns (hb hby d4_39) hr
  · show Q4 Z ax bx nx u1 u2 sv ev n0 Rst _ T21.heap _
    rw [e21]
    have R23 : Rep Z n0 h21 ((bx, Obj "com/example/gapless_log/gaplesslog/tree/Subtree" [("start", "J", (.long sv)), ("end", "J", (.long ev))]) :: (ax, Obj "com/example/gapless_log/gaplesslog/tree/Ascent" [("node", "J", (.long (lushr sv (F7 (ev - sv))))), ("last", "J", (.long (lushr (nx - (1 : Int64)) (F7 (ev - sv)))))]) :: Rst) := R21.front 0 rfl rfl
    have R24 : Rep Z n0 h21 ((ax, Obj "com/example/gapless_log/gaplesslog/tree/Ascent" [("node", "J", (.long (lushr sv (F7 (ev - sv))))), ("last", "J", (.long (lushr (nx - (1 : Int64)) (F7 (ev - sv)))))]) :: (bx, Obj "com/example/gapless_log/gaplesslog/tree/Subtree" [("start", "J", (.long sv)), ("end", "J", (.long ev))]) :: Rst) := R23.front 1 rfl rfl
    exact ⟨rfl, N21, R24⟩
theorem d11_0 : decode prog_33_method_3_code 0 = .ok (.aload_n 0, 1) := by decide +kernel
theorem d11_1 : decode prog_33_method_3_code 1 = .ok (.getfield 22, 3) := by decide +kernel
theorem d11_4 : decode prog_33_method_3_code 4 = .ok (.lconst 1, 1) := by decide +kernel
theorem d11_5 : decode prog_33_method_3_code 5 = .ok (.land, 1) := by decide +kernel
theorem d11_6 : decode prog_33_method_3_code 6 = .ok (.lconst 1, 1) := by decide +kernel
theorem d11_7 : decode prog_33_method_3_code 7 = .ok (.lcmp, 1) := by decide +kernel
theorem d11_8 : decode prog_33_method_3_code 8 = .ok (.ifCond .eq 15, 3) := by decide +kernel
theorem d11_23 : decode prog_33_method_3_code 23 = .ok (.iconst 1, 1) := by decide +kernel
theorem d11_24 : decode prog_33_method_3_code 24 = .ok (.goto 4, 3) := by decide +kernel
theorem d11_11 : decode prog_33_method_3_code 11 = .ok (.aload_n 0, 1) := by decide +kernel
theorem d11_12 : decode prog_33_method_3_code 12 = .ok (.getfield 22, 3) := by decide +kernel
theorem d11_28 : decode prog_33_method_3_code 28 = .ok (.ireturn, 1) := by decide +kernel
theorem d11_15 : decode prog_33_method_3_code 15 = .ok (.aload_n 0, 1) := by decide +kernel
theorem d11_16 : decode prog_33_method_3_code 16 = .ok (.getfield 28, 3) := by decide +kernel
theorem d11_19 : decode prog_33_method_3_code 19 = .ok (.lcmp, 1) := by decide +kernel
theorem d11_20 : decode prog_33_method_3_code 20 = .ok (.ifCond .ne 7, 3) := by decide +kernel
theorem d11_27 : decode prog_33_method_3_code 27 = .ok (.iconst 0, 1) := by decide +kernel
theorem ef_11 (m : MethodId) (x0 : Addr) : entryFrame m #[(.ref x0)] 1 = mkF m 0 #[.val (.ref x0)] [] := by first | (simp [entryFrame, mkF, argsToLocals, Value.category]; done) | rfl
def F11 (nv : Int64) (lv : Int64) : Int32 :=
  if (nv &&& (1 : Int64)) = (1 : Int64) then
    (1 : Int32)
  else
    (bz (nv = lv))
def Q11 (Z : State) (ax : Addr) (nv : Int64) (lv : Int64) (n0 : Nat) (Rst : RL) (v : Option Value) (h : Heap) (L : List Loc) : Prop := v = some (.int (F11 nv lv)) ∧ Fr n0 L ∧ Rep Z n0 h ((ax, Obj "com/example/gapless_log/gaplesslog/tree/Ascent" [("node", "J", (.long nv)), ("last", "J", (.long lv))]) :: Rst)
set_option maxRecDepth 65536 in
set_option maxHeartbeats 40000000 in
theorem rm11 (l : Launch) (Z : State) (a0 : Array Value) (hw : ∀ d ∈ tables_1, d.before a0 Z = true) (ws : List Jvm.Cond) (ax : Addr) (nv : Int64) (lv : Int64) (h0 : Heap) (n0 : Nat) (Rst : RL) (R0 : Rep Z n0 h0 ((ax, Obj "com/example/gapless_log/gaplesslog/tree/Ascent" [("node", "J", (.long nv)), ("last", "J", (.long lv))]) :: Rst)) :
    MetFree l (⟨"com/example/gapless_log/gaplesslog/tree/Ascent", "siblingOnLeft", "()Z"⟩ : MethodName) (head1 (Jvm.Cond.code (⟨"com/example/gapless_log/gaplesslog/tree/Ascent", "siblingOnLeft", "()Z"⟩ : MethodName) prog_33_method_3_code 1 (some .boolean) :: ws) ({ frames := 0, cells := 0, slots := 0, locals := 0 } : Room)) (fun a U => a = #[(.ref ax)] ∧ Z.Warmed39 U.vm ∧ U.heap = h0) (fun _ _ _ _ _ => True) (fun _ U o U' => ∃ v L, o = .returned v ∧ Q11 Z ax nv lv n0 Rst v U'.heap L ∧ FrameEnd U o U' L ({ frames := 0, cells := 0, slots := 0, locals := 0 } : Room).cells ({ frames := 0, cells := 0, slots := 0, locals := 0 } : Room).slots) := by
  refine MetFree.of_bodySF (plainFor_of_name pn_com_example_gapless_log_gaplesslog_tree_Ascent) hisR ?_
  intro p e s m args below meth c s₁ Bd hml0 hP hK
  obtain ⟨rfl, hZ, hh⟩ := hP
  have hx := Bd.exec
  have hby := Bd.bytes
  have hml : c.maxLocals = 1 := hml0
  have hown : s.vm.findClass "com/example/gapless_log/gaplesslog/tree/Ascent" = some m.cls := findClass_of_methodNamed Bd.named
  have hnm := (name_of_methodNamed Bd.named Bd.method).1
  have X0 : Stand p l e ({ frames := 0, cells := 0, slots := 0, locals := 0 } : Room) s m #[(.ref ax)] below meth c s₁ [] 0 0 := Stand.of_body Bd
  have e0 : s₁.heap = h0 := by rw [← hh, Bd.state]; rfl
  have N0 := Fr.nil n0
  have pre0 : ∀ t, Steps p.tables e below (s₁.setTop (mkF m 0 #[.val (.ref ax)] [])) t → Steps p.tables e below (s₁.setTop (entryFrame m #[(.ref ax)] 1)) t := fun t k => castTop (ef_11 m ax) k
  have pre1 : ∀ t, Steps p.tables e below (s₁.setTop (mkF m 1 #[.val (.ref ax)] [(.ref ax)])) t → Steps p.tables e below (s₁.setTop (entryFrame m #[(.ref ax)] 1)) t := fun t k => pre0 t (by
    show Steps p.tables e below (s₁.setTop (mkF m 0 #[.val (.ref ax)] [])) _
    refine XS.aloadN X0.here hx rfl (hb hby d11_0) rfl rfl ?_
    exact k)
  obtain ⟨T2, X2, e2, st2⟩ := gGet X0 hx hZ hown (host := "") (Or.inl (hw _ (List.mem_of_getElem? (i := 44) rfl))) e0 R0 0 0 rfl rfl (g := (mkF m 1 #[.val (.ref ax)] [(.ref ax)])) rfl rfl (hb hby d11_1)
  have pre3 : ∀ t, Steps p.tables e below (T2.setTop (mkF m 4 #[.val (.ref ax)] [(.long nv)])) t → Steps p.tables e below (s₁.setTop (entryFrame m #[(.ref ax)] 1)) t := fun t k => pre1 t (st2 t k)
  have pre5 : ∀ t, Steps p.tables e below (T2.setTop (mkF m 8 #[.val (.ref ax)] [(.int (XT.cmpL (nv &&& (1 : Int64)) (1 : Int64)))])) t → Steps p.tables e below (s₁.setTop (entryFrame m #[(.ref ax)] 1)) t := fun t k => pre3 t (by
    show Steps p.tables e below (T2.setTop (mkF m 4 #[.val (.ref ax)] [(.long nv)])) _
    refine XS.lconst X2.here hx rfl (hb hby d11_4) ?_
    refine XS.land X2.here hx rfl (hb hby d11_5) rfl ?_
    refine XS.lconst X2.here hx rfl (hb hby d11_6) ?_
    refine XS.lcmp X2.here hx rfl (hb hby d11_7) rfl ?_
    exact k)
  by_cases hb7 : (nv &&& (1 : Int64)) = (1 : Int64)
  · have pre8 : ∀ t, Steps p.tables e below (T2.setTop (mkF m 23 #[.val (.ref ax)] [])) t → Steps p.tables e below (s₁.setTop (entryFrame m #[(.ref ax)] 1)) t := fun t k => pre5 t (by show Steps p.tables e below (T2.setTop (mkF m 8 #[.val (.ref ax)] [(.int (XT.cmpL (nv &&& (1 : Int64)) (1 : Int64)))])) _; refine XS.ifYes X2.here hx rfl (pc0 := 8) (pc' := 23) rfl (hb hby d11_8) rfl (XT.ll_eq_t hb7) (by decide) (by decide) ?_; exact k)
    have pre9 : ∀ t, Steps p.tables e below (T2.setTop (mkF m 28 #[.val (.ref ax)] [(.int (1 : Int32))])) t → Steps p.tables e below (s₁.setTop (entryFrame m #[(.ref ax)] 1)) t := fun t k => pre8 t (by
      show Steps p.tables e below (T2.setTop (mkF m 23 #[.val (.ref ax)] [])) _
      refine XS.iconst X2.here hx rfl (hb hby d11_23) ?_
      refine XS.goto X2.here hx rfl (pc0 := 24) (pc' := 28) rfl (hb hby d11_24) (by decide) (by decide) ?_
      exact k)
    obtain ⟨fs, hr, hrun, hended, hW, hsame⟩ := X2.leave (v := some (.int (nar .boolean (1 : Int32)))) (fun h => by rw [Bd.returns] at h; cases h)
    refine ⟨_, _, pre9 _ ?_, hrun, hended, _, _, rfl, ?_, ⟨_, rfl⟩, hW, hsame.mono (by decide) (by decide)⟩
    · show Steps p.tables e below (T2.setTop (mkF m 28 #[.val (.ref ax)] [(.int (1 : Int32))])) _
      exact retN X2 hx (t := .boolean) Bd.returns (by simp) (hb hby d11_28) hr
    · show Q11 Z ax nv lv n0 Rst _ T2.heap _
      rw [e2]
      exact ⟨(by exact congrArg (fun z => some (Value.int z)) (by simp only [F11, if_pos hb7] <;> first | rfl | exact nar_b _ | decide)), N0, R0⟩
  · have pre10 : ∀ t, Steps p.tables e below (T2.setTop (mkF m 11 #[.val (.ref ax)] [])) t → Steps p.tables e below (s₁.setTop (entryFrame m #[(.ref ax)] 1)) t := fun t k => pre5 t (by show Steps p.tables e below (T2.setTop (mkF m 8 #[.val (.ref ax)] [(.int (XT.cmpL (nv &&& (1 : Int64)) (1 : Int64)))])) _; refine XS.ifNo X2.here hx rfl (hb hby d11_8) rfl (XT.ll_eq_f hb7) ?_; exact k)
    have pre11 : ∀ t, Steps p.tables e below (T2.setTop (mkF m 12 #[.val (.ref ax)] [(.ref ax)])) t → Steps p.tables e below (s₁.setTop (entryFrame m #[(.ref ax)] 1)) t := fun t k => pre10 t (by
      show Steps p.tables e below (T2.setTop (mkF m 11 #[.val (.ref ax)] [])) _
      refine XS.aloadN X2.here hx rfl (hb hby d11_11) rfl rfl ?_
      exact k)
    obtain ⟨T12, X12, e12, st12⟩ := gGet X2 hx hZ hown (host := "") (Or.inl (hw _ (List.mem_of_getElem? (i := 44) rfl))) e2 R0 0 0 rfl rfl (g := (mkF m 12 #[.val (.ref ax)] [(.ref ax)])) rfl rfl (hb hby d11_12)
    have pre13 : ∀ t, Steps p.tables e below (T12.setTop (mkF m 15 #[.val (.ref ax)] [(.long nv)])) t → Steps p.tables e below (s₁.setTop (entryFrame m #[(.ref ax)] 1)) t := fun t k => pre11 t (st12 t k)
    have pre14 : ∀ t, Steps p.tables e below (T12.setTop (mkF m 16 #[.val (.ref ax)] [(.ref ax), (.long nv)])) t → Steps p.tables e below (s₁.setTop (entryFrame m #[(.ref ax)] 1)) t := fun t k => pre13 t (by
      show Steps p.tables e below (T12.setTop (mkF m 15 #[.val (.ref ax)] [(.long nv)])) _
      refine XS.aloadN X12.here hx rfl (hb hby d11_15) rfl rfl ?_
      exact k)
    obtain ⟨T15, X15, e15, st15⟩ := gGet X12 hx hZ hown (host := "") (Or.inl (hw _ (List.mem_of_getElem? (i := 46) rfl))) e12 R0 0 1 rfl rfl (g := (mkF m 16 #[.val (.ref ax)] [(.ref ax), (.long nv)])) rfl rfl (hb hby d11_16)
    have pre16 : ∀ t, Steps p.tables e below (T15.setTop (mkF m 19 #[.val (.ref ax)] [(.long lv), (.long nv)])) t → Steps p.tables e below (s₁.setTop (entryFrame m #[(.ref ax)] 1)) t := fun t k => pre14 t (st15 t k)
    have pre19 : ∀ t, Steps p.tables e below (T15.setTop (mkF m 20 #[.val (.ref ax)] [(.int (XT.cmpL nv lv))])) t → Steps p.tables e below (s₁.setTop (entryFrame m #[(.ref ax)] 1)) t := fun t k => pre16 t (by
      show Steps p.tables e below (T15.setTop (mkF m 19 #[.val (.ref ax)] [(.long lv), (.long nv)])) _
      refine XS.lcmp X15.here hx rfl (hb hby d11_19) rfl ?_
      exact k)
    have tl18 : ∀ t, Steps p.tables e below (T15.setTop (mkF m 28 #[.val (.ref ax)] [(.int (bz (nv = lv)))])) t → Steps p.tables e below (T15.setTop (mkF m 20 #[.val (.ref ax)] [(.int (XT.cmpL nv lv))])) t := fun t k => by
      by_cases hb17 : nv = lv
      · refine XS.ifNo X15.here hx rfl (hb hby d11_20) rfl (XT.ll_ne_f hb17) ?_
        rw [bz_one (P := (nv = lv)) (iff_true_intro hb17)] at k
        show Steps p.tables e below (T15.setTop (mkF m 23 #[.val (.ref ax)] [])) _
        refine XS.iconst X15.here hx rfl (hb hby d11_23) ?_
        refine XS.goto X15.here hx rfl (pc0 := 24) (pc' := 28) rfl (hb hby d11_24) (by decide) (by decide) ?_
        exact k
      · refine XS.ifYes X15.here hx rfl (pc0 := 20) (pc' := 27) rfl (hb hby d11_20) rfl (XT.ll_ne_t hb17) (by decide) (by decide) ?_
        rw [bz_zero (P := (nv = lv)) (iff_false_intro hb17)] at k
        show Steps p.tables e below (T15.setTop (mkF m 27 #[.val (.ref ax)] [])) _
        refine XS.iconst X15.here hx rfl (hb hby d11_27) ?_
        exact k
    have pre20 : ∀ t, Steps p.tables e below (T15.setTop (mkF m 28 #[.val (.ref ax)] [(.int (bz (nv = lv)))])) t → Steps p.tables e below (s₁.setTop (entryFrame m #[(.ref ax)] 1)) t := fun t k => pre19 t (by
      exact tl18 t k)
    obtain ⟨fs, hr, hrun, hended, hW, hsame⟩ := X15.leave (v := some (.int (nar .boolean (bz (nv = lv))))) (fun h => by rw [Bd.returns] at h; cases h)
    refine ⟨_, _, pre20 _ ?_, hrun, hended, _, _, rfl, ?_, ⟨_, rfl⟩, hW, hsame.mono (by decide) (by decide)⟩
    · show Steps p.tables e below (T15.setTop (mkF m 28 #[.val (.ref ax)] [(.int (bz (nv = lv)))])) _
      exact retN X15 hx (t := .boolean) Bd.returns (by simp) (hb hby d11_28) hr
    · show Q11 Z ax nv lv n0 Rst _ T15.heap _
      rw [e15]
      exact ⟨(by exact congrArg (fun z => some (Value.int z)) (by simp only [F11, if_neg hb7] <;> first | rfl | exact nar_b _ | decide)), N0, R0⟩
theorem d10_0 : decode prog_33_method_2_code 0 = .ok (.aload_n 0, 1) := by decide +kernel
theorem d10_1 : decode prog_33_method_2_code 1 = .ok (.getfield 28, 3) := by decide +kernel
theorem d10_4 : decode prog_33_method_2_code 4 = .ok (.lconst 0, 1) := by decide +kernel
theorem d10_5 : decode prog_33_method_2_code 5 = .ok (.lcmp, 1) := by decide +kernel
theorem d10_6 : decode prog_33_method_2_code 6 = .ok (.ifCond .ne 7, 3) := by decide +kernel
theorem d10_9 : decode prog_33_method_2_code 9 = .ok (.iconst 1, 1) := by decide +kernel
theorem d10_10 : decode prog_33_method_2_code 10 = .ok (.goto 4, 3) := by decide +kernel
theorem d10_13 : decode prog_33_method_2_code 13 = .ok (.iconst 0, 1) := by decide +kernel
theorem d10_14 : decode prog_33_method_2_code 14 = .ok (.ireturn, 1) := by decide +kernel
theorem ef_10 (m : MethodId) (x0 : Addr) : entryFrame m #[(.ref x0)] 1 = mkF m 0 #[.val (.ref x0)] [] := by first | (simp [entryFrame, mkF, argsToLocals, Value.category]; done) | rfl
def F10 (lv : Int64) : Int32 :=
  (bz (lv = (0 : Int64)))
def Q10 (Z : State) (ax : Addr) (nv : Int64) (lv : Int64) (n0 : Nat) (Rst : RL) (v : Option Value) (h : Heap) (L : List Loc) : Prop := v = some (.int (F10 lv)) ∧ Fr n0 L ∧ Rep Z n0 h ((ax, Obj "com/example/gapless_log/gaplesslog/tree/Ascent" [("node", "J", (.long nv)), ("last", "J", (.long lv))]) :: Rst)
set_option maxRecDepth 65536 in
set_option maxHeartbeats 40000000 in
theorem rm10 (l : Launch) (Z : State) (a0 : Array Value) (hw : ∀ d ∈ tables_1, d.before a0 Z = true) (ws : List Jvm.Cond) (ax : Addr) (nv : Int64) (lv : Int64) (h0 : Heap) (n0 : Nat) (Rst : RL) (R0 : Rep Z n0 h0 ((ax, Obj "com/example/gapless_log/gaplesslog/tree/Ascent" [("node", "J", (.long nv)), ("last", "J", (.long lv))]) :: Rst)) :
    MetFree l (⟨"com/example/gapless_log/gaplesslog/tree/Ascent", "atRoot", "()Z"⟩ : MethodName) (head1 (Jvm.Cond.code (⟨"com/example/gapless_log/gaplesslog/tree/Ascent", "atRoot", "()Z"⟩ : MethodName) prog_33_method_2_code 1 (some .boolean) :: ws) ({ frames := 0, cells := 0, slots := 0, locals := 0 } : Room)) (fun a U => a = #[(.ref ax)] ∧ Z.Warmed39 U.vm ∧ U.heap = h0) (fun _ _ _ _ _ => True) (fun _ U o U' => ∃ v L, o = .returned v ∧ Q10 Z ax nv lv n0 Rst v U'.heap L ∧ FrameEnd U o U' L ({ frames := 0, cells := 0, slots := 0, locals := 0 } : Room).cells ({ frames := 0, cells := 0, slots := 0, locals := 0 } : Room).slots) := by
  refine MetFree.of_bodySF (plainFor_of_name pn_com_example_gapless_log_gaplesslog_tree_Ascent) hisR ?_
  intro p e s m args below meth c s₁ Bd hml0 hP hK
  obtain ⟨rfl, hZ, hh⟩ := hP
  have hx := Bd.exec
  have hby := Bd.bytes
  have hml : c.maxLocals = 1 := hml0
  have hown : s.vm.findClass "com/example/gapless_log/gaplesslog/tree/Ascent" = some m.cls := findClass_of_methodNamed Bd.named
  have hnm := (name_of_methodNamed Bd.named Bd.method).1
  have X0 : Stand p l e ({ frames := 0, cells := 0, slots := 0, locals := 0 } : Room) s m #[(.ref ax)] below meth c s₁ [] 0 0 := Stand.of_body Bd
  have e0 : s₁.heap = h0 := by rw [← hh, Bd.state]; rfl
  have N0 := Fr.nil n0
  have pre0 : ∀ t, Steps p.tables e below (s₁.setTop (mkF m 0 #[.val (.ref ax)] [])) t → Steps p.tables e below (s₁.setTop (entryFrame m #[(.ref ax)] 1)) t := fun t k => castTop (ef_10 m ax) k
  have pre1 : ∀ t, Steps p.tables e below (s₁.setTop (mkF m 1 #[.val (.ref ax)] [(.ref ax)])) t → Steps p.tables e below (s₁.setTop (entryFrame m #[(.ref ax)] 1)) t := fun t k => pre0 t (by
    show Steps p.tables e below (s₁.setTop (mkF m 0 #[.val (.ref ax)] [])) _
    refine XS.aloadN X0.here hx rfl (hb hby d10_0) rfl rfl ?_
    exact k)
  obtain ⟨T2, X2, e2, st2⟩ := gGet X0 hx hZ hown (host := "") (Or.inl (hw _ (List.mem_of_getElem? (i := 46) rfl))) e0 R0 0 1 rfl rfl (g := (mkF m 1 #[.val (.ref ax)] [(.ref ax)])) rfl rfl (hb hby d10_1)
  have pre3 : ∀ t, Steps p.tables e below (T2.setTop (mkF m 4 #[.val (.ref ax)] [(.long lv)])) t → Steps p.tables e below (s₁.setTop (entryFrame m #[(.ref ax)] 1)) t := fun t k => pre1 t (st2 t k)
  have pre6 : ∀ t, Steps p.tables e below (T2.setTop (mkF m 6 #[.val (.ref ax)] [(.int (XT.cmpL lv (0 : Int64)))])) t → Steps p.tables e below (s₁.setTop (entryFrame m #[(.ref ax)] 1)) t := fun t k => pre3 t (by
    show Steps p.tables e below (T2.setTop (mkF m 4 #[.val (.ref ax)] [(.long lv)])) _
    refine XS.lconst X2.here hx rfl (hb hby d10_4) ?_
    refine XS.lcmp X2.here hx rfl (hb hby d10_5) rfl ?_
    exact k)
  have tl5 : ∀ t, Steps p.tables e below (T2.setTop (mkF m 14 #[.val (.ref ax)] [(.int (bz (lv = (0 : Int64))))])) t → Steps p.tables e below (T2.setTop (mkF m 6 #[.val (.ref ax)] [(.int (XT.cmpL lv (0 : Int64)))])) t := fun t k => by
    by_cases hb4 : lv = (0 : Int64)
    · refine XS.ifNo X2.here hx rfl (hb hby d10_6) rfl (XT.ll_ne_f hb4) ?_
      rw [bz_one (P := (lv = (0 : Int64))) (iff_true_intro hb4)] at k
      show Steps p.tables e below (T2.setTop (mkF m 9 #[.val (.ref ax)] [])) _
      refine XS.iconst X2.here hx rfl (hb hby d10_9) ?_
      refine XS.goto X2.here hx rfl (pc0 := 10) (pc' := 14) rfl (hb hby d10_10) (by decide) (by decide) ?_
      exact k
    · refine XS.ifYes X2.here hx rfl (pc0 := 6) (pc' := 13) rfl (hb hby d10_6) rfl (XT.ll_ne_t hb4) (by decide) (by decide) ?_
      rw [bz_zero (P := (lv = (0 : Int64))) (iff_false_intro hb4)] at k
      show Steps p.tables e below (T2.setTop (mkF m 13 #[.val (.ref ax)] [])) _
      refine XS.iconst X2.here hx rfl (hb hby d10_13) ?_
      exact k
  have pre7 : ∀ t, Steps p.tables e below (T2.setTop (mkF m 14 #[.val (.ref ax)] [(.int (bz (lv = (0 : Int64))))])) t → Steps p.tables e below (s₁.setTop (entryFrame m #[(.ref ax)] 1)) t := fun t k => pre6 t (by
    exact tl5 t k)
  obtain ⟨fs, hr, hrun, hended, hW, hsame⟩ := X2.leave (v := some (.int (nar .boolean (bz (lv = (0 : Int64)))))) (fun h => by rw [Bd.returns] at h; cases h)
  refine ⟨_, _, pre7 _ ?_, hrun, hended, _, _, rfl, ?_, ⟨_, rfl⟩, hW, hsame.mono (by decide) (by decide)⟩
  · show Steps p.tables e below (T2.setTop (mkF m 14 #[.val (.ref ax)] [(.int (bz (lv = (0 : Int64))))])) _
    exact retN X2 hx (t := .boolean) Bd.returns (by simp) (hb hby d10_14) hr
  · show Q10 Z ax nv lv n0 Rst _ T2.heap _
    rw [e2]
    exact ⟨(by exact congrArg (fun z => some (Value.int z)) (by simp only [F10] <;> first | rfl | exact nar_b _ | decide)), N0, R0⟩
theorem d12_7 : decode prog_33_method_4_code 7 = .ok (.aload_n 0, 1) := by decide +kernel
theorem d12_8 : decode prog_33_method_4_code 8 = .ok (.getfield 22, 3) := by decide +kernel
theorem d12_11 : decode prog_33_method_4_code 11 = .ok (.lconst 1, 1) := by decide +kernel
theorem d12_12 : decode prog_33_method_4_code 12 = .ok (.land, 1) := by decide +kernel
theorem d12_13 : decode prog_33_method_4_code 13 = .ok (.lconst 0, 1) := by decide +kernel
theorem d12_14 : decode prog_33_method_4_code 14 = .ok (.lcmp, 1) := by decide +kernel
theorem d12_15 : decode prog_33_method_4_code 15 = .ok (.ifCond .ne 35, 3) := by decide +kernel
theorem d12_18 : decode prog_33_method_4_code 18 = .ok (.aload_n 0, 1) := by decide +kernel
theorem d12_19 : decode prog_33_method_4_code 19 = .ok (.getfield 22, 3) := by decide +kernel
theorem d12_22 : decode prog_33_method_4_code 22 = .ok (.lconst 0, 1) := by decide +kernel
theorem d12_23 : decode prog_33_method_4_code 23 = .ok (.lcmp, 1) := by decide +kernel
theorem d12_24 : decode prog_33_method_4_code 24 = .ok (.ifCond .eq 26, 3) := by decide +kernel
theorem d12_27 : decode prog_33_method_4_code 27 = .ok (.aload_n 0, 1) := by decide +kernel
theorem d12_28 : decode prog_33_method_4_code 28 = .ok (.dup, 1) := by decide +kernel
theorem d12_29 : decode prog_33_method_4_code 29 = .ok (.getfield 22, 3) := by decide +kernel
theorem d12_32 : decode prog_33_method_4_code 32 = .ok (.iconst 1, 1) := by decide +kernel
theorem d12_33 : decode prog_33_method_4_code 33 = .ok (.lushr, 1) := by decide +kernel
theorem d12_34 : decode prog_33_method_4_code 34 = .ok (.putfield 22, 3) := by decide +kernel
theorem d12_37 : decode prog_33_method_4_code 37 = .ok (.aload_n 0, 1) := by decide +kernel
theorem d12_38 : decode prog_33_method_4_code 38 = .ok (.dup, 1) := by decide +kernel
theorem d12_39 : decode prog_33_method_4_code 39 = .ok (.getfield 28, 3) := by decide +kernel
theorem d12_42 : decode prog_33_method_4_code 42 = .ok (.iconst 1, 1) := by decide +kernel
theorem d12_43 : decode prog_33_method_4_code 43 = .ok (.lushr, 1) := by decide +kernel
theorem d12_44 : decode prog_33_method_4_code 44 = .ok (.putfield 28, 3) := by decide +kernel
theorem d12_47 : decode prog_33_method_4_code 47 = .ok (.goto (-40), 3) := by decide +kernel
set_option maxRecDepth 65536 in
set_option maxHeartbeats 40000000 in
theorem cl_turn {p : Program} {l : Launch} {e : Env} {R : Room} {s : State} {m : MethodId} {args : Array Value} {below : List Frame} {meth : Method} {c : Code} {T0 : State} {locs : List Loc} {cells slots : Nat} {Z : State} {a0 : Array Value} {h0 : Heap} {n0 : Nat} {Rst : RL} (ax : Addr) (nv : Int64) (lv : Int64)
    (X0 : Stand p l e R s m args below meth c T0 locs cells slots) (hx : p.tables.exec = Jvm.exec) (hZ : Z.Warmed39 s.vm) (hw : ∀ d ∈ tables_1, d.before a0 Z = true) (hby : c.code = prog_33_method_4_code) (hml : c.maxLocals = 1) (hown : s.vm.findClass "com/example/gapless_log/gaplesslog/tree/Ascent" = some m.cls) (e0 : T0.heap = h0) (N0 : Fr n0 locs) (R0 : Rep Z n0 h0 ((ax, Obj "com/example/gapless_log/gaplesslog/tree/Ascent" [("node", "J", (.long nv)), ("last", "J", (.long lv))]) :: Rst)) (hc1 : (nv &&& (1 : Int64)) = (0 : Int64)) (hc2 : ¬ (nv = (0 : Int64))) :
    ∃ (T' : State) (h' : Heap) (locs' : List Loc), Stand p l e R s m args below meth c T' locs' cells slots ∧ T'.heap = h' ∧ Fr n0 locs' ∧ Rep Z n0 h' ((ax, Obj "com/example/gapless_log/gaplesslog/tree/Ascent" [("node", "J", (.long (lushr nv (1 : Int32)))), ("last", "J", (.long (lushr lv (1 : Int32))))]) :: Rst) ∧ ∀ t, Steps p.tables e below (T'.setTop (mkF m 7 #[.val (.ref ax)] [])) t → Steps p.tables e below (T0.setTop (mkF m 7 #[.val (.ref ax)] [])) t := by
  have pre0 : ∀ t, Steps p.tables e below (T0.setTop (mkF m 7 #[.val (.ref ax)] [])) t → Steps p.tables e below (T0.setTop (mkF m 7 #[.val (.ref ax)] [])) t := fun t k => k
  have pre1 : ∀ t, Steps p.tables e below (T0.setTop (mkF m 8 #[.val (.ref ax)] [(.ref ax)])) t → Steps p.tables e below (T0.setTop (mkF m 7 #[.val (.ref ax)] [])) t := fun t k => pre0 t (by
    show Steps p.tables e below (T0.setTop (mkF m 7 #[.val (.ref ax)] [])) _
    refine XS.aloadN X0.here hx rfl (hb hby d12_7) rfl rfl ?_
    exact k)
  obtain ⟨T2, X2, e2, st2⟩ := gGet X0 hx hZ hown (host := "") (Or.inl (hw _ (List.mem_of_getElem? (i := 44) rfl))) e0 R0 0 0 rfl rfl (g := (mkF m 8 #[.val (.ref ax)] [(.ref ax)])) rfl rfl (hb hby d12_8)
  have pre3 : ∀ t, Steps p.tables e below (T2.setTop (mkF m 11 #[.val (.ref ax)] [(.long nv)])) t → Steps p.tables e below (T0.setTop (mkF m 7 #[.val (.ref ax)] [])) t := fun t k => pre1 t (st2 t k)
  have pre5 : ∀ t, Steps p.tables e below (T2.setTop (mkF m 15 #[.val (.ref ax)] [(.int (XT.cmpL (nv &&& (1 : Int64)) (0 : Int64)))])) t → Steps p.tables e below (T0.setTop (mkF m 7 #[.val (.ref ax)] [])) t := fun t k => pre3 t (by
    show Steps p.tables e below (T2.setTop (mkF m 11 #[.val (.ref ax)] [(.long nv)])) _
    refine XS.lconst X2.here hx rfl (hb hby d12_11) ?_
    refine XS.land X2.here hx rfl (hb hby d12_12) rfl ?_
    refine XS.lconst X2.here hx rfl (hb hby d12_13) ?_
    refine XS.lcmp X2.here hx rfl (hb hby d12_14) rfl ?_
    exact k)
  have hb4 : (nv &&& (1 : Int64)) = (0 : Int64) := hc1
  have pre6 : ∀ t, Steps p.tables e below (T2.setTop (mkF m 19 #[.val (.ref ax)] [(.ref ax)])) t → Steps p.tables e below (T0.setTop (mkF m 7 #[.val (.ref ax)] [])) t := fun t k => pre5 t (by
    show Steps p.tables e below (T2.setTop (mkF m 15 #[.val (.ref ax)] [(.int (XT.cmpL (nv &&& (1 : Int64)) (0 : Int64)))])) _
    refine XS.ifNo X2.here hx rfl (hb hby d12_15) rfl (XT.ll_ne_f hb4) ?_
    refine XS.aloadN X2.here hx rfl (hb hby d12_18) rfl rfl ?_
    exact k)
  obtain ⟨T7, X7, e7, st7⟩ := gGet X2 hx hZ hown (host := "") (Or.inl (hw _ (List.mem_of_getElem? (i := 44) rfl))) e2 R0 0 0 rfl rfl (g := (mkF m 19 #[.val (.ref ax)] [(.ref ax)])) rfl rfl (hb hby d12_19)
  have pre8 : ∀ t, Steps p.tables e below (T7.setTop (mkF m 22 #[.val (.ref ax)] [(.long nv)])) t → Steps p.tables e below (T0.setTop (mkF m 7 #[.val (.ref ax)] [])) t := fun t k => pre6 t (st7 t k)
  have pre10 : ∀ t, Steps p.tables e below (T7.setTop (mkF m 24 #[.val (.ref ax)] [(.int (XT.cmpL nv (0 : Int64)))])) t → Steps p.tables e below (T0.setTop (mkF m 7 #[.val (.ref ax)] [])) t := fun t k => pre8 t (by
    show Steps p.tables e below (T7.setTop (mkF m 22 #[.val (.ref ax)] [(.long nv)])) _
    refine XS.lconst X7.here hx rfl (hb hby d12_22) ?_
    refine XS.lcmp X7.here hx rfl (hb hby d12_23) rfl ?_
    exact k)
  have hb9 : ¬ (nv = (0 : Int64)) := hc2
  have pre11 : ∀ t, Steps p.tables e below (T7.setTop (mkF m 29 #[.val (.ref ax)] [(.ref ax), (.ref ax)])) t → Steps p.tables e below (T0.setTop (mkF m 7 #[.val (.ref ax)] [])) t := fun t k => pre10 t (by
    show Steps p.tables e below (T7.setTop (mkF m 24 #[.val (.ref ax)] [(.int (XT.cmpL nv (0 : Int64)))])) _
    refine XS.ifNo X7.here hx rfl (hb hby d12_24) rfl (XT.ll_eq_f hb9) ?_
    refine XS.aloadN X7.here hx rfl (hb hby d12_27) rfl rfl ?_
    refine XS.dup X7.here hx rfl (hb hby d12_28) rfl rfl ?_
    exact k)
  obtain ⟨T12, X12, e12, st12⟩ := gGet X7 hx hZ hown (host := "") (Or.inl (hw _ (List.mem_of_getElem? (i := 44) rfl))) e7 R0 0 0 rfl rfl (g := (mkF m 29 #[.val (.ref ax)] [(.ref ax), (.ref ax)])) rfl rfl (hb hby d12_29)
  have pre13 : ∀ t, Steps p.tables e below (T12.setTop (mkF m 32 #[.val (.ref ax)] [(.long nv), (.ref ax)])) t → Steps p.tables e below (T0.setTop (mkF m 7 #[.val (.ref ax)] [])) t := fun t k => pre11 t (st12 t k)
  have pre14 : ∀ t, Steps p.tables e below (T12.setTop (mkF m 34 #[.val (.ref ax)] [(.long (lushr nv (1 : Int32))), (.ref ax)])) t → Steps p.tables e below (T0.setTop (mkF m 7 #[.val (.ref ax)] [])) t := fun t k => pre13 t (by
    show Steps p.tables e below (T12.setTop (mkF m 32 #[.val (.ref ax)] [(.long nv), (.ref ax)])) _
    refine XS.iconst X12.here hx rfl (hb hby d12_32) ?_
    refine XS.lushr X12.here hx rfl (hb hby d12_33) rfl ?_
    exact k)
  obtain ⟨T15, h15, ls15, X15, e15, N15, R15, st15⟩ := gPut X12 hx hZ hown (host := "") (Or.inl (hw _ (List.mem_of_getElem? (i := 44) rfl))) e12 N0 R0 0 0 rfl rfl (Or.inl (hw _ (List.mem_of_getElem? (i := 45) rfl))) (hw _ (List.mem_of_getElem? (i := 2) rfl)) (ty := .long) (by decide) rfl rfl (g := (mkF m 34 #[.val (.ref ax)] [(.long (lushr nv (1 : Int32))), (.ref ax)])) rfl rfl (hb hby d12_34)
  replace R15 : Rep Z n0 h15 ((ax, Obj "com/example/gapless_log/gaplesslog/tree/Ascent" [("node", "J", (.long (lushr nv (1 : Int32)))), ("last", "J", (.long lv))]) :: Rst) := R15
  have pre16 : ∀ t, Steps p.tables e below (T15.setTop (mkF m 37 #[.val (.ref ax)] [])) t → Steps p.tables e below (T0.setTop (mkF m 7 #[.val (.ref ax)] [])) t := fun t k => pre14 t (st15 t k)
  have pre17 : ∀ t, Steps p.tables e below (T15.setTop (mkF m 39 #[.val (.ref ax)] [(.ref ax), (.ref ax)])) t → Steps p.tables e below (T0.setTop (mkF m 7 #[.val (.ref ax)] [])) t := fun t k => pre16 t (by
    show Steps p.tables e below (T15.setTop (mkF m 37 #[.val (.ref ax)] [])) _
    refine XS.aloadN X15.here hx rfl (hb hby d12_37) rfl rfl ?_
    refine XS.dup X15.here hx rfl (hb hby d12_38) rfl rfl ?_
    exact k)
  obtain ⟨T18, X18, e18, st18⟩ := gGet X15 hx hZ hown (host := "") (Or.inl (hw _ (List.mem_of_getElem? (i := 46) rfl))) e15 R15 0 1 rfl rfl (g := (mkF m 39 #[.val (.ref ax)] [(.ref ax), (.ref ax)])) rfl rfl (hb hby d12_39)
  have pre19 : ∀ t, Steps p.tables e below (T18.setTop (mkF m 42 #[.val (.ref ax)] [(.long lv), (.ref ax)])) t → Steps p.tables e below (T0.setTop (mkF m 7 #[.val (.ref ax)] [])) t := fun t k => pre17 t (st18 t k)
  have pre20 : ∀ t, Steps p.tables e below (T18.setTop (mkF m 44 #[.val (.ref ax)] [(.long (lushr lv (1 : Int32))), (.ref ax)])) t → Steps p.tables e below (T0.setTop (mkF m 7 #[.val (.ref ax)] [])) t := fun t k => pre19 t (by
    show Steps p.tables e below (T18.setTop (mkF m 42 #[.val (.ref ax)] [(.long lv), (.ref ax)])) _
    refine XS.iconst X18.here hx rfl (hb hby d12_42) ?_
    refine XS.lushr X18.here hx rfl (hb hby d12_43) rfl ?_
    exact k)
  obtain ⟨T21, h21, ls21, X21, e21, N21, R21, st21⟩ := gPut X18 hx hZ hown (host := "") (Or.inl (hw _ (List.mem_of_getElem? (i := 46) rfl))) e18 N15 R15 0 1 rfl rfl (Or.inl (hw _ (List.mem_of_getElem? (i := 47) rfl))) (hw _ (List.mem_of_getElem? (i := 2) rfl)) (ty := .long) (by decide) rfl rfl (g := (mkF m 44 #[.val (.ref ax)] [(.long (lushr lv (1 : Int32))), (.ref ax)])) rfl rfl (hb hby d12_44)
  replace R21 : Rep Z n0 h21 ((ax, Obj "com/example/gapless_log/gaplesslog/tree/Ascent" [("node", "J", (.long (lushr nv (1 : Int32)))), ("last", "J", (.long (lushr lv (1 : Int32))))]) :: Rst) := R21
  have pre22 : ∀ t, Steps p.tables e below (T21.setTop (mkF m 47 #[.val (.ref ax)] [])) t → Steps p.tables e below (T0.setTop (mkF m 7 #[.val (.ref ax)] [])) t := fun t k => pre20 t (st21 t k)
  have pre23 : ∀ t, Steps p.tables e below (T21.setTop (mkF m 7 #[.val (.ref ax)] [])) t → Steps p.tables e below (T0.setTop (mkF m 7 #[.val (.ref ax)] [])) t := fun t k => pre22 t (by
    show Steps p.tables e below (T21.setTop (mkF m 47 #[.val (.ref ax)] [])) _
    refine XS.goto X21.here hx rfl (pc0 := 47) (pc' := 7) rfl (hb hby d12_47) (by decide) (by decide) ?_
    exact k)
  exact ⟨T21, h21, _, X21, e21, N21, R21, pre23⟩
set_option maxRecDepth 65536 in
set_option maxHeartbeats 40000000 in
theorem cl_odd {p : Program} {l : Launch} {e : Env} {R : Room} {s : State} {m : MethodId} {args : Array Value} {below : List Frame} {meth : Method} {c : Code} {T0 : State} {locs : List Loc} {cells slots : Nat} {Z : State} {a0 : Array Value} {h0 : Heap} {n0 : Nat} {Rst : RL} (ax : Addr) (nv : Int64) (lv : Int64)
    (X0 : Stand p l e R s m args below meth c T0 locs cells slots) (hx : p.tables.exec = Jvm.exec) (hZ : Z.Warmed39 s.vm) (hw : ∀ d ∈ tables_1, d.before a0 Z = true) (hby : c.code = prog_33_method_4_code) (hml : c.maxLocals = 1) (hown : s.vm.findClass "com/example/gapless_log/gaplesslog/tree/Ascent" = some m.cls) (e0 : T0.heap = h0) (N0 : Fr n0 locs) (R0 : Rep Z n0 h0 ((ax, Obj "com/example/gapless_log/gaplesslog/tree/Ascent" [("node", "J", (.long nv)), ("last", "J", (.long lv))]) :: Rst)) (hc1 : ¬ ((nv &&& (1 : Int64)) = (0 : Int64))) :
    ∃ (T' : State) (h' : Heap) (locs' : List Loc), Stand p l e R s m args below meth c T' locs' cells slots ∧ T'.heap = h' ∧ Fr n0 locs' ∧ Rep Z n0 h' ((ax, Obj "com/example/gapless_log/gaplesslog/tree/Ascent" [("node", "J", (.long nv)), ("last", "J", (.long lv))]) :: Rst) ∧ ∀ t, Steps p.tables e below (T'.setTop (mkF m 50 #[.val (.ref ax)] [])) t → Steps p.tables e below (T0.setTop (mkF m 7 #[.val (.ref ax)] [])) t := by
  have pre0 : ∀ t, Steps p.tables e below (T0.setTop (mkF m 7 #[.val (.ref ax)] [])) t → Steps p.tables e below (T0.setTop (mkF m 7 #[.val (.ref ax)] [])) t := fun t k => k
  have pre1 : ∀ t, Steps p.tables e below (T0.setTop (mkF m 8 #[.val (.ref ax)] [(.ref ax)])) t → Steps p.tables e below (T0.setTop (mkF m 7 #[.val (.ref ax)] [])) t := fun t k => pre0 t (by
    show Steps p.tables e below (T0.setTop (mkF m 7 #[.val (.ref ax)] [])) _
    refine XS.aloadN X0.here hx rfl (hb hby d12_7) rfl rfl ?_
    exact k)
  obtain ⟨T2, X2, e2, st2⟩ := gGet X0 hx hZ hown (host := "") (Or.inl (hw _ (List.mem_of_getElem? (i := 44) rfl))) e0 R0 0 0 rfl rfl (g := (mkF m 8 #[.val (.ref ax)] [(.ref ax)])) rfl rfl (hb hby d12_8)
  have pre3 : ∀ t, Steps p.tables e below (T2.setTop (mkF m 11 #[.val (.ref ax)] [(.long nv)])) t → Steps p.tables e below (T0.setTop (mkF m 7 #[.val (.ref ax)] [])) t := fun t k => pre1 t (st2 t k)
  have pre5 : ∀ t, Steps p.tables e below (T2.setTop (mkF m 15 #[.val (.ref ax)] [(.int (XT.cmpL (nv &&& (1 : Int64)) (0 : Int64)))])) t → Steps p.tables e below (T0.setTop (mkF m 7 #[.val (.ref ax)] [])) t := fun t k => pre3 t (by
    show Steps p.tables e below (T2.setTop (mkF m 11 #[.val (.ref ax)] [(.long nv)])) _
    refine XS.lconst X2.here hx rfl (hb hby d12_11) ?_
    refine XS.land X2.here hx rfl (hb hby d12_12) rfl ?_
    refine XS.lconst X2.here hx rfl (hb hby d12_13) ?_
    refine XS.lcmp X2.here hx rfl (hb hby d12_14) rfl ?_
    exact k)
  have hb4 : ¬ ((nv &&& (1 : Int64)) = (0 : Int64)) := hc1
  have pre6 : ∀ t, Steps p.tables e below (T2.setTop (mkF m 50 #[.val (.ref ax)] [])) t → Steps p.tables e below (T0.setTop (mkF m 7 #[.val (.ref ax)] [])) t := fun t k => pre5 t (by
    show Steps p.tables e below (T2.setTop (mkF m 15 #[.val (.ref ax)] [(.int (XT.cmpL (nv &&& (1 : Int64)) (0 : Int64)))])) _
    refine XS.ifYes X2.here hx rfl (pc0 := 15) (pc' := 50) rfl (hb hby d12_15) rfl (XT.ll_ne_t hb4) (by decide) (by decide) ?_
    exact k)
  exact ⟨T2, h0, _, X2, e2, N0, R0, pre6⟩
set_option maxRecDepth 65536 in
set_option maxHeartbeats 40000000 in
theorem cl_zero {p : Program} {l : Launch} {e : Env} {R : Room} {s : State} {m : MethodId} {args : Array Value} {below : List Frame} {meth : Method} {c : Code} {T0 : State} {locs : List Loc} {cells slots : Nat} {Z : State} {a0 : Array Value} {h0 : Heap} {n0 : Nat} {Rst : RL} (ax : Addr) (nv : Int64) (lv : Int64)
    (X0 : Stand p l e R s m args below meth c T0 locs cells slots) (hx : p.tables.exec = Jvm.exec) (hZ : Z.Warmed39 s.vm) (hw : ∀ d ∈ tables_1, d.before a0 Z = true) (hby : c.code = prog_33_method_4_code) (hml : c.maxLocals = 1) (hown : s.vm.findClass "com/example/gapless_log/gaplesslog/tree/Ascent" = some m.cls) (e0 : T0.heap = h0) (N0 : Fr n0 locs) (R0 : Rep Z n0 h0 ((ax, Obj "com/example/gapless_log/gaplesslog/tree/Ascent" [("node", "J", (.long nv)), ("last", "J", (.long lv))]) :: Rst)) (hc1 : (nv &&& (1 : Int64)) = (0 : Int64)) (hc2 : nv = (0 : Int64)) :
    ∃ (T' : State) (h' : Heap) (locs' : List Loc), Stand p l e R s m args below meth c T' locs' cells slots ∧ T'.heap = h' ∧ Fr n0 locs' ∧ Rep Z n0 h' ((ax, Obj "com/example/gapless_log/gaplesslog/tree/Ascent" [("node", "J", (.long nv)), ("last", "J", (.long lv))]) :: Rst) ∧ ∀ t, Steps p.tables e below (T'.setTop (mkF m 50 #[.val (.ref ax)] [])) t → Steps p.tables e below (T0.setTop (mkF m 7 #[.val (.ref ax)] [])) t := by
  have pre0 : ∀ t, Steps p.tables e below (T0.setTop (mkF m 7 #[.val (.ref ax)] [])) t → Steps p.tables e below (T0.setTop (mkF m 7 #[.val (.ref ax)] [])) t := fun t k => k
  have pre1 : ∀ t, Steps p.tables e below (T0.setTop (mkF m 8 #[.val (.ref ax)] [(.ref ax)])) t → Steps p.tables e below (T0.setTop (mkF m 7 #[.val (.ref ax)] [])) t := fun t k => pre0 t (by
    show Steps p.tables e below (T0.setTop (mkF m 7 #[.val (.ref ax)] [])) _
    refine XS.aloadN X0.here hx rfl (hb hby d12_7) rfl rfl ?_
    exact k)
  obtain ⟨T2, X2, e2, st2⟩ := gGet X0 hx hZ hown (host := "") (Or.inl (hw _ (List.mem_of_getElem? (i := 44) rfl))) e0 R0 0 0 rfl rfl (g := (mkF m 8 #[.val (.ref ax)] [(.ref ax)])) rfl rfl (hb hby d12_8)
  have pre3 : ∀ t, Steps p.tables e below (T2.setTop (mkF m 11 #[.val (.ref ax)] [(.long nv)])) t → Steps p.tables e below (T0.setTop (mkF m 7 #[.val (.ref ax)] [])) t := fun t k => pre1 t (st2 t k)
  have pre5 : ∀ t, Steps p.tables e below (T2.setTop (mkF m 15 #[.val (.ref ax)] [(.int (XT.cmpL (nv &&& (1 : Int64)) (0 : Int64)))])) t → Steps p.tables e below (T0.setTop (mkF m 7 #[.val (.ref ax)] [])) t := fun t k => pre3 t (by
    show Steps p.tables e below (T2.setTop (mkF m 11 #[.val (.ref ax)] [(.long nv)])) _
    refine XS.lconst X2.here hx rfl (hb hby d12_11) ?_
    refine XS.land X2.here hx rfl (hb hby d12_12) rfl ?_
    refine XS.lconst X2.here hx rfl (hb hby d12_13) ?_
    refine XS.lcmp X2.here hx rfl (hb hby d12_14) rfl ?_
    exact k)
  have hb4 : (nv &&& (1 : Int64)) = (0 : Int64) := hc1
  have pre6 : ∀ t, Steps p.tables e below (T2.setTop (mkF m 19 #[.val (.ref ax)] [(.ref ax)])) t → Steps p.tables e below (T0.setTop (mkF m 7 #[.val (.ref ax)] [])) t := fun t k => pre5 t (by
    show Steps p.tables e below (T2.setTop (mkF m 15 #[.val (.ref ax)] [(.int (XT.cmpL (nv &&& (1 : Int64)) (0 : Int64)))])) _
    refine XS.ifNo X2.here hx rfl (hb hby d12_15) rfl (XT.ll_ne_f hb4) ?_
    refine XS.aloadN X2.here hx rfl (hb hby d12_18) rfl rfl ?_
    exact k)
  obtain ⟨T7, X7, e7, st7⟩ := gGet X2 hx hZ hown (host := "") (Or.inl (hw _ (List.mem_of_getElem? (i := 44) rfl))) e2 R0 0 0 rfl rfl (g := (mkF m 19 #[.val (.ref ax)] [(.ref ax)])) rfl rfl (hb hby d12_19)
  have pre8 : ∀ t, Steps p.tables e below (T7.setTop (mkF m 22 #[.val (.ref ax)] [(.long nv)])) t → Steps p.tables e below (T0.setTop (mkF m 7 #[.val (.ref ax)] [])) t := fun t k => pre6 t (st7 t k)
  have pre10 : ∀ t, Steps p.tables e below (T7.setTop (mkF m 24 #[.val (.ref ax)] [(.int (XT.cmpL nv (0 : Int64)))])) t → Steps p.tables e below (T0.setTop (mkF m 7 #[.val (.ref ax)] [])) t := fun t k => pre8 t (by
    show Steps p.tables e below (T7.setTop (mkF m 22 #[.val (.ref ax)] [(.long nv)])) _
    refine XS.lconst X7.here hx rfl (hb hby d12_22) ?_
    refine XS.lcmp X7.here hx rfl (hb hby d12_23) rfl ?_
    exact k)
  have hb9 : nv = (0 : Int64) := hc2
  have pre11 : ∀ t, Steps p.tables e below (T7.setTop (mkF m 50 #[.val (.ref ax)] [])) t → Steps p.tables e below (T0.setTop (mkF m 7 #[.val (.ref ax)] [])) t := fun t k => pre10 t (by
    show Steps p.tables e below (T7.setTop (mkF m 24 #[.val (.ref ax)] [(.int (XT.cmpL nv (0 : Int64)))])) _
    refine XS.ifYes X7.here hx rfl (pc0 := 24) (pc' := 50) rfl (hb hby d12_24) rfl (XT.ll_eq_t hb9) (by decide) (by decide) ?_
    exact k)
  exact ⟨T7, h0, _, X7, e7, N0, R0, pre11⟩
/-- climb's loop: the pair (node, last), halved while node is even and not 0 -/
def cl : Nat → Int64 → Int64 → Int64 × Int64
  | 0, n, l => (n, l)
  | k + 1, n, l => if (n &&& (1 : Int64)) = (0 : Int64) ∧ ¬ (n = (0 : Int64)) then cl k (lushr n (1 : Int32)) (lushr l (1 : Int32)) else (n, l)
theorem own_half {nv : Int64} {k : Nat} (h : nv.toBitVec.toNat < 2 ^ (k + 1)) : (lushr nv (1 : Int32)).toBitVec.toNat < 2 ^ k := by
  have e : (lushr nv (1 : Int32)).toBitVec = nv.toBitVec >>> 1 := rfl
  rw [e, BitVec.toNat_ushiftRight, Nat.shiftRight_eq_div_pow]
  omega
theorem cl_loop {p : Program} {l : Launch} {e : Env} {R : Room} {s : State} {m : MethodId} {args : Array Value} {below : List Frame} {meth : Method} {c : Code} {cells slots : Nat} {Z : State} {a0 : Array Value} {n0 : Nat} {Rst : RL} (ax : Addr) (hx : p.tables.exec = Jvm.exec) (hZ : Z.Warmed39 s.vm) (hw : ∀ d ∈ tables_1, d.before a0 Z = true) (hby : c.code = prog_33_method_4_code) (hml : c.maxLocals = 1) (hown : s.vm.findClass "com/example/gapless_log/gaplesslog/tree/Ascent" = some m.cls) :
    ∀ (k : Nat) (nv lv : Int64) (T0 : State) (locs : List Loc) (h0 : Heap), nv.toBitVec.toNat < 2 ^ k → Stand p l e R s m args below meth c T0 locs cells slots → T0.heap = h0 → Fr n0 locs → Rep Z n0 h0 ((ax, Obj "com/example/gapless_log/gaplesslog/tree/Ascent" [("node", "J", .long nv), ("last", "J", .long lv)]) :: Rst) →
      ∃ (T' : State) (h' : Heap) (locs' : List Loc), Stand p l e R s m args below meth c T' locs' cells slots ∧ T'.heap = h' ∧ Fr n0 locs' ∧ Rep Z n0 h' ((ax, Obj "com/example/gapless_log/gaplesslog/tree/Ascent" [("node", "J", .long (cl k nv lv).1), ("last", "J", .long (cl k nv lv).2)]) :: Rst) ∧ ∀ t, Steps p.tables e below (T'.setTop (mkF m 50 #[.val (.ref ax)] [])) t → Steps p.tables e below (T0.setTop (mkF m 7 #[.val (.ref ax)] [])) t := by
  intro k
  induction k with
  | zero =>
    intro nv lv T0 locs h0 hk X0 e0 N0 R0
    have z : nv = (0 : Int64) := by
      apply Int64.toBitVec_inj.mp
      apply BitVec.eq_of_toNat_eq
      have : nv.toBitVec.toNat = 0 := by omega
      rw [this]; rfl
    subst z
    exact cl_zero ax _ lv X0 hx hZ hw hby hml hown e0 N0 R0 (show ((0 : Int64) &&& (1 : Int64)) = (0 : Int64) by decide) rfl
  | succ k ih =>
    intro nv lv T0 locs h0 hk X0 e0 N0 R0
    by_cases hc1 : (nv &&& (1 : Int64)) = (0 : Int64)
    · by_cases hc2 : nv = (0 : Int64)
      · have q : cl (k + 1) nv lv = (nv, lv) := if_neg fun z => z.2 hc2
        rw [q]
        exact cl_zero ax nv lv X0 hx hZ hw hby hml hown e0 N0 R0 hc1 hc2
      · have q : cl (k + 1) nv lv = cl k (lushr nv (1 : Int32)) (lushr lv (1 : Int32)) := if_pos ⟨hc1, hc2⟩
        rw [q]
        obtain ⟨T1, h1, ls1, X1, e1, N1, R1, st1⟩ := cl_turn ax nv lv X0 hx hZ hw hby hml hown e0 N0 R0 hc1 hc2
        obtain ⟨T2, h2, ls2, X2, e2, N2, R2, st2⟩ := ih _ _ T1 ls1 h1 (own_half hk) X1 e1 N1 R1
        exact ⟨T2, h2, ls2, X2, e2, N2, R2, fun t q => st1 t (st2 t q)⟩
    · have q : cl (k + 1) nv lv = (nv, lv) := if_neg fun z => hc1 z.1
      rw [q]
      exact cl_odd ax nv lv X0 hx hZ hw hby hml hown e0 N0 R0 hc1
def cN (n l : Int64) : Int64 := if (F11 n l) = (0 : Int32) then (lushr n (1 : Int32)) else (lushr (cl 64 n l).1 (1 : Int32))
def cL (n l : Int64) : Int64 := if (F11 n l) = (0 : Int32) then (lushr l (1 : Int32)) else (lushr (cl 64 n l).2 (1 : Int32))
theorem d12_0 : decode prog_33_method_4_code 0 = .ok (.aload_n 0, 1) := by decide +kernel
theorem d12_1 : decode prog_33_method_4_code 1 = .ok (.invokevirtual 31, 3) := by decide +kernel
theorem pd__28_29Z : parseMethodDescriptor "()Z" = some ⟨[], some .boolean⟩ := by decide +kernel
theorem d12_4 : decode prog_33_method_4_code 4 = .ok (.ifCond .eq 46, 3) := by decide +kernel
theorem d12_50 : decode prog_33_method_4_code 50 = .ok (.aload_n 0, 1) := by decide +kernel
theorem d12_51 : decode prog_33_method_4_code 51 = .ok (.dup, 1) := by decide +kernel
theorem d12_52 : decode prog_33_method_4_code 52 = .ok (.getfield 22, 3) := by decide +kernel
theorem d12_55 : decode prog_33_method_4_code 55 = .ok (.iconst 1, 1) := by decide +kernel
theorem d12_56 : decode prog_33_method_4_code 56 = .ok (.lushr, 1) := by decide +kernel
theorem d12_57 : decode prog_33_method_4_code 57 = .ok (.putfield 22, 3) := by decide +kernel
theorem d12_60 : decode prog_33_method_4_code 60 = .ok (.aload_n 0, 1) := by decide +kernel
theorem d12_61 : decode prog_33_method_4_code 61 = .ok (.dup, 1) := by decide +kernel
theorem d12_62 : decode prog_33_method_4_code 62 = .ok (.getfield 28, 3) := by decide +kernel
theorem d12_65 : decode prog_33_method_4_code 65 = .ok (.iconst 1, 1) := by decide +kernel
theorem d12_66 : decode prog_33_method_4_code 66 = .ok (.lushr, 1) := by decide +kernel
theorem d12_67 : decode prog_33_method_4_code 67 = .ok (.putfield 28, 3) := by decide +kernel
theorem d12_70 : decode prog_33_method_4_code 70 = .ok (.return_, 1) := by decide +kernel
theorem ef_12 (m : MethodId) (x0 : Addr) : entryFrame m #[(.ref x0)] 1 = mkF m 0 #[.val (.ref x0)] [] := by first | (simp [entryFrame, mkF, argsToLocals, Value.category]; done) | rfl
def Q12 (Z : State) (ax : Addr) (nv : Int64) (lv : Int64) (n0 : Nat) (Rst : RL) (v : Option Value) (h : Heap) (L : List Loc) : Prop := v = none ∧ Fr n0 L ∧ Rep Z n0 h ((ax, Obj "com/example/gapless_log/gaplesslog/tree/Ascent" [("node", "J", (.long (cN nv lv))), ("last", "J", (.long (cL nv lv)))]) :: Rst)
set_option maxRecDepth 65536 in
set_option maxHeartbeats 40000000 in
theorem rm12 (l : Launch) (Z : State) (a0 : Array Value) (hw : ∀ d ∈ tables_1, d.before a0 Z = true) (ws : List Jvm.Cond) (ax : Addr) (nv : Int64) (lv : Int64) (h0 : Heap) (n0 : Nat) (Rst : RL) (R0 : Rep Z n0 h0 ((ax, Obj "com/example/gapless_log/gaplesslog/tree/Ascent" [("node", "J", (.long nv)), ("last", "J", (.long lv))]) :: Rst)) :
    MetFree l (⟨"com/example/gapless_log/gaplesslog/tree/Ascent", "climb", "()V"⟩ : MethodName) (head1 (Jvm.Cond.code (⟨"com/example/gapless_log/gaplesslog/tree/Ascent", "climb", "()V"⟩ : MethodName) prog_33_method_4_code 1 none :: ws) ({ frames := 1, cells := 0, slots := 0, locals := 12 } : Room)) (fun a U => a = #[(.ref ax)] ∧ Z.Warmed39 U.vm ∧ U.heap = h0) (fun _ _ _ _ _ => True) (fun _ U o U' => ∃ v L, o = .returned v ∧ Q12 Z ax nv lv n0 Rst v U'.heap L ∧ FrameEnd U o U' L ({ frames := 1, cells := 0, slots := 0, locals := 12 } : Room).cells ({ frames := 1, cells := 0, slots := 0, locals := 12 } : Room).slots) := by
  refine MetFree.of_bodySF (plainFor_of_name pn_com_example_gapless_log_gaplesslog_tree_Ascent) hisR ?_
  intro p e s m args below meth c s₁ Bd hml0 hP hK
  obtain ⟨rfl, hZ, hh⟩ := hP
  have hx := Bd.exec
  have hby := Bd.bytes
  have hml : c.maxLocals = 1 := hml0
  have hown : s.vm.findClass "com/example/gapless_log/gaplesslog/tree/Ascent" = some m.cls := findClass_of_methodNamed Bd.named
  have hnm := (name_of_methodNamed Bd.named Bd.method).1
  have X0 : Stand p l e ({ frames := 1, cells := 0, slots := 0, locals := 12 } : Room) s m #[(.ref ax)] below meth c s₁ [] 0 0 := Stand.of_body Bd
  have e0 : s₁.heap = h0 := by rw [← hh, Bd.state]; rfl
  have N0 := Fr.nil n0
  have pre0 : ∀ t, Steps p.tables e below (s₁.setTop (mkF m 0 #[.val (.ref ax)] [])) t → Steps p.tables e below (s₁.setTop (entryFrame m #[(.ref ax)] 1)) t := fun t k => castTop (ef_12 m ax) k
  have pre1 : ∀ t, Steps p.tables e below (s₁.setTop (mkF m 1 #[.val (.ref ax)] [(.ref ax)])) t → Steps p.tables e below (s₁.setTop (entryFrame m #[(.ref ax)] 1)) t := fun t k => pre0 t (by
    show Steps p.tables e below (s₁.setTop (mkF m 0 #[.val (.ref ax)] [])) _
    refine XS.aloadN X0.here hx rfl (hb hby d12_0) rfl rfl ?_
    exact k)
  obtain ⟨cq2, kq2, q2a, q2b, q2c⟩ := isOf hZ e0 (R0.exa (i := 0) rfl)
  obtain ⟨_, _, ⟨T2, L2, k2, n2⟩, -, X2, ⟨Lc2, hQ2, l2, y2, z2⟩, st2⟩ := X0.virtualBack hx (y := (⟨"com/example/gapless_log/gaplesslog/tree/Ascent", "siblingOnLeft", "()Z"⟩ : MethodName)) (z := (⟨"com/example/gapless_log/gaplesslog/tree/Ascent", "siblingOnLeft", "()Z"⟩ : MethodName)) hown (mvT hZ (hw _ (List.mem_of_getElem? (i := 69) rfl))) (mvT hZ (hw _ (List.mem_of_getElem? (i := 60) rfl))) (notFace_of_selects (args := #[]) (mvT hZ (hw _ (List.mem_of_getElem? (i := 62) rfl)))) (mvT hZ (hw _ (List.mem_of_getElem? (i := 62) rfl))) (mvT hZ (hw _ (List.mem_of_getElem? (i := 61) rfl))) (by decide) (backOf (W := 0) (rm11 l Z a0 hw [] ax _ _ h0 n0 _ R0 ) hZ (hw _ (List.mem_of_getElem? (i := 63) rfl)) (hw _ (List.mem_of_getElem? (i := 3) rfl)) (by decide) (by decide)) q2a q2c (g := (mkF m 1 #[.val (.ref ax)] [(.ref ax)])) rfl (by rw [hml]; rfl) (Steps.refl _) (argsL := []) (rest := []) (lenOf pd__28_29Z rfl) rfl (by show 2 * 0 + _ ≤ _; exact Nat.le_of_eq rfl) (hb hby d12_1) (fun _ _ => ⟨rfl, e0, (by decide : 0 + 0 ≤ _), (by decide : 0 + 0 ≤ _)⟩)
  dsimp only [Pt.U, Pt.locs, Pt.cells, Pt.slots] at X2 l2 y2 z2 st2 hQ2
  subst y2 z2
  obtain ⟨rfl, N2q, R2⟩ := hQ2
  have N2 : Fr n0 L2 := by rw [l2]; exact Fr.app N0 N2q
  replace R2 : Rep Z n0 T2.heap ((ax, Obj "com/example/gapless_log/gaplesslog/tree/Ascent" [("node", "J", (.long nv)), ("last", "J", (.long lv))]) :: Rst) := R2
  have pre3 : ∀ t, Steps p.tables e below (T2.setTop (mkF m 4 #[.val (.ref ax)] [(.int (F11 nv lv))])) t → Steps p.tables e below (s₁.setTop (entryFrame m #[(.ref ax)] 1)) t := fun t k => pre1 t (st2.trans k)
  by_cases hb4 : (F11 nv lv) = (0 : Int32)
  · have pre5 : ∀ t, Steps p.tables e below (T2.setTop (mkF m 50 #[.val (.ref ax)] [])) t → Steps p.tables e below (s₁.setTop (entryFrame m #[(.ref ax)] 1)) t := fun t k => pre3 t (by show Steps p.tables e below (T2.setTop (mkF m 4 #[.val (.ref ax)] [(.int (F11 nv lv))])) _; refine XS.ifYes X2.here hx rfl (pc0 := 4) (pc' := 50) rfl (hb hby d12_4) rfl ((if0 _ _).trans (teq hb4).1) (by decide) (by decide) ?_; exact k)
    have pre6 : ∀ t, Steps p.tables e below (T2.setTop (mkF m 52 #[.val (.ref ax)] [(.ref ax), (.ref ax)])) t → Steps p.tables e below (s₁.setTop (entryFrame m #[(.ref ax)] 1)) t := fun t k => pre5 t (by
      show Steps p.tables e below (T2.setTop (mkF m 50 #[.val (.ref ax)] [])) _
      refine XS.aloadN X2.here hx rfl (hb hby d12_50) rfl rfl ?_
      refine XS.dup X2.here hx rfl (hb hby d12_51) rfl rfl ?_
      exact k)
    obtain ⟨T7, X7, e7, st7⟩ := gGet X2 hx hZ hown (host := "") (Or.inl (hw _ (List.mem_of_getElem? (i := 44) rfl))) rfl R2 0 0 rfl rfl (g := (mkF m 52 #[.val (.ref ax)] [(.ref ax), (.ref ax)])) rfl rfl (hb hby d12_52)
    have pre8 : ∀ t, Steps p.tables e below (T7.setTop (mkF m 55 #[.val (.ref ax)] [(.long nv), (.ref ax)])) t → Steps p.tables e below (s₁.setTop (entryFrame m #[(.ref ax)] 1)) t := fun t k => pre6 t (st7 t k)
    have pre9 : ∀ t, Steps p.tables e below (T7.setTop (mkF m 57 #[.val (.ref ax)] [(.long (lushr nv (1 : Int32))), (.ref ax)])) t → Steps p.tables e below (s₁.setTop (entryFrame m #[(.ref ax)] 1)) t := fun t k => pre8 t (by
      show Steps p.tables e below (T7.setTop (mkF m 55 #[.val (.ref ax)] [(.long nv), (.ref ax)])) _
      refine XS.iconst X7.here hx rfl (hb hby d12_55) ?_
      refine XS.lushr X7.here hx rfl (hb hby d12_56) rfl ?_
      exact k)
    obtain ⟨T10, h10, ls10, X10, e10, N10, R10, st10⟩ := gPut X7 hx hZ hown (host := "") (Or.inl (hw _ (List.mem_of_getElem? (i := 44) rfl))) e7 N2 R2 0 0 rfl rfl (Or.inl (hw _ (List.mem_of_getElem? (i := 45) rfl))) (hw _ (List.mem_of_getElem? (i := 2) rfl)) (ty := .long) (by decide) rfl rfl (g := (mkF m 57 #[.val (.ref ax)] [(.long (lushr nv (1 : Int32))), (.ref ax)])) rfl rfl (hb hby d12_57)
    replace R10 : Rep Z n0 h10 ((ax, Obj "com/example/gapless_log/gaplesslog/tree/Ascent" [("node", "J", (.long (lushr nv (1 : Int32)))), ("last", "J", (.long lv))]) :: Rst) := R10
    have pre11 : ∀ t, Steps p.tables e below (T10.setTop (mkF m 60 #[.val (.ref ax)] [])) t → Steps p.tables e below (s₁.setTop (entryFrame m #[(.ref ax)] 1)) t := fun t k => pre9 t (st10 t k)
    have pre12 : ∀ t, Steps p.tables e below (T10.setTop (mkF m 62 #[.val (.ref ax)] [(.ref ax), (.ref ax)])) t → Steps p.tables e below (s₁.setTop (entryFrame m #[(.ref ax)] 1)) t := fun t k => pre11 t (by
      show Steps p.tables e below (T10.setTop (mkF m 60 #[.val (.ref ax)] [])) _
      refine XS.aloadN X10.here hx rfl (hb hby d12_60) rfl rfl ?_
      refine XS.dup X10.here hx rfl (hb hby d12_61) rfl rfl ?_
      exact k)
    obtain ⟨T13, X13, e13, st13⟩ := gGet X10 hx hZ hown (host := "") (Or.inl (hw _ (List.mem_of_getElem? (i := 46) rfl))) e10 R10 0 1 rfl rfl (g := (mkF m 62 #[.val (.ref ax)] [(.ref ax), (.ref ax)])) rfl rfl (hb hby d12_62)
    have pre14 : ∀ t, Steps p.tables e below (T13.setTop (mkF m 65 #[.val (.ref ax)] [(.long lv), (.ref ax)])) t → Steps p.tables e below (s₁.setTop (entryFrame m #[(.ref ax)] 1)) t := fun t k => pre12 t (st13 t k)
    have pre15 : ∀ t, Steps p.tables e below (T13.setTop (mkF m 67 #[.val (.ref ax)] [(.long (lushr lv (1 : Int32))), (.ref ax)])) t → Steps p.tables e below (s₁.setTop (entryFrame m #[(.ref ax)] 1)) t := fun t k => pre14 t (by
      show Steps p.tables e below (T13.setTop (mkF m 65 #[.val (.ref ax)] [(.long lv), (.ref ax)])) _
      refine XS.iconst X13.here hx rfl (hb hby d12_65) ?_
      refine XS.lushr X13.here hx rfl (hb hby d12_66) rfl ?_
      exact k)
    obtain ⟨T16, h16, ls16, X16, e16, N16, R16, st16⟩ := gPut X13 hx hZ hown (host := "") (Or.inl (hw _ (List.mem_of_getElem? (i := 46) rfl))) e13 N10 R10 0 1 rfl rfl (Or.inl (hw _ (List.mem_of_getElem? (i := 47) rfl))) (hw _ (List.mem_of_getElem? (i := 2) rfl)) (ty := .long) (by decide) rfl rfl (g := (mkF m 67 #[.val (.ref ax)] [(.long (lushr lv (1 : Int32))), (.ref ax)])) rfl rfl (hb hby d12_67)
    replace R16 : Rep Z n0 h16 ((ax, Obj "com/example/gapless_log/gaplesslog/tree/Ascent" [("node", "J", (.long (lushr nv (1 : Int32)))), ("last", "J", (.long (lushr lv (1 : Int32))))]) :: Rst) := R16
    have pre17 : ∀ t, Steps p.tables e below (T16.setTop (mkF m 70 #[.val (.ref ax)] [])) t → Steps p.tables e below (s₁.setTop (entryFrame m #[(.ref ax)] 1)) t := fun t k => pre15 t (st16 t k)
    obtain ⟨fs, hr, hrun, hended, hW, hsame⟩ := X16.leave (v := none) (fun _ => rfl)
    refine ⟨_, _, pre17 _ ?_, hrun, hended, _, _, rfl, ?_, ⟨_, rfl⟩, hW, hsame.mono (by decide) (by decide)⟩
    · show Steps p.tables e below (T16.setTop (mkF m 70 #[.val (.ref ax)] [])) _
      exact X16.returnOut hx Bd.returns (hb hby d12_70) hr
    · show Q12 Z ax nv lv n0 Rst _ T16.heap _
      rw [e16]
      exact ⟨rfl, N16, (by rw [cN, cL, if_pos hb4, if_pos hb4]; exact R16)⟩
  · have pre18 : ∀ t, Steps p.tables e below (T2.setTop (mkF m 7 #[.val (.ref ax)] [])) t → Steps p.tables e below (s₁.setTop (entryFrame m #[(.ref ax)] 1)) t := fun t k => pre3 t (by show Steps p.tables e below (T2.setTop (mkF m 4 #[.val (.ref ax)] [(.int (F11 nv lv))])) _; refine XS.ifNo X2.here hx rfl (hb hby d12_4) rfl ((if0 _ _).trans (feq hb4).1) ?_; exact k)
    obtain ⟨T19, h19, ls19, X19, e19, N19, R19, st19⟩ := cl_loop ax hx hZ hw hby hml hown 64 nv lv T2 _ T2.heap nv.toBitVec.isLt X2 rfl N2 R2
    have pre20 : ∀ t, Steps p.tables e below (T19.setTop (mkF m 50 #[.val (.ref ax)] [])) t → Steps p.tables e below (s₁.setTop (entryFrame m #[(.ref ax)] 1)) t := fun t k => pre18 t (st19 t k)
    have pre21 : ∀ t, Steps p.tables e below (T19.setTop (mkF m 52 #[.val (.ref ax)] [(.ref ax), (.ref ax)])) t → Steps p.tables e below (s₁.setTop (entryFrame m #[(.ref ax)] 1)) t := fun t k => pre20 t (by
      show Steps p.tables e below (T19.setTop (mkF m 50 #[.val (.ref ax)] [])) _
      refine XS.aloadN X19.here hx rfl (hb hby d12_50) rfl rfl ?_
      refine XS.dup X19.here hx rfl (hb hby d12_51) rfl rfl ?_
      exact k)
    obtain ⟨T22, X22, e22, st22⟩ := gGet X19 hx hZ hown (host := "") (Or.inl (hw _ (List.mem_of_getElem? (i := 44) rfl))) e19 R19 0 0 rfl rfl (g := (mkF m 52 #[.val (.ref ax)] [(.ref ax), (.ref ax)])) rfl rfl (hb hby d12_52)
    have pre23 : ∀ t, Steps p.tables e below (T22.setTop (mkF m 55 #[.val (.ref ax)] [(.long (cl 64 nv lv).1), (.ref ax)])) t → Steps p.tables e below (s₁.setTop (entryFrame m #[(.ref ax)] 1)) t := fun t k => pre21 t (st22 t k)
    have pre24 : ∀ t, Steps p.tables e below (T22.setTop (mkF m 57 #[.val (.ref ax)] [(.long (lushr (cl 64 nv lv).1 (1 : Int32))), (.ref ax)])) t → Steps p.tables e below (s₁.setTop (entryFrame m #[(.ref ax)] 1)) t := fun t k => pre23 t (by
      show Steps p.tables e below (T22.setTop (mkF m 55 #[.val (.ref ax)] [(.long (cl 64 nv lv).1), (.ref ax)])) _
      refine XS.iconst X22.here hx rfl (hb hby d12_55) ?_
      refine XS.lushr X22.here hx rfl (hb hby d12_56) rfl ?_
      exact k)
    obtain ⟨T25, h25, ls25, X25, e25, N25, R25, st25⟩ := gPut X22 hx hZ hown (host := "") (Or.inl (hw _ (List.mem_of_getElem? (i := 44) rfl))) e22 N19 R19 0 0 rfl rfl (Or.inl (hw _ (List.mem_of_getElem? (i := 45) rfl))) (hw _ (List.mem_of_getElem? (i := 2) rfl)) (ty := .long) (by decide) rfl rfl (g := (mkF m 57 #[.val (.ref ax)] [(.long (lushr (cl 64 nv lv).1 (1 : Int32))), (.ref ax)])) rfl rfl (hb hby d12_57)
    replace R25 : Rep Z n0 h25 ((ax, Obj "com/example/gapless_log/gaplesslog/tree/Ascent" [("node", "J", (.long (lushr (cl 64 nv lv).1 (1 : Int32)))), ("last", "J", (.long (cl 64 nv lv).2))]) :: Rst) := R25
    have pre26 : ∀ t, Steps p.tables e below (T25.setTop (mkF m 60 #[.val (.ref ax)] [])) t → Steps p.tables e below (s₁.setTop (entryFrame m #[(.ref ax)] 1)) t := fun t k => pre24 t (st25 t k)
    have pre27 : ∀ t, Steps p.tables e below (T25.setTop (mkF m 62 #[.val (.ref ax)] [(.ref ax), (.ref ax)])) t → Steps p.tables e below (s₁.setTop (entryFrame m #[(.ref ax)] 1)) t := fun t k => pre26 t (by
      show Steps p.tables e below (T25.setTop (mkF m 60 #[.val (.ref ax)] [])) _
      refine XS.aloadN X25.here hx rfl (hb hby d12_60) rfl rfl ?_
      refine XS.dup X25.here hx rfl (hb hby d12_61) rfl rfl ?_
      exact k)
    obtain ⟨T28, X28, e28, st28⟩ := gGet X25 hx hZ hown (host := "") (Or.inl (hw _ (List.mem_of_getElem? (i := 46) rfl))) e25 R25 0 1 rfl rfl (g := (mkF m 62 #[.val (.ref ax)] [(.ref ax), (.ref ax)])) rfl rfl (hb hby d12_62)
    have pre29 : ∀ t, Steps p.tables e below (T28.setTop (mkF m 65 #[.val (.ref ax)] [(.long (cl 64 nv lv).2), (.ref ax)])) t → Steps p.tables e below (s₁.setTop (entryFrame m #[(.ref ax)] 1)) t := fun t k => pre27 t (st28 t k)
    have pre30 : ∀ t, Steps p.tables e below (T28.setTop (mkF m 67 #[.val (.ref ax)] [(.long (lushr (cl 64 nv lv).2 (1 : Int32))), (.ref ax)])) t → Steps p.tables e below (s₁.setTop (entryFrame m #[(.ref ax)] 1)) t := fun t k => pre29 t (by
      show Steps p.tables e below (T28.setTop (mkF m 65 #[.val (.ref ax)] [(.long (cl 64 nv lv).2), (.ref ax)])) _
      refine XS.iconst X28.here hx rfl (hb hby d12_65) ?_
      refine XS.lushr X28.here hx rfl (hb hby d12_66) rfl ?_
      exact k)
    obtain ⟨T31, h31, ls31, X31, e31, N31, R31, st31⟩ := gPut X28 hx hZ hown (host := "") (Or.inl (hw _ (List.mem_of_getElem? (i := 46) rfl))) e28 N25 R25 0 1 rfl rfl (Or.inl (hw _ (List.mem_of_getElem? (i := 47) rfl))) (hw _ (List.mem_of_getElem? (i := 2) rfl)) (ty := .long) (by decide) rfl rfl (g := (mkF m 67 #[.val (.ref ax)] [(.long (lushr (cl 64 nv lv).2 (1 : Int32))), (.ref ax)])) rfl rfl (hb hby d12_67)
    replace R31 : Rep Z n0 h31 ((ax, Obj "com/example/gapless_log/gaplesslog/tree/Ascent" [("node", "J", (.long (lushr (cl 64 nv lv).1 (1 : Int32)))), ("last", "J", (.long (lushr (cl 64 nv lv).2 (1 : Int32))))]) :: Rst) := R31
    have pre32 : ∀ t, Steps p.tables e below (T31.setTop (mkF m 70 #[.val (.ref ax)] [])) t → Steps p.tables e below (s₁.setTop (entryFrame m #[(.ref ax)] 1)) t := fun t k => pre30 t (st31 t k)
    obtain ⟨fs, hr, hrun, hended, hW, hsame⟩ := X31.leave (v := none) (fun _ => rfl)
    refine ⟨_, _, pre32 _ ?_, hrun, hended, _, _, rfl, ?_, ⟨_, rfl⟩, hW, hsame.mono (by decide) (by decide)⟩
    · show Steps p.tables e below (T31.setTop (mkF m 70 #[.val (.ref ax)] [])) _
      exact X31.returnOut hx Bd.returns (hb hby d12_70) hr
    · show Q12 Z ax nv lv n0 Rst _ T31.heap _
      rw [e31]
      exact ⟨rfl, N31, (by rw [cN, cL, if_neg hb4, if_neg hb4]; exact R31)⟩
theorem d9_0 : decode method_3_code 0 = .ok (.lload_n 0, 1) := by decide +kernel
theorem d9_1 : decode method_3_code 1 = .ok (.ldc2_w 34, 3) := by decide +kernel
theorem d9_4 : decode method_3_code 4 = .ok (.lcmp, 1) := by decide +kernel
theorem d9_5 : decode method_3_code 5 = .ok (.ifCond .le 9, 3) := by decide +kernel
theorem d9_8 : decode method_3_code 8 = .ok (.ldc2_w 34, 3) := by decide +kernel
theorem d9_11 : decode method_3_code 11 = .ok (.goto 17, 3) := by decide +kernel
theorem d9_14 : decode method_3_code 14 = .ok (.lload_n 0, 1) := by decide +kernel
theorem d9_15 : decode method_3_code 15 = .ok (.ldc2_w 36, 3) := by decide +kernel
theorem d9_18 : decode method_3_code 18 = .ok (.lcmp, 1) := by decide +kernel
theorem d9_19 : decode method_3_code 19 = .ok (.ifCond .le 7, 3) := by decide +kernel
theorem d9_22 : decode method_3_code 22 = .ok (.iconst 2, 1) := by decide +kernel
theorem d9_23 : decode method_3_code 23 = .ok (.goto 4, 3) := by decide +kernel
theorem d9_27 : decode method_3_code 27 = .ok (.i2l, 1) := by decide +kernel
theorem d9_26 : decode method_3_code 26 = .ok (.iconst 1, 1) := by decide +kernel
theorem d9_28 : decode method_3_code 28 = .ok (.lreturn, 1) := by decide +kernel
theorem pn_com_example_gapless_log_gaplesslog_tree_AscentClimbPinLaw : plainName "com/example/gapless_log/gaplesslog/tree/AscentClimbPinLaw" = true := by first | (simp [plainName, overriddenIn]; done) | decide +kernel
theorem ef_9 (m : MethodId) (x0 : Int64) : entryFrame m #[(.long x0)] 2 = mkF m 0 #[.val (.long x0), .second] [] := by first | (simp [entryFrame, mkF, argsToLocals, Value.category]; done) | rfl
def F9 (wx : Int64) : Int64 :=
  (if (4 : Int64) < wx then (4 : Int64) else (if (2 : Int64) < wx then ((2 : Int32).toInt64) else ((1 : Int32).toInt64)))
def Q9 (Z : State) (wx : Int64) (n0 : Nat) (Rst : RL) (v : Option Value) (h : Heap) (L : List Loc) : Prop := v = some (.long (F9 wx)) ∧ Fr n0 L ∧ Rep Z n0 h (Rst)
set_option maxRecDepth 65536 in
set_option maxHeartbeats 40000000 in
theorem rm9 (l : Launch) (Z : State) (a0 : Array Value) (hw : ∀ d ∈ tables_1, d.before a0 Z = true) (ws : List Jvm.Cond) (wx : Int64) (h0 : Heap) (n0 : Nat) (Rst : RL) (R0 : Rep Z n0 h0 (Rst)) :
    MetFree l (⟨"com/example/gapless_log/gaplesslog/tree/AscentClimbPinLaw", "below", "(J)J"⟩ : MethodName) (head1 (Jvm.Cond.code (⟨"com/example/gapless_log/gaplesslog/tree/AscentClimbPinLaw", "below", "(J)J"⟩ : MethodName) method_3_code 2 (some .long) :: ws) ({ frames := 0, cells := 0, slots := 0, locals := 0 } : Room)) (fun a U => a = #[(.long wx)] ∧ Z.Warmed39 U.vm ∧ U.heap = h0) (fun _ _ _ _ _ => True) (fun _ U o U' => ∃ v L, o = .returned v ∧ Q9 Z wx n0 Rst v U'.heap L ∧ FrameEnd U o U' L ({ frames := 0, cells := 0, slots := 0, locals := 0 } : Room).cells ({ frames := 0, cells := 0, slots := 0, locals := 0 } : Room).slots) := by
  refine MetFree.of_bodySF (plainFor_of_name pn_com_example_gapless_log_gaplesslog_tree_AscentClimbPinLaw) hisR ?_
  intro p e s m args below meth c s₁ Bd hml0 hP hK
  obtain ⟨rfl, hZ, hh⟩ := hP
  have hx := Bd.exec
  have hby := Bd.bytes
  have hml : c.maxLocals = 2 := hml0
  have hown : s.vm.findClass "com/example/gapless_log/gaplesslog/tree/AscentClimbPinLaw" = some m.cls := findClass_of_methodNamed Bd.named
  have hnm := (name_of_methodNamed Bd.named Bd.method).1
  have X0 : Stand p l e ({ frames := 0, cells := 0, slots := 0, locals := 0 } : Room) s m #[(.long wx)] below meth c s₁ [] 0 0 := Stand.of_body Bd
  have e0 : s₁.heap = h0 := by rw [← hh, Bd.state]; rfl
  have N0 := Fr.nil n0
  have pre0 : ∀ t, Steps p.tables e below (s₁.setTop (mkF m 0 #[.val (.long wx), .second] [])) t → Steps p.tables e below (s₁.setTop (entryFrame m #[(.long wx)] 2)) t := fun t k => castTop (ef_9 m wx) k
  have pre5 : ∀ t, Steps p.tables e below (s₁.setTop (mkF m 5 #[.val (.long wx), .second] [(.int (XT.cmpL wx (4 : Int64)))])) t → Steps p.tables e below (s₁.setTop (entryFrame m #[(.long wx)] 2)) t := fun t k => pre0 t (by
    show Steps p.tables e below (s₁.setTop (mkF m 0 #[.val (.long wx), .second] [])) _
    refine XS.lloadN X0.here hx rfl (hb hby d9_0) rfl ?_
    refine X0.ldc2Long hx hown (mvT hZ (hw _ (List.mem_of_getElem? (i := 52) rfl))) (g := (mkF m 1 #[.val (.long wx), .second] [(.long wx)])) rfl (hb hby d9_1) _ ?_
    refine XS.lcmp X0.here hx rfl (hb hby d9_4) rfl ?_
    exact k)
  have tl3 : ∀ t, Steps p.tables e below (s₁.setTop (mkF m 28 #[.val (.long wx), .second] [(.long (if (2 : Int64) < wx then ((2 : Int32).toInt64) else ((1 : Int32).toInt64)))])) t → Steps p.tables e below (s₁.setTop (mkF m 19 #[.val (.long wx), .second] [(.int (XT.cmpL wx (2 : Int64)))])) t := fun t k => by
    by_cases hb2 : (2 : Int64) < wx
    · refine XS.ifNo X0.here hx rfl (hb hby d9_19) rfl (XT.ll_le_f hb2) ?_
      rw [show (if (2 : Int64) < wx then ((2 : Int32).toInt64) else ((1 : Int32).toInt64)) = ((2 : Int32).toInt64) from if_pos hb2] at k
      show Steps p.tables e below (s₁.setTop (mkF m 22 #[.val (.long wx), .second] [])) _
      refine XS.iconst X0.here hx rfl (hb hby d9_22) ?_
      refine XS.goto X0.here hx rfl (pc0 := 23) (pc' := 27) rfl (hb hby d9_23) (by decide) (by decide) ?_
      refine XS.i2l X0.here hx rfl (hb hby d9_27) rfl ?_
      exact k
    · refine XS.ifYes X0.here hx rfl (pc0 := 19) (pc' := 26) rfl (hb hby d9_19) rfl (XT.ll_le_t hb2) (by decide) (by decide) ?_
      rw [show (if (2 : Int64) < wx then ((2 : Int32).toInt64) else ((1 : Int32).toInt64)) = ((1 : Int32).toInt64) from if_neg hb2] at k
      show Steps p.tables e below (s₁.setTop (mkF m 26 #[.val (.long wx), .second] [])) _
      refine XS.iconst X0.here hx rfl (hb hby d9_26) ?_
      refine XS.i2l X0.here hx rfl (hb hby d9_27) rfl ?_
      exact k
  have tl4 : ∀ t, Steps p.tables e below (s₁.setTop (mkF m 28 #[.val (.long wx), .second] [(.long (if (4 : Int64) < wx then (4 : Int64) else (if (2 : Int64) < wx then ((2 : Int32).toInt64) else ((1 : Int32).toInt64))))])) t → Steps p.tables e below (s₁.setTop (mkF m 5 #[.val (.long wx), .second] [(.int (XT.cmpL wx (4 : Int64)))])) t := fun t k => by
    by_cases hb1 : (4 : Int64) < wx
    · refine XS.ifNo X0.here hx rfl (hb hby d9_5) rfl (XT.ll_le_f hb1) ?_
      rw [show (if (4 : Int64) < wx then (4 : Int64) else (if (2 : Int64) < wx then ((2 : Int32).toInt64) else ((1 : Int32).toInt64))) = (4 : Int64) from if_pos hb1] at k
      show Steps p.tables e below (s₁.setTop (mkF m 8 #[.val (.long wx), .second] [])) _
      refine X0.ldc2Long hx hown (mvT hZ (hw _ (List.mem_of_getElem? (i := 52) rfl))) (g := (mkF m 8 #[.val (.long wx), .second] [])) rfl (hb hby d9_8) _ ?_
      refine XS.goto X0.here hx rfl (pc0 := 11) (pc' := 28) rfl (hb hby d9_11) (by decide) (by decide) ?_
      exact k
    · refine XS.ifYes X0.here hx rfl (pc0 := 5) (pc' := 14) rfl (hb hby d9_5) rfl (XT.ll_le_t hb1) (by decide) (by decide) ?_
      rw [show (if (4 : Int64) < wx then (4 : Int64) else (if (2 : Int64) < wx then ((2 : Int32).toInt64) else ((1 : Int32).toInt64))) = (if (2 : Int64) < wx then ((2 : Int32).toInt64) else ((1 : Int32).toInt64)) from if_neg hb1] at k
      show Steps p.tables e below (s₁.setTop (mkF m 14 #[.val (.long wx), .second] [])) _
      refine XS.lloadN X0.here hx rfl (hb hby d9_14) rfl ?_
      refine X0.ldc2Long hx hown (mvT hZ (hw _ (List.mem_of_getElem? (i := 53) rfl))) (g := (mkF m 15 #[.val (.long wx), .second] [(.long wx)])) rfl (hb hby d9_15) _ ?_
      refine XS.lcmp X0.here hx rfl (hb hby d9_18) rfl ?_
      exact tl3 t k
  have pre6 : ∀ t, Steps p.tables e below (s₁.setTop (mkF m 28 #[.val (.long wx), .second] [(.long (if (4 : Int64) < wx then (4 : Int64) else (if (2 : Int64) < wx then ((2 : Int32).toInt64) else ((1 : Int32).toInt64))))])) t → Steps p.tables e below (s₁.setTop (entryFrame m #[(.long wx)] 2)) t := fun t k => pre5 t (by
    exact tl4 t k)
  obtain ⟨fs, hr, hrun, hended, hW, hsame⟩ := X0.leave (v := some (.long (if (4 : Int64) < wx then (4 : Int64) else (if (2 : Int64) < wx then ((2 : Int32).toInt64) else ((1 : Int32).toInt64))))) (fun h => by rw [Bd.returns] at h; cases h)
  refine ⟨_, _, pre6 _ ?_, hrun, hended, _, _, rfl, ?_, ⟨_, rfl⟩, hW, hsame.mono (by decide) (by decide)⟩
  · show Steps p.tables e below (s₁.setTop (mkF m 28 #[.val (.long wx), .second] [(.long (if (4 : Int64) < wx then (4 : Int64) else (if (2 : Int64) < wx then ((2 : Int32).toInt64) else ((1 : Int32).toInt64))))])) _
    exact Jvm.Own.retL X0 hx Bd.returns (hb hby d9_28) hr
  · show Q9 Z wx n0 Rst _ s₁.heap _
    rw [e0]
    exact ⟨(by rfl), N0, R0⟩
theorem own_pw : ∀ a : Fin 60, nj (lshl (1 : Int64) (Int32.ofNat a.1)) = 2 ^ a.1 ∧ F7 (lshl (1 : Int64) (Int32.ofNat a.1)) = Int32.ofNat a.1 ∧ ni (Int32.ofNat a.1) % 64 = a.1 ∧ 2 ^ a.1 ≤ 576460752303423488 := by decide +kernel
theorem own_cancel (s w : Int64) : (s + w) - s = w := by rw [Int64.add_comm]; exact Int64.add_sub_cancel w s
theorem own_j8 : ∀ a : Fin 8, nj (Int64.ofNat a.1) = a.1 := by decide +kernel
theorem own_i8 : ∀ a : Fin 8, nj (Int32.ofNat a.1).toInt64 = a.1 := by decide +kernel
theorem own_m (mx : Int32) : ∃ fm : Fin 8, ((mx &&& (7 : Int32)).toInt64) = Int64.ofNat fm.1 := by
  have e : ni (mx &&& (7 : Int32)) = ni mx % 8 := by rw [ni_and, show ni (7 : Int32) = 2 ^ 3 - 1 from rfl, mask_n]
  have l : ni mx % 8 < 8 := Nat.mod_lt _ (by decide)
  refine ⟨⟨ni mx % 8, l⟩, nj_inj ?_⟩
  rw [nj_i2l _ (by rw [e]; omega), e, own_j8 ⟨ni mx % 8, l⟩]
theorem own_nz {fm : Fin 8} {u : Int64} (h : u = Int64.ofNat fm.1) : (u + (1 : Int64)) ≠ 0 := by
  subst h
  revert fm
  decide +kernel
theorem own_n {fm : Fin 8} {u z : Int64} (nx : Int32) (h : u = Int64.ofNat fm.1) (hz : z = (((nx &&& (2147483647 : Int32)).toInt64) % (u + (1 : Int64)))) : ∃ fn : Fin 8, fn.1 ≤ fm.1 ∧ z = Int64.ofNat fn.1 := by
  have e : ni (nx &&& (2147483647 : Int32)) = ni nx % 2147483648 := by rw [ni_and, show ni (2147483647 : Int32) = 2 ^ 31 - 1 from rfl, mask_n]
  have l : ni nx % 2147483648 < 2147483648 := Nat.mod_lt _ (by decide)
  have l8 := fm.2
  have i1 : ((nx &&& (2147483647 : Int32)).toInt64).toInt = ((ni nx % 2147483648 : Nat) : Int) := by
    rw [nj_int, nj_i2l _ (by rw [e]; omega), e, if_pos (by omega)]
  have n2 : nj (u + (1 : Int64)) = fm.1 + 1 := by
    rw [nj_add, h, own_j8 fm, show nj (1 : Int64) = 1 from rfl]
    omega
  have i2 : (u + (1 : Int64)).toInt = ((fm.1 + 1 : Nat) : Int) := by rw [nj_int, n2, if_pos (by omega)]
  have r : z.toInt = ((ni nx % 2147483648 % (fm.1 + 1) : Nat) : Int) := by rw [hz, Int64.toInt_mod, i1, i2]; rfl
  have b : ni nx % 2147483648 % (fm.1 + 1) < fm.1 + 1 := Nat.mod_lt _ (by omega)
  generalize ni nx % 2147483648 % (fm.1 + 1) = d at r b
  refine ⟨⟨d, by omega⟩, by show d ≤ fm.1; omega, nj_inj ?_⟩
  rw [own_j8 ⟨d, by omega⟩]
  rw [nj_int] at r
  have := nj_lt z
  show nj z = d
  split at r <;> omega
/-- what is known of the law's numbers -/
theorem own_st {fn : Fin 8} {vn vu vs : Int64} {lv : Int32} {a : Nat} (ha : a < 60) (hl : lv = Int32.ofNat a) (hu : vu = (lshl (1 : Int64) lv)) (en : vn = Int64.ofNat fn.1) (hs : vs = (lshl vn lv)) :
    nj vu = 2 ^ a ∧ nj vs = fn.1 * 2 ^ a ∧ fn.1 * 2 ^ a ≤ 4035225266123964416 ∧ nj (vs + vu) = fn.1 * 2 ^ a + 2 ^ a := by
  obtain ⟨k1, -, k3, k4⟩ := own_pw ⟨a, ha⟩
  simp only at k1 k3 k4
  have l8 := fn.2
  have e1 : nj vu = 2 ^ a := by rw [hu, hl]; exact k1
  have b : fn.1 * 2 ^ a ≤ 7 * 576460752303423488 := Nat.mul_le_mul (by omega) k4
  have e2 : nj vs = fn.1 * 2 ^ a := by
    rw [hs, hl, nj_lshl _ _ a k3, en, own_j8 fn]
    exact Nat.mod_eq_of_lt (by omega)
  refine ⟨e1, e2, by omega, ?_⟩
  rw [nj_add, e1, e2]
  exact Nat.mod_eq_of_lt (by omega)
theorem own_g {fn : Fin 8} {vn vu vs : Int64} {lv : Int32} {a : Nat} (ha : a < 60) (hl : lv = Int32.ofNat a) (hu : vu = (lshl (1 : Int64) lv)) (en : vn = Int64.ofNat fn.1) (hs : vs = (lshl vn lv)) : ¬ (vs < (0 : Int64)) ∧ vs < vs + vu := by
  obtain ⟨e1, e2, b, e3⟩ := own_st ha hl hu en hs
  obtain ⟨-, -, -, k4⟩ := own_pw ⟨a, ha⟩
  simp only at k4
  have : 0 < 2 ^ a := Nat.two_pow_pos a
  constructor
  · rw [lt64, show (0 : Int64).toInt = 0 from rfl, nj_int, e2, if_pos (by omega)]; omega
  · rw [lt64, nj_int, nj_int, e2, e3, if_pos (by omega), if_pos (by omega)]; omega
theorem own_node {fn : Fin 8} {vn vu vs : Int64} {lv : Int32} {a : Nat} (ha : a < 60) (hl : lv = Int32.ofNat a) (hu : vu = (lshl (1 : Int64) lv)) (en : vn = Int64.ofNat fn.1) (hs : vs = (lshl vn lv)) : (lushr vs (F7 ((vs + vu) - vs))) = vn := by
  obtain ⟨e1, e2, b, e3⟩ := own_st ha hl hu en hs
  obtain ⟨-, k2, k3, k4⟩ := own_pw ⟨a, ha⟩
  simp only at k2 k3 k4
  rw [own_cancel, hu, hl, k2]
  apply nj_inj
  rw [nj_lushr _ _ a k3, e2, en, own_j8 fn]
  exact Nat.mul_div_cancel _ (Nat.two_pow_pos a)
theorem own_last {fm : Fin 8} {vm vn vu vs vw vz wx : Int64} {lv : Int32} {a : Nat} (ha : a < 60) (hl : lv = Int32.ofNat a) (hu : vu = (lshl (1 : Int64) lv)) (em : vm = Int64.ofNat fm.1)
    (hw : vw = (if vn = vm then (vu - (1 : Int64)) else (wx &&& (vu - (1 : Int64))))) (hz : vz = (((lshl vm lv) + vw) + (1 : Int64))) : (lushr (vz - (1 : Int64)) (F7 ((vs + vu) - vs))) = vm := by
  obtain ⟨e1, e2, b, e3⟩ := own_st (vs := (lshl vm lv)) ha hl hu em rfl
  obtain ⟨-, k2, k3, k4⟩ := own_pw ⟨a, ha⟩
  simp only at k2 k3 k4
  have p2 : 0 < 2 ^ a := Nat.two_pow_pos a
  have u1 : nj (vu - (1 : Int64)) = 2 ^ a - 1 := by
    rw [nj_sub, e1, show nj (1 : Int64) = 1 from rfl]
    omega
  have lw : nj vw ≤ 2 ^ a - 1 := by
    rw [hw]
    by_cases q : vn = vm
    · rw [if_pos q, u1]; exact Nat.le_refl _
    · rw [if_neg q, nj_and, u1]; exact Nat.and_le_right
  have z1 : vz - (1 : Int64) = (lshl vm lv) + vw := by rw [hz]; exact Int64.add_sub_cancel _ _
  rw [own_cancel, z1, hu, hl, k2, ← hl]
  apply nj_inj
  rw [hl, nj_lushr _ _ a k3, ← hl, nj_add, e2, em, own_j8 fm, Nat.mod_eq_of_lt (by omega), Nat.add_comm, Nat.add_mul_div_right _ _ p2, Nat.div_eq_of_lt (by omega), Nat.zero_add]
def frcJ (x : Int64) (k : Int64 → Bool) : Bool := bif Nat.beq (nj x) 0 then k (0 : Int64) else bif Nat.beq (nj x) 1 then k (1 : Int64) else bif Nat.beq (nj x) 2 then k (2 : Int64) else bif Nat.beq (nj x) 3 then k (3 : Int64) else bif Nat.beq (nj x) 4 then k (4 : Int64) else bif Nat.beq (nj x) 5 then k (5 : Int64) else bif Nat.beq (nj x) 6 then k (6 : Int64) else bif Nat.beq (nj x) 7 then k (7 : Int64) else bif Nat.beq (nj x) 8 then k (8 : Int64) else k x
theorem frcJ_eq (x : Int64) (k : Int64 → Bool) : frcJ x k = k x := by
  have h : ∀ (z : Int64) (n : Nat) (y : Bool), nj z = n → y = k x → (bif Nat.beq (nj x) n then k z else y) = k x := by
    intro z n y ez e
    cases hq : Nat.beq (nj x) n
    · exact e
    · have := Nat.eq_of_beq_eq_true hq
      rw [nj_inj (this.trans ez.symm)]; rfl
  exact h 0 0 _ rfl (h 1 1 _ rfl (h 2 2 _ rfl (h 3 3 _ rfl (h 4 4 _ rfl (h 5 5 _ rfl (h 6 6 _ rfl (h 7 7 _ rfl (h 8 8 _ rfl rfl))))))))
theorem own_a0_c : ∀ fm fn : Fin 8, (frcJ (Int64.ofNat fm.1) fun v3 => frcJ (Int64.ofNat fn.1) fun v5 => frcJ (v3 + (1 : Int64)) fun v31 => frcJ ((0 : Int64) + (F9 (v31 - (0 : Int64)))) fun v39 => frcJ (if (¬ (v5 < v39)) then v39 else (0 : Int64)) fun v49 => frcJ (if (¬ (v5 < v39)) then v31 else v39) fun v50 => frcJ (v49 + (F9 (v50 - v49))) fun v57 => frcJ (if (¬ (v5 < v57)) then v57 else v49) fun v67 => frcJ (if (¬ (v5 < v57)) then v50 else v57) fun v68 => (decide (¬ (fn.1 ≤ fm.1)) || (decide (¬ ((1 : Int64) < (v31 - (0 : Int64)))) || (decide (¬ ((1 : Int64) < (v50 - v49))) || (decide (¬ ((1 : Int64) < (v68 - v67))) || (decide ((F10 v3) = (0 : Int32)))))))) = true := by decide +kernel
theorem own_a0 {fm fn : Fin 8} {v5 v3 : Int64} {v31 : Int64} {v39 : Int64} {v49 : Int64} {v50 : Int64} {v57 : Int64} {v67 : Int64} {v68 : Int64} (hle : fn.1 ≤ fm.1) (em : v3 = Int64.ofNat fm.1) (en : v5 = Int64.ofNat fn.1) (hv31 : v31 = (v3 + (1 : Int64))) (hv39 : v39 = ((0 : Int64) + (F9 (v31 - (0 : Int64))))) (hv49 : v49 = (if (¬ (v5 < v39)) then v39 else (0 : Int64))) (hv50 : v50 = (if (¬ (v5 < v39)) then v31 else v39)) (hv57 : v57 = (v49 + (F9 (v50 - v49)))) (hv67 : v67 = (if (¬ (v5 < v57)) then v57 else v49)) (hv68 : v68 = (if (¬ (v5 < v57)) then v50 else v57)) (hb34 : (1 : Int64) < (v31 - (0 : Int64))) (hb52 : (1 : Int64) < (v50 - v49)) (hb70 : (1 : Int64) < (v68 - v67)) : (F10 v3) = (0 : Int32) := by
  have q := own_a0_c fm fn
  rw [frcJ_eq, ← em, frcJ_eq] at q
  rw [← en] at q
  rw [frcJ_eq, ← hv31, frcJ_eq, ← hv39, frcJ_eq, ← hv49, frcJ_eq, ← hv50, frcJ_eq, ← hv57, frcJ_eq, ← hv67, frcJ_eq, ← hv68] at q
  simp only [Bool.or_eq_true, decide_eq_true_eq] at q
  rcases q with q | q | q | q | q
  · exact absurd hle q
  · exact absurd hb34 q
  · exact absurd hb52 q
  · exact absurd hb70 q
  · exact q
theorem own_a2_c : ∀ fm fn : Fin 8, (frcJ (Int64.ofNat fm.1) fun v3 => frcJ (Int64.ofNat fn.1) fun v5 => frcJ (v3 + (1 : Int64)) fun v31 => frcJ ((0 : Int64) + (F9 (v31 - (0 : Int64)))) fun v39 => frcJ (if (¬ (v5 < v39)) then v39 else (0 : Int64)) fun v49 => frcJ (if (¬ (v5 < v39)) then v31 else v39) fun v50 => frcJ (v49 + (F9 (v50 - v49))) fun v57 => frcJ (if (¬ (v5 < v57)) then v57 else v49) fun v67 => frcJ (if (¬ (v5 < v57)) then v50 else v57) fun v68 => frcJ (v67 + (F9 (v68 - v67))) fun v75 => (decide (¬ (fn.1 ≤ fm.1)) || (decide (¬ ((1 : Int64) < (v31 - (0 : Int64)))) || (decide (¬ ((1 : Int64) < (v50 - v49))) || (decide (¬ ((1 : Int64) < (v68 - v67))) || (decide ((F11 v5 v3) = (bz (¬ (v5 < v75)))))))))) = true := by decide +kernel
theorem own_a2 {fm fn : Fin 8} {v5 v3 : Int64} {v31 : Int64} {v39 : Int64} {v49 : Int64} {v50 : Int64} {v57 : Int64} {v67 : Int64} {v68 : Int64} {v75 : Int64} (hle : fn.1 ≤ fm.1) (em : v3 = Int64.ofNat fm.1) (en : v5 = Int64.ofNat fn.1) (hv31 : v31 = (v3 + (1 : Int64))) (hv39 : v39 = ((0 : Int64) + (F9 (v31 - (0 : Int64))))) (hv49 : v49 = (if (¬ (v5 < v39)) then v39 else (0 : Int64))) (hv50 : v50 = (if (¬ (v5 < v39)) then v31 else v39)) (hv57 : v57 = (v49 + (F9 (v50 - v49)))) (hv67 : v67 = (if (¬ (v5 < v57)) then v57 else v49)) (hv68 : v68 = (if (¬ (v5 < v57)) then v50 else v57)) (hv75 : v75 = (v67 + (F9 (v68 - v67)))) (hb34 : (1 : Int64) < (v31 - (0 : Int64))) (hb52 : (1 : Int64) < (v50 - v49)) (hb70 : (1 : Int64) < (v68 - v67)) : (F11 v5 v3) = (bz (¬ (v5 < v75))) := by
  have q := own_a2_c fm fn
  rw [frcJ_eq, ← em, frcJ_eq] at q
  rw [← en] at q
  rw [frcJ_eq, ← hv31, frcJ_eq, ← hv39, frcJ_eq, ← hv49, frcJ_eq, ← hv50, frcJ_eq, ← hv57, frcJ_eq, ← hv67, frcJ_eq, ← hv68, frcJ_eq, ← hv75] at q
  simp only [Bool.or_eq_true, decide_eq_true_eq] at q
  rcases q with q | q | q | q | q
  · exact absurd hle q
  · exact absurd hb34 q
  · exact absurd hb52 q
  · exact absurd hb70 q
  · exact q
theorem own_a4_c : ∀ fm fn : Fin 8, (frcJ (Int64.ofNat fm.1) fun v3 => frcJ (Int64.ofNat fn.1) fun v5 => frcJ (v3 + (1 : Int64)) fun v31 => frcJ ((0 : Int64) + (F9 (v31 - (0 : Int64)))) fun v39 => frcJ (if (¬ (v5 < v39)) then v39 else (0 : Int64)) fun v49 => frcJ (if (¬ (v5 < v39)) then v31 else v39) fun v50 => frcJ (v49 + (F9 (v50 - v49))) fun v57 => frcJ (if (¬ (v5 < v57)) then v57 else v49) fun v67 => frcJ (if (¬ (v5 < v57)) then v50 else v57) fun v68 => frcJ (cN v5 v3) fun n1 => frcJ (cL v5 v3) fun l1 => (decide (¬ (fn.1 ≤ fm.1)) || (decide (¬ ((1 : Int64) < (v31 - (0 : Int64)))) || (decide (¬ ((1 : Int64) < (v50 - v49))) || (decide (¬ ((1 : Int64) < (v68 - v67))) || (decide ((F10 l1) = (0 : Int32)))))))) = true := by decide +kernel
theorem own_a4 {fm fn : Fin 8} {v5 v3 : Int64} {v31 : Int64} {v39 : Int64} {v49 : Int64} {v50 : Int64} {v57 : Int64} {v67 : Int64} {v68 : Int64} (hle : fn.1 ≤ fm.1) (em : v3 = Int64.ofNat fm.1) (en : v5 = Int64.ofNat fn.1) (hv31 : v31 = (v3 + (1 : Int64))) (hv39 : v39 = ((0 : Int64) + (F9 (v31 - (0 : Int64))))) (hv49 : v49 = (if (¬ (v5 < v39)) then v39 else (0 : Int64))) (hv50 : v50 = (if (¬ (v5 < v39)) then v31 else v39)) (hv57 : v57 = (v49 + (F9 (v50 - v49)))) (hv67 : v67 = (if (¬ (v5 < v57)) then v57 else v49)) (hv68 : v68 = (if (¬ (v5 < v57)) then v50 else v57)) (hb34 : (1 : Int64) < (v31 - (0 : Int64))) (hb52 : (1 : Int64) < (v50 - v49)) (hb70 : (1 : Int64) < (v68 - v67)) : (F10 (cL v5 v3)) = (0 : Int32) := by
  have q := own_a4_c fm fn
  rw [frcJ_eq, ← em, frcJ_eq] at q
  rw [← en] at q
  rw [frcJ_eq, ← hv31, frcJ_eq, ← hv39, frcJ_eq, ← hv49, frcJ_eq, ← hv50, frcJ_eq, ← hv57, frcJ_eq, ← hv67, frcJ_eq, ← hv68, frcJ_eq, frcJ_eq] at q
  simp only [Bool.or_eq_true, decide_eq_true_eq] at q
  rcases q with q | q | q | q | q
  · exact absurd hle q
  · exact absurd hb34 q
  · exact absurd hb52 q
  · exact absurd hb70 q
  · exact q
theorem own_a6_c : ∀ fm fn : Fin 8, (frcJ (Int64.ofNat fm.1) fun v3 => frcJ (Int64.ofNat fn.1) fun v5 => frcJ (v3 + (1 : Int64)) fun v31 => frcJ ((0 : Int64) + (F9 (v31 - (0 : Int64)))) fun v39 => frcJ (if (¬ (v5 < v39)) then v39 else (0 : Int64)) fun v49 => frcJ (if (¬ (v5 < v39)) then v31 else v39) fun v50 => frcJ (v49 + (F9 (v50 - v49))) fun v57 => frcJ (if (¬ (v5 < v57)) then v57 else v49) fun v67 => frcJ (if (¬ (v5 < v57)) then v50 else v57) fun v68 => frcJ (cN v5 v3) fun n1 => frcJ (cL v5 v3) fun l1 => (decide (¬ (fn.1 ≤ fm.1)) || (decide (¬ ((1 : Int64) < (v31 - (0 : Int64)))) || (decide (¬ ((1 : Int64) < (v50 - v49))) || (decide (¬ ((1 : Int64) < (v68 - v67))) || (decide ((F11 n1 l1) = (bz (¬ (v5 < v57)))))))))) = true := by decide +kernel
theorem own_a6 {fm fn : Fin 8} {v5 v3 : Int64} {v31 : Int64} {v39 : Int64} {v49 : Int64} {v50 : Int64} {v57 : Int64} {v67 : Int64} {v68 : Int64} (hle : fn.1 ≤ fm.1) (em : v3 = Int64.ofNat fm.1) (en : v5 = Int64.ofNat fn.1) (hv31 : v31 = (v3 + (1 : Int64))) (hv39 : v39 = ((0 : Int64) + (F9 (v31 - (0 : Int64))))) (hv49 : v49 = (if (¬ (v5 < v39)) then v39 else (0 : Int64))) (hv50 : v50 = (if (¬ (v5 < v39)) then v31 else v39)) (hv57 : v57 = (v49 + (F9 (v50 - v49)))) (hv67 : v67 = (if (¬ (v5 < v57)) then v57 else v49)) (hv68 : v68 = (if (¬ (v5 < v57)) then v50 else v57)) (hb34 : (1 : Int64) < (v31 - (0 : Int64))) (hb52 : (1 : Int64) < (v50 - v49)) (hb70 : (1 : Int64) < (v68 - v67)) : (F11 (cN v5 v3) (cL v5 v3)) = (bz (¬ (v5 < v57))) := by
  have q := own_a6_c fm fn
  rw [frcJ_eq, ← em, frcJ_eq] at q
  rw [← en] at q
  rw [frcJ_eq, ← hv31, frcJ_eq, ← hv39, frcJ_eq, ← hv49, frcJ_eq, ← hv50, frcJ_eq, ← hv57, frcJ_eq, ← hv67, frcJ_eq, ← hv68, frcJ_eq, frcJ_eq] at q
  simp only [Bool.or_eq_true, decide_eq_true_eq] at q
  rcases q with q | q | q | q | q
  · exact absurd hle q
  · exact absurd hb34 q
  · exact absurd hb52 q
  · exact absurd hb70 q
  · exact q
theorem own_a8_c : ∀ fm fn : Fin 8, (frcJ (Int64.ofNat fm.1) fun v3 => frcJ (Int64.ofNat fn.1) fun v5 => frcJ (v3 + (1 : Int64)) fun v31 => frcJ ((0 : Int64) + (F9 (v31 - (0 : Int64)))) fun v39 => frcJ (if (¬ (v5 < v39)) then v39 else (0 : Int64)) fun v49 => frcJ (if (¬ (v5 < v39)) then v31 else v39) fun v50 => frcJ (v49 + (F9 (v50 - v49))) fun v57 => frcJ (if (¬ (v5 < v57)) then v57 else v49) fun v67 => frcJ (if (¬ (v5 < v57)) then v50 else v57) fun v68 => frcJ (cN v5 v3) fun n1 => frcJ (cL v5 v3) fun l1 => frcJ (cN n1 l1) fun n2 => frcJ (cL n1 l1) fun l2 => (decide (¬ (fn.1 ≤ fm.1)) || (decide (¬ ((1 : Int64) < (v31 - (0 : Int64)))) || (decide (¬ ((1 : Int64) < (v50 - v49))) || (decide (¬ ((1 : Int64) < (v68 - v67))) || (decide ((F10 l2) = (0 : Int32)))))))) = true := by decide +kernel
theorem own_a8 {fm fn : Fin 8} {v5 v3 : Int64} {v31 : Int64} {v39 : Int64} {v49 : Int64} {v50 : Int64} {v57 : Int64} {v67 : Int64} {v68 : Int64} (hle : fn.1 ≤ fm.1) (em : v3 = Int64.ofNat fm.1) (en : v5 = Int64.ofNat fn.1) (hv31 : v31 = (v3 + (1 : Int64))) (hv39 : v39 = ((0 : Int64) + (F9 (v31 - (0 : Int64))))) (hv49 : v49 = (if (¬ (v5 < v39)) then v39 else (0 : Int64))) (hv50 : v50 = (if (¬ (v5 < v39)) then v31 else v39)) (hv57 : v57 = (v49 + (F9 (v50 - v49)))) (hv67 : v67 = (if (¬ (v5 < v57)) then v57 else v49)) (hv68 : v68 = (if (¬ (v5 < v57)) then v50 else v57)) (hb34 : (1 : Int64) < (v31 - (0 : Int64))) (hb52 : (1 : Int64) < (v50 - v49)) (hb70 : (1 : Int64) < (v68 - v67)) : (F10 (cL (cN v5 v3) (cL v5 v3))) = (0 : Int32) := by
  have q := own_a8_c fm fn
  rw [frcJ_eq, ← em, frcJ_eq] at q
  rw [← en] at q
  rw [frcJ_eq, ← hv31, frcJ_eq, ← hv39, frcJ_eq, ← hv49, frcJ_eq, ← hv50, frcJ_eq, ← hv57, frcJ_eq, ← hv67, frcJ_eq, ← hv68, frcJ_eq, frcJ_eq, frcJ_eq, frcJ_eq] at q
  simp only [Bool.or_eq_true, decide_eq_true_eq] at q
  rcases q with q | q | q | q | q
  · exact absurd hle q
  · exact absurd hb34 q
  · exact absurd hb52 q
  · exact absurd hb70 q
  · exact q
theorem own_a10_c : ∀ fm fn : Fin 8, (frcJ (Int64.ofNat fm.1) fun v3 => frcJ (Int64.ofNat fn.1) fun v5 => frcJ (v3 + (1 : Int64)) fun v31 => frcJ ((0 : Int64) + (F9 (v31 - (0 : Int64)))) fun v39 => frcJ (if (¬ (v5 < v39)) then v39 else (0 : Int64)) fun v49 => frcJ (if (¬ (v5 < v39)) then v31 else v39) fun v50 => frcJ (v49 + (F9 (v50 - v49))) fun v57 => frcJ (if (¬ (v5 < v57)) then v57 else v49) fun v67 => frcJ (if (¬ (v5 < v57)) then v50 else v57) fun v68 => frcJ (cN v5 v3) fun n1 => frcJ (cL v5 v3) fun l1 => frcJ (cN n1 l1) fun n2 => frcJ (cL n1 l1) fun l2 => (decide (¬ (fn.1 ≤ fm.1)) || (decide (¬ ((1 : Int64) < (v31 - (0 : Int64)))) || (decide (¬ ((1 : Int64) < (v50 - v49))) || (decide (¬ ((1 : Int64) < (v68 - v67))) || (decide ((F11 n2 l2) = (bz (¬ (v5 < v39)))))))))) = true := by decide +kernel
theorem own_a10 {fm fn : Fin 8} {v5 v3 : Int64} {v31 : Int64} {v39 : Int64} {v49 : Int64} {v50 : Int64} {v57 : Int64} {v67 : Int64} {v68 : Int64} (hle : fn.1 ≤ fm.1) (em : v3 = Int64.ofNat fm.1) (en : v5 = Int64.ofNat fn.1) (hv31 : v31 = (v3 + (1 : Int64))) (hv39 : v39 = ((0 : Int64) + (F9 (v31 - (0 : Int64))))) (hv49 : v49 = (if (¬ (v5 < v39)) then v39 else (0 : Int64))) (hv50 : v50 = (if (¬ (v5 < v39)) then v31 else v39)) (hv57 : v57 = (v49 + (F9 (v50 - v49)))) (hv67 : v67 = (if (¬ (v5 < v57)) then v57 else v49)) (hv68 : v68 = (if (¬ (v5 < v57)) then v50 else v57)) (hb34 : (1 : Int64) < (v31 - (0 : Int64))) (hb52 : (1 : Int64) < (v50 - v49)) (hb70 : (1 : Int64) < (v68 - v67)) : (F11 (cN (cN v5 v3) (cL v5 v3)) (cL (cN v5 v3) (cL v5 v3))) = (bz (¬ (v5 < v39))) := by
  have q := own_a10_c fm fn
  rw [frcJ_eq, ← em, frcJ_eq] at q
  rw [← en] at q
  rw [frcJ_eq, ← hv31, frcJ_eq, ← hv39, frcJ_eq, ← hv49, frcJ_eq, ← hv50, frcJ_eq, ← hv57, frcJ_eq, ← hv67, frcJ_eq, ← hv68, frcJ_eq, frcJ_eq, frcJ_eq, frcJ_eq] at q
  simp only [Bool.or_eq_true, decide_eq_true_eq] at q
  rcases q with q | q | q | q | q
  · exact absurd hle q
  · exact absurd hb34 q
  · exact absurd hb52 q
  · exact absurd hb70 q
  · exact q
theorem own_a12_c : ∀ fm fn : Fin 8, (frcJ (Int64.ofNat fm.1) fun v3 => frcJ (Int64.ofNat fn.1) fun v5 => frcJ (v3 + (1 : Int64)) fun v31 => frcJ ((0 : Int64) + (F9 (v31 - (0 : Int64)))) fun v39 => frcJ (if (¬ (v5 < v39)) then v39 else (0 : Int64)) fun v49 => frcJ (if (¬ (v5 < v39)) then v31 else v39) fun v50 => frcJ (v49 + (F9 (v50 - v49))) fun v57 => frcJ (if (¬ (v5 < v57)) then v57 else v49) fun v67 => frcJ (if (¬ (v5 < v57)) then v50 else v57) fun v68 => frcJ (cN v5 v3) fun n1 => frcJ (cL v5 v3) fun l1 => frcJ (cN n1 l1) fun n2 => frcJ (cL n1 l1) fun l2 => frcJ (cN n2 l2) fun n3 => frcJ (cL n2 l2) fun l3 => (decide (¬ (fn.1 ≤ fm.1)) || (decide (¬ ((1 : Int64) < (v31 - (0 : Int64)))) || (decide (¬ ((1 : Int64) < (v50 - v49))) || (decide (¬ ((1 : Int64) < (v68 - v67))) || (decide (¬ ((F10 l3) = (0 : Int32))))))))) = true := by decide +kernel
theorem own_a12 {fm fn : Fin 8} {v5 v3 : Int64} {v31 : Int64} {v39 : Int64} {v49 : Int64} {v50 : Int64} {v57 : Int64} {v67 : Int64} {v68 : Int64} (hle : fn.1 ≤ fm.1) (em : v3 = Int64.ofNat fm.1) (en : v5 = Int64.ofNat fn.1) (hv31 : v31 = (v3 + (1 : Int64))) (hv39 : v39 = ((0 : Int64) + (F9 (v31 - (0 : Int64))))) (hv49 : v49 = (if (¬ (v5 < v39)) then v39 else (0 : Int64))) (hv50 : v50 = (if (¬ (v5 < v39)) then v31 else v39)) (hv57 : v57 = (v49 + (F9 (v50 - v49)))) (hv67 : v67 = (if (¬ (v5 < v57)) then v57 else v49)) (hv68 : v68 = (if (¬ (v5 < v57)) then v50 else v57)) (hb34 : (1 : Int64) < (v31 - (0 : Int64))) (hb52 : (1 : Int64) < (v50 - v49)) (hb70 : (1 : Int64) < (v68 - v67)) : ¬ ((F10 (cL (cN (cN v5 v3) (cL v5 v3)) (cL (cN v5 v3) (cL v5 v3)))) = (0 : Int32)) := by
  have q := own_a12_c fm fn
  rw [frcJ_eq, ← em, frcJ_eq] at q
  rw [← en] at q
  rw [frcJ_eq, ← hv31, frcJ_eq, ← hv39, frcJ_eq, ← hv49, frcJ_eq, ← hv50, frcJ_eq, ← hv57, frcJ_eq, ← hv67, frcJ_eq, ← hv68, frcJ_eq, frcJ_eq, frcJ_eq, frcJ_eq, frcJ_eq, frcJ_eq] at q
  simp only [Bool.or_eq_true, decide_eq_true_eq] at q
  rcases q with q | q | q | q | q
  · exact absurd hle q
  · exact absurd hb34 q
  · exact absurd hb52 q
  · exact absurd hb70 q
  · exact q
theorem own_a14_c : ∀ fm fn : Fin 8, (frcJ (Int64.ofNat fm.1) fun v3 => frcJ (Int64.ofNat fn.1) fun v5 => frcJ (v3 + (1 : Int64)) fun v31 => frcJ ((0 : Int64) + (F9 (v31 - (0 : Int64)))) fun v39 => frcJ (if (¬ (v5 < v39)) then v39 else (0 : Int64)) fun v49 => frcJ (if (¬ (v5 < v39)) then v31 else v39) fun v50 => frcJ (v49 + (F9 (v50 - v49))) fun v57 => frcJ (if (¬ (v5 < v57)) then v57 else v49) fun v67 => frcJ (if (¬ (v5 < v57)) then v50 else v57) fun v68 => (decide (¬ (fn.1 ≤ fm.1)) || (decide (¬ ((1 : Int64) < (v31 - (0 : Int64)))) || (decide (¬ ((1 : Int64) < (v50 - v49))) || (decide (¬ (¬ ((1 : Int64) < (v68 - v67)))) || (decide ((F10 v3) = (0 : Int32)))))))) = true := by decide +kernel
theorem own_a14 {fm fn : Fin 8} {v5 v3 : Int64} {v31 : Int64} {v39 : Int64} {v49 : Int64} {v50 : Int64} {v57 : Int64} {v67 : Int64} {v68 : Int64} (hle : fn.1 ≤ fm.1) (em : v3 = Int64.ofNat fm.1) (en : v5 = Int64.ofNat fn.1) (hv31 : v31 = (v3 + (1 : Int64))) (hv39 : v39 = ((0 : Int64) + (F9 (v31 - (0 : Int64))))) (hv49 : v49 = (if (¬ (v5 < v39)) then v39 else (0 : Int64))) (hv50 : v50 = (if (¬ (v5 < v39)) then v31 else v39)) (hv57 : v57 = (v49 + (F9 (v50 - v49)))) (hv67 : v67 = (if (¬ (v5 < v57)) then v57 else v49)) (hv68 : v68 = (if (¬ (v5 < v57)) then v50 else v57)) (hb34 : (1 : Int64) < (v31 - (0 : Int64))) (hb52 : (1 : Int64) < (v50 - v49)) (hb70 : ¬ ((1 : Int64) < (v68 - v67))) : (F10 v3) = (0 : Int32) := by
  have q := own_a14_c fm fn
  rw [frcJ_eq, ← em, frcJ_eq] at q
  rw [← en] at q
  rw [frcJ_eq, ← hv31, frcJ_eq, ← hv39, frcJ_eq, ← hv49, frcJ_eq, ← hv50, frcJ_eq, ← hv57, frcJ_eq, ← hv67, frcJ_eq, ← hv68] at q
  simp only [Bool.or_eq_true, decide_eq_true_eq] at q
  rcases q with q | q | q | q | q
  · exact absurd hle q
  · exact absurd hb34 q
  · exact absurd hb52 q
  · exact absurd hb70 q
  · exact q
theorem own_a16_c : ∀ fm fn : Fin 8, (frcJ (Int64.ofNat fm.1) fun v3 => frcJ (Int64.ofNat fn.1) fun v5 => frcJ (v3 + (1 : Int64)) fun v31 => frcJ ((0 : Int64) + (F9 (v31 - (0 : Int64)))) fun v39 => frcJ (if (¬ (v5 < v39)) then v39 else (0 : Int64)) fun v49 => frcJ (if (¬ (v5 < v39)) then v31 else v39) fun v50 => frcJ (v49 + (F9 (v50 - v49))) fun v57 => frcJ (if (¬ (v5 < v57)) then v57 else v49) fun v67 => frcJ (if (¬ (v5 < v57)) then v50 else v57) fun v68 => (decide (¬ (fn.1 ≤ fm.1)) || (decide (¬ ((1 : Int64) < (v31 - (0 : Int64)))) || (decide (¬ ((1 : Int64) < (v50 - v49))) || (decide (¬ (¬ ((1 : Int64) < (v68 - v67)))) || (decide ((F11 v5 v3) = (bz (¬ (v5 < v57)))))))))) = true := by decide +kernel
theorem own_a16 {fm fn : Fin 8} {v5 v3 : Int64} {v31 : Int64} {v39 : Int64} {v49 : Int64} {v50 : Int64} {v57 : Int64} {v67 : Int64} {v68 : Int64} (hle : fn.1 ≤ fm.1) (em : v3 = Int64.ofNat fm.1) (en : v5 = Int64.ofNat fn.1) (hv31 : v31 = (v3 + (1 : Int64))) (hv39 : v39 = ((0 : Int64) + (F9 (v31 - (0 : Int64))))) (hv49 : v49 = (if (¬ (v5 < v39)) then v39 else (0 : Int64))) (hv50 : v50 = (if (¬ (v5 < v39)) then v31 else v39)) (hv57 : v57 = (v49 + (F9 (v50 - v49)))) (hv67 : v67 = (if (¬ (v5 < v57)) then v57 else v49)) (hv68 : v68 = (if (¬ (v5 < v57)) then v50 else v57)) (hb34 : (1 : Int64) < (v31 - (0 : Int64))) (hb52 : (1 : Int64) < (v50 - v49)) (hb70 : ¬ ((1 : Int64) < (v68 - v67))) : (F11 v5 v3) = (bz (¬ (v5 < v57))) := by
  have q := own_a16_c fm fn
  rw [frcJ_eq, ← em, frcJ_eq] at q
  rw [← en] at q
  rw [frcJ_eq, ← hv31, frcJ_eq, ← hv39, frcJ_eq, ← hv49, frcJ_eq, ← hv50, frcJ_eq, ← hv57, frcJ_eq, ← hv67, frcJ_eq, ← hv68] at q
  simp only [Bool.or_eq_true, decide_eq_true_eq] at q
  rcases q with q | q | q | q | q
  · exact absurd hle q
  · exact absurd hb34 q
  · exact absurd hb52 q
  · exact absurd hb70 q
  · exact q
theorem own_a18_c : ∀ fm fn : Fin 8, (frcJ (Int64.ofNat fm.1) fun v3 => frcJ (Int64.ofNat fn.1) fun v5 => frcJ (v3 + (1 : Int64)) fun v31 => frcJ ((0 : Int64) + (F9 (v31 - (0 : Int64)))) fun v39 => frcJ (if (¬ (v5 < v39)) then v39 else (0 : Int64)) fun v49 => frcJ (if (¬ (v5 < v39)) then v31 else v39) fun v50 => frcJ (v49 + (F9 (v50 - v49))) fun v57 => frcJ (if (¬ (v5 < v57)) then v57 else v49) fun v67 => frcJ (if (¬ (v5 < v57)) then v50 else v57) fun v68 => frcJ (cN v5 v3) fun n1 => frcJ (cL v5 v3) fun l1 => (decide (¬ (fn.1 ≤ fm.1)) || (decide (¬ ((1 : Int64) < (v31 - (0 : Int64)))) || (decide (¬ ((1 : Int64) < (v50 - v49))) || (decide (¬ (¬ ((1 : Int64) < (v68 - v67)))) || (decide ((F10 l1) = (0 : Int32)))))))) = true := by decide +kernel
theorem own_a18 {fm fn : Fin 8} {v5 v3 : Int64} {v31 : Int64} {v39 : Int64} {v49 : Int64} {v50 : Int64} {v57 : Int64} {v67 : Int64} {v68 : Int64} (hle : fn.1 ≤ fm.1) (em : v3 = Int64.ofNat fm.1) (en : v5 = Int64.ofNat fn.1) (hv31 : v31 = (v3 + (1 : Int64))) (hv39 : v39 = ((0 : Int64) + (F9 (v31 - (0 : Int64))))) (hv49 : v49 = (if (¬ (v5 < v39)) then v39 else (0 : Int64))) (hv50 : v50 = (if (¬ (v5 < v39)) then v31 else v39)) (hv57 : v57 = (v49 + (F9 (v50 - v49)))) (hv67 : v67 = (if (¬ (v5 < v57)) then v57 else v49)) (hv68 : v68 = (if (¬ (v5 < v57)) then v50 else v57)) (hb34 : (1 : Int64) < (v31 - (0 : Int64))) (hb52 : (1 : Int64) < (v50 - v49)) (hb70 : ¬ ((1 : Int64) < (v68 - v67))) : (F10 (cL v5 v3)) = (0 : Int32) := by
  have q := own_a18_c fm fn
  rw [frcJ_eq, ← em, frcJ_eq] at q
  rw [← en] at q
  rw [frcJ_eq, ← hv31, frcJ_eq, ← hv39, frcJ_eq, ← hv49, frcJ_eq, ← hv50, frcJ_eq, ← hv57, frcJ_eq, ← hv67, frcJ_eq, ← hv68, frcJ_eq, frcJ_eq] at q
  simp only [Bool.or_eq_true, decide_eq_true_eq] at q
  rcases q with q | q | q | q | q
  · exact absurd hle q
  · exact absurd hb34 q
  · exact absurd hb52 q
  · exact absurd hb70 q
  · exact q
theorem own_a20_c : ∀ fm fn : Fin 8, (frcJ (Int64.ofNat fm.1) fun v3 => frcJ (Int64.ofNat fn.1) fun v5 => frcJ (v3 + (1 : Int64)) fun v31 => frcJ ((0 : Int64) + (F9 (v31 - (0 : Int64)))) fun v39 => frcJ (if (¬ (v5 < v39)) then v39 else (0 : Int64)) fun v49 => frcJ (if (¬ (v5 < v39)) then v31 else v39) fun v50 => frcJ (v49 + (F9 (v50 - v49))) fun v57 => frcJ (if (¬ (v5 < v57)) then v57 else v49) fun v67 => frcJ (if (¬ (v5 < v57)) then v50 else v57) fun v68 => frcJ (cN v5 v3) fun n1 => frcJ (cL v5 v3) fun l1 => (decide (¬ (fn.1 ≤ fm.1)) || (decide (¬ ((1 : Int64) < (v31 - (0 : Int64)))) || (decide (¬ ((1 : Int64) < (v50 - v49))) || (decide (¬ (¬ ((1 : Int64) < (v68 - v67)))) || (decide ((F11 n1 l1) = (bz (¬ (v5 < v39)))))))))) = true := by decide +kernel
theorem own_a20 {fm fn : Fin 8} {v5 v3 : Int64} {v31 : Int64} {v39 : Int64} {v49 : Int64} {v50 : Int64} {v57 : Int64} {v67 : Int64} {v68 : Int64} (hle : fn.1 ≤ fm.1) (em : v3 = Int64.ofNat fm.1) (en : v5 = Int64.ofNat fn.1) (hv31 : v31 = (v3 + (1 : Int64))) (hv39 : v39 = ((0 : Int64) + (F9 (v31 - (0 : Int64))))) (hv49 : v49 = (if (¬ (v5 < v39)) then v39 else (0 : Int64))) (hv50 : v50 = (if (¬ (v5 < v39)) then v31 else v39)) (hv57 : v57 = (v49 + (F9 (v50 - v49)))) (hv67 : v67 = (if (¬ (v5 < v57)) then v57 else v49)) (hv68 : v68 = (if (¬ (v5 < v57)) then v50 else v57)) (hb34 : (1 : Int64) < (v31 - (0 : Int64))) (hb52 : (1 : Int64) < (v50 - v49)) (hb70 : ¬ ((1 : Int64) < (v68 - v67))) : (F11 (cN v5 v3) (cL v5 v3)) = (bz (¬ (v5 < v39))) := by
  have q := own_a20_c fm fn
  rw [frcJ_eq, ← em, frcJ_eq] at q
  rw [← en] at q
  rw [frcJ_eq, ← hv31, frcJ_eq, ← hv39, frcJ_eq, ← hv49, frcJ_eq, ← hv50, frcJ_eq, ← hv57, frcJ_eq, ← hv67, frcJ_eq, ← hv68, frcJ_eq, frcJ_eq] at q
  simp only [Bool.or_eq_true, decide_eq_true_eq] at q
  rcases q with q | q | q | q | q
  · exact absurd hle q
  · exact absurd hb34 q
  · exact absurd hb52 q
  · exact absurd hb70 q
  · exact q
theorem own_a22_c : ∀ fm fn : Fin 8, (frcJ (Int64.ofNat fm.1) fun v3 => frcJ (Int64.ofNat fn.1) fun v5 => frcJ (v3 + (1 : Int64)) fun v31 => frcJ ((0 : Int64) + (F9 (v31 - (0 : Int64)))) fun v39 => frcJ (if (¬ (v5 < v39)) then v39 else (0 : Int64)) fun v49 => frcJ (if (¬ (v5 < v39)) then v31 else v39) fun v50 => frcJ (v49 + (F9 (v50 - v49))) fun v57 => frcJ (if (¬ (v5 < v57)) then v57 else v49) fun v67 => frcJ (if (¬ (v5 < v57)) then v50 else v57) fun v68 => frcJ (cN v5 v3) fun n1 => frcJ (cL v5 v3) fun l1 => frcJ (cN n1 l1) fun n2 => frcJ (cL n1 l1) fun l2 => (decide (¬ (fn.1 ≤ fm.1)) || (decide (¬ ((1 : Int64) < (v31 - (0 : Int64)))) || (decide (¬ ((1 : Int64) < (v50 - v49))) || (decide (¬ (¬ ((1 : Int64) < (v68 - v67)))) || (decide (¬ ((F10 l2) = (0 : Int32))))))))) = true := by decide +kernel
theorem own_a22 {fm fn : Fin 8} {v5 v3 : Int64} {v31 : Int64} {v39 : Int64} {v49 : Int64} {v50 : Int64} {v57 : Int64} {v67 : Int64} {v68 : Int64} (hle : fn.1 ≤ fm.1) (em : v3 = Int64.ofNat fm.1) (en : v5 = Int64.ofNat fn.1) (hv31 : v31 = (v3 + (1 : Int64))) (hv39 : v39 = ((0 : Int64) + (F9 (v31 - (0 : Int64))))) (hv49 : v49 = (if (¬ (v5 < v39)) then v39 else (0 : Int64))) (hv50 : v50 = (if (¬ (v5 < v39)) then v31 else v39)) (hv57 : v57 = (v49 + (F9 (v50 - v49)))) (hv67 : v67 = (if (¬ (v5 < v57)) then v57 else v49)) (hv68 : v68 = (if (¬ (v5 < v57)) then v50 else v57)) (hb34 : (1 : Int64) < (v31 - (0 : Int64))) (hb52 : (1 : Int64) < (v50 - v49)) (hb70 : ¬ ((1 : Int64) < (v68 - v67))) : ¬ ((F10 (cL (cN v5 v3) (cL v5 v3))) = (0 : Int32)) := by
  have q := own_a22_c fm fn
  rw [frcJ_eq, ← em, frcJ_eq] at q
  rw [← en] at q
  rw [frcJ_eq, ← hv31, frcJ_eq, ← hv39, frcJ_eq, ← hv49, frcJ_eq, ← hv50, frcJ_eq, ← hv57, frcJ_eq, ← hv67, frcJ_eq, ← hv68, frcJ_eq, frcJ_eq, frcJ_eq, frcJ_eq] at q
  simp only [Bool.or_eq_true, decide_eq_true_eq] at q
  rcases q with q | q | q | q | q
  · exact absurd hle q
  · exact absurd hb34 q
  · exact absurd hb52 q
  · exact absurd hb70 q
  · exact q
theorem own_a24_c : ∀ fm fn : Fin 8, (frcJ (Int64.ofNat fm.1) fun v3 => frcJ (Int64.ofNat fn.1) fun v5 => frcJ (v3 + (1 : Int64)) fun v31 => frcJ ((0 : Int64) + (F9 (v31 - (0 : Int64)))) fun v39 => frcJ (if (¬ (v5 < v39)) then v39 else (0 : Int64)) fun v49 => frcJ (if (¬ (v5 < v39)) then v31 else v39) fun v50 => (decide (¬ (fn.1 ≤ fm.1)) || (decide (¬ ((1 : Int64) < (v31 - (0 : Int64)))) || (decide (¬ (¬ ((1 : Int64) < (v50 - v49)))) || (decide ((F10 v3) = (0 : Int32))))))) = true := by decide +kernel
theorem own_a24 {fm fn : Fin 8} {v5 v3 : Int64} {v31 : Int64} {v39 : Int64} {v49 : Int64} {v50 : Int64} (hle : fn.1 ≤ fm.1) (em : v3 = Int64.ofNat fm.1) (en : v5 = Int64.ofNat fn.1) (hv31 : v31 = (v3 + (1 : Int64))) (hv39 : v39 = ((0 : Int64) + (F9 (v31 - (0 : Int64))))) (hv49 : v49 = (if (¬ (v5 < v39)) then v39 else (0 : Int64))) (hv50 : v50 = (if (¬ (v5 < v39)) then v31 else v39)) (hb34 : (1 : Int64) < (v31 - (0 : Int64))) (hb52 : ¬ ((1 : Int64) < (v50 - v49))) : (F10 v3) = (0 : Int32) := by
  have q := own_a24_c fm fn
  rw [frcJ_eq, ← em, frcJ_eq] at q
  rw [← en] at q
  rw [frcJ_eq, ← hv31, frcJ_eq, ← hv39, frcJ_eq, ← hv49, frcJ_eq, ← hv50] at q
  simp only [Bool.or_eq_true, decide_eq_true_eq] at q
  rcases q with q | q | q | q
  · exact absurd hle q
  · exact absurd hb34 q
  · exact absurd hb52 q
  · exact q
theorem own_a26_c : ∀ fm fn : Fin 8, (frcJ (Int64.ofNat fm.1) fun v3 => frcJ (Int64.ofNat fn.1) fun v5 => frcJ (v3 + (1 : Int64)) fun v31 => frcJ ((0 : Int64) + (F9 (v31 - (0 : Int64)))) fun v39 => frcJ (if (¬ (v5 < v39)) then v39 else (0 : Int64)) fun v49 => frcJ (if (¬ (v5 < v39)) then v31 else v39) fun v50 => (decide (¬ (fn.1 ≤ fm.1)) || (decide (¬ ((1 : Int64) < (v31 - (0 : Int64)))) || (decide (¬ (¬ ((1 : Int64) < (v50 - v49)))) || (decide ((F11 v5 v3) = (bz (¬ (v5 < v39))))))))) = true := by decide +kernel
theorem own_a26 {fm fn : Fin 8} {v5 v3 : Int64} {v31 : Int64} {v39 : Int64} {v49 : Int64} {v50 : Int64} (hle : fn.1 ≤ fm.1) (em : v3 = Int64.ofNat fm.1) (en : v5 = Int64.ofNat fn.1) (hv31 : v31 = (v3 + (1 : Int64))) (hv39 : v39 = ((0 : Int64) + (F9 (v31 - (0 : Int64))))) (hv49 : v49 = (if (¬ (v5 < v39)) then v39 else (0 : Int64))) (hv50 : v50 = (if (¬ (v5 < v39)) then v31 else v39)) (hb34 : (1 : Int64) < (v31 - (0 : Int64))) (hb52 : ¬ ((1 : Int64) < (v50 - v49))) : (F11 v5 v3) = (bz (¬ (v5 < v39))) := by
  have q := own_a26_c fm fn
  rw [frcJ_eq, ← em, frcJ_eq] at q
  rw [← en] at q
  rw [frcJ_eq, ← hv31, frcJ_eq, ← hv39, frcJ_eq, ← hv49, frcJ_eq, ← hv50] at q
  simp only [Bool.or_eq_true, decide_eq_true_eq] at q
  rcases q with q | q | q | q
  · exact absurd hle q
  · exact absurd hb34 q
  · exact absurd hb52 q
  · exact q
theorem own_a28_c : ∀ fm fn : Fin 8, (frcJ (Int64.ofNat fm.1) fun v3 => frcJ (Int64.ofNat fn.1) fun v5 => frcJ (v3 + (1 : Int64)) fun v31 => frcJ ((0 : Int64) + (F9 (v31 - (0 : Int64)))) fun v39 => frcJ (if (¬ (v5 < v39)) then v39 else (0 : Int64)) fun v49 => frcJ (if (¬ (v5 < v39)) then v31 else v39) fun v50 => frcJ (cN v5 v3) fun n1 => frcJ (cL v5 v3) fun l1 => (decide (¬ (fn.1 ≤ fm.1)) || (decide (¬ ((1 : Int64) < (v31 - (0 : Int64)))) || (decide (¬ (¬ ((1 : Int64) < (v50 - v49)))) || (decide (¬ ((F10 l1) = (0 : Int32)))))))) = true := by decide +kernel
theorem own_a28 {fm fn : Fin 8} {v5 v3 : Int64} {v31 : Int64} {v39 : Int64} {v49 : Int64} {v50 : Int64} (hle : fn.1 ≤ fm.1) (em : v3 = Int64.ofNat fm.1) (en : v5 = Int64.ofNat fn.1) (hv31 : v31 = (v3 + (1 : Int64))) (hv39 : v39 = ((0 : Int64) + (F9 (v31 - (0 : Int64))))) (hv49 : v49 = (if (¬ (v5 < v39)) then v39 else (0 : Int64))) (hv50 : v50 = (if (¬ (v5 < v39)) then v31 else v39)) (hb34 : (1 : Int64) < (v31 - (0 : Int64))) (hb52 : ¬ ((1 : Int64) < (v50 - v49))) : ¬ ((F10 (cL v5 v3)) = (0 : Int32)) := by
  have q := own_a28_c fm fn
  rw [frcJ_eq, ← em, frcJ_eq] at q
  rw [← en] at q
  rw [frcJ_eq, ← hv31, frcJ_eq, ← hv39, frcJ_eq, ← hv49, frcJ_eq, ← hv50, frcJ_eq, frcJ_eq] at q
  simp only [Bool.or_eq_true, decide_eq_true_eq] at q
  rcases q with q | q | q | q
  · exact absurd hle q
  · exact absurd hb34 q
  · exact absurd hb52 q
  · exact q
theorem own_a30_c : ∀ fm fn : Fin 8, (frcJ (Int64.ofNat fm.1) fun v3 => frcJ (Int64.ofNat fn.1) fun v5 => frcJ (v3 + (1 : Int64)) fun v31 => (decide (¬ (fn.1 ≤ fm.1)) || (decide (¬ (¬ ((1 : Int64) < (v31 - (0 : Int64))))) || (decide (¬ ((F10 v3) = (0 : Int32))))))) = true := by decide +kernel
theorem own_a30 {fm fn : Fin 8} {v5 v3 : Int64} {v31 : Int64} (hle : fn.1 ≤ fm.1) (em : v3 = Int64.ofNat fm.1) (en : v5 = Int64.ofNat fn.1) (hv31 : v31 = (v3 + (1 : Int64))) (hb34 : ¬ ((1 : Int64) < (v31 - (0 : Int64)))) : ¬ ((F10 v3) = (0 : Int32)) := by
  have q := own_a30_c fm fn
  rw [frcJ_eq, ← em, frcJ_eq] at q
  rw [frcJ_eq, ← hv31] at q
  simp only [Bool.or_eq_true, decide_eq_true_eq] at q
  rcases q with q | q | q
  · exact absurd hle q
  · exact absurd hb34 q
  · exact q
theorem pd__28JJ_29V : parseMethodDescriptor "(JJ)V" = some ⟨[.long, .long], none⟩ := by decide +kernel
theorem pd__28Lcom_2fexample_2fgapless_5flog_2fgaplesslog_2ftree_2fSubtree_3bJ_29V : parseMethodDescriptor "(Lcom/example/gapless_log/gaplesslog/tree/Subtree;J)V" = some ⟨[(.object "com/example/gapless_log/gaplesslog/tree/Subtree"), .long], none⟩ := by decide +kernel
theorem pd__28J_29J : parseMethodDescriptor "(J)J" = some ⟨[.long], some .long⟩ := by decide +kernel
theorem ef_0 (m : MethodId) (x0 : Int32) (x1 : Int32) (x2 : Int32) (x3 : Int64) : entryFrame m #[(.int x0), (.int x1), (.int x2), (.long x3)] maxLocals = mkF m 0 #[.val (.int x0), .val (.int x1), .val (.int x2), .val (.long x3), .second, .unset, .unset, .unset, .unset, .unset, .unset, .unset, .unset, .unset, .unset, .unset, .unset, .unset, .unset, .unset, .unset, .unset, .unset, .unset, .unset, .unset, .unset, .unset, .unset, .unset, .unset] [] := by first | (simp [entryFrame, mkF, argsToLocals, Value.category, maxLocals]; done) | rfl
def Q0 (Z : State) (lvx : Int32) (nx : Int32) (mx : Int32) (wx : Int64) (n0 : Nat) (Rst : RL) (v : Option Value) (h : Heap) (L : List Loc) : Prop := v = some (.int (1 : Int32)) ∧ Fr n0 L ∧ Rep Z n0 h (Rst)
set_option maxRecDepth 65536 in
set_option maxHeartbeats 40000000 in
theorem rm0 (l : Launch) (Z : State) (a0 : Array Value) (hw : ∀ d ∈ tables_1, d.before a0 Z = true) (ws : List Jvm.Cond) (lvx : Int32) (nx : Int32) (mx : Int32) (wx : Int64) (h0 : Heap) (n0 : Nat) (R0 : Rep Z n0 h0 ([])) :
    MetFree l x (head1 (Jvm.Cond.code x code maxLocals ret :: ws) room_1) (fun a U => a = #[(.int lvx), (.int nx), (.int mx), (.long wx)] ∧ Z.Warmed39 U.vm ∧ U.heap = h0) (fun _ _ _ _ _ => True) (fun _ U o U' => ∃ v L, o = .returned v ∧ Q0 Z lvx nx mx wx n0 [] v U'.heap L ∧ FrameEnd U o U' L 16 128) := by
  refine MetFree.of_bodySF (plainFor_of_name pn_com_example_gapless_log_gaplesslog_tree_AscentClimbPinLaw) hisR ?_
  intro p e s m args below meth c s₁ Bd hml0 hP hK
  obtain ⟨rfl, hZ, hh⟩ := hP
  have hx := Bd.exec
  have hby := Bd.bytes
  have hml : c.maxLocals = 31 := hml0
  have hown : s.vm.findClass "com/example/gapless_log/gaplesslog/tree/AscentClimbPinLaw" = some m.cls := findClass_of_methodNamed Bd.named
  have hnm := (name_of_methodNamed Bd.named Bd.method).1
  have X0 : Stand p l e room_1 s m #[(.int lvx), (.int nx), (.int mx), (.long wx)] below meth c s₁ [] 0 0 := Stand.of_body Bd
  have e0 : s₁.heap = h0 := by rw [← hh, Bd.state]; rfl
  have N0 := Fr.nil n0
  have pre0 : ∀ t, Steps p.tables e below (s₁.setTop (mkF m 0 #[.val (.int lvx), .val (.int nx), .val (.int mx), .val (.long wx), .second, .unset, .unset, .unset, .unset, .unset, .unset, .unset, .unset, .unset, .unset, .unset, .unset, .unset, .unset, .unset, .unset, .unset, .unset, .unset, .unset, .unset, .unset, .unset, .unset, .unset, .unset] [])) t → Steps p.tables e below (s₁.setTop (entryFrame m #[(.int lvx), (.int nx), (.int mx), (.long wx)] maxLocals)) t := fun t k => castTop (ef_0 m lvx nx mx wx) k
  have pre2 : ∀ t, Steps p.tables e below (s₁.setTop (mkF m 9 #[.val (.int lvx), .val (.int nx), .val (.int mx), .val (.long wx), .second, .val (.int ((lvx &&& (2147483647 : Int32)) % (60 : Int32))), .unset, .unset, .unset, .unset, .unset, .unset, .unset, .unset, .unset, .unset, .unset, .unset, .unset, .unset, .unset, .unset, .unset, .unset, .unset, .unset, .unset, .unset, .unset, .unset, .unset] [])) t → Steps p.tables e below (s₁.setTop (entryFrame m #[(.int lvx), (.int nx), (.int mx), (.long wx)] maxLocals)) t := fun t k => pre0 t (by
    show Steps p.tables e below (s₁.setTop (mkF m 0 #[.val (.int lvx), .val (.int nx), .val (.int mx), .val (.long wx), .second, .unset, .unset, .unset, .unset, .unset, .unset, .unset, .unset, .unset, .unset, .unset, .unset, .unset, .unset, .unset, .unset, .unset, .unset, .unset, .unset, .unset, .unset, .unset, .unset, .unset, .unset] [])) _
    refine XS.iloadN X0.here hx rfl (hb hby at_0) rfl ?_
    refine X0.ldcInt hx hown (mvT hZ (hw _ (List.mem_of_getElem? (i := 0) rfl))) (g := (mkF m 1 #[.val (.int lvx), .val (.int nx), .val (.int mx), .val (.long wx), .second, .unset, .unset, .unset, .unset, .unset, .unset, .unset, .unset, .unset, .unset, .unset, .unset, .unset, .unset, .unset, .unset, .unset, .unset, .unset, .unset, .unset, .unset, .unset, .unset, .unset, .unset] [(.int lvx)])) rfl (hb hby at_1) _ ?_
    refine XS.iand X0.here hx rfl (hb hby at_3) rfl ?_
    refine XS.bipush X0.here hx rfl (hb hby at_4) ?_
    refine iremM X0 hx rfl (hb hby at_6) rfl (by decide) ?_
    refine XS.istore X0.here hx rfl (hb hby at_7) rfl (l' := #[.val (.int lvx), .val (.int nx), .val (.int mx), .val (.long wx), .second, .val (.int ((lvx &&& (2147483647 : Int32)) % (60 : Int32))), .unset, .unset, .unset, .unset, .unset, .unset, .unset, .unset, .unset, .unset, .unset, .unset, .unset, .unset, .unset, .unset, .unset, .unset, .unset, .unset, .unset, .unset, .unset, .unset, .unset]) rfl ?_
    exact k)
  obtain ⟨v1, hv1⟩ : ∃ z : Int32, z = ((lvx &&& (2147483647 : Int32)) % (60 : Int32)) := ⟨_, rfl⟩
  rw [← hv1] at pre2
  obtain ⟨an, han, ean⟩ := remN lvx (60 : Int32) 60 rfl (by decide) (by decide)
  have hl : v1 = Int32.ofNat an := hv1.trans ean
  have pre4 : ∀ t, Steps p.tables e below (s₁.setTop (mkF m 16 #[.val (.int lvx), .val (.int nx), .val (.int mx), .val (.long wx), .second, .val (.int v1), .val (.long ((mx &&& (7 : Int32)).toInt64)), .second, .unset, .unset, .unset, .unset, .unset, .unset, .unset, .unset, .unset, .unset, .unset, .unset, .unset, .unset, .unset, .unset, .unset, .unset, .unset, .unset, .unset, .unset, .unset] [])) t → Steps p.tables e below (s₁.setTop (entryFrame m #[(.int lvx), (.int nx), (.int mx), (.long wx)] maxLocals)) t := fun t k => pre2 t (by
    show Steps p.tables e below (s₁.setTop (mkF m 9 #[.val (.int lvx), .val (.int nx), .val (.int mx), .val (.long wx), .second, .val (.int v1), .unset, .unset, .unset, .unset, .unset, .unset, .unset, .unset, .unset, .unset, .unset, .unset, .unset, .unset, .unset, .unset, .unset, .unset, .unset, .unset, .unset, .unset, .unset, .unset, .unset] [])) _
    refine XS.iloadN X0.here hx rfl (hb hby at_9) rfl ?_
    refine XS.bipush X0.here hx rfl (hb hby at_10) ?_
    refine XS.iand X0.here hx rfl (hb hby at_12) rfl ?_
    refine XS.i2l X0.here hx rfl (hb hby at_13) rfl ?_
    refine XS.lstore X0.here hx rfl (hb hby at_14) rfl (l' := #[.val (.int lvx), .val (.int nx), .val (.int mx), .val (.long wx), .second, .val (.int v1), .val (.long ((mx &&& (7 : Int32)).toInt64)), .second, .unset, .unset, .unset, .unset, .unset, .unset, .unset, .unset, .unset, .unset, .unset, .unset, .unset, .unset, .unset, .unset, .unset, .unset, .unset, .unset, .unset, .unset, .unset]) rfl ?_
    exact k)
  obtain ⟨v3, hv3⟩ : ∃ z : Int64, z = ((mx &&& (7 : Int32)).toInt64) := ⟨_, rfl⟩
  rw [← hv3] at pre4
  obtain ⟨fm, em0⟩ := own_m mx
  have em : v3 = Int64.ofNat fm.1 := hv3.trans em0
  have pre6 : ∀ t, Steps p.tables e below (s₁.setTop (mkF m 28 #[.val (.int lvx), .val (.int nx), .val (.int mx), .val (.long wx), .second, .val (.int v1), .val (.long v3), .second, .val (.long (((nx &&& (2147483647 : Int32)).toInt64) % (v3 + (1 : Int64)))), .second, .unset, .unset, .unset, .unset, .unset, .unset, .unset, .unset, .unset, .unset, .unset, .unset, .unset, .unset, .unset, .unset, .unset, .unset, .unset, .unset, .unset] [])) t → Steps p.tables e below (s₁.setTop (entryFrame m #[(.int lvx), (.int nx), (.int mx), (.long wx)] maxLocals)) t := fun t k => pre4 t (by
    show Steps p.tables e below (s₁.setTop (mkF m 16 #[.val (.int lvx), .val (.int nx), .val (.int mx), .val (.long wx), .second, .val (.int v1), .val (.long v3), .second, .unset, .unset, .unset, .unset, .unset, .unset, .unset, .unset, .unset, .unset, .unset, .unset, .unset, .unset, .unset, .unset, .unset, .unset, .unset, .unset, .unset, .unset, .unset] [])) _
    refine XS.iloadN X0.here hx rfl (hb hby at_16) rfl ?_
    refine X0.ldcInt hx hown (mvT hZ (hw _ (List.mem_of_getElem? (i := 0) rfl))) (g := (mkF m 17 #[.val (.int lvx), .val (.int nx), .val (.int mx), .val (.long wx), .second, .val (.int v1), .val (.long v3), .second, .unset, .unset, .unset, .unset, .unset, .unset, .unset, .unset, .unset, .unset, .unset, .unset, .unset, .unset, .unset, .unset, .unset, .unset, .unset, .unset, .unset, .unset, .unset] [(.int nx)])) rfl (hb hby at_17) _ ?_
    refine XS.iand X0.here hx rfl (hb hby at_19) rfl ?_
    refine XS.i2l X0.here hx rfl (hb hby at_20) rfl ?_
    refine XS.lload X0.here hx rfl (hb hby at_21) rfl ?_
    refine XS.lconst X0.here hx rfl (hb hby at_23) ?_
    refine XS.ladd X0.here hx rfl (hb hby at_24) rfl ?_
    show Steps p.tables e below (s₁.setTop (mkF m 25 #[.val (.int lvx), .val (.int nx), .val (.int mx), .val (.long wx), .second, .val (.int v1), .val (.long v3), .second, .unset, .unset, .unset, .unset, .unset, .unset, .unset, .unset, .unset, .unset, .unset, .unset, .unset, .unset, .unset, .unset, .unset, .unset, .unset, .unset, .unset, .unset, .unset] [(.long (v3 + (1 : Int64))), (.long ((nx &&& (2147483647 : Int32)).toInt64))])) _
    refine XS.lrem X0.here hx rfl (hb hby at_25) rfl ((own_nz em) : (v3 + (1 : Int64)) ≠ 0) ?_
    rw [lrem_mod]
    show Steps p.tables e below (s₁.setTop (mkF m 26 #[.val (.int lvx), .val (.int nx), .val (.int mx), .val (.long wx), .second, .val (.int v1), .val (.long v3), .second, .unset, .unset, .unset, .unset, .unset, .unset, .unset, .unset, .unset, .unset, .unset, .unset, .unset, .unset, .unset, .unset, .unset, .unset, .unset, .unset, .unset, .unset, .unset] [(.long (((nx &&& (2147483647 : Int32)).toInt64) % (v3 + (1 : Int64))))])) _
    refine XS.lstore X0.here hx rfl (hb hby at_26) rfl (l' := #[.val (.int lvx), .val (.int nx), .val (.int mx), .val (.long wx), .second, .val (.int v1), .val (.long v3), .second, .val (.long (((nx &&& (2147483647 : Int32)).toInt64) % (v3 + (1 : Int64)))), .second, .unset, .unset, .unset, .unset, .unset, .unset, .unset, .unset, .unset, .unset, .unset, .unset, .unset, .unset, .unset, .unset, .unset, .unset, .unset, .unset, .unset]) rfl ?_
    exact k)
  obtain ⟨v5, hv5⟩ : ∃ z : Int64, z = (((nx &&& (2147483647 : Int32)).toInt64) % (v3 + (1 : Int64))) := ⟨_, rfl⟩
  rw [← hv5] at pre6
  obtain ⟨fn, hle, en⟩ := own_n nx em hv5
  have pre8 : ∀ t, Steps p.tables e below (s₁.setTop (mkF m 34 #[.val (.int lvx), .val (.int nx), .val (.int mx), .val (.long wx), .second, .val (.int v1), .val (.long v3), .second, .val (.long v5), .second, .val (.long (lshl (1 : Int64) v1)), .second, .unset, .unset, .unset, .unset, .unset, .unset, .unset, .unset, .unset, .unset, .unset, .unset, .unset, .unset, .unset, .unset, .unset, .unset, .unset] [])) t → Steps p.tables e below (s₁.setTop (entryFrame m #[(.int lvx), (.int nx), (.int mx), (.long wx)] maxLocals)) t := fun t k => pre6 t (by
    show Steps p.tables e below (s₁.setTop (mkF m 28 #[.val (.int lvx), .val (.int nx), .val (.int mx), .val (.long wx), .second, .val (.int v1), .val (.long v3), .second, .val (.long v5), .second, .unset, .unset, .unset, .unset, .unset, .unset, .unset, .unset, .unset, .unset, .unset, .unset, .unset, .unset, .unset, .unset, .unset, .unset, .unset, .unset, .unset] [])) _
    refine XS.lconst X0.here hx rfl (hb hby at_28) ?_
    refine XS.iload X0.here hx rfl (hb hby at_29) rfl ?_
    refine XS.lshl X0.here hx rfl (hb hby at_31) rfl ?_
    refine XS.lstore X0.here hx rfl (hb hby at_32) rfl (l' := #[.val (.int lvx), .val (.int nx), .val (.int mx), .val (.long wx), .second, .val (.int v1), .val (.long v3), .second, .val (.long v5), .second, .val (.long (lshl (1 : Int64) v1)), .second, .unset, .unset, .unset, .unset, .unset, .unset, .unset, .unset, .unset, .unset, .unset, .unset, .unset, .unset, .unset, .unset, .unset, .unset, .unset]) rfl ?_
    exact k)
  obtain ⟨v7, hv7⟩ : ∃ z : Int64, z = (lshl (1 : Int64) v1) := ⟨_, rfl⟩
  rw [← hv7] at pre8
  have pre11 : ∀ t, Steps p.tables e below (s₁.setTop (mkF m 39 #[.val (.int lvx), .val (.int nx), .val (.int mx), .val (.long wx), .second, .val (.int v1), .val (.long v3), .second, .val (.long v5), .second, .val (.long v7), .second, .unset, .unset, .unset, .unset, .unset, .unset, .unset, .unset, .unset, .unset, .unset, .unset, .unset, .unset, .unset, .unset, .unset, .unset, .unset] [(.int (XT.cmpL v5 v3))])) t → Steps p.tables e below (s₁.setTop (entryFrame m #[(.int lvx), (.int nx), (.int mx), (.long wx)] maxLocals)) t := fun t k => pre8 t (by
    show Steps p.tables e below (s₁.setTop (mkF m 34 #[.val (.int lvx), .val (.int nx), .val (.int mx), .val (.long wx), .second, .val (.int v1), .val (.long v3), .second, .val (.long v5), .second, .val (.long v7), .second, .unset, .unset, .unset, .unset, .unset, .unset, .unset, .unset, .unset, .unset, .unset, .unset, .unset, .unset, .unset, .unset, .unset, .unset, .unset] [])) _
    refine XS.lload X0.here hx rfl (hb hby at_34) rfl ?_
    refine XS.lload X0.here hx rfl (hb hby at_36) rfl ?_
    refine XS.lcmp X0.here hx rfl (hb hby at_38) rfl ?_
    exact k)
  have tl10 : ∀ t, Steps p.tables e below (s₁.setTop (mkF m 55 #[.val (.int lvx), .val (.int nx), .val (.int mx), .val (.long wx), .second, .val (.int v1), .val (.long v3), .second, .val (.long v5), .second, .val (.long v7), .second, .unset, .unset, .unset, .unset, .unset, .unset, .unset, .unset, .unset, .unset, .unset, .unset, .unset, .unset, .unset, .unset, .unset, .unset, .unset] [(.long (if v5 = v3 then (v7 - (1 : Int64)) else (wx &&& (v7 - (1 : Int64)))))])) t → Steps p.tables e below (s₁.setTop (mkF m 39 #[.val (.int lvx), .val (.int nx), .val (.int mx), .val (.long wx), .second, .val (.int v1), .val (.long v3), .second, .val (.long v5), .second, .val (.long v7), .second, .unset, .unset, .unset, .unset, .unset, .unset, .unset, .unset, .unset, .unset, .unset, .unset, .unset, .unset, .unset, .unset, .unset, .unset, .unset] [(.int (XT.cmpL v5 v3))])) t := fun t k => by
    by_cases hb9 : v5 = v3
    · refine XS.ifNo X0.here hx rfl (hb hby at_39) rfl (XT.ll_ne_f hb9) ?_
      rw [show (if v5 = v3 then (v7 - (1 : Int64)) else (wx &&& (v7 - (1 : Int64)))) = (v7 - (1 : Int64)) from if_pos hb9] at k
      show Steps p.tables e below (s₁.setTop (mkF m 42 #[.val (.int lvx), .val (.int nx), .val (.int mx), .val (.long wx), .second, .val (.int v1), .val (.long v3), .second, .val (.long v5), .second, .val (.long v7), .second, .unset, .unset, .unset, .unset, .unset, .unset, .unset, .unset, .unset, .unset, .unset, .unset, .unset, .unset, .unset, .unset, .unset, .unset, .unset] [])) _
      refine XS.lload X0.here hx rfl (hb hby at_42) rfl ?_
      refine XS.lconst X0.here hx rfl (hb hby at_44) ?_
      refine XS.lsub X0.here hx rfl (hb hby at_45) rfl ?_
      refine XS.goto X0.here hx rfl (pc0 := 46) (pc' := 55) rfl (hb hby at_46) (by decide) (by decide) ?_
      exact k
    · refine XS.ifYes X0.here hx rfl (pc0 := 39) (pc' := 49) rfl (hb hby at_39) rfl (XT.ll_ne_t hb9) (by decide) (by decide) ?_
      rw [show (if v5 = v3 then (v7 - (1 : Int64)) else (wx &&& (v7 - (1 : Int64)))) = (wx &&& (v7 - (1 : Int64))) from if_neg hb9] at k
      show Steps p.tables e below (s₁.setTop (mkF m 49 #[.val (.int lvx), .val (.int nx), .val (.int mx), .val (.long wx), .second, .val (.int v1), .val (.long v3), .second, .val (.long v5), .second, .val (.long v7), .second, .unset, .unset, .unset, .unset, .unset, .unset, .unset, .unset, .unset, .unset, .unset, .unset, .unset, .unset, .unset, .unset, .unset, .unset, .unset] [])) _
      refine XS.lloadN X0.here hx rfl (hb hby at_49) rfl ?_
      refine XS.lload X0.here hx rfl (hb hby at_50) rfl ?_
      refine XS.lconst X0.here hx rfl (hb hby at_52) ?_
      refine XS.lsub X0.here hx rfl (hb hby at_53) rfl ?_
      refine XS.land X0.here hx rfl (hb hby at_54) rfl ?_
      exact k
  have pre12 : ∀ t, Steps p.tables e below (s₁.setTop (mkF m 55 #[.val (.int lvx), .val (.int nx), .val (.int mx), .val (.long wx), .second, .val (.int v1), .val (.long v3), .second, .val (.long v5), .second, .val (.long v7), .second, .unset, .unset, .unset, .unset, .unset, .unset, .unset, .unset, .unset, .unset, .unset, .unset, .unset, .unset, .unset, .unset, .unset, .unset, .unset] [(.long (if v5 = v3 then (v7 - (1 : Int64)) else (wx &&& (v7 - (1 : Int64)))))])) t → Steps p.tables e below (s₁.setTop (entryFrame m #[(.int lvx), (.int nx), (.int mx), (.long wx)] maxLocals)) t := fun t k => pre11 t (by
    exact tl10 t k)
  obtain ⟨v13, hv13⟩ : ∃ z : Int64, z = (if v5 = v3 then (v7 - (1 : Int64)) else (wx &&& (v7 - (1 : Int64)))) := ⟨_, rfl⟩
  rw [← hv13] at pre12
  have pre15 : ∀ t, Steps p.tables e below (s₁.setTop (mkF m 69 #[.val (.int lvx), .val (.int nx), .val (.int mx), .val (.long wx), .second, .val (.int v1), .val (.long v3), .second, .val (.long v5), .second, .val (.long v7), .second, .val (.long v13), .second, .val (.long (((lshl v3 v1) + v13) + (1 : Int64))), .second, .unset, .unset, .unset, .unset, .unset, .unset, .unset, .unset, .unset, .unset, .unset, .unset, .unset, .unset, .unset] [])) t → Steps p.tables e below (s₁.setTop (entryFrame m #[(.int lvx), (.int nx), (.int mx), (.long wx)] maxLocals)) t := fun t k => pre12 t (by
    show Steps p.tables e below (s₁.setTop (mkF m 55 #[.val (.int lvx), .val (.int nx), .val (.int mx), .val (.long wx), .second, .val (.int v1), .val (.long v3), .second, .val (.long v5), .second, .val (.long v7), .second, .unset, .unset, .unset, .unset, .unset, .unset, .unset, .unset, .unset, .unset, .unset, .unset, .unset, .unset, .unset, .unset, .unset, .unset, .unset] [(.long v13)])) _
    refine XS.lstore X0.here hx rfl (hb hby at_55) rfl (l' := #[.val (.int lvx), .val (.int nx), .val (.int mx), .val (.long wx), .second, .val (.int v1), .val (.long v3), .second, .val (.long v5), .second, .val (.long v7), .second, .val (.long v13), .second, .unset, .unset, .unset, .unset, .unset, .unset, .unset, .unset, .unset, .unset, .unset, .unset, .unset, .unset, .unset, .unset, .unset]) rfl ?_
    refine XS.lload X0.here hx rfl (hb hby at_57) rfl ?_
    refine XS.iload X0.here hx rfl (hb hby at_59) rfl ?_
    refine XS.lshl X0.here hx rfl (hb hby at_61) rfl ?_
    refine XS.lload X0.here hx rfl (hb hby at_62) rfl ?_
    refine XS.ladd X0.here hx rfl (hb hby at_64) rfl ?_
    refine XS.lconst X0.here hx rfl (hb hby at_65) ?_
    show Steps p.tables e below (s₁.setTop (mkF m 66 #[.val (.int lvx), .val (.int nx), .val (.int mx), .val (.long wx), .second, .val (.int v1), .val (.long v3), .second, .val (.long v5), .second, .val (.long v7), .second, .val (.long v13), .second, .unset, .unset, .unset, .unset, .unset, .unset, .unset, .unset, .unset, .unset, .unset, .unset, .unset, .unset, .unset, .unset, .unset] [(.long (1 : Int64)), (.long ((lshl v3 v1) + v13))])) _
    refine XS.ladd X0.here hx rfl (hb hby at_66) rfl ?_
    refine XS.lstore X0.here hx rfl (hb hby at_67) rfl (l' := #[.val (.int lvx), .val (.int nx), .val (.int mx), .val (.long wx), .second, .val (.int v1), .val (.long v3), .second, .val (.long v5), .second, .val (.long v7), .second, .val (.long v13), .second, .val (.long (((lshl v3 v1) + v13) + (1 : Int64))), .second, .unset, .unset, .unset, .unset, .unset, .unset, .unset, .unset, .unset, .unset, .unset, .unset, .unset, .unset, .unset]) rfl ?_
    exact k)
  obtain ⟨v14, hv14⟩ : ∃ z : Int64, z = (((lshl v3 v1) + v13) + (1 : Int64)) := ⟨_, rfl⟩
  rw [← hv14] at pre15
  have pre17 : ∀ t, Steps p.tables e below (s₁.setTop (mkF m 76 #[.val (.int lvx), .val (.int nx), .val (.int mx), .val (.long wx), .second, .val (.int v1), .val (.long v3), .second, .val (.long v5), .second, .val (.long v7), .second, .val (.long v13), .second, .val (.long v14), .second, .val (.long (lshl v5 v1)), .second, .unset, .unset, .unset, .unset, .unset, .unset, .unset, .unset, .unset, .unset, .unset, .unset, .unset] [])) t → Steps p.tables e below (s₁.setTop (entryFrame m #[(.int lvx), (.int nx), (.int mx), (.long wx)] maxLocals)) t := fun t k => pre15 t (by
    show Steps p.tables e below (s₁.setTop (mkF m 69 #[.val (.int lvx), .val (.int nx), .val (.int mx), .val (.long wx), .second, .val (.int v1), .val (.long v3), .second, .val (.long v5), .second, .val (.long v7), .second, .val (.long v13), .second, .val (.long v14), .second, .unset, .unset, .unset, .unset, .unset, .unset, .unset, .unset, .unset, .unset, .unset, .unset, .unset, .unset, .unset] [])) _
    refine XS.lload X0.here hx rfl (hb hby at_69) rfl ?_
    refine XS.iload X0.here hx rfl (hb hby at_71) rfl ?_
    refine XS.lshl X0.here hx rfl (hb hby at_73) rfl ?_
    refine XS.lstore X0.here hx rfl (hb hby at_74) rfl (l' := #[.val (.int lvx), .val (.int nx), .val (.int mx), .val (.long wx), .second, .val (.int v1), .val (.long v3), .second, .val (.long v5), .second, .val (.long v7), .second, .val (.long v13), .second, .val (.long v14), .second, .val (.long (lshl v5 v1)), .second, .unset, .unset, .unset, .unset, .unset, .unset, .unset, .unset, .unset, .unset, .unset, .unset, .unset]) rfl ?_
    exact k)
  obtain ⟨v16, hv16⟩ : ∃ z : Int64, z = (lshl v5 v1) := ⟨_, rfl⟩
  rw [← hv16] at pre17
  obtain ⟨T18, h18, b18, X18, e18, R18, st18⟩ := gNew X0 hx hZ hown (hw _ (List.mem_of_getElem? (i := 1) rfl)) (hw _ (List.mem_of_getElem? (i := 2) rfl)) (hw _ (List.mem_of_getElem? (i := 3) rfl)) e0 R0 (fs := [("node", "J", (.long (0 : Int64))), ("last", "J", (.long (0 : Int64)))]) ⟨⟨Or.inl (hw _ (List.mem_of_getElem? (i := 45) rfl)), .long, by decide, rfl⟩, ⟨⟨Or.inl (hw _ (List.mem_of_getElem? (i := 47) rfl)), .long, by decide, rfl⟩, trivial⟩⟩ (by decide) (g := (mkF m 76 #[.val (.int lvx), .val (.int nx), .val (.int mx), .val (.long wx), .second, .val (.int v1), .val (.long v3), .second, .val (.long v5), .second, .val (.long v7), .second, .val (.long v13), .second, .val (.long v14), .second, .val (.long v16), .second, .unset, .unset, .unset, .unset, .unset, .unset, .unset, .unset, .unset, .unset, .unset, .unset, .unset] [])) rfl (hb hby at_76) (by decide) (by decide)
  have pre19 : ∀ t, Steps p.tables e below (T18.setTop (mkF m 79 #[.val (.int lvx), .val (.int nx), .val (.int mx), .val (.long wx), .second, .val (.int v1), .val (.long v3), .second, .val (.long v5), .second, .val (.long v7), .second, .val (.long v13), .second, .val (.long v14), .second, .val (.long v16), .second, .unset, .unset, .unset, .unset, .unset, .unset, .unset, .unset, .unset, .unset, .unset, .unset, .unset] [(.ref b18)])) t → Steps p.tables e below (s₁.setTop (entryFrame m #[(.int lvx), (.int nx), (.int mx), (.long wx)] maxLocals)) t := fun t k => pre17 t (st18 t k)
  have pre20 : ∀ t, Steps p.tables e below (T18.setTop (mkF m 80 #[.val (.int lvx), .val (.int nx), .val (.int mx), .val (.long wx), .second, .val (.int v1), .val (.long v3), .second, .val (.long v5), .second, .val (.long v7), .second, .val (.long v13), .second, .val (.long v14), .second, .val (.long v16), .second, .unset, .unset, .unset, .unset, .unset, .unset, .unset, .unset, .unset, .unset, .unset, .unset, .unset] [(.ref b18), (.ref b18)])) t → Steps p.tables e below (s₁.setTop (entryFrame m #[(.int lvx), (.int nx), (.int mx), (.long wx)] maxLocals)) t := fun t k => pre19 t (by
    show Steps p.tables e below (T18.setTop (mkF m 79 #[.val (.int lvx), .val (.int nx), .val (.int mx), .val (.long wx), .second, .val (.int v1), .val (.long v3), .second, .val (.long v5), .second, .val (.long v7), .second, .val (.long v13), .second, .val (.long v14), .second, .val (.long v16), .second, .unset, .unset, .unset, .unset, .unset, .unset, .unset, .unset, .unset, .unset, .unset, .unset, .unset] [(.ref b18)])) _
    refine XS.dup X18.here hx rfl (hb hby at_79) rfl rfl ?_
    exact k)
  obtain ⟨T21, h21, b21, X21, e21, R21, st21⟩ := gNew X18 hx hZ hown (hw _ (List.mem_of_getElem? (i := 4) rfl)) (hw _ (List.mem_of_getElem? (i := 5) rfl)) (hw _ (List.mem_of_getElem? (i := 6) rfl)) e18 R18 (fs := [("start", "J", (.long (0 : Int64))), ("end", "J", (.long (0 : Int64)))]) ⟨⟨Or.inr (hw _ (List.mem_of_getElem? (i := 19) rfl)), .long, by decide, rfl⟩, ⟨⟨Or.inr (hw _ (List.mem_of_getElem? (i := 21) rfl)), .long, by decide, rfl⟩, trivial⟩⟩ (by decide) (g := (mkF m 80 #[.val (.int lvx), .val (.int nx), .val (.int mx), .val (.long wx), .second, .val (.int v1), .val (.long v3), .second, .val (.long v5), .second, .val (.long v7), .second, .val (.long v13), .second, .val (.long v14), .second, .val (.long v16), .second, .unset, .unset, .unset, .unset, .unset, .unset, .unset, .unset, .unset, .unset, .unset, .unset, .unset] [(.ref b18), (.ref b18)])) rfl (hb hby at_80) (by decide) (by decide)
  have pre22 : ∀ t, Steps p.tables e below (T21.setTop (mkF m 83 #[.val (.int lvx), .val (.int nx), .val (.int mx), .val (.long wx), .second, .val (.int v1), .val (.long v3), .second, .val (.long v5), .second, .val (.long v7), .second, .val (.long v13), .second, .val (.long v14), .second, .val (.long v16), .second, .unset, .unset, .unset, .unset, .unset, .unset, .unset, .unset, .unset, .unset, .unset, .unset, .unset] [(.ref b21), (.ref b18), (.ref b18)])) t → Steps p.tables e below (s₁.setTop (entryFrame m #[(.int lvx), (.int nx), (.int mx), (.long wx)] maxLocals)) t := fun t k => pre20 t (st21 t k)
  have pre23 : ∀ t, Steps p.tables e below (T21.setTop (mkF m 91 #[.val (.int lvx), .val (.int nx), .val (.int mx), .val (.long wx), .second, .val (.int v1), .val (.long v3), .second, .val (.long v5), .second, .val (.long v7), .second, .val (.long v13), .second, .val (.long v14), .second, .val (.long v16), .second, .unset, .unset, .unset, .unset, .unset, .unset, .unset, .unset, .unset, .unset, .unset, .unset, .unset] [(.long (v16 + v7)), (.long v16), (.ref b21), (.ref b21), (.ref b18), (.ref b18)])) t → Steps p.tables e below (s₁.setTop (entryFrame m #[(.int lvx), (.int nx), (.int mx), (.long wx)] maxLocals)) t := fun t k => pre22 t (by
    show Steps p.tables e below (T21.setTop (mkF m 83 #[.val (.int lvx), .val (.int nx), .val (.int mx), .val (.long wx), .second, .val (.int v1), .val (.long v3), .second, .val (.long v5), .second, .val (.long v7), .second, .val (.long v13), .second, .val (.long v14), .second, .val (.long v16), .second, .unset, .unset, .unset, .unset, .unset, .unset, .unset, .unset, .unset, .unset, .unset, .unset, .unset] [(.ref b21), (.ref b18), (.ref b18)])) _
    refine XS.dup X21.here hx rfl (hb hby at_83) rfl rfl ?_
    refine XS.lload X21.here hx rfl (hb hby at_84) rfl ?_
    refine XS.lload X21.here hx rfl (hb hby at_86) rfl ?_
    refine XS.lload X21.here hx rfl (hb hby at_88) rfl ?_
    refine XS.ladd X21.here hx rfl (hb hby at_90) rfl ?_
    exact k)
  obtain ⟨_, _, ⟨T24, L24, k24, n24⟩, -, X24, ⟨Lc24, hQ24, l24, y24, z24⟩, st24⟩ := X21.specialBack hx (y := (⟨"com/example/gapless_log/gaplesslog/tree/Subtree", "<init>", "(JJ)V"⟩ : MethodName)) rfl hown (mvT hZ (hw _ (List.mem_of_getElem? (i := 7) rfl))) (mvT hZ (hw _ (List.mem_of_getElem? (i := 8) rfl))) (mvT hZ (hw _ (List.mem_of_getElem? (i := 9) rfl))) (by decide) (backOf (W := 3) (rm1 l Z a0 hw [] b21 v16 (v16 + v7) _ _ h21 n0 _ R21 ((own_g han hl hv7 en hv16).1) ((own_g han hl hv7 en hv16).2)) hZ (hw _ (List.mem_of_getElem? (i := 9) rfl)) (hw _ (List.mem_of_getElem? (i := 6) rfl)) (by decide) (by decide)) (g := (mkF m 91 #[.val (.int lvx), .val (.int nx), .val (.int mx), .val (.long wx), .second, .val (.int v1), .val (.long v3), .second, .val (.long v5), .second, .val (.long v7), .second, .val (.long v13), .second, .val (.long v14), .second, .val (.long v16), .second, .unset, .unset, .unset, .unset, .unset, .unset, .unset, .unset, .unset, .unset, .unset, .unset, .unset] [(.long (v16 + v7)), (.long v16), (.ref b21), (.ref b21), (.ref b18), (.ref b18)])) rfl (by rw [hml]; rfl) (Steps.refl _) (a := b21) (argsL := [(.long v16), (.long (v16 + v7))]) (rest := [(.ref b21), (.ref b18), (.ref b18)]) (lenOf pd__28JJ_29V rfl) rfl (by show 2 * 0 + _ ≤ _; exact Nat.le_of_eq rfl) (hb hby at_91) (fun _ _ => ⟨rfl, e21, (by decide : 2 + 0 ≤ _), (by decide : 4 + 0 ≤ _)⟩)
  dsimp only [Pt.U, Pt.locs, Pt.cells, Pt.slots] at X24 l24 y24 z24 st24 hQ24
  subst y24 z24
  obtain ⟨rfl, N24q, R24⟩ := hQ24
  have N24 : Fr n0 L24 := by rw [l24]; exact Fr.app N0 N24q
  replace R24 : Rep Z n0 T24.heap ((b21, Obj "com/example/gapless_log/gaplesslog/tree/Subtree" [("start", "J", (.long v16)), ("end", "J", (.long (v16 + v7)))]) :: (b18, Obj "com/example/gapless_log/gaplesslog/tree/Ascent" [("node", "J", (.long (0 : Int64))), ("last", "J", (.long (0 : Int64)))]) :: []) := R24
  have pre25 : ∀ t, Steps p.tables e below (T24.setTop (mkF m 94 #[.val (.int lvx), .val (.int nx), .val (.int mx), .val (.long wx), .second, .val (.int v1), .val (.long v3), .second, .val (.long v5), .second, .val (.long v7), .second, .val (.long v13), .second, .val (.long v14), .second, .val (.long v16), .second, .unset, .unset, .unset, .unset, .unset, .unset, .unset, .unset, .unset, .unset, .unset, .unset, .unset] [(.ref b21), (.ref b18), (.ref b18)])) t → Steps p.tables e below (s₁.setTop (entryFrame m #[(.int lvx), (.int nx), (.int mx), (.long wx)] maxLocals)) t := fun t k => pre23 t (st24.trans k)
  have pre26 : ∀ t, Steps p.tables e below (T24.setTop (mkF m 96 #[.val (.int lvx), .val (.int nx), .val (.int mx), .val (.long wx), .second, .val (.int v1), .val (.long v3), .second, .val (.long v5), .second, .val (.long v7), .second, .val (.long v13), .second, .val (.long v14), .second, .val (.long v16), .second, .unset, .unset, .unset, .unset, .unset, .unset, .unset, .unset, .unset, .unset, .unset, .unset, .unset] [(.long v14), (.ref b21), (.ref b18), (.ref b18)])) t → Steps p.tables e below (s₁.setTop (entryFrame m #[(.int lvx), (.int nx), (.int mx), (.long wx)] maxLocals)) t := fun t k => pre25 t (by
    show Steps p.tables e below (T24.setTop (mkF m 94 #[.val (.int lvx), .val (.int nx), .val (.int mx), .val (.long wx), .second, .val (.int v1), .val (.long v3), .second, .val (.long v5), .second, .val (.long v7), .second, .val (.long v13), .second, .val (.long v14), .second, .val (.long v16), .second, .unset, .unset, .unset, .unset, .unset, .unset, .unset, .unset, .unset, .unset, .unset, .unset, .unset] [(.ref b21), (.ref b18), (.ref b18)])) _
    refine XS.lload X24.here hx rfl (hb hby at_94) rfl ?_
    exact k)
  have R28 : Rep Z n0 T24.heap ((b21, Obj "com/example/gapless_log/gaplesslog/tree/Subtree" [("start", "J", (.long v16)), ("end", "J", (.long (v16 + v7)))]) :: (b18, Obj "com/example/gapless_log/gaplesslog/tree/Ascent" [("node", "J", (.long (0 : Int64))), ("last", "J", (.long (0 : Int64)))]) :: []) := R24.front 0 rfl rfl
  have R29 : Rep Z n0 T24.heap ((b18, Obj "com/example/gapless_log/gaplesslog/tree/Ascent" [("node", "J", (.long (0 : Int64))), ("last", "J", (.long (0 : Int64)))]) :: (b21, Obj "com/example/gapless_log/gaplesslog/tree/Subtree" [("start", "J", (.long v16)), ("end", "J", (.long (v16 + v7)))]) :: []) := R28.front 1 rfl rfl
  obtain ⟨_, _, ⟨T27, L27, k27, n27⟩, -, X27, ⟨Lc27, hQ27, l27, y27, z27⟩, st27⟩ := X24.specialBack hx (y := (⟨"com/example/gapless_log/gaplesslog/tree/Ascent", "<init>", "(Lcom/example/gapless_log/gaplesslog/tree/Subtree;J)V"⟩ : MethodName)) rfl hown (mvT hZ (hw _ (List.mem_of_getElem? (i := 22) rfl))) (mvT hZ (hw _ (List.mem_of_getElem? (i := 23) rfl))) (mvT hZ (hw _ (List.mem_of_getElem? (i := 24) rfl))) (by decide) (backOf (W := 1) (rm4 l Z a0 hw [] b18 b21 v14 _ _ _ _ T24.heap n0 _ R29 ) hZ (hw _ (List.mem_of_getElem? (i := 24) rfl)) (hw _ (List.mem_of_getElem? (i := 3) rfl)) (by decide) (by decide)) (g := (mkF m 96 #[.val (.int lvx), .val (.int nx), .val (.int mx), .val (.long wx), .second, .val (.int v1), .val (.long v3), .second, .val (.long v5), .second, .val (.long v7), .second, .val (.long v13), .second, .val (.long v14), .second, .val (.long v16), .second, .unset, .unset, .unset, .unset, .unset, .unset, .unset, .unset, .unset, .unset, .unset, .unset, .unset] [(.long v14), (.ref b21), (.ref b18), (.ref b18)])) rfl (by rw [hml]; rfl) (Steps.refl _) (a := b18) (argsL := [(.ref b21), (.long v14)]) (rest := [(.ref b18)]) (lenOf pd__28Lcom_2fexample_2fgapless_5flog_2fgaplesslog_2ftree_2fSubtree_3bJ_29V rfl) rfl (by show 2 * 0 + _ ≤ _; exact Nat.le_of_eq rfl) (hb hby at_96) (fun _ _ => ⟨rfl, rfl, (by decide : 2 + 0 ≤ _), (by decide : 4 + 0 ≤ _)⟩)
  dsimp only [Pt.U, Pt.locs, Pt.cells, Pt.slots] at X27 l27 y27 z27 st27 hQ27
  subst y27 z27
  obtain ⟨rfl, N27q, R27⟩ := hQ27
  have N27 : Fr n0 L27 := by rw [l27]; exact Fr.app N24 N27q
  replace R27 : Rep Z n0 T27.heap ((b18, Obj "com/example/gapless_log/gaplesslog/tree/Ascent" [("node", "J", (.long (lushr v16 (F7 ((v16 + v7) - v16))))), ("last", "J", (.long (lushr (v14 - (1 : Int64)) (F7 ((v16 + v7) - v16)))))]) :: (b21, Obj "com/example/gapless_log/gaplesslog/tree/Subtree" [("start", "J", (.long v16)), ("end", "J", (.long (v16 + v7)))]) :: []) := R27
  have pre30 : ∀ t, Steps p.tables e below (T27.setTop (mkF m 99 #[.val (.int lvx), .val (.int nx), .val (.int mx), .val (.long wx), .second, .val (.int v1), .val (.long v3), .second, .val (.long v5), .second, .val (.long v7), .second, .val (.long v13), .second, .val (.long v14), .second, .val (.long v16), .second, .unset, .unset, .unset, .unset, .unset, .unset, .unset, .unset, .unset, .unset, .unset, .unset, .unset] [(.ref b18)])) t → Steps p.tables e below (s₁.setTop (entryFrame m #[(.int lvx), (.int nx), (.int mx), (.long wx)] maxLocals)) t := fun t k => pre26 t (st27.trans k)
  rw [own_node han hl hv7 en hv16, own_last han hl hv7 em hv13 hv14] at R27
  have pre32 : ∀ t, Steps p.tables e below (T27.setTop (mkF m 110 #[.val (.int lvx), .val (.int nx), .val (.int mx), .val (.long wx), .second, .val (.int v1), .val (.long v3), .second, .val (.long v5), .second, .val (.long v7), .second, .val (.long v13), .second, .val (.long v14), .second, .val (.long v16), .second, .val (.ref b18), .val (.long (0 : Int64)), .second, .val (.long (v3 + (1 : Int64))), .second, .unset, .unset, .unset, .unset, .unset, .unset, .unset, .unset] [])) t → Steps p.tables e below (s₁.setTop (entryFrame m #[(.int lvx), (.int nx), (.int mx), (.long wx)] maxLocals)) t := fun t k => pre30 t (by
    show Steps p.tables e below (T27.setTop (mkF m 99 #[.val (.int lvx), .val (.int nx), .val (.int mx), .val (.long wx), .second, .val (.int v1), .val (.long v3), .second, .val (.long v5), .second, .val (.long v7), .second, .val (.long v13), .second, .val (.long v14), .second, .val (.long v16), .second, .unset, .unset, .unset, .unset, .unset, .unset, .unset, .unset, .unset, .unset, .unset, .unset, .unset] [(.ref b18)])) _
    refine XS.astore X27.here hx rfl (hb hby at_99) rfl rfl (l' := #[.val (.int lvx), .val (.int nx), .val (.int mx), .val (.long wx), .second, .val (.int v1), .val (.long v3), .second, .val (.long v5), .second, .val (.long v7), .second, .val (.long v13), .second, .val (.long v14), .second, .val (.long v16), .second, .val (.ref b18), .unset, .unset, .unset, .unset, .unset, .unset, .unset, .unset, .unset, .unset, .unset, .unset]) rfl ?_
    refine XS.lconst X27.here hx rfl (hb hby at_101) ?_
    refine XS.lstore X27.here hx rfl (hb hby at_102) rfl (l' := #[.val (.int lvx), .val (.int nx), .val (.int mx), .val (.long wx), .second, .val (.int v1), .val (.long v3), .second, .val (.long v5), .second, .val (.long v7), .second, .val (.long v13), .second, .val (.long v14), .second, .val (.long v16), .second, .val (.ref b18), .val (.long (0 : Int64)), .second, .unset, .unset, .unset, .unset, .unset, .unset, .unset, .unset, .unset, .unset]) rfl ?_
    refine XS.lload X27.here hx rfl (hb hby at_104) rfl ?_
    refine XS.lconst X27.here hx rfl (hb hby at_106) ?_
    refine XS.ladd X27.here hx rfl (hb hby at_107) rfl ?_
    refine XS.lstore X27.here hx rfl (hb hby at_108) rfl (l' := #[.val (.int lvx), .val (.int nx), .val (.int mx), .val (.long wx), .second, .val (.int v1), .val (.long v3), .second, .val (.long v5), .second, .val (.long v7), .second, .val (.long v13), .second, .val (.long v14), .second, .val (.long v16), .second, .val (.ref b18), .val (.long (0 : Int64)), .second, .val (.long (v3 + (1 : Int64))), .second, .unset, .unset, .unset, .unset, .unset, .unset, .unset, .unset]) rfl ?_
    exact k)
  obtain ⟨v31, hv31⟩ : ∃ z : Int64, z = (v3 + (1 : Int64)) := ⟨_, rfl⟩
  rw [← hv31] at pre32
  have pre33 : ∀ t, Steps p.tables e below (T27.setTop (mkF m 129 #[.val (.int lvx), .val (.int nx), .val (.int mx), .val (.long wx), .second, .val (.int v1), .val (.long v3), .second, .val (.long v5), .second, .val (.long v7), .second, .val (.long v13), .second, .val (.long v14), .second, .val (.long v16), .second, .val (.ref b18), .val (.long (0 : Int64)), .second, .val (.long v31), .second, .val (.int (0 : Int32)), .val (.int (0 : Int32)), .val (.int (0 : Int32)), .val (.int (0 : Int32)), .unset, .unset, .unset, .unset] [(.int (XT.cmpL (v31 - (0 : Int64)) (1 : Int64)))])) t → Steps p.tables e below (s₁.setTop (entryFrame m #[(.int lvx), (.int nx), (.int mx), (.long wx)] maxLocals)) t := fun t k => pre32 t (by
    show Steps p.tables e below (T27.setTop (mkF m 110 #[.val (.int lvx), .val (.int nx), .val (.int mx), .val (.long wx), .second, .val (.int v1), .val (.long v3), .second, .val (.long v5), .second, .val (.long v7), .second, .val (.long v13), .second, .val (.long v14), .second, .val (.long v16), .second, .val (.ref b18), .val (.long (0 : Int64)), .second, .val (.long v31), .second, .unset, .unset, .unset, .unset, .unset, .unset, .unset, .unset] [])) _
    refine XS.iconst X27.here hx rfl (hb hby at_110) ?_
    refine XS.istore X27.here hx rfl (hb hby at_111) rfl (l' := #[.val (.int lvx), .val (.int nx), .val (.int mx), .val (.long wx), .second, .val (.int v1), .val (.long v3), .second, .val (.long v5), .second, .val (.long v7), .second, .val (.long v13), .second, .val (.long v14), .second, .val (.long v16), .second, .val (.ref b18), .val (.long (0 : Int64)), .second, .val (.long v31), .second, .val (.int (0 : Int32)), .unset, .unset, .unset, .unset, .unset, .unset, .unset]) rfl ?_
    refine XS.iconst X27.here hx rfl (hb hby at_113) ?_
    refine XS.istore X27.here hx rfl (hb hby at_114) rfl (l' := #[.val (.int lvx), .val (.int nx), .val (.int mx), .val (.long wx), .second, .val (.int v1), .val (.long v3), .second, .val (.long v5), .second, .val (.long v7), .second, .val (.long v13), .second, .val (.long v14), .second, .val (.long v16), .second, .val (.ref b18), .val (.long (0 : Int64)), .second, .val (.long v31), .second, .val (.int (0 : Int32)), .val (.int (0 : Int32)), .unset, .unset, .unset, .unset, .unset, .unset]) rfl ?_
    refine XS.iconst X27.here hx rfl (hb hby at_116) ?_
    refine XS.istore X27.here hx rfl (hb hby at_117) rfl (l' := #[.val (.int lvx), .val (.int nx), .val (.int mx), .val (.long wx), .second, .val (.int v1), .val (.long v3), .second, .val (.long v5), .second, .val (.long v7), .second, .val (.long v13), .second, .val (.long v14), .second, .val (.long v16), .second, .val (.ref b18), .val (.long (0 : Int64)), .second, .val (.long v31), .second, .val (.int (0 : Int32)), .val (.int (0 : Int32)), .val (.int (0 : Int32)), .unset, .unset, .unset, .unset, .unset]) rfl ?_
    refine XS.iconst X27.here hx rfl (hb hby at_119) ?_
    show Steps p.tables e below (T27.setTop (mkF m 120 #[.val (.int lvx), .val (.int nx), .val (.int mx), .val (.long wx), .second, .val (.int v1), .val (.long v3), .second, .val (.long v5), .second, .val (.long v7), .second, .val (.long v13), .second, .val (.long v14), .second, .val (.long v16), .second, .val (.ref b18), .val (.long (0 : Int64)), .second, .val (.long v31), .second, .val (.int (0 : Int32)), .val (.int (0 : Int32)), .val (.int (0 : Int32)), .unset, .unset, .unset, .unset, .unset] [(.int (0 : Int32))])) _
    refine XS.istore X27.here hx rfl (hb hby at_120) rfl (l' := #[.val (.int lvx), .val (.int nx), .val (.int mx), .val (.long wx), .second, .val (.int v1), .val (.long v3), .second, .val (.long v5), .second, .val (.long v7), .second, .val (.long v13), .second, .val (.long v14), .second, .val (.long v16), .second, .val (.ref b18), .val (.long (0 : Int64)), .second, .val (.long v31), .second, .val (.int (0 : Int32)), .val (.int (0 : Int32)), .val (.int (0 : Int32)), .val (.int (0 : Int32)), .unset, .unset, .unset, .unset]) rfl ?_
    refine XS.lload X27.here hx rfl (hb hby at_122) rfl ?_
    refine XS.lload X27.here hx rfl (hb hby at_124) rfl ?_
    refine XS.lsub X27.here hx rfl (hb hby at_126) rfl ?_
    refine XS.lconst X27.here hx rfl (hb hby at_127) ?_
    refine XS.lcmp X27.here hx rfl (hb hby at_128) rfl ?_
    exact k)
  by_cases hb34 : (1 : Int64) < (v31 - (0 : Int64))
  · have pre35 : ∀ t, Steps p.tables e below (T27.setTop (mkF m 132 #[.val (.int lvx), .val (.int nx), .val (.int mx), .val (.long wx), .second, .val (.int v1), .val (.long v3), .second, .val (.long v5), .second, .val (.long v7), .second, .val (.long v13), .second, .val (.long v14), .second, .val (.long v16), .second, .val (.ref b18), .val (.long (0 : Int64)), .second, .val (.long v31), .second, .val (.int (0 : Int32)), .val (.int (0 : Int32)), .val (.int (0 : Int32)), .val (.int (0 : Int32)), .unset, .unset, .unset, .unset] [])) t → Steps p.tables e below (s₁.setTop (entryFrame m #[(.int lvx), (.int nx), (.int mx), (.long wx)] maxLocals)) t := fun t k => pre33 t (by show Steps p.tables e below (T27.setTop (mkF m 129 #[.val (.int lvx), .val (.int nx), .val (.int mx), .val (.long wx), .second, .val (.int v1), .val (.long v3), .second, .val (.long v5), .second, .val (.long v7), .second, .val (.long v13), .second, .val (.long v14), .second, .val (.long v16), .second, .val (.ref b18), .val (.long (0 : Int64)), .second, .val (.long v31), .second, .val (.int (0 : Int32)), .val (.int (0 : Int32)), .val (.int (0 : Int32)), .val (.int (0 : Int32)), .unset, .unset, .unset, .unset] [(.int (XT.cmpL (v31 - (0 : Int64)) (1 : Int64)))])) _; refine XS.ifNo X27.here hx rfl (hb hby at_129) rfl (XT.ll_le_f hb34) ?_; exact k)
    have pre36 : ∀ t, Steps p.tables e below (T27.setTop (mkF m 139 #[.val (.int lvx), .val (.int nx), .val (.int mx), .val (.long wx), .second, .val (.int v1), .val (.long v3), .second, .val (.long v5), .second, .val (.long v7), .second, .val (.long v13), .second, .val (.long v14), .second, .val (.long v16), .second, .val (.ref b18), .val (.long (0 : Int64)), .second, .val (.long v31), .second, .val (.int (0 : Int32)), .val (.int (0 : Int32)), .val (.int (0 : Int32)), .val (.int (0 : Int32)), .unset, .unset, .unset, .unset] [(.long (v31 - (0 : Int64))), (.long (0 : Int64))])) t → Steps p.tables e below (s₁.setTop (entryFrame m #[(.int lvx), (.int nx), (.int mx), (.long wx)] maxLocals)) t := fun t k => pre35 t (by
      show Steps p.tables e below (T27.setTop (mkF m 132 #[.val (.int lvx), .val (.int nx), .val (.int mx), .val (.long wx), .second, .val (.int v1), .val (.long v3), .second, .val (.long v5), .second, .val (.long v7), .second, .val (.long v13), .second, .val (.long v14), .second, .val (.long v16), .second, .val (.ref b18), .val (.long (0 : Int64)), .second, .val (.long v31), .second, .val (.int (0 : Int32)), .val (.int (0 : Int32)), .val (.int (0 : Int32)), .val (.int (0 : Int32)), .unset, .unset, .unset, .unset] [])) _
      refine XS.lload X27.here hx rfl (hb hby at_132) rfl ?_
      refine XS.lload X27.here hx rfl (hb hby at_134) rfl ?_
      refine XS.lload X27.here hx rfl (hb hby at_136) rfl ?_
      refine XS.lsub X27.here hx rfl (hb hby at_138) rfl ?_
      exact k)
    obtain ⟨_, _, ⟨T37, L37, k37, n37⟩, -, X37, ⟨Lc37, hQ37, l37, y37, z37⟩, st37⟩ := Jvm.LawKit.callS X27 hx (y := (⟨"com/example/gapless_log/gaplesslog/tree/AscentClimbPinLaw", "below", "(J)J"⟩ : MethodName)) hown (mvT hZ (hw _ (List.mem_of_getElem? (i := 48) rfl))) (mvT hZ (hw _ (List.mem_of_getElem? (i := 49) rfl))) (mvT hZ (hw _ (List.mem_of_getElem? (i := 50) rfl))) (mvT hZ (hw _ (List.mem_of_getElem? (i := 51) rfl))) (by decide) (backOf (W := 2) (rm9 l Z a0 hw [] (v31 - (0 : Int64))  T27.heap n0 _ R27 ) hZ (hw _ (List.mem_of_getElem? (i := 51) rfl)) (hw _ (List.mem_of_getElem? (i := 50) rfl)) (by decide) (by decide)) (g := (mkF m 139 #[.val (.int lvx), .val (.int nx), .val (.int mx), .val (.long wx), .second, .val (.int v1), .val (.long v3), .second, .val (.long v5), .second, .val (.long v7), .second, .val (.long v13), .second, .val (.long v14), .second, .val (.long v16), .second, .val (.ref b18), .val (.long (0 : Int64)), .second, .val (.long v31), .second, .val (.int (0 : Int32)), .val (.int (0 : Int32)), .val (.int (0 : Int32)), .val (.int (0 : Int32)), .unset, .unset, .unset, .unset] [(.long (v31 - (0 : Int64))), (.long (0 : Int64))])) rfl (by rw [hml]; rfl) (argsL := [(.long (v31 - (0 : Int64)))]) (rest := [(.long (0 : Int64))]) (lenOf pd__28J_29J rfl) rfl (by show 2 * 0 + _ ≤ _; exact Nat.le_of_eq rfl) (hb hby at_139) (fun _ _ => ⟨rfl, rfl, (by decide : 2 + 0 ≤ _), (by decide : 4 + 0 ≤ _)⟩)
    dsimp only [Pt.U, Pt.locs, Pt.cells, Pt.slots] at X37 l37 y37 z37 st37 hQ37
    subst y37 z37
    obtain ⟨rfl, N37q, R37⟩ := hQ37
    have N37 : Fr n0 L37 := by rw [l37]; exact Fr.app N27 N37q
    replace R37 : Rep Z n0 T37.heap ((b18, Obj "com/example/gapless_log/gaplesslog/tree/Ascent" [("node", "J", (.long v5)), ("last", "J", (.long v3))]) :: (b21, Obj "com/example/gapless_log/gaplesslog/tree/Subtree" [("start", "J", (.long v16)), ("end", "J", (.long (v16 + v7)))]) :: []) := R37
    have pre38 : ∀ t, Steps p.tables e below (T37.setTop (mkF m 142 #[.val (.int lvx), .val (.int nx), .val (.int mx), .val (.long wx), .second, .val (.int v1), .val (.long v3), .second, .val (.long v5), .second, .val (.long v7), .second, .val (.long v13), .second, .val (.long v14), .second, .val (.long v16), .second, .val (.ref b18), .val (.long (0 : Int64)), .second, .val (.long v31), .second, .val (.int (0 : Int32)), .val (.int (0 : Int32)), .val (.int (0 : Int32)), .val (.int (0 : Int32)), .unset, .unset, .unset, .unset] [(.long (F9 (v31 - (0 : Int64)))), (.long (0 : Int64))])) t → Steps p.tables e below (s₁.setTop (entryFrame m #[(.int lvx), (.int nx), (.int mx), (.long wx)] maxLocals)) t := fun t k => pre36 t (st37 t k)
    have pre40 : ∀ t, Steps p.tables e below (T37.setTop (mkF m 145 #[.val (.int lvx), .val (.int nx), .val (.int mx), .val (.long wx), .second, .val (.int v1), .val (.long v3), .second, .val (.long v5), .second, .val (.long v7), .second, .val (.long v13), .second, .val (.long v14), .second, .val (.long v16), .second, .val (.ref b18), .val (.long (0 : Int64)), .second, .val (.long v31), .second, .val (.int (0 : Int32)), .val (.int (0 : Int32)), .val (.int (0 : Int32)), .val (.int (0 : Int32)), .val (.long ((0 : Int64) + (F9 (v31 - (0 : Int64))))), .second, .unset, .unset] [])) t → Steps p.tables e below (s₁.setTop (entryFrame m #[(.int lvx), (.int nx), (.int mx), (.long wx)] maxLocals)) t := fun t k => pre38 t (by
      show Steps p.tables e below (T37.setTop (mkF m 142 #[.val (.int lvx), .val (.int nx), .val (.int mx), .val (.long wx), .second, .val (.int v1), .val (.long v3), .second, .val (.long v5), .second, .val (.long v7), .second, .val (.long v13), .second, .val (.long v14), .second, .val (.long v16), .second, .val (.ref b18), .val (.long (0 : Int64)), .second, .val (.long v31), .second, .val (.int (0 : Int32)), .val (.int (0 : Int32)), .val (.int (0 : Int32)), .val (.int (0 : Int32)), .unset, .unset, .unset, .unset] [(.long (F9 (v31 - (0 : Int64)))), (.long (0 : Int64))])) _
      refine XS.ladd X37.here hx rfl (hb hby at_142) rfl ?_
      refine XS.lstore X37.here hx rfl (hb hby at_143) rfl (l' := #[.val (.int lvx), .val (.int nx), .val (.int mx), .val (.long wx), .second, .val (.int v1), .val (.long v3), .second, .val (.long v5), .second, .val (.long v7), .second, .val (.long v13), .second, .val (.long v14), .second, .val (.long v16), .second, .val (.ref b18), .val (.long (0 : Int64)), .second, .val (.long v31), .second, .val (.int (0 : Int32)), .val (.int (0 : Int32)), .val (.int (0 : Int32)), .val (.int (0 : Int32)), .val (.long ((0 : Int64) + (F9 (v31 - (0 : Int64))))), .second, .unset, .unset]) rfl ?_
      exact k)
    obtain ⟨v39, hv39⟩ : ∃ z : Int64, z = ((0 : Int64) + (F9 (v31 - (0 : Int64)))) := ⟨_, rfl⟩
    rw [← hv39] at pre40
    have pre43 : ∀ t, Steps p.tables e below (T37.setTop (mkF m 150 #[.val (.int lvx), .val (.int nx), .val (.int mx), .val (.long wx), .second, .val (.int v1), .val (.long v3), .second, .val (.long v5), .second, .val (.long v7), .second, .val (.long v13), .second, .val (.long v14), .second, .val (.long v16), .second, .val (.ref b18), .val (.long (0 : Int64)), .second, .val (.long v31), .second, .val (.int (0 : Int32)), .val (.int (0 : Int32)), .val (.int (0 : Int32)), .val (.int (0 : Int32)), .val (.long v39), .second, .unset, .unset] [(.int (XT.cmpL v5 v39))])) t → Steps p.tables e below (s₁.setTop (entryFrame m #[(.int lvx), (.int nx), (.int mx), (.long wx)] maxLocals)) t := fun t k => pre40 t (by
      show Steps p.tables e below (T37.setTop (mkF m 145 #[.val (.int lvx), .val (.int nx), .val (.int mx), .val (.long wx), .second, .val (.int v1), .val (.long v3), .second, .val (.long v5), .second, .val (.long v7), .second, .val (.long v13), .second, .val (.long v14), .second, .val (.long v16), .second, .val (.ref b18), .val (.long (0 : Int64)), .second, .val (.long v31), .second, .val (.int (0 : Int32)), .val (.int (0 : Int32)), .val (.int (0 : Int32)), .val (.int (0 : Int32)), .val (.long v39), .second, .unset, .unset] [])) _
      refine XS.lload X37.here hx rfl (hb hby at_145) rfl ?_
      refine XS.lload X37.here hx rfl (hb hby at_147) rfl ?_
      refine XS.lcmp X37.here hx rfl (hb hby at_149) rfl ?_
      exact k)
    have tl42 : ∀ t, Steps p.tables e below (T37.setTop (mkF m 158 #[.val (.int lvx), .val (.int nx), .val (.int mx), .val (.long wx), .second, .val (.int v1), .val (.long v3), .second, .val (.long v5), .second, .val (.long v7), .second, .val (.long v13), .second, .val (.long v14), .second, .val (.long v16), .second, .val (.ref b18), .val (.long (0 : Int64)), .second, .val (.long v31), .second, .val (.int (0 : Int32)), .val (.int (0 : Int32)), .val (.int (0 : Int32)), .val (.int (0 : Int32)), .val (.long v39), .second, .unset, .unset] [(.int (bz (¬ (v5 < v39))))])) t → Steps p.tables e below (T37.setTop (mkF m 150 #[.val (.int lvx), .val (.int nx), .val (.int mx), .val (.long wx), .second, .val (.int v1), .val (.long v3), .second, .val (.long v5), .second, .val (.long v7), .second, .val (.long v13), .second, .val (.long v14), .second, .val (.long v16), .second, .val (.ref b18), .val (.long (0 : Int64)), .second, .val (.long v31), .second, .val (.int (0 : Int32)), .val (.int (0 : Int32)), .val (.int (0 : Int32)), .val (.int (0 : Int32)), .val (.long v39), .second, .unset, .unset] [(.int (XT.cmpL v5 v39))])) t := fun t k => by
      by_cases hb41 : v5 < v39
      · refine XS.ifYes X37.here hx rfl (pc0 := 150) (pc' := 157) rfl (hb hby at_150) rfl (XT.ll_lt_t hb41) (by decide) (by decide) ?_
        rw [bz_zero (P := (¬ (v5 < v39))) (iff_false_intro (not_not_intro hb41))] at k
        show Steps p.tables e below (T37.setTop (mkF m 157 #[.val (.int lvx), .val (.int nx), .val (.int mx), .val (.long wx), .second, .val (.int v1), .val (.long v3), .second, .val (.long v5), .second, .val (.long v7), .second, .val (.long v13), .second, .val (.long v14), .second, .val (.long v16), .second, .val (.ref b18), .val (.long (0 : Int64)), .second, .val (.long v31), .second, .val (.int (0 : Int32)), .val (.int (0 : Int32)), .val (.int (0 : Int32)), .val (.int (0 : Int32)), .val (.long v39), .second, .unset, .unset] [])) _
        refine XS.iconst X37.here hx rfl (hb hby at_157) ?_
        exact k
      · refine XS.ifNo X37.here hx rfl (hb hby at_150) rfl (XT.ll_lt_f hb41) ?_
        rw [bz_one (P := (¬ (v5 < v39))) (iff_true_intro hb41)] at k
        show Steps p.tables e below (T37.setTop (mkF m 153 #[.val (.int lvx), .val (.int nx), .val (.int mx), .val (.long wx), .second, .val (.int v1), .val (.long v3), .second, .val (.long v5), .second, .val (.long v7), .second, .val (.long v13), .second, .val (.long v14), .second, .val (.long v16), .second, .val (.ref b18), .val (.long (0 : Int64)), .second, .val (.long v31), .second, .val (.int (0 : Int32)), .val (.int (0 : Int32)), .val (.int (0 : Int32)), .val (.int (0 : Int32)), .val (.long v39), .second, .unset, .unset] [])) _
        refine XS.iconst X37.here hx rfl (hb hby at_153) ?_
        refine XS.goto X37.here hx rfl (pc0 := 154) (pc' := 158) rfl (hb hby at_154) (by decide) (by decide) ?_
        exact k
    have pre44 : ∀ t, Steps p.tables e below (T37.setTop (mkF m 158 #[.val (.int lvx), .val (.int nx), .val (.int mx), .val (.long wx), .second, .val (.int v1), .val (.long v3), .second, .val (.long v5), .second, .val (.long v7), .second, .val (.long v13), .second, .val (.long v14), .second, .val (.long v16), .second, .val (.ref b18), .val (.long (0 : Int64)), .second, .val (.long v31), .second, .val (.int (0 : Int32)), .val (.int (0 : Int32)), .val (.int (0 : Int32)), .val (.int (0 : Int32)), .val (.long v39), .second, .unset, .unset] [(.int (bz (¬ (v5 < v39))))])) t → Steps p.tables e below (s₁.setTop (entryFrame m #[(.int lvx), (.int nx), (.int mx), (.long wx)] maxLocals)) t := fun t k => pre43 t (by
      exact tl42 t k)
    have pre47 : ∀ t, Steps p.tables e below (T37.setTop (mkF m 162 #[.val (.int lvx), .val (.int nx), .val (.int mx), .val (.long wx), .second, .val (.int v1), .val (.long v3), .second, .val (.long v5), .second, .val (.long v7), .second, .val (.long v13), .second, .val (.long v14), .second, .val (.long v16), .second, .val (.ref b18), .val (.long (0 : Int64)), .second, .val (.long v31), .second, .val (.int (0 : Int32)), .val (.int (0 : Int32)), .val (.int (0 : Int32)), .val (.int (0 : Int32)), .val (.long v39), .second, .val (.int (bz (¬ (v5 < v39)))), .unset] [(.int (bz (¬ (v5 < v39))))])) t → Steps p.tables e below (s₁.setTop (entryFrame m #[(.int lvx), (.int nx), (.int mx), (.long wx)] maxLocals)) t := fun t k => pre44 t (by
      show Steps p.tables e below (T37.setTop (mkF m 158 #[.val (.int lvx), .val (.int nx), .val (.int mx), .val (.long wx), .second, .val (.int v1), .val (.long v3), .second, .val (.long v5), .second, .val (.long v7), .second, .val (.long v13), .second, .val (.long v14), .second, .val (.long v16), .second, .val (.ref b18), .val (.long (0 : Int64)), .second, .val (.long v31), .second, .val (.int (0 : Int32)), .val (.int (0 : Int32)), .val (.int (0 : Int32)), .val (.int (0 : Int32)), .val (.long v39), .second, .unset, .unset] [(.int (bz (¬ (v5 < v39))))])) _
      refine XS.istore X37.here hx rfl (hb hby at_158) rfl (l' := #[.val (.int lvx), .val (.int nx), .val (.int mx), .val (.long wx), .second, .val (.int v1), .val (.long v3), .second, .val (.long v5), .second, .val (.long v7), .second, .val (.long v13), .second, .val (.long v14), .second, .val (.long v16), .second, .val (.ref b18), .val (.long (0 : Int64)), .second, .val (.long v31), .second, .val (.int (0 : Int32)), .val (.int (0 : Int32)), .val (.int (0 : Int32)), .val (.int (0 : Int32)), .val (.long v39), .second, .val (.int (bz (¬ (v5 < v39)))), .unset]) rfl ?_
      refine XS.iload X37.here hx rfl (hb hby at_160) rfl ?_
      exact k)
    have tl46 : ∀ t, Steps p.tables e below (T37.setTop (mkF m 176 #[.val (.int lvx), .val (.int nx), .val (.int mx), .val (.long wx), .second, .val (.int v1), .val (.long v3), .second, .val (.long v5), .second, .val (.long v7), .second, .val (.long v13), .second, .val (.long v14), .second, .val (.long v16), .second, .val (.ref b18), .val (.long (if (¬ (v5 < v39)) then v39 else (0 : Int64))), .second, .val (.long (if (¬ (v5 < v39)) then v31 else v39)), .second, .val (.int (0 : Int32)), .val (.int (0 : Int32)), .val (.int (0 : Int32)), .val (.int (0 : Int32)), .val (.long v39), .second, .val (.int (bz (¬ (v5 < v39)))), .unset] [])) t → Steps p.tables e below (T37.setTop (mkF m 162 #[.val (.int lvx), .val (.int nx), .val (.int mx), .val (.long wx), .second, .val (.int v1), .val (.long v3), .second, .val (.long v5), .second, .val (.long v7), .second, .val (.long v13), .second, .val (.long v14), .second, .val (.long v16), .second, .val (.ref b18), .val (.long (0 : Int64)), .second, .val (.long v31), .second, .val (.int (0 : Int32)), .val (.int (0 : Int32)), .val (.int (0 : Int32)), .val (.int (0 : Int32)), .val (.long v39), .second, .val (.int (bz (¬ (v5 < v39)))), .unset] [(.int (bz (¬ (v5 < v39))))])) t := fun t k => by
      by_cases hb45 : (¬ (v5 < v39))
      · refine XS.ifNo X37.here hx rfl (hb hby at_162) rfl (ow_beq_f hb45) ?_
        rw [show (if (¬ (v5 < v39)) then v39 else (0 : Int64)) = v39 from if_pos hb45] at k
        rw [show (if (¬ (v5 < v39)) then v31 else v39) = v31 from if_pos hb45] at k
        show Steps p.tables e below (T37.setTop (mkF m 165 #[.val (.int lvx), .val (.int nx), .val (.int mx), .val (.long wx), .second, .val (.int v1), .val (.long v3), .second, .val (.long v5), .second, .val (.long v7), .second, .val (.long v13), .second, .val (.long v14), .second, .val (.long v16), .second, .val (.ref b18), .val (.long (0 : Int64)), .second, .val (.long v31), .second, .val (.int (0 : Int32)), .val (.int (0 : Int32)), .val (.int (0 : Int32)), .val (.int (0 : Int32)), .val (.long v39), .second, .val (.int (bz (¬ (v5 < v39)))), .unset] [])) _
        refine XS.lload X37.here hx rfl (hb hby at_165) rfl ?_
        refine XS.lstore X37.here hx rfl (hb hby at_167) rfl (l' := #[.val (.int lvx), .val (.int nx), .val (.int mx), .val (.long wx), .second, .val (.int v1), .val (.long v3), .second, .val (.long v5), .second, .val (.long v7), .second, .val (.long v13), .second, .val (.long v14), .second, .val (.long v16), .second, .val (.ref b18), .val (.long v39), .second, .val (.long v31), .second, .val (.int (0 : Int32)), .val (.int (0 : Int32)), .val (.int (0 : Int32)), .val (.int (0 : Int32)), .val (.long v39), .second, .val (.int (bz (¬ (v5 < v39)))), .unset]) rfl ?_
        refine XS.goto X37.here hx rfl (pc0 := 169) (pc' := 176) rfl (hb hby at_169) (by decide) (by decide) ?_
        exact k
      · refine XS.ifYes X37.here hx rfl (pc0 := 162) (pc' := 172) rfl (hb hby at_162) rfl (ow_beq_t hb45) (by decide) (by decide) ?_
        rw [show (if (¬ (v5 < v39)) then v39 else (0 : Int64)) = (0 : Int64) from if_neg hb45] at k
        rw [show (if (¬ (v5 < v39)) then v31 else v39) = v39 from if_neg hb45] at k
        show Steps p.tables e below (T37.setTop (mkF m 172 #[.val (.int lvx), .val (.int nx), .val (.int mx), .val (.long wx), .second, .val (.int v1), .val (.long v3), .second, .val (.long v5), .second, .val (.long v7), .second, .val (.long v13), .second, .val (.long v14), .second, .val (.long v16), .second, .val (.ref b18), .val (.long (0 : Int64)), .second, .val (.long v31), .second, .val (.int (0 : Int32)), .val (.int (0 : Int32)), .val (.int (0 : Int32)), .val (.int (0 : Int32)), .val (.long v39), .second, .val (.int (bz (¬ (v5 < v39)))), .unset] [])) _
        refine XS.lload X37.here hx rfl (hb hby at_172) rfl ?_
        refine XS.lstore X37.here hx rfl (hb hby at_174) rfl (l' := #[.val (.int lvx), .val (.int nx), .val (.int mx), .val (.long wx), .second, .val (.int v1), .val (.long v3), .second, .val (.long v5), .second, .val (.long v7), .second, .val (.long v13), .second, .val (.long v14), .second, .val (.long v16), .second, .val (.ref b18), .val (.long (0 : Int64)), .second, .val (.long v39), .second, .val (.int (0 : Int32)), .val (.int (0 : Int32)), .val (.int (0 : Int32)), .val (.int (0 : Int32)), .val (.long v39), .second, .val (.int (bz (¬ (v5 < v39)))), .unset]) rfl ?_
        exact k
    have pre48 : ∀ t, Steps p.tables e below (T37.setTop (mkF m 176 #[.val (.int lvx), .val (.int nx), .val (.int mx), .val (.long wx), .second, .val (.int v1), .val (.long v3), .second, .val (.long v5), .second, .val (.long v7), .second, .val (.long v13), .second, .val (.long v14), .second, .val (.long v16), .second, .val (.ref b18), .val (.long (if (¬ (v5 < v39)) then v39 else (0 : Int64))), .second, .val (.long (if (¬ (v5 < v39)) then v31 else v39)), .second, .val (.int (0 : Int32)), .val (.int (0 : Int32)), .val (.int (0 : Int32)), .val (.int (0 : Int32)), .val (.long v39), .second, .val (.int (bz (¬ (v5 < v39)))), .unset] [])) t → Steps p.tables e below (s₁.setTop (entryFrame m #[(.int lvx), (.int nx), (.int mx), (.long wx)] maxLocals)) t := fun t k => pre47 t (by
      exact tl46 t k)
    obtain ⟨v49, hv49⟩ : ∃ z : Int64, z = (if (¬ (v5 < v39)) then v39 else (0 : Int64)) := ⟨_, rfl⟩
    rw [← hv49] at pre48
    obtain ⟨v50, hv50⟩ : ∃ z : Int64, z = (if (¬ (v5 < v39)) then v31 else v39) := ⟨_, rfl⟩
    rw [← hv50] at pre48
    have pre51 : ∀ t, Steps p.tables e below (T37.setTop (mkF m 190 #[.val (.int lvx), .val (.int nx), .val (.int mx), .val (.long wx), .second, .val (.int v1), .val (.long v3), .second, .val (.long v5), .second, .val (.long v7), .second, .val (.long v13), .second, .val (.long v14), .second, .val (.long v16), .second, .val (.ref b18), .val (.long v49), .second, .val (.long v50), .second, .val (.int (1 : Int32)), .val (.int (bz (¬ (v5 < v39)))), .val (.int (0 : Int32)), .val (.int (0 : Int32)), .val (.long v39), .second, .val (.int (bz (¬ (v5 < v39)))), .unset] [(.int (XT.cmpL (v50 - v49) (1 : Int64)))])) t → Steps p.tables e below (s₁.setTop (entryFrame m #[(.int lvx), (.int nx), (.int mx), (.long wx)] maxLocals)) t := fun t k => pre48 t (by
      show Steps p.tables e below (T37.setTop (mkF m 176 #[.val (.int lvx), .val (.int nx), .val (.int mx), .val (.long wx), .second, .val (.int v1), .val (.long v3), .second, .val (.long v5), .second, .val (.long v7), .second, .val (.long v13), .second, .val (.long v14), .second, .val (.long v16), .second, .val (.ref b18), .val (.long v49), .second, .val (.long v50), .second, .val (.int (0 : Int32)), .val (.int (0 : Int32)), .val (.int (0 : Int32)), .val (.int (0 : Int32)), .val (.long v39), .second, .val (.int (bz (¬ (v5 < v39)))), .unset] [])) _
      refine XS.iload X37.here hx rfl (hb hby at_176) rfl ?_
      refine XS.istore X37.here hx rfl (hb hby at_178) rfl (l' := #[.val (.int lvx), .val (.int nx), .val (.int mx), .val (.long wx), .second, .val (.int v1), .val (.long v3), .second, .val (.long v5), .second, .val (.long v7), .second, .val (.long v13), .second, .val (.long v14), .second, .val (.long v16), .second, .val (.ref b18), .val (.long v49), .second, .val (.long v50), .second, .val (.int (0 : Int32)), .val (.int (bz (¬ (v5 < v39)))), .val (.int (0 : Int32)), .val (.int (0 : Int32)), .val (.long v39), .second, .val (.int (bz (¬ (v5 < v39)))), .unset]) rfl ?_
      refine XS.iconst X37.here hx rfl (hb hby at_180) ?_
      refine XS.istore X37.here hx rfl (hb hby at_181) rfl (l' := #[.val (.int lvx), .val (.int nx), .val (.int mx), .val (.long wx), .second, .val (.int v1), .val (.long v3), .second, .val (.long v5), .second, .val (.long v7), .second, .val (.long v13), .second, .val (.long v14), .second, .val (.long v16), .second, .val (.ref b18), .val (.long v49), .second, .val (.long v50), .second, .val (.int (1 : Int32)), .val (.int (bz (¬ (v5 < v39)))), .val (.int (0 : Int32)), .val (.int (0 : Int32)), .val (.long v39), .second, .val (.int (bz (¬ (v5 < v39)))), .unset]) rfl ?_
      refine XS.lload X37.here hx rfl (hb hby at_183) rfl ?_
      refine XS.lload X37.here hx rfl (hb hby at_185) rfl ?_
      refine XS.lsub X37.here hx rfl (hb hby at_187) rfl ?_
      show Steps p.tables e below (T37.setTop (mkF m 188 #[.val (.int lvx), .val (.int nx), .val (.int mx), .val (.long wx), .second, .val (.int v1), .val (.long v3), .second, .val (.long v5), .second, .val (.long v7), .second, .val (.long v13), .second, .val (.long v14), .second, .val (.long v16), .second, .val (.ref b18), .val (.long v49), .second, .val (.long v50), .second, .val (.int (1 : Int32)), .val (.int (bz (¬ (v5 < v39)))), .val (.int (0 : Int32)), .val (.int (0 : Int32)), .val (.long v39), .second, .val (.int (bz (¬ (v5 < v39)))), .unset] [(.long (v50 - v49))])) _
      refine XS.lconst X37.here hx rfl (hb hby at_188) ?_
      refine XS.lcmp X37.here hx rfl (hb hby at_189) rfl ?_
      exact k)
    by_cases hb52 : (1 : Int64) < (v50 - v49)
    · have pre53 : ∀ t, Steps p.tables e below (T37.setTop (mkF m 193 #[.val (.int lvx), .val (.int nx), .val (.int mx), .val (.long wx), .second, .val (.int v1), .val (.long v3), .second, .val (.long v5), .second, .val (.long v7), .second, .val (.long v13), .second, .val (.long v14), .second, .val (.long v16), .second, .val (.ref b18), .val (.long v49), .second, .val (.long v50), .second, .val (.int (1 : Int32)), .val (.int (bz (¬ (v5 < v39)))), .val (.int (0 : Int32)), .val (.int (0 : Int32)), .val (.long v39), .second, .val (.int (bz (¬ (v5 < v39)))), .unset] [])) t → Steps p.tables e below (s₁.setTop (entryFrame m #[(.int lvx), (.int nx), (.int mx), (.long wx)] maxLocals)) t := fun t k => pre51 t (by show Steps p.tables e below (T37.setTop (mkF m 190 #[.val (.int lvx), .val (.int nx), .val (.int mx), .val (.long wx), .second, .val (.int v1), .val (.long v3), .second, .val (.long v5), .second, .val (.long v7), .second, .val (.long v13), .second, .val (.long v14), .second, .val (.long v16), .second, .val (.ref b18), .val (.long v49), .second, .val (.long v50), .second, .val (.int (1 : Int32)), .val (.int (bz (¬ (v5 < v39)))), .val (.int (0 : Int32)), .val (.int (0 : Int32)), .val (.long v39), .second, .val (.int (bz (¬ (v5 < v39)))), .unset] [(.int (XT.cmpL (v50 - v49) (1 : Int64)))])) _; refine XS.ifNo X37.here hx rfl (hb hby at_190) rfl (XT.ll_le_f hb52) ?_; exact k)
      have pre54 : ∀ t, Steps p.tables e below (T37.setTop (mkF m 200 #[.val (.int lvx), .val (.int nx), .val (.int mx), .val (.long wx), .second, .val (.int v1), .val (.long v3), .second, .val (.long v5), .second, .val (.long v7), .second, .val (.long v13), .second, .val (.long v14), .second, .val (.long v16), .second, .val (.ref b18), .val (.long v49), .second, .val (.long v50), .second, .val (.int (1 : Int32)), .val (.int (bz (¬ (v5 < v39)))), .val (.int (0 : Int32)), .val (.int (0 : Int32)), .val (.long v39), .second, .val (.int (bz (¬ (v5 < v39)))), .unset] [(.long (v50 - v49)), (.long v49)])) t → Steps p.tables e below (s₁.setTop (entryFrame m #[(.int lvx), (.int nx), (.int mx), (.long wx)] maxLocals)) t := fun t k => pre53 t (by
        show Steps p.tables e below (T37.setTop (mkF m 193 #[.val (.int lvx), .val (.int nx), .val (.int mx), .val (.long wx), .second, .val (.int v1), .val (.long v3), .second, .val (.long v5), .second, .val (.long v7), .second, .val (.long v13), .second, .val (.long v14), .second, .val (.long v16), .second, .val (.ref b18), .val (.long v49), .second, .val (.long v50), .second, .val (.int (1 : Int32)), .val (.int (bz (¬ (v5 < v39)))), .val (.int (0 : Int32)), .val (.int (0 : Int32)), .val (.long v39), .second, .val (.int (bz (¬ (v5 < v39)))), .unset] [])) _
        refine XS.lload X37.here hx rfl (hb hby at_193) rfl ?_
        refine XS.lload X37.here hx rfl (hb hby at_195) rfl ?_
        refine XS.lload X37.here hx rfl (hb hby at_197) rfl ?_
        refine XS.lsub X37.here hx rfl (hb hby at_199) rfl ?_
        exact k)
      obtain ⟨_, _, ⟨T55, L55, k55, n55⟩, -, X55, ⟨Lc55, hQ55, l55, y55, z55⟩, st55⟩ := Jvm.LawKit.callS X37 hx (y := (⟨"com/example/gapless_log/gaplesslog/tree/AscentClimbPinLaw", "below", "(J)J"⟩ : MethodName)) hown (mvT hZ (hw _ (List.mem_of_getElem? (i := 48) rfl))) (mvT hZ (hw _ (List.mem_of_getElem? (i := 49) rfl))) (mvT hZ (hw _ (List.mem_of_getElem? (i := 50) rfl))) (mvT hZ (hw _ (List.mem_of_getElem? (i := 51) rfl))) (by decide) (backOf (W := 2) (rm9 l Z a0 hw [] (v50 - v49)  T37.heap n0 _ R37 ) hZ (hw _ (List.mem_of_getElem? (i := 51) rfl)) (hw _ (List.mem_of_getElem? (i := 50) rfl)) (by decide) (by decide)) (g := (mkF m 200 #[.val (.int lvx), .val (.int nx), .val (.int mx), .val (.long wx), .second, .val (.int v1), .val (.long v3), .second, .val (.long v5), .second, .val (.long v7), .second, .val (.long v13), .second, .val (.long v14), .second, .val (.long v16), .second, .val (.ref b18), .val (.long v49), .second, .val (.long v50), .second, .val (.int (1 : Int32)), .val (.int (bz (¬ (v5 < v39)))), .val (.int (0 : Int32)), .val (.int (0 : Int32)), .val (.long v39), .second, .val (.int (bz (¬ (v5 < v39)))), .unset] [(.long (v50 - v49)), (.long v49)])) rfl (by rw [hml]; rfl) (argsL := [(.long (v50 - v49))]) (rest := [(.long v49)]) (lenOf pd__28J_29J rfl) rfl (by show 2 * 0 + _ ≤ _; exact Nat.le_of_eq rfl) (hb hby at_200) (fun _ _ => ⟨rfl, rfl, (by decide : 2 + 0 ≤ _), (by decide : 4 + 0 ≤ _)⟩)
      dsimp only [Pt.U, Pt.locs, Pt.cells, Pt.slots] at X55 l55 y55 z55 st55 hQ55
      subst y55 z55
      obtain ⟨rfl, N55q, R55⟩ := hQ55
      have N55 : Fr n0 L55 := by rw [l55]; exact Fr.app N37 N55q
      replace R55 : Rep Z n0 T55.heap ((b18, Obj "com/example/gapless_log/gaplesslog/tree/Ascent" [("node", "J", (.long v5)), ("last", "J", (.long v3))]) :: (b21, Obj "com/example/gapless_log/gaplesslog/tree/Subtree" [("start", "J", (.long v16)), ("end", "J", (.long (v16 + v7)))]) :: []) := R55
      have pre56 : ∀ t, Steps p.tables e below (T55.setTop (mkF m 203 #[.val (.int lvx), .val (.int nx), .val (.int mx), .val (.long wx), .second, .val (.int v1), .val (.long v3), .second, .val (.long v5), .second, .val (.long v7), .second, .val (.long v13), .second, .val (.long v14), .second, .val (.long v16), .second, .val (.ref b18), .val (.long v49), .second, .val (.long v50), .second, .val (.int (1 : Int32)), .val (.int (bz (¬ (v5 < v39)))), .val (.int (0 : Int32)), .val (.int (0 : Int32)), .val (.long v39), .second, .val (.int (bz (¬ (v5 < v39)))), .unset] [(.long (F9 (v50 - v49))), (.long v49)])) t → Steps p.tables e below (s₁.setTop (entryFrame m #[(.int lvx), (.int nx), (.int mx), (.long wx)] maxLocals)) t := fun t k => pre54 t (st55 t k)
      have pre58 : ∀ t, Steps p.tables e below (T55.setTop (mkF m 206 #[.val (.int lvx), .val (.int nx), .val (.int mx), .val (.long wx), .second, .val (.int v1), .val (.long v3), .second, .val (.long v5), .second, .val (.long v7), .second, .val (.long v13), .second, .val (.long v14), .second, .val (.long v16), .second, .val (.ref b18), .val (.long v49), .second, .val (.long v50), .second, .val (.int (1 : Int32)), .val (.int (bz (¬ (v5 < v39)))), .val (.int (0 : Int32)), .val (.int (0 : Int32)), .val (.long (v49 + (F9 (v50 - v49)))), .second, .val (.int (bz (¬ (v5 < v39)))), .unset] [])) t → Steps p.tables e below (s₁.setTop (entryFrame m #[(.int lvx), (.int nx), (.int mx), (.long wx)] maxLocals)) t := fun t k => pre56 t (by
        show Steps p.tables e below (T55.setTop (mkF m 203 #[.val (.int lvx), .val (.int nx), .val (.int mx), .val (.long wx), .second, .val (.int v1), .val (.long v3), .second, .val (.long v5), .second, .val (.long v7), .second, .val (.long v13), .second, .val (.long v14), .second, .val (.long v16), .second, .val (.ref b18), .val (.long v49), .second, .val (.long v50), .second, .val (.int (1 : Int32)), .val (.int (bz (¬ (v5 < v39)))), .val (.int (0 : Int32)), .val (.int (0 : Int32)), .val (.long v39), .second, .val (.int (bz (¬ (v5 < v39)))), .unset] [(.long (F9 (v50 - v49))), (.long v49)])) _
        refine XS.ladd X55.here hx rfl (hb hby at_203) rfl ?_
        refine XS.lstore X55.here hx rfl (hb hby at_204) rfl (l' := #[.val (.int lvx), .val (.int nx), .val (.int mx), .val (.long wx), .second, .val (.int v1), .val (.long v3), .second, .val (.long v5), .second, .val (.long v7), .second, .val (.long v13), .second, .val (.long v14), .second, .val (.long v16), .second, .val (.ref b18), .val (.long v49), .second, .val (.long v50), .second, .val (.int (1 : Int32)), .val (.int (bz (¬ (v5 < v39)))), .val (.int (0 : Int32)), .val (.int (0 : Int32)), .val (.long (v49 + (F9 (v50 - v49)))), .second, .val (.int (bz (¬ (v5 < v39)))), .unset]) rfl ?_
        exact k)
      obtain ⟨v57, hv57⟩ : ∃ z : Int64, z = (v49 + (F9 (v50 - v49))) := ⟨_, rfl⟩
      rw [← hv57] at pre58
      have pre61 : ∀ t, Steps p.tables e below (T55.setTop (mkF m 211 #[.val (.int lvx), .val (.int nx), .val (.int mx), .val (.long wx), .second, .val (.int v1), .val (.long v3), .second, .val (.long v5), .second, .val (.long v7), .second, .val (.long v13), .second, .val (.long v14), .second, .val (.long v16), .second, .val (.ref b18), .val (.long v49), .second, .val (.long v50), .second, .val (.int (1 : Int32)), .val (.int (bz (¬ (v5 < v39)))), .val (.int (0 : Int32)), .val (.int (0 : Int32)), .val (.long v57), .second, .val (.int (bz (¬ (v5 < v39)))), .unset] [(.int (XT.cmpL v5 v57))])) t → Steps p.tables e below (s₁.setTop (entryFrame m #[(.int lvx), (.int nx), (.int mx), (.long wx)] maxLocals)) t := fun t k => pre58 t (by
        show Steps p.tables e below (T55.setTop (mkF m 206 #[.val (.int lvx), .val (.int nx), .val (.int mx), .val (.long wx), .second, .val (.int v1), .val (.long v3), .second, .val (.long v5), .second, .val (.long v7), .second, .val (.long v13), .second, .val (.long v14), .second, .val (.long v16), .second, .val (.ref b18), .val (.long v49), .second, .val (.long v50), .second, .val (.int (1 : Int32)), .val (.int (bz (¬ (v5 < v39)))), .val (.int (0 : Int32)), .val (.int (0 : Int32)), .val (.long v57), .second, .val (.int (bz (¬ (v5 < v39)))), .unset] [])) _
        refine XS.lload X55.here hx rfl (hb hby at_206) rfl ?_
        refine XS.lload X55.here hx rfl (hb hby at_208) rfl ?_
        refine XS.lcmp X55.here hx rfl (hb hby at_210) rfl ?_
        exact k)
      have tl60 : ∀ t, Steps p.tables e below (T55.setTop (mkF m 219 #[.val (.int lvx), .val (.int nx), .val (.int mx), .val (.long wx), .second, .val (.int v1), .val (.long v3), .second, .val (.long v5), .second, .val (.long v7), .second, .val (.long v13), .second, .val (.long v14), .second, .val (.long v16), .second, .val (.ref b18), .val (.long v49), .second, .val (.long v50), .second, .val (.int (1 : Int32)), .val (.int (bz (¬ (v5 < v39)))), .val (.int (0 : Int32)), .val (.int (0 : Int32)), .val (.long v57), .second, .val (.int (bz (¬ (v5 < v39)))), .unset] [(.int (bz (¬ (v5 < v57))))])) t → Steps p.tables e below (T55.setTop (mkF m 211 #[.val (.int lvx), .val (.int nx), .val (.int mx), .val (.long wx), .second, .val (.int v1), .val (.long v3), .second, .val (.long v5), .second, .val (.long v7), .second, .val (.long v13), .second, .val (.long v14), .second, .val (.long v16), .second, .val (.ref b18), .val (.long v49), .second, .val (.long v50), .second, .val (.int (1 : Int32)), .val (.int (bz (¬ (v5 < v39)))), .val (.int (0 : Int32)), .val (.int (0 : Int32)), .val (.long v57), .second, .val (.int (bz (¬ (v5 < v39)))), .unset] [(.int (XT.cmpL v5 v57))])) t := fun t k => by
        by_cases hb59 : v5 < v57
        · refine XS.ifYes X55.here hx rfl (pc0 := 211) (pc' := 218) rfl (hb hby at_211) rfl (XT.ll_lt_t hb59) (by decide) (by decide) ?_
          rw [bz_zero (P := (¬ (v5 < v57))) (iff_false_intro (not_not_intro hb59))] at k
          show Steps p.tables e below (T55.setTop (mkF m 218 #[.val (.int lvx), .val (.int nx), .val (.int mx), .val (.long wx), .second, .val (.int v1), .val (.long v3), .second, .val (.long v5), .second, .val (.long v7), .second, .val (.long v13), .second, .val (.long v14), .second, .val (.long v16), .second, .val (.ref b18), .val (.long v49), .second, .val (.long v50), .second, .val (.int (1 : Int32)), .val (.int (bz (¬ (v5 < v39)))), .val (.int (0 : Int32)), .val (.int (0 : Int32)), .val (.long v57), .second, .val (.int (bz (¬ (v5 < v39)))), .unset] [])) _
          refine XS.iconst X55.here hx rfl (hb hby at_218) ?_
          exact k
        · refine XS.ifNo X55.here hx rfl (hb hby at_211) rfl (XT.ll_lt_f hb59) ?_
          rw [bz_one (P := (¬ (v5 < v57))) (iff_true_intro hb59)] at k
          show Steps p.tables e below (T55.setTop (mkF m 214 #[.val (.int lvx), .val (.int nx), .val (.int mx), .val (.long wx), .second, .val (.int v1), .val (.long v3), .second, .val (.long v5), .second, .val (.long v7), .second, .val (.long v13), .second, .val (.long v14), .second, .val (.long v16), .second, .val (.ref b18), .val (.long v49), .second, .val (.long v50), .second, .val (.int (1 : Int32)), .val (.int (bz (¬ (v5 < v39)))), .val (.int (0 : Int32)), .val (.int (0 : Int32)), .val (.long v57), .second, .val (.int (bz (¬ (v5 < v39)))), .unset] [])) _
          refine XS.iconst X55.here hx rfl (hb hby at_214) ?_
          refine XS.goto X55.here hx rfl (pc0 := 215) (pc' := 219) rfl (hb hby at_215) (by decide) (by decide) ?_
          exact k
      have pre62 : ∀ t, Steps p.tables e below (T55.setTop (mkF m 219 #[.val (.int lvx), .val (.int nx), .val (.int mx), .val (.long wx), .second, .val (.int v1), .val (.long v3), .second, .val (.long v5), .second, .val (.long v7), .second, .val (.long v13), .second, .val (.long v14), .second, .val (.long v16), .second, .val (.ref b18), .val (.long v49), .second, .val (.long v50), .second, .val (.int (1 : Int32)), .val (.int (bz (¬ (v5 < v39)))), .val (.int (0 : Int32)), .val (.int (0 : Int32)), .val (.long v57), .second, .val (.int (bz (¬ (v5 < v39)))), .unset] [(.int (bz (¬ (v5 < v57))))])) t → Steps p.tables e below (s₁.setTop (entryFrame m #[(.int lvx), (.int nx), (.int mx), (.long wx)] maxLocals)) t := fun t k => pre61 t (by
        exact tl60 t k)
      have pre65 : ∀ t, Steps p.tables e below (T55.setTop (mkF m 223 #[.val (.int lvx), .val (.int nx), .val (.int mx), .val (.long wx), .second, .val (.int v1), .val (.long v3), .second, .val (.long v5), .second, .val (.long v7), .second, .val (.long v13), .second, .val (.long v14), .second, .val (.long v16), .second, .val (.ref b18), .val (.long v49), .second, .val (.long v50), .second, .val (.int (1 : Int32)), .val (.int (bz (¬ (v5 < v39)))), .val (.int (0 : Int32)), .val (.int (0 : Int32)), .val (.long v57), .second, .val (.int (bz (¬ (v5 < v57)))), .unset] [(.int (bz (¬ (v5 < v57))))])) t → Steps p.tables e below (s₁.setTop (entryFrame m #[(.int lvx), (.int nx), (.int mx), (.long wx)] maxLocals)) t := fun t k => pre62 t (by
        show Steps p.tables e below (T55.setTop (mkF m 219 #[.val (.int lvx), .val (.int nx), .val (.int mx), .val (.long wx), .second, .val (.int v1), .val (.long v3), .second, .val (.long v5), .second, .val (.long v7), .second, .val (.long v13), .second, .val (.long v14), .second, .val (.long v16), .second, .val (.ref b18), .val (.long v49), .second, .val (.long v50), .second, .val (.int (1 : Int32)), .val (.int (bz (¬ (v5 < v39)))), .val (.int (0 : Int32)), .val (.int (0 : Int32)), .val (.long v57), .second, .val (.int (bz (¬ (v5 < v39)))), .unset] [(.int (bz (¬ (v5 < v57))))])) _
        refine XS.istore X55.here hx rfl (hb hby at_219) rfl (l' := #[.val (.int lvx), .val (.int nx), .val (.int mx), .val (.long wx), .second, .val (.int v1), .val (.long v3), .second, .val (.long v5), .second, .val (.long v7), .second, .val (.long v13), .second, .val (.long v14), .second, .val (.long v16), .second, .val (.ref b18), .val (.long v49), .second, .val (.long v50), .second, .val (.int (1 : Int32)), .val (.int (bz (¬ (v5 < v39)))), .val (.int (0 : Int32)), .val (.int (0 : Int32)), .val (.long v57), .second, .val (.int (bz (¬ (v5 < v57)))), .unset]) rfl ?_
        refine XS.iload X55.here hx rfl (hb hby at_221) rfl ?_
        exact k)
      have tl64 : ∀ t, Steps p.tables e below (T55.setTop (mkF m 237 #[.val (.int lvx), .val (.int nx), .val (.int mx), .val (.long wx), .second, .val (.int v1), .val (.long v3), .second, .val (.long v5), .second, .val (.long v7), .second, .val (.long v13), .second, .val (.long v14), .second, .val (.long v16), .second, .val (.ref b18), .val (.long (if (¬ (v5 < v57)) then v57 else v49)), .second, .val (.long (if (¬ (v5 < v57)) then v50 else v57)), .second, .val (.int (1 : Int32)), .val (.int (bz (¬ (v5 < v39)))), .val (.int (0 : Int32)), .val (.int (0 : Int32)), .val (.long v57), .second, .val (.int (bz (¬ (v5 < v57)))), .unset] [])) t → Steps p.tables e below (T55.setTop (mkF m 223 #[.val (.int lvx), .val (.int nx), .val (.int mx), .val (.long wx), .second, .val (.int v1), .val (.long v3), .second, .val (.long v5), .second, .val (.long v7), .second, .val (.long v13), .second, .val (.long v14), .second, .val (.long v16), .second, .val (.ref b18), .val (.long v49), .second, .val (.long v50), .second, .val (.int (1 : Int32)), .val (.int (bz (¬ (v5 < v39)))), .val (.int (0 : Int32)), .val (.int (0 : Int32)), .val (.long v57), .second, .val (.int (bz (¬ (v5 < v57)))), .unset] [(.int (bz (¬ (v5 < v57))))])) t := fun t k => by
        by_cases hb63 : (¬ (v5 < v57))
        · refine XS.ifNo X55.here hx rfl (hb hby at_223) rfl (ow_beq_f hb63) ?_
          rw [show (if (¬ (v5 < v57)) then v57 else v49) = v57 from if_pos hb63] at k
          rw [show (if (¬ (v5 < v57)) then v50 else v57) = v50 from if_pos hb63] at k
          show Steps p.tables e below (T55.setTop (mkF m 226 #[.val (.int lvx), .val (.int nx), .val (.int mx), .val (.long wx), .second, .val (.int v1), .val (.long v3), .second, .val (.long v5), .second, .val (.long v7), .second, .val (.long v13), .second, .val (.long v14), .second, .val (.long v16), .second, .val (.ref b18), .val (.long v49), .second, .val (.long v50), .second, .val (.int (1 : Int32)), .val (.int (bz (¬ (v5 < v39)))), .val (.int (0 : Int32)), .val (.int (0 : Int32)), .val (.long v57), .second, .val (.int (bz (¬ (v5 < v57)))), .unset] [])) _
          refine XS.lload X55.here hx rfl (hb hby at_226) rfl ?_
          refine XS.lstore X55.here hx rfl (hb hby at_228) rfl (l' := #[.val (.int lvx), .val (.int nx), .val (.int mx), .val (.long wx), .second, .val (.int v1), .val (.long v3), .second, .val (.long v5), .second, .val (.long v7), .second, .val (.long v13), .second, .val (.long v14), .second, .val (.long v16), .second, .val (.ref b18), .val (.long v57), .second, .val (.long v50), .second, .val (.int (1 : Int32)), .val (.int (bz (¬ (v5 < v39)))), .val (.int (0 : Int32)), .val (.int (0 : Int32)), .val (.long v57), .second, .val (.int (bz (¬ (v5 < v57)))), .unset]) rfl ?_
          refine XS.goto X55.here hx rfl (pc0 := 230) (pc' := 237) rfl (hb hby at_230) (by decide) (by decide) ?_
          exact k
        · refine XS.ifYes X55.here hx rfl (pc0 := 223) (pc' := 233) rfl (hb hby at_223) rfl (ow_beq_t hb63) (by decide) (by decide) ?_
          rw [show (if (¬ (v5 < v57)) then v57 else v49) = v49 from if_neg hb63] at k
          rw [show (if (¬ (v5 < v57)) then v50 else v57) = v57 from if_neg hb63] at k
          show Steps p.tables e below (T55.setTop (mkF m 233 #[.val (.int lvx), .val (.int nx), .val (.int mx), .val (.long wx), .second, .val (.int v1), .val (.long v3), .second, .val (.long v5), .second, .val (.long v7), .second, .val (.long v13), .second, .val (.long v14), .second, .val (.long v16), .second, .val (.ref b18), .val (.long v49), .second, .val (.long v50), .second, .val (.int (1 : Int32)), .val (.int (bz (¬ (v5 < v39)))), .val (.int (0 : Int32)), .val (.int (0 : Int32)), .val (.long v57), .second, .val (.int (bz (¬ (v5 < v57)))), .unset] [])) _
          refine XS.lload X55.here hx rfl (hb hby at_233) rfl ?_
          refine XS.lstore X55.here hx rfl (hb hby at_235) rfl (l' := #[.val (.int lvx), .val (.int nx), .val (.int mx), .val (.long wx), .second, .val (.int v1), .val (.long v3), .second, .val (.long v5), .second, .val (.long v7), .second, .val (.long v13), .second, .val (.long v14), .second, .val (.long v16), .second, .val (.ref b18), .val (.long v49), .second, .val (.long v57), .second, .val (.int (1 : Int32)), .val (.int (bz (¬ (v5 < v39)))), .val (.int (0 : Int32)), .val (.int (0 : Int32)), .val (.long v57), .second, .val (.int (bz (¬ (v5 < v57)))), .unset]) rfl ?_
          exact k
      have pre66 : ∀ t, Steps p.tables e below (T55.setTop (mkF m 237 #[.val (.int lvx), .val (.int nx), .val (.int mx), .val (.long wx), .second, .val (.int v1), .val (.long v3), .second, .val (.long v5), .second, .val (.long v7), .second, .val (.long v13), .second, .val (.long v14), .second, .val (.long v16), .second, .val (.ref b18), .val (.long (if (¬ (v5 < v57)) then v57 else v49)), .second, .val (.long (if (¬ (v5 < v57)) then v50 else v57)), .second, .val (.int (1 : Int32)), .val (.int (bz (¬ (v5 < v39)))), .val (.int (0 : Int32)), .val (.int (0 : Int32)), .val (.long v57), .second, .val (.int (bz (¬ (v5 < v57)))), .unset] [])) t → Steps p.tables e below (s₁.setTop (entryFrame m #[(.int lvx), (.int nx), (.int mx), (.long wx)] maxLocals)) t := fun t k => pre65 t (by
        exact tl64 t k)
      obtain ⟨v67, hv67⟩ : ∃ z : Int64, z = (if (¬ (v5 < v57)) then v57 else v49) := ⟨_, rfl⟩
      rw [← hv67] at pre66
      obtain ⟨v68, hv68⟩ : ∃ z : Int64, z = (if (¬ (v5 < v57)) then v50 else v57) := ⟨_, rfl⟩
      rw [← hv68] at pre66
      have pre69 : ∀ t, Steps p.tables e below (T55.setTop (mkF m 251 #[.val (.int lvx), .val (.int nx), .val (.int mx), .val (.long wx), .second, .val (.int v1), .val (.long v3), .second, .val (.long v5), .second, .val (.long v7), .second, .val (.long v13), .second, .val (.long v14), .second, .val (.long v16), .second, .val (.ref b18), .val (.long v67), .second, .val (.long v68), .second, .val (.int (2 : Int32)), .val (.int (bz (¬ (v5 < v39)))), .val (.int (bz (¬ (v5 < v57)))), .val (.int (0 : Int32)), .val (.long v57), .second, .val (.int (bz (¬ (v5 < v57)))), .unset] [(.int (XT.cmpL (v68 - v67) (1 : Int64)))])) t → Steps p.tables e below (s₁.setTop (entryFrame m #[(.int lvx), (.int nx), (.int mx), (.long wx)] maxLocals)) t := fun t k => pre66 t (by
        show Steps p.tables e below (T55.setTop (mkF m 237 #[.val (.int lvx), .val (.int nx), .val (.int mx), .val (.long wx), .second, .val (.int v1), .val (.long v3), .second, .val (.long v5), .second, .val (.long v7), .second, .val (.long v13), .second, .val (.long v14), .second, .val (.long v16), .second, .val (.ref b18), .val (.long v67), .second, .val (.long v68), .second, .val (.int (1 : Int32)), .val (.int (bz (¬ (v5 < v39)))), .val (.int (0 : Int32)), .val (.int (0 : Int32)), .val (.long v57), .second, .val (.int (bz (¬ (v5 < v57)))), .unset] [])) _
        refine XS.iload X55.here hx rfl (hb hby at_237) rfl ?_
        refine XS.istore X55.here hx rfl (hb hby at_239) rfl (l' := #[.val (.int lvx), .val (.int nx), .val (.int mx), .val (.long wx), .second, .val (.int v1), .val (.long v3), .second, .val (.long v5), .second, .val (.long v7), .second, .val (.long v13), .second, .val (.long v14), .second, .val (.long v16), .second, .val (.ref b18), .val (.long v67), .second, .val (.long v68), .second, .val (.int (1 : Int32)), .val (.int (bz (¬ (v5 < v39)))), .val (.int (bz (¬ (v5 < v57)))), .val (.int (0 : Int32)), .val (.long v57), .second, .val (.int (bz (¬ (v5 < v57)))), .unset]) rfl ?_
        refine XS.iconst X55.here hx rfl (hb hby at_241) ?_
        refine XS.istore X55.here hx rfl (hb hby at_242) rfl (l' := #[.val (.int lvx), .val (.int nx), .val (.int mx), .val (.long wx), .second, .val (.int v1), .val (.long v3), .second, .val (.long v5), .second, .val (.long v7), .second, .val (.long v13), .second, .val (.long v14), .second, .val (.long v16), .second, .val (.ref b18), .val (.long v67), .second, .val (.long v68), .second, .val (.int (2 : Int32)), .val (.int (bz (¬ (v5 < v39)))), .val (.int (bz (¬ (v5 < v57)))), .val (.int (0 : Int32)), .val (.long v57), .second, .val (.int (bz (¬ (v5 < v57)))), .unset]) rfl ?_
        refine XS.lload X55.here hx rfl (hb hby at_244) rfl ?_
        refine XS.lload X55.here hx rfl (hb hby at_246) rfl ?_
        refine XS.lsub X55.here hx rfl (hb hby at_248) rfl ?_
        show Steps p.tables e below (T55.setTop (mkF m 249 #[.val (.int lvx), .val (.int nx), .val (.int mx), .val (.long wx), .second, .val (.int v1), .val (.long v3), .second, .val (.long v5), .second, .val (.long v7), .second, .val (.long v13), .second, .val (.long v14), .second, .val (.long v16), .second, .val (.ref b18), .val (.long v67), .second, .val (.long v68), .second, .val (.int (2 : Int32)), .val (.int (bz (¬ (v5 < v39)))), .val (.int (bz (¬ (v5 < v57)))), .val (.int (0 : Int32)), .val (.long v57), .second, .val (.int (bz (¬ (v5 < v57)))), .unset] [(.long (v68 - v67))])) _
        refine XS.lconst X55.here hx rfl (hb hby at_249) ?_
        refine XS.lcmp X55.here hx rfl (hb hby at_250) rfl ?_
        exact k)
      by_cases hb70 : (1 : Int64) < (v68 - v67)
      · have pre71 : ∀ t, Steps p.tables e below (T55.setTop (mkF m 254 #[.val (.int lvx), .val (.int nx), .val (.int mx), .val (.long wx), .second, .val (.int v1), .val (.long v3), .second, .val (.long v5), .second, .val (.long v7), .second, .val (.long v13), .second, .val (.long v14), .second, .val (.long v16), .second, .val (.ref b18), .val (.long v67), .second, .val (.long v68), .second, .val (.int (2 : Int32)), .val (.int (bz (¬ (v5 < v39)))), .val (.int (bz (¬ (v5 < v57)))), .val (.int (0 : Int32)), .val (.long v57), .second, .val (.int (bz (¬ (v5 < v57)))), .unset] [])) t → Steps p.tables e below (s₁.setTop (entryFrame m #[(.int lvx), (.int nx), (.int mx), (.long wx)] maxLocals)) t := fun t k => pre69 t (by show Steps p.tables e below (T55.setTop (mkF m 251 #[.val (.int lvx), .val (.int nx), .val (.int mx), .val (.long wx), .second, .val (.int v1), .val (.long v3), .second, .val (.long v5), .second, .val (.long v7), .second, .val (.long v13), .second, .val (.long v14), .second, .val (.long v16), .second, .val (.ref b18), .val (.long v67), .second, .val (.long v68), .second, .val (.int (2 : Int32)), .val (.int (bz (¬ (v5 < v39)))), .val (.int (bz (¬ (v5 < v57)))), .val (.int (0 : Int32)), .val (.long v57), .second, .val (.int (bz (¬ (v5 < v57)))), .unset] [(.int (XT.cmpL (v68 - v67) (1 : Int64)))])) _; refine XS.ifNo X55.here hx rfl (hb hby at_251) rfl (XT.ll_le_f hb70) ?_; exact k)
        have pre72 : ∀ t, Steps p.tables e below (T55.setTop (mkF m 261 #[.val (.int lvx), .val (.int nx), .val (.int mx), .val (.long wx), .second, .val (.int v1), .val (.long v3), .second, .val (.long v5), .second, .val (.long v7), .second, .val (.long v13), .second, .val (.long v14), .second, .val (.long v16), .second, .val (.ref b18), .val (.long v67), .second, .val (.long v68), .second, .val (.int (2 : Int32)), .val (.int (bz (¬ (v5 < v39)))), .val (.int (bz (¬ (v5 < v57)))), .val (.int (0 : Int32)), .val (.long v57), .second, .val (.int (bz (¬ (v5 < v57)))), .unset] [(.long (v68 - v67)), (.long v67)])) t → Steps p.tables e below (s₁.setTop (entryFrame m #[(.int lvx), (.int nx), (.int mx), (.long wx)] maxLocals)) t := fun t k => pre71 t (by
          show Steps p.tables e below (T55.setTop (mkF m 254 #[.val (.int lvx), .val (.int nx), .val (.int mx), .val (.long wx), .second, .val (.int v1), .val (.long v3), .second, .val (.long v5), .second, .val (.long v7), .second, .val (.long v13), .second, .val (.long v14), .second, .val (.long v16), .second, .val (.ref b18), .val (.long v67), .second, .val (.long v68), .second, .val (.int (2 : Int32)), .val (.int (bz (¬ (v5 < v39)))), .val (.int (bz (¬ (v5 < v57)))), .val (.int (0 : Int32)), .val (.long v57), .second, .val (.int (bz (¬ (v5 < v57)))), .unset] [])) _
          refine XS.lload X55.here hx rfl (hb hby at_254) rfl ?_
          refine XS.lload X55.here hx rfl (hb hby at_256) rfl ?_
          refine XS.lload X55.here hx rfl (hb hby at_258) rfl ?_
          refine XS.lsub X55.here hx rfl (hb hby at_260) rfl ?_
          exact k)
        obtain ⟨_, _, ⟨T73, L73, k73, n73⟩, -, X73, ⟨Lc73, hQ73, l73, y73, z73⟩, st73⟩ := Jvm.LawKit.callS X55 hx (y := (⟨"com/example/gapless_log/gaplesslog/tree/AscentClimbPinLaw", "below", "(J)J"⟩ : MethodName)) hown (mvT hZ (hw _ (List.mem_of_getElem? (i := 48) rfl))) (mvT hZ (hw _ (List.mem_of_getElem? (i := 49) rfl))) (mvT hZ (hw _ (List.mem_of_getElem? (i := 50) rfl))) (mvT hZ (hw _ (List.mem_of_getElem? (i := 51) rfl))) (by decide) (backOf (W := 2) (rm9 l Z a0 hw [] (v68 - v67)  T55.heap n0 _ R55 ) hZ (hw _ (List.mem_of_getElem? (i := 51) rfl)) (hw _ (List.mem_of_getElem? (i := 50) rfl)) (by decide) (by decide)) (g := (mkF m 261 #[.val (.int lvx), .val (.int nx), .val (.int mx), .val (.long wx), .second, .val (.int v1), .val (.long v3), .second, .val (.long v5), .second, .val (.long v7), .second, .val (.long v13), .second, .val (.long v14), .second, .val (.long v16), .second, .val (.ref b18), .val (.long v67), .second, .val (.long v68), .second, .val (.int (2 : Int32)), .val (.int (bz (¬ (v5 < v39)))), .val (.int (bz (¬ (v5 < v57)))), .val (.int (0 : Int32)), .val (.long v57), .second, .val (.int (bz (¬ (v5 < v57)))), .unset] [(.long (v68 - v67)), (.long v67)])) rfl (by rw [hml]; rfl) (argsL := [(.long (v68 - v67))]) (rest := [(.long v67)]) (lenOf pd__28J_29J rfl) rfl (by show 2 * 0 + _ ≤ _; exact Nat.le_of_eq rfl) (hb hby at_261) (fun _ _ => ⟨rfl, rfl, (by decide : 2 + 0 ≤ _), (by decide : 4 + 0 ≤ _)⟩)
        dsimp only [Pt.U, Pt.locs, Pt.cells, Pt.slots] at X73 l73 y73 z73 st73 hQ73
        subst y73 z73
        obtain ⟨rfl, N73q, R73⟩ := hQ73
        have N73 : Fr n0 L73 := by rw [l73]; exact Fr.app N55 N73q
        replace R73 : Rep Z n0 T73.heap ((b18, Obj "com/example/gapless_log/gaplesslog/tree/Ascent" [("node", "J", (.long v5)), ("last", "J", (.long v3))]) :: (b21, Obj "com/example/gapless_log/gaplesslog/tree/Subtree" [("start", "J", (.long v16)), ("end", "J", (.long (v16 + v7)))]) :: []) := R73
        have pre74 : ∀ t, Steps p.tables e below (T73.setTop (mkF m 264 #[.val (.int lvx), .val (.int nx), .val (.int mx), .val (.long wx), .second, .val (.int v1), .val (.long v3), .second, .val (.long v5), .second, .val (.long v7), .second, .val (.long v13), .second, .val (.long v14), .second, .val (.long v16), .second, .val (.ref b18), .val (.long v67), .second, .val (.long v68), .second, .val (.int (2 : Int32)), .val (.int (bz (¬ (v5 < v39)))), .val (.int (bz (¬ (v5 < v57)))), .val (.int (0 : Int32)), .val (.long v57), .second, .val (.int (bz (¬ (v5 < v57)))), .unset] [(.long (F9 (v68 - v67))), (.long v67)])) t → Steps p.tables e below (s₁.setTop (entryFrame m #[(.int lvx), (.int nx), (.int mx), (.long wx)] maxLocals)) t := fun t k => pre72 t (st73 t k)
        have pre76 : ∀ t, Steps p.tables e below (T73.setTop (mkF m 267 #[.val (.int lvx), .val (.int nx), .val (.int mx), .val (.long wx), .second, .val (.int v1), .val (.long v3), .second, .val (.long v5), .second, .val (.long v7), .second, .val (.long v13), .second, .val (.long v14), .second, .val (.long v16), .second, .val (.ref b18), .val (.long v67), .second, .val (.long v68), .second, .val (.int (2 : Int32)), .val (.int (bz (¬ (v5 < v39)))), .val (.int (bz (¬ (v5 < v57)))), .val (.int (0 : Int32)), .val (.long (v67 + (F9 (v68 - v67)))), .second, .val (.int (bz (¬ (v5 < v57)))), .unset] [])) t → Steps p.tables e below (s₁.setTop (entryFrame m #[(.int lvx), (.int nx), (.int mx), (.long wx)] maxLocals)) t := fun t k => pre74 t (by
          show Steps p.tables e below (T73.setTop (mkF m 264 #[.val (.int lvx), .val (.int nx), .val (.int mx), .val (.long wx), .second, .val (.int v1), .val (.long v3), .second, .val (.long v5), .second, .val (.long v7), .second, .val (.long v13), .second, .val (.long v14), .second, .val (.long v16), .second, .val (.ref b18), .val (.long v67), .second, .val (.long v68), .second, .val (.int (2 : Int32)), .val (.int (bz (¬ (v5 < v39)))), .val (.int (bz (¬ (v5 < v57)))), .val (.int (0 : Int32)), .val (.long v57), .second, .val (.int (bz (¬ (v5 < v57)))), .unset] [(.long (F9 (v68 - v67))), (.long v67)])) _
          refine XS.ladd X73.here hx rfl (hb hby at_264) rfl ?_
          refine XS.lstore X73.here hx rfl (hb hby at_265) rfl (l' := #[.val (.int lvx), .val (.int nx), .val (.int mx), .val (.long wx), .second, .val (.int v1), .val (.long v3), .second, .val (.long v5), .second, .val (.long v7), .second, .val (.long v13), .second, .val (.long v14), .second, .val (.long v16), .second, .val (.ref b18), .val (.long v67), .second, .val (.long v68), .second, .val (.int (2 : Int32)), .val (.int (bz (¬ (v5 < v39)))), .val (.int (bz (¬ (v5 < v57)))), .val (.int (0 : Int32)), .val (.long (v67 + (F9 (v68 - v67)))), .second, .val (.int (bz (¬ (v5 < v57)))), .unset]) rfl ?_
          exact k)
        obtain ⟨v75, hv75⟩ : ∃ z : Int64, z = (v67 + (F9 (v68 - v67))) := ⟨_, rfl⟩
        rw [← hv75] at pre76
        have pre79 : ∀ t, Steps p.tables e below (T73.setTop (mkF m 272 #[.val (.int lvx), .val (.int nx), .val (.int mx), .val (.long wx), .second, .val (.int v1), .val (.long v3), .second, .val (.long v5), .second, .val (.long v7), .second, .val (.long v13), .second, .val (.long v14), .second, .val (.long v16), .second, .val (.ref b18), .val (.long v67), .second, .val (.long v68), .second, .val (.int (2 : Int32)), .val (.int (bz (¬ (v5 < v39)))), .val (.int (bz (¬ (v5 < v57)))), .val (.int (0 : Int32)), .val (.long v75), .second, .val (.int (bz (¬ (v5 < v57)))), .unset] [(.int (XT.cmpL v5 v75))])) t → Steps p.tables e below (s₁.setTop (entryFrame m #[(.int lvx), (.int nx), (.int mx), (.long wx)] maxLocals)) t := fun t k => pre76 t (by
          show Steps p.tables e below (T73.setTop (mkF m 267 #[.val (.int lvx), .val (.int nx), .val (.int mx), .val (.long wx), .second, .val (.int v1), .val (.long v3), .second, .val (.long v5), .second, .val (.long v7), .second, .val (.long v13), .second, .val (.long v14), .second, .val (.long v16), .second, .val (.ref b18), .val (.long v67), .second, .val (.long v68), .second, .val (.int (2 : Int32)), .val (.int (bz (¬ (v5 < v39)))), .val (.int (bz (¬ (v5 < v57)))), .val (.int (0 : Int32)), .val (.long v75), .second, .val (.int (bz (¬ (v5 < v57)))), .unset] [])) _
          refine XS.lload X73.here hx rfl (hb hby at_267) rfl ?_
          refine XS.lload X73.here hx rfl (hb hby at_269) rfl ?_
          refine XS.lcmp X73.here hx rfl (hb hby at_271) rfl ?_
          exact k)
        have tl78 : ∀ t, Steps p.tables e below (T73.setTop (mkF m 280 #[.val (.int lvx), .val (.int nx), .val (.int mx), .val (.long wx), .second, .val (.int v1), .val (.long v3), .second, .val (.long v5), .second, .val (.long v7), .second, .val (.long v13), .second, .val (.long v14), .second, .val (.long v16), .second, .val (.ref b18), .val (.long v67), .second, .val (.long v68), .second, .val (.int (2 : Int32)), .val (.int (bz (¬ (v5 < v39)))), .val (.int (bz (¬ (v5 < v57)))), .val (.int (0 : Int32)), .val (.long v75), .second, .val (.int (bz (¬ (v5 < v57)))), .unset] [(.int (bz (¬ (v5 < v75))))])) t → Steps p.tables e below (T73.setTop (mkF m 272 #[.val (.int lvx), .val (.int nx), .val (.int mx), .val (.long wx), .second, .val (.int v1), .val (.long v3), .second, .val (.long v5), .second, .val (.long v7), .second, .val (.long v13), .second, .val (.long v14), .second, .val (.long v16), .second, .val (.ref b18), .val (.long v67), .second, .val (.long v68), .second, .val (.int (2 : Int32)), .val (.int (bz (¬ (v5 < v39)))), .val (.int (bz (¬ (v5 < v57)))), .val (.int (0 : Int32)), .val (.long v75), .second, .val (.int (bz (¬ (v5 < v57)))), .unset] [(.int (XT.cmpL v5 v75))])) t := fun t k => by
          by_cases hb77 : v5 < v75
          · refine XS.ifYes X73.here hx rfl (pc0 := 272) (pc' := 279) rfl (hb hby at_272) rfl (XT.ll_lt_t hb77) (by decide) (by decide) ?_
            rw [bz_zero (P := (¬ (v5 < v75))) (iff_false_intro (not_not_intro hb77))] at k
            show Steps p.tables e below (T73.setTop (mkF m 279 #[.val (.int lvx), .val (.int nx), .val (.int mx), .val (.long wx), .second, .val (.int v1), .val (.long v3), .second, .val (.long v5), .second, .val (.long v7), .second, .val (.long v13), .second, .val (.long v14), .second, .val (.long v16), .second, .val (.ref b18), .val (.long v67), .second, .val (.long v68), .second, .val (.int (2 : Int32)), .val (.int (bz (¬ (v5 < v39)))), .val (.int (bz (¬ (v5 < v57)))), .val (.int (0 : Int32)), .val (.long v75), .second, .val (.int (bz (¬ (v5 < v57)))), .unset] [])) _
            refine XS.iconst X73.here hx rfl (hb hby at_279) ?_
            exact k
          · refine XS.ifNo X73.here hx rfl (hb hby at_272) rfl (XT.ll_lt_f hb77) ?_
            rw [bz_one (P := (¬ (v5 < v75))) (iff_true_intro hb77)] at k
            show Steps p.tables e below (T73.setTop (mkF m 275 #[.val (.int lvx), .val (.int nx), .val (.int mx), .val (.long wx), .second, .val (.int v1), .val (.long v3), .second, .val (.long v5), .second, .val (.long v7), .second, .val (.long v13), .second, .val (.long v14), .second, .val (.long v16), .second, .val (.ref b18), .val (.long v67), .second, .val (.long v68), .second, .val (.int (2 : Int32)), .val (.int (bz (¬ (v5 < v39)))), .val (.int (bz (¬ (v5 < v57)))), .val (.int (0 : Int32)), .val (.long v75), .second, .val (.int (bz (¬ (v5 < v57)))), .unset] [])) _
            refine XS.iconst X73.here hx rfl (hb hby at_275) ?_
            refine XS.goto X73.here hx rfl (pc0 := 276) (pc' := 280) rfl (hb hby at_276) (by decide) (by decide) ?_
            exact k
        have pre80 : ∀ t, Steps p.tables e below (T73.setTop (mkF m 280 #[.val (.int lvx), .val (.int nx), .val (.int mx), .val (.long wx), .second, .val (.int v1), .val (.long v3), .second, .val (.long v5), .second, .val (.long v7), .second, .val (.long v13), .second, .val (.long v14), .second, .val (.long v16), .second, .val (.ref b18), .val (.long v67), .second, .val (.long v68), .second, .val (.int (2 : Int32)), .val (.int (bz (¬ (v5 < v39)))), .val (.int (bz (¬ (v5 < v57)))), .val (.int (0 : Int32)), .val (.long v75), .second, .val (.int (bz (¬ (v5 < v57)))), .unset] [(.int (bz (¬ (v5 < v75))))])) t → Steps p.tables e below (s₁.setTop (entryFrame m #[(.int lvx), (.int nx), (.int mx), (.long wx)] maxLocals)) t := fun t k => pre79 t (by
          exact tl78 t k)
        have pre83 : ∀ t, Steps p.tables e below (T73.setTop (mkF m 284 #[.val (.int lvx), .val (.int nx), .val (.int mx), .val (.long wx), .second, .val (.int v1), .val (.long v3), .second, .val (.long v5), .second, .val (.long v7), .second, .val (.long v13), .second, .val (.long v14), .second, .val (.long v16), .second, .val (.ref b18), .val (.long v67), .second, .val (.long v68), .second, .val (.int (2 : Int32)), .val (.int (bz (¬ (v5 < v39)))), .val (.int (bz (¬ (v5 < v57)))), .val (.int (0 : Int32)), .val (.long v75), .second, .val (.int (bz (¬ (v5 < v75)))), .unset] [(.int (bz (¬ (v5 < v75))))])) t → Steps p.tables e below (s₁.setTop (entryFrame m #[(.int lvx), (.int nx), (.int mx), (.long wx)] maxLocals)) t := fun t k => pre80 t (by
          show Steps p.tables e below (T73.setTop (mkF m 280 #[.val (.int lvx), .val (.int nx), .val (.int mx), .val (.long wx), .second, .val (.int v1), .val (.long v3), .second, .val (.long v5), .second, .val (.long v7), .second, .val (.long v13), .second, .val (.long v14), .second, .val (.long v16), .second, .val (.ref b18), .val (.long v67), .second, .val (.long v68), .second, .val (.int (2 : Int32)), .val (.int (bz (¬ (v5 < v39)))), .val (.int (bz (¬ (v5 < v57)))), .val (.int (0 : Int32)), .val (.long v75), .second, .val (.int (bz (¬ (v5 < v57)))), .unset] [(.int (bz (¬ (v5 < v75))))])) _
          refine XS.istore X73.here hx rfl (hb hby at_280) rfl (l' := #[.val (.int lvx), .val (.int nx), .val (.int mx), .val (.long wx), .second, .val (.int v1), .val (.long v3), .second, .val (.long v5), .second, .val (.long v7), .second, .val (.long v13), .second, .val (.long v14), .second, .val (.long v16), .second, .val (.ref b18), .val (.long v67), .second, .val (.long v68), .second, .val (.int (2 : Int32)), .val (.int (bz (¬ (v5 < v39)))), .val (.int (bz (¬ (v5 < v57)))), .val (.int (0 : Int32)), .val (.long v75), .second, .val (.int (bz (¬ (v5 < v75)))), .unset]) rfl ?_
          refine XS.iload X73.here hx rfl (hb hby at_282) rfl ?_
          exact k)
        have tl82 : ∀ t, Steps p.tables e below (T73.setTop (mkF m 298 #[.val (.int lvx), .val (.int nx), .val (.int mx), .val (.long wx), .second, .val (.int v1), .val (.long v3), .second, .val (.long v5), .second, .val (.long v7), .second, .val (.long v13), .second, .val (.long v14), .second, .val (.long v16), .second, .val (.ref b18), .val (.long (if (¬ (v5 < v75)) then v75 else v67)), .second, .val (.long (if (¬ (v5 < v75)) then v68 else v75)), .second, .val (.int (2 : Int32)), .val (.int (bz (¬ (v5 < v39)))), .val (.int (bz (¬ (v5 < v57)))), .val (.int (0 : Int32)), .val (.long v75), .second, .val (.int (bz (¬ (v5 < v75)))), .unset] [])) t → Steps p.tables e below (T73.setTop (mkF m 284 #[.val (.int lvx), .val (.int nx), .val (.int mx), .val (.long wx), .second, .val (.int v1), .val (.long v3), .second, .val (.long v5), .second, .val (.long v7), .second, .val (.long v13), .second, .val (.long v14), .second, .val (.long v16), .second, .val (.ref b18), .val (.long v67), .second, .val (.long v68), .second, .val (.int (2 : Int32)), .val (.int (bz (¬ (v5 < v39)))), .val (.int (bz (¬ (v5 < v57)))), .val (.int (0 : Int32)), .val (.long v75), .second, .val (.int (bz (¬ (v5 < v75)))), .unset] [(.int (bz (¬ (v5 < v75))))])) t := fun t k => by
          by_cases hb81 : (¬ (v5 < v75))
          · refine XS.ifNo X73.here hx rfl (hb hby at_284) rfl (ow_beq_f hb81) ?_
            rw [show (if (¬ (v5 < v75)) then v75 else v67) = v75 from if_pos hb81] at k
            rw [show (if (¬ (v5 < v75)) then v68 else v75) = v68 from if_pos hb81] at k
            show Steps p.tables e below (T73.setTop (mkF m 287 #[.val (.int lvx), .val (.int nx), .val (.int mx), .val (.long wx), .second, .val (.int v1), .val (.long v3), .second, .val (.long v5), .second, .val (.long v7), .second, .val (.long v13), .second, .val (.long v14), .second, .val (.long v16), .second, .val (.ref b18), .val (.long v67), .second, .val (.long v68), .second, .val (.int (2 : Int32)), .val (.int (bz (¬ (v5 < v39)))), .val (.int (bz (¬ (v5 < v57)))), .val (.int (0 : Int32)), .val (.long v75), .second, .val (.int (bz (¬ (v5 < v75)))), .unset] [])) _
            refine XS.lload X73.here hx rfl (hb hby at_287) rfl ?_
            refine XS.lstore X73.here hx rfl (hb hby at_289) rfl (l' := #[.val (.int lvx), .val (.int nx), .val (.int mx), .val (.long wx), .second, .val (.int v1), .val (.long v3), .second, .val (.long v5), .second, .val (.long v7), .second, .val (.long v13), .second, .val (.long v14), .second, .val (.long v16), .second, .val (.ref b18), .val (.long v75), .second, .val (.long v68), .second, .val (.int (2 : Int32)), .val (.int (bz (¬ (v5 < v39)))), .val (.int (bz (¬ (v5 < v57)))), .val (.int (0 : Int32)), .val (.long v75), .second, .val (.int (bz (¬ (v5 < v75)))), .unset]) rfl ?_
            refine XS.goto X73.here hx rfl (pc0 := 291) (pc' := 298) rfl (hb hby at_291) (by decide) (by decide) ?_
            exact k
          · refine XS.ifYes X73.here hx rfl (pc0 := 284) (pc' := 294) rfl (hb hby at_284) rfl (ow_beq_t hb81) (by decide) (by decide) ?_
            rw [show (if (¬ (v5 < v75)) then v75 else v67) = v67 from if_neg hb81] at k
            rw [show (if (¬ (v5 < v75)) then v68 else v75) = v75 from if_neg hb81] at k
            show Steps p.tables e below (T73.setTop (mkF m 294 #[.val (.int lvx), .val (.int nx), .val (.int mx), .val (.long wx), .second, .val (.int v1), .val (.long v3), .second, .val (.long v5), .second, .val (.long v7), .second, .val (.long v13), .second, .val (.long v14), .second, .val (.long v16), .second, .val (.ref b18), .val (.long v67), .second, .val (.long v68), .second, .val (.int (2 : Int32)), .val (.int (bz (¬ (v5 < v39)))), .val (.int (bz (¬ (v5 < v57)))), .val (.int (0 : Int32)), .val (.long v75), .second, .val (.int (bz (¬ (v5 < v75)))), .unset] [])) _
            refine XS.lload X73.here hx rfl (hb hby at_294) rfl ?_
            refine XS.lstore X73.here hx rfl (hb hby at_296) rfl (l' := #[.val (.int lvx), .val (.int nx), .val (.int mx), .val (.long wx), .second, .val (.int v1), .val (.long v3), .second, .val (.long v5), .second, .val (.long v7), .second, .val (.long v13), .second, .val (.long v14), .second, .val (.long v16), .second, .val (.ref b18), .val (.long v67), .second, .val (.long v75), .second, .val (.int (2 : Int32)), .val (.int (bz (¬ (v5 < v39)))), .val (.int (bz (¬ (v5 < v57)))), .val (.int (0 : Int32)), .val (.long v75), .second, .val (.int (bz (¬ (v5 < v75)))), .unset]) rfl ?_
            exact k
        have pre84 : ∀ t, Steps p.tables e below (T73.setTop (mkF m 298 #[.val (.int lvx), .val (.int nx), .val (.int mx), .val (.long wx), .second, .val (.int v1), .val (.long v3), .second, .val (.long v5), .second, .val (.long v7), .second, .val (.long v13), .second, .val (.long v14), .second, .val (.long v16), .second, .val (.ref b18), .val (.long (if (¬ (v5 < v75)) then v75 else v67)), .second, .val (.long (if (¬ (v5 < v75)) then v68 else v75)), .second, .val (.int (2 : Int32)), .val (.int (bz (¬ (v5 < v39)))), .val (.int (bz (¬ (v5 < v57)))), .val (.int (0 : Int32)), .val (.long v75), .second, .val (.int (bz (¬ (v5 < v75)))), .unset] [])) t → Steps p.tables e below (s₁.setTop (entryFrame m #[(.int lvx), (.int nx), (.int mx), (.long wx)] maxLocals)) t := fun t k => pre83 t (by
          exact tl82 t k)
        obtain ⟨v85, hv85⟩ : ∃ z : Int64, z = (if (¬ (v5 < v75)) then v75 else v67) := ⟨_, rfl⟩
        rw [← hv85] at pre84
        obtain ⟨v86, hv86⟩ : ∃ z : Int64, z = (if (¬ (v5 < v75)) then v68 else v75) := ⟨_, rfl⟩
        rw [← hv86] at pre84
        have pre88 : ∀ t, Steps p.tables e below (T73.setTop (mkF m 308 #[.val (.int lvx), .val (.int nx), .val (.int mx), .val (.long wx), .second, .val (.int v1), .val (.long v3), .second, .val (.long v5), .second, .val (.long v7), .second, .val (.long v13), .second, .val (.long v14), .second, .val (.long v16), .second, .val (.ref b18), .val (.long v85), .second, .val (.long v86), .second, .val (.int (3 : Int32)), .val (.int (bz (¬ (v5 < v39)))), .val (.int (bz (¬ (v5 < v57)))), .val (.int (bz (¬ (v5 < v75)))), .val (.long v75), .second, .val (.int (bz (¬ (v5 < v75)))), .unset] [(.int (3 : Int32)), (.int (3 : Int32))])) t → Steps p.tables e below (s₁.setTop (entryFrame m #[(.int lvx), (.int nx), (.int mx), (.long wx)] maxLocals)) t := fun t k => pre84 t (by
          show Steps p.tables e below (T73.setTop (mkF m 298 #[.val (.int lvx), .val (.int nx), .val (.int mx), .val (.long wx), .second, .val (.int v1), .val (.long v3), .second, .val (.long v5), .second, .val (.long v7), .second, .val (.long v13), .second, .val (.long v14), .second, .val (.long v16), .second, .val (.ref b18), .val (.long v85), .second, .val (.long v86), .second, .val (.int (2 : Int32)), .val (.int (bz (¬ (v5 < v39)))), .val (.int (bz (¬ (v5 < v57)))), .val (.int (0 : Int32)), .val (.long v75), .second, .val (.int (bz (¬ (v5 < v75)))), .unset] [])) _
          refine XS.iload X73.here hx rfl (hb hby at_298) rfl ?_
          refine XS.istore X73.here hx rfl (hb hby at_300) rfl (l' := #[.val (.int lvx), .val (.int nx), .val (.int mx), .val (.long wx), .second, .val (.int v1), .val (.long v3), .second, .val (.long v5), .second, .val (.long v7), .second, .val (.long v13), .second, .val (.long v14), .second, .val (.long v16), .second, .val (.ref b18), .val (.long v85), .second, .val (.long v86), .second, .val (.int (2 : Int32)), .val (.int (bz (¬ (v5 < v39)))), .val (.int (bz (¬ (v5 < v57)))), .val (.int (bz (¬ (v5 < v75)))), .val (.long v75), .second, .val (.int (bz (¬ (v5 < v75)))), .unset]) rfl ?_
          refine XS.iconst X73.here hx rfl (hb hby at_302) ?_
          refine XS.istore X73.here hx rfl (hb hby at_303) rfl (l' := #[.val (.int lvx), .val (.int nx), .val (.int mx), .val (.long wx), .second, .val (.int v1), .val (.long v3), .second, .val (.long v5), .second, .val (.long v7), .second, .val (.long v13), .second, .val (.long v14), .second, .val (.long v16), .second, .val (.ref b18), .val (.long v85), .second, .val (.long v86), .second, .val (.int (3 : Int32)), .val (.int (bz (¬ (v5 < v39)))), .val (.int (bz (¬ (v5 < v57)))), .val (.int (bz (¬ (v5 < v75)))), .val (.long v75), .second, .val (.int (bz (¬ (v5 < v75)))), .unset]) rfl ?_
          refine XS.iload X73.here hx rfl (hb hby at_305) rfl ?_
          refine XS.iconst X73.here hx rfl (hb hby at_307) ?_
          exact k)
        have hb87 : (3 : Int32) = (3 : Int32) := (by decide)
        have pre90 : ∀ t, Steps p.tables e below (T73.setTop (mkF m 334 #[.val (.int lvx), .val (.int nx), .val (.int mx), .val (.long wx), .second, .val (.int v1), .val (.long v3), .second, .val (.long v5), .second, .val (.long v7), .second, .val (.long v13), .second, .val (.long v14), .second, .val (.long v16), .second, .val (.ref b18), .val (.long v85), .second, .val (.long v86), .second, .val (.int (3 : Int32)), .val (.int (bz (¬ (v5 < v39)))), .val (.int (bz (¬ (v5 < v57)))), .val (.int (bz (¬ (v5 < v75)))), .val (.int (bz (¬ (v5 < v75)))), .unset, .val (.int (bz (¬ (v5 < v75)))), .unset] [(.int (3 : Int32)), (.int (3 : Int32))])) t → Steps p.tables e below (s₁.setTop (entryFrame m #[(.int lvx), (.int nx), (.int mx), (.long wx)] maxLocals)) t := fun t k => pre88 t (by
          show Steps p.tables e below (T73.setTop (mkF m 308 #[.val (.int lvx), .val (.int nx), .val (.int mx), .val (.long wx), .second, .val (.int v1), .val (.long v3), .second, .val (.long v5), .second, .val (.long v7), .second, .val (.long v13), .second, .val (.long v14), .second, .val (.long v16), .second, .val (.ref b18), .val (.long v85), .second, .val (.long v86), .second, .val (.int (3 : Int32)), .val (.int (bz (¬ (v5 < v39)))), .val (.int (bz (¬ (v5 < v57)))), .val (.int (bz (¬ (v5 < v75)))), .val (.long v75), .second, .val (.int (bz (¬ (v5 < v75)))), .unset] [(.int (3 : Int32)), (.int (3 : Int32))])) _
          refine XS.icmpNo X73.here hx rfl (hb hby at_308) rfl (teq hb87).2 ?_
          refine XS.iload X73.here hx rfl (hb hby at_311) rfl ?_
          refine XS.goto X73.here hx rfl (pc0 := 313) (pc' := 329) rfl (hb hby at_313) (by decide) (by decide) ?_
          refine XS.istore X73.here hx rfl (hb hby at_329) rfl (l' := #[.val (.int lvx), .val (.int nx), .val (.int mx), .val (.long wx), .second, .val (.int v1), .val (.long v3), .second, .val (.long v5), .second, .val (.long v7), .second, .val (.long v13), .second, .val (.long v14), .second, .val (.long v16), .second, .val (.ref b18), .val (.long v85), .second, .val (.long v86), .second, .val (.int (3 : Int32)), .val (.int (bz (¬ (v5 < v39)))), .val (.int (bz (¬ (v5 < v57)))), .val (.int (bz (¬ (v5 < v75)))), .val (.int (bz (¬ (v5 < v75)))), .unset, .val (.int (bz (¬ (v5 < v75)))), .unset]) rfl ?_
          refine XS.iload X73.here hx rfl (hb hby at_331) rfl ?_
          refine XS.iconst X73.here hx rfl (hb hby at_333) ?_
          exact k)
        have hb89 : (3 : Int32) = (3 : Int32) := (by decide)
        have pre92 : ∀ t, Steps p.tables e below (T73.setTop (mkF m 356 #[.val (.int lvx), .val (.int nx), .val (.int mx), .val (.long wx), .second, .val (.int v1), .val (.long v3), .second, .val (.long v5), .second, .val (.long v7), .second, .val (.long v13), .second, .val (.long v14), .second, .val (.long v16), .second, .val (.ref b18), .val (.long v85), .second, .val (.long v86), .second, .val (.int (3 : Int32)), .val (.int (bz (¬ (v5 < v39)))), .val (.int (bz (¬ (v5 < v57)))), .val (.int (bz (¬ (v5 < v75)))), .val (.int (bz (¬ (v5 < v75)))), .val (.int (bz (¬ (v5 < v57)))), .val (.int (bz (¬ (v5 < v39)))), .val (.int (1 : Int32))] [(.int (1 : Int32)), (.int (3 : Int32))])) t → Steps p.tables e below (s₁.setTop (entryFrame m #[(.int lvx), (.int nx), (.int mx), (.long wx)] maxLocals)) t := fun t k => pre90 t (by
          show Steps p.tables e below (T73.setTop (mkF m 334 #[.val (.int lvx), .val (.int nx), .val (.int mx), .val (.long wx), .second, .val (.int v1), .val (.long v3), .second, .val (.long v5), .second, .val (.long v7), .second, .val (.long v13), .second, .val (.long v14), .second, .val (.long v16), .second, .val (.ref b18), .val (.long v85), .second, .val (.long v86), .second, .val (.int (3 : Int32)), .val (.int (bz (¬ (v5 < v39)))), .val (.int (bz (¬ (v5 < v57)))), .val (.int (bz (¬ (v5 < v75)))), .val (.int (bz (¬ (v5 < v75)))), .unset, .val (.int (bz (¬ (v5 < v75)))), .unset] [(.int (3 : Int32)), (.int (3 : Int32))])) _
          refine XS.icmpNo X73.here hx rfl (hb hby at_334) rfl (teq hb89).2 ?_
          refine XS.iload X73.here hx rfl (hb hby at_337) rfl ?_
          refine XS.goto X73.here hx rfl (pc0 := 339) (pc' := 344) rfl (hb hby at_339) (by decide) (by decide) ?_
          refine XS.istore X73.here hx rfl (hb hby at_344) rfl (l' := #[.val (.int lvx), .val (.int nx), .val (.int mx), .val (.long wx), .second, .val (.int v1), .val (.long v3), .second, .val (.long v5), .second, .val (.long v7), .second, .val (.long v13), .second, .val (.long v14), .second, .val (.long v16), .second, .val (.ref b18), .val (.long v85), .second, .val (.long v86), .second, .val (.int (3 : Int32)), .val (.int (bz (¬ (v5 < v39)))), .val (.int (bz (¬ (v5 < v57)))), .val (.int (bz (¬ (v5 < v75)))), .val (.int (bz (¬ (v5 < v75)))), .val (.int (bz (¬ (v5 < v57)))), .val (.int (bz (¬ (v5 < v75)))), .unset]) rfl ?_
          refine XS.iload X73.here hx rfl (hb hby at_346) rfl ?_
          refine XS.istore X73.here hx rfl (hb hby at_348) rfl (l' := #[.val (.int lvx), .val (.int nx), .val (.int mx), .val (.long wx), .second, .val (.int v1), .val (.long v3), .second, .val (.long v5), .second, .val (.long v7), .second, .val (.long v13), .second, .val (.long v14), .second, .val (.long v16), .second, .val (.ref b18), .val (.long v85), .second, .val (.long v86), .second, .val (.int (3 : Int32)), .val (.int (bz (¬ (v5 < v39)))), .val (.int (bz (¬ (v5 < v57)))), .val (.int (bz (¬ (v5 < v75)))), .val (.int (bz (¬ (v5 < v75)))), .val (.int (bz (¬ (v5 < v57)))), .val (.int (bz (¬ (v5 < v39)))), .unset]) rfl ?_
          refine XS.iconst X73.here hx rfl (hb hby at_350) ?_
          show Steps p.tables e below (T73.setTop (mkF m 351 #[.val (.int lvx), .val (.int nx), .val (.int mx), .val (.long wx), .second, .val (.int v1), .val (.long v3), .second, .val (.long v5), .second, .val (.long v7), .second, .val (.long v13), .second, .val (.long v14), .second, .val (.long v16), .second, .val (.ref b18), .val (.long v85), .second, .val (.long v86), .second, .val (.int (3 : Int32)), .val (.int (bz (¬ (v5 < v39)))), .val (.int (bz (¬ (v5 < v57)))), .val (.int (bz (¬ (v5 < v75)))), .val (.int (bz (¬ (v5 < v75)))), .val (.int (bz (¬ (v5 < v57)))), .val (.int (bz (¬ (v5 < v39)))), .unset] [(.int (1 : Int32))])) _
          refine XS.istore X73.here hx rfl (hb hby at_351) rfl (l' := #[.val (.int lvx), .val (.int nx), .val (.int mx), .val (.long wx), .second, .val (.int v1), .val (.long v3), .second, .val (.long v5), .second, .val (.long v7), .second, .val (.long v13), .second, .val (.long v14), .second, .val (.long v16), .second, .val (.ref b18), .val (.long v85), .second, .val (.long v86), .second, .val (.int (3 : Int32)), .val (.int (bz (¬ (v5 < v39)))), .val (.int (bz (¬ (v5 < v57)))), .val (.int (bz (¬ (v5 < v75)))), .val (.int (bz (¬ (v5 < v75)))), .val (.int (bz (¬ (v5 < v57)))), .val (.int (bz (¬ (v5 < v39)))), .val (.int (1 : Int32))]) rfl ?_
          refine XS.iload X73.here hx rfl (hb hby at_353) rfl ?_
          refine XS.iconst X73.here hx rfl (hb hby at_355) ?_
          exact k)
        have hb91 : ¬ ((3 : Int32) < (1 : Int32)) := (by decide)
        have pre94 : ∀ t, Steps p.tables e below (T73.setTop (mkF m 361 #[.val (.int lvx), .val (.int nx), .val (.int mx), .val (.long wx), .second, .val (.int v1), .val (.long v3), .second, .val (.long v5), .second, .val (.long v7), .second, .val (.long v13), .second, .val (.long v14), .second, .val (.long v16), .second, .val (.ref b18), .val (.long v85), .second, .val (.long v86), .second, .val (.int (3 : Int32)), .val (.int (bz (¬ (v5 < v39)))), .val (.int (bz (¬ (v5 < v57)))), .val (.int (bz (¬ (v5 < v75)))), .val (.int (bz (¬ (v5 < v75)))), .val (.int (bz (¬ (v5 < v57)))), .val (.int (bz (¬ (v5 < v39)))), .val (.int (1 : Int32))] [(.int (1 : Int32))])) t → Steps p.tables e below (s₁.setTop (entryFrame m #[(.int lvx), (.int nx), (.int mx), (.long wx)] maxLocals)) t := fun t k => pre92 t (by
          show Steps p.tables e below (T73.setTop (mkF m 356 #[.val (.int lvx), .val (.int nx), .val (.int mx), .val (.long wx), .second, .val (.int v1), .val (.long v3), .second, .val (.long v5), .second, .val (.long v7), .second, .val (.long v13), .second, .val (.long v14), .second, .val (.long v16), .second, .val (.ref b18), .val (.long v85), .second, .val (.long v86), .second, .val (.int (3 : Int32)), .val (.int (bz (¬ (v5 < v39)))), .val (.int (bz (¬ (v5 < v57)))), .val (.int (bz (¬ (v5 < v75)))), .val (.int (bz (¬ (v5 < v75)))), .val (.int (bz (¬ (v5 < v57)))), .val (.int (bz (¬ (v5 < v39)))), .val (.int (1 : Int32))] [(.int (1 : Int32)), (.int (3 : Int32))])) _
          refine XS.icmpNo X73.here hx rfl (hb hby at_356) rfl (flt hb91).1 ?_
          refine XS.iload X73.here hx rfl (hb hby at_359) rfl ?_
          exact k)
        have hb93 : ¬ ((1 : Int32) = (0 : Int32)) := (by decide)
        have pre95 : ∀ t, Steps p.tables e below (T73.setTop (mkF m 366 #[.val (.int lvx), .val (.int nx), .val (.int mx), .val (.long wx), .second, .val (.int v1), .val (.long v3), .second, .val (.long v5), .second, .val (.long v7), .second, .val (.long v13), .second, .val (.long v14), .second, .val (.long v16), .second, .val (.ref b18), .val (.long v85), .second, .val (.long v86), .second, .val (.int (3 : Int32)), .val (.int (bz (¬ (v5 < v39)))), .val (.int (bz (¬ (v5 < v57)))), .val (.int (bz (¬ (v5 < v75)))), .val (.int (bz (¬ (v5 < v75)))), .val (.int (bz (¬ (v5 < v57)))), .val (.int (bz (¬ (v5 < v39)))), .val (.int (1 : Int32))] [(.ref b18)])) t → Steps p.tables e below (s₁.setTop (entryFrame m #[(.int lvx), (.int nx), (.int mx), (.long wx)] maxLocals)) t := fun t k => pre94 t (by
          show Steps p.tables e below (T73.setTop (mkF m 361 #[.val (.int lvx), .val (.int nx), .val (.int mx), .val (.long wx), .second, .val (.int v1), .val (.long v3), .second, .val (.long v5), .second, .val (.long v7), .second, .val (.long v13), .second, .val (.long v14), .second, .val (.long v16), .second, .val (.ref b18), .val (.long v85), .second, .val (.long v86), .second, .val (.int (3 : Int32)), .val (.int (bz (¬ (v5 < v39)))), .val (.int (bz (¬ (v5 < v57)))), .val (.int (bz (¬ (v5 < v75)))), .val (.int (bz (¬ (v5 < v75)))), .val (.int (bz (¬ (v5 < v57)))), .val (.int (bz (¬ (v5 < v39)))), .val (.int (1 : Int32))] [(.int (1 : Int32))])) _
          refine XS.ifNo X73.here hx rfl (hb hby at_361) rfl ((if0 _ _).trans (feq hb93).1) ?_
          refine XS.aload X73.here hx rfl (hb hby at_364) rfl rfl ?_
          exact k)
        obtain ⟨cq96, kq96, q96a, q96b, q96c⟩ := isOf hZ rfl (R73.exa (i := 0) rfl)
        obtain ⟨_, _, ⟨T96, L96, k96, n96⟩, -, X96, ⟨Lc96, hQ96, l96, y96, z96⟩, st96⟩ := X73.virtualBack hx (y := (⟨"com/example/gapless_log/gaplesslog/tree/Ascent", "atRoot", "()Z"⟩ : MethodName)) (z := (⟨"com/example/gapless_log/gaplesslog/tree/Ascent", "atRoot", "()Z"⟩ : MethodName)) hown (mvT hZ (hw _ (List.mem_of_getElem? (i := 54) rfl))) (mvT hZ (hw _ (List.mem_of_getElem? (i := 55) rfl))) (notFace_of_selects (args := #[]) (mvT hZ (hw _ (List.mem_of_getElem? (i := 57) rfl)))) (mvT hZ (hw _ (List.mem_of_getElem? (i := 57) rfl))) (mvT hZ (hw _ (List.mem_of_getElem? (i := 56) rfl))) (by decide) (backOf (W := 0) (rm10 l Z a0 hw [] b18 _ _ T73.heap n0 _ R73 ) hZ (hw _ (List.mem_of_getElem? (i := 58) rfl)) (hw _ (List.mem_of_getElem? (i := 3) rfl)) (by decide) (by decide)) q96a q96c (g := (mkF m 366 #[.val (.int lvx), .val (.int nx), .val (.int mx), .val (.long wx), .second, .val (.int v1), .val (.long v3), .second, .val (.long v5), .second, .val (.long v7), .second, .val (.long v13), .second, .val (.long v14), .second, .val (.long v16), .second, .val (.ref b18), .val (.long v85), .second, .val (.long v86), .second, .val (.int (3 : Int32)), .val (.int (bz (¬ (v5 < v39)))), .val (.int (bz (¬ (v5 < v57)))), .val (.int (bz (¬ (v5 < v75)))), .val (.int (bz (¬ (v5 < v75)))), .val (.int (bz (¬ (v5 < v57)))), .val (.int (bz (¬ (v5 < v39)))), .val (.int (1 : Int32))] [(.ref b18)])) rfl (by rw [hml]; rfl) (Steps.refl _) (argsL := []) (rest := []) (lenOf pd__28_29Z rfl) rfl (by show 2 * 0 + _ ≤ _; exact Nat.le_of_eq rfl) (hb hby at_366) (fun _ _ => ⟨rfl, rfl, (by decide : 2 + 0 ≤ _), (by decide : 4 + 0 ≤ _)⟩)
        dsimp only [Pt.U, Pt.locs, Pt.cells, Pt.slots] at X96 l96 y96 z96 st96 hQ96
        subst y96 z96
        obtain ⟨rfl, N96q, R96⟩ := hQ96
        have N96 : Fr n0 L96 := by rw [l96]; exact Fr.app N73 N96q
        replace R96 : Rep Z n0 T96.heap ((b18, Obj "com/example/gapless_log/gaplesslog/tree/Ascent" [("node", "J", (.long v5)), ("last", "J", (.long v3))]) :: (b21, Obj "com/example/gapless_log/gaplesslog/tree/Subtree" [("start", "J", (.long v16)), ("end", "J", (.long (v16 + v7)))]) :: []) := R96
        have pre97 : ∀ t, Steps p.tables e below (T96.setTop (mkF m 369 #[.val (.int lvx), .val (.int nx), .val (.int mx), .val (.long wx), .second, .val (.int v1), .val (.long v3), .second, .val (.long v5), .second, .val (.long v7), .second, .val (.long v13), .second, .val (.long v14), .second, .val (.long v16), .second, .val (.ref b18), .val (.long v85), .second, .val (.long v86), .second, .val (.int (3 : Int32)), .val (.int (bz (¬ (v5 < v39)))), .val (.int (bz (¬ (v5 < v57)))), .val (.int (bz (¬ (v5 < v75)))), .val (.int (bz (¬ (v5 < v75)))), .val (.int (bz (¬ (v5 < v57)))), .val (.int (bz (¬ (v5 < v39)))), .val (.int (1 : Int32))] [(.int (F10 v3))])) t → Steps p.tables e below (s₁.setTop (entryFrame m #[(.int lvx), (.int nx), (.int mx), (.long wx)] maxLocals)) t := fun t k => pre95 t (st96.trans k)
        have hb98 : (F10 v3) = (0 : Int32) := own_a0 hle em en hv31 hv39 hv49 hv50 hv57 hv67 hv68 hb34 hb52 hb70
        have pre99 : ∀ t, Steps p.tables e below (T96.setTop (mkF m 374 #[.val (.int lvx), .val (.int nx), .val (.int mx), .val (.long wx), .second, .val (.int v1), .val (.long v3), .second, .val (.long v5), .second, .val (.long v7), .second, .val (.long v13), .second, .val (.long v14), .second, .val (.long v16), .second, .val (.ref b18), .val (.long v85), .second, .val (.long v86), .second, .val (.int (3 : Int32)), .val (.int (bz (¬ (v5 < v39)))), .val (.int (bz (¬ (v5 < v57)))), .val (.int (bz (¬ (v5 < v75)))), .val (.int (bz (¬ (v5 < v75)))), .val (.int (bz (¬ (v5 < v57)))), .val (.int (bz (¬ (v5 < v39)))), .val (.int (1 : Int32))] [(.ref b18)])) t → Steps p.tables e below (s₁.setTop (entryFrame m #[(.int lvx), (.int nx), (.int mx), (.long wx)] maxLocals)) t := fun t k => pre97 t (by
          show Steps p.tables e below (T96.setTop (mkF m 369 #[.val (.int lvx), .val (.int nx), .val (.int mx), .val (.long wx), .second, .val (.int v1), .val (.long v3), .second, .val (.long v5), .second, .val (.long v7), .second, .val (.long v13), .second, .val (.long v14), .second, .val (.long v16), .second, .val (.ref b18), .val (.long v85), .second, .val (.long v86), .second, .val (.int (3 : Int32)), .val (.int (bz (¬ (v5 < v39)))), .val (.int (bz (¬ (v5 < v57)))), .val (.int (bz (¬ (v5 < v75)))), .val (.int (bz (¬ (v5 < v75)))), .val (.int (bz (¬ (v5 < v57)))), .val (.int (bz (¬ (v5 < v39)))), .val (.int (1 : Int32))] [(.int (F10 v3))])) _
          refine XS.ifNo X96.here hx rfl (hb hby at_369) rfl ((if0 _ _).trans (teq hb98).2) ?_
          refine XS.aload X96.here hx rfl (hb hby at_372) rfl rfl ?_
          exact k)
        obtain ⟨cq100, kq100, q100a, q100b, q100c⟩ := isOf hZ rfl (R96.exa (i := 0) rfl)
        obtain ⟨_, _, ⟨T100, L100, k100, n100⟩, -, X100, ⟨Lc100, hQ100, l100, y100, z100⟩, st100⟩ := X96.virtualBack hx (y := (⟨"com/example/gapless_log/gaplesslog/tree/Ascent", "siblingOnLeft", "()Z"⟩ : MethodName)) (z := (⟨"com/example/gapless_log/gaplesslog/tree/Ascent", "siblingOnLeft", "()Z"⟩ : MethodName)) hown (mvT hZ (hw _ (List.mem_of_getElem? (i := 59) rfl))) (mvT hZ (hw _ (List.mem_of_getElem? (i := 60) rfl))) (notFace_of_selects (args := #[]) (mvT hZ (hw _ (List.mem_of_getElem? (i := 62) rfl)))) (mvT hZ (hw _ (List.mem_of_getElem? (i := 62) rfl))) (mvT hZ (hw _ (List.mem_of_getElem? (i := 61) rfl))) (by decide) (backOf (W := 0) (rm11 l Z a0 hw [] b18 _ _ T96.heap n0 _ R96 ) hZ (hw _ (List.mem_of_getElem? (i := 63) rfl)) (hw _ (List.mem_of_getElem? (i := 3) rfl)) (by decide) (by decide)) q100a q100c (g := (mkF m 374 #[.val (.int lvx), .val (.int nx), .val (.int mx), .val (.long wx), .second, .val (.int v1), .val (.long v3), .second, .val (.long v5), .second, .val (.long v7), .second, .val (.long v13), .second, .val (.long v14), .second, .val (.long v16), .second, .val (.ref b18), .val (.long v85), .second, .val (.long v86), .second, .val (.int (3 : Int32)), .val (.int (bz (¬ (v5 < v39)))), .val (.int (bz (¬ (v5 < v57)))), .val (.int (bz (¬ (v5 < v75)))), .val (.int (bz (¬ (v5 < v75)))), .val (.int (bz (¬ (v5 < v57)))), .val (.int (bz (¬ (v5 < v39)))), .val (.int (1 : Int32))] [(.ref b18)])) rfl (by rw [hml]; rfl) (Steps.refl _) (argsL := []) (rest := []) (lenOf pd__28_29Z rfl) rfl (by show 2 * 0 + _ ≤ _; exact Nat.le_of_eq rfl) (hb hby at_374) (fun _ _ => ⟨rfl, rfl, (by decide : 2 + 0 ≤ _), (by decide : 4 + 0 ≤ _)⟩)
        dsimp only [Pt.U, Pt.locs, Pt.cells, Pt.slots] at X100 l100 y100 z100 st100 hQ100
        subst y100 z100
        obtain ⟨rfl, N100q, R100⟩ := hQ100
        have N100 : Fr n0 L100 := by rw [l100]; exact Fr.app N96 N100q
        replace R100 : Rep Z n0 T100.heap ((b18, Obj "com/example/gapless_log/gaplesslog/tree/Ascent" [("node", "J", (.long v5)), ("last", "J", (.long v3))]) :: (b21, Obj "com/example/gapless_log/gaplesslog/tree/Subtree" [("start", "J", (.long v16)), ("end", "J", (.long (v16 + v7)))]) :: []) := R100
        have pre101 : ∀ t, Steps p.tables e below (T100.setTop (mkF m 377 #[.val (.int lvx), .val (.int nx), .val (.int mx), .val (.long wx), .second, .val (.int v1), .val (.long v3), .second, .val (.long v5), .second, .val (.long v7), .second, .val (.long v13), .second, .val (.long v14), .second, .val (.long v16), .second, .val (.ref b18), .val (.long v85), .second, .val (.long v86), .second, .val (.int (3 : Int32)), .val (.int (bz (¬ (v5 < v39)))), .val (.int (bz (¬ (v5 < v57)))), .val (.int (bz (¬ (v5 < v75)))), .val (.int (bz (¬ (v5 < v75)))), .val (.int (bz (¬ (v5 < v57)))), .val (.int (bz (¬ (v5 < v39)))), .val (.int (1 : Int32))] [(.int (F11 v5 v3))])) t → Steps p.tables e below (s₁.setTop (entryFrame m #[(.int lvx), (.int nx), (.int mx), (.long wx)] maxLocals)) t := fun t k => pre99 t (st100.trans k)
        have pre103 : ∀ t, Steps p.tables e below (T100.setTop (mkF m 379 #[.val (.int lvx), .val (.int nx), .val (.int mx), .val (.long wx), .second, .val (.int v1), .val (.long v3), .second, .val (.long v5), .second, .val (.long v7), .second, .val (.long v13), .second, .val (.long v14), .second, .val (.long v16), .second, .val (.ref b18), .val (.long v85), .second, .val (.long v86), .second, .val (.int (3 : Int32)), .val (.int (bz (¬ (v5 < v39)))), .val (.int (bz (¬ (v5 < v57)))), .val (.int (bz (¬ (v5 < v75)))), .val (.int (bz (¬ (v5 < v75)))), .val (.int (bz (¬ (v5 < v57)))), .val (.int (bz (¬ (v5 < v39)))), .val (.int (1 : Int32))] [(.int (bz (¬ (v5 < v75)))), (.int (F11 v5 v3))])) t → Steps p.tables e below (s₁.setTop (entryFrame m #[(.int lvx), (.int nx), (.int mx), (.long wx)] maxLocals)) t := fun t k => pre101 t (by
          show Steps p.tables e below (T100.setTop (mkF m 377 #[.val (.int lvx), .val (.int nx), .val (.int mx), .val (.long wx), .second, .val (.int v1), .val (.long v3), .second, .val (.long v5), .second, .val (.long v7), .second, .val (.long v13), .second, .val (.long v14), .second, .val (.long v16), .second, .val (.ref b18), .val (.long v85), .second, .val (.long v86), .second, .val (.int (3 : Int32)), .val (.int (bz (¬ (v5 < v39)))), .val (.int (bz (¬ (v5 < v57)))), .val (.int (bz (¬ (v5 < v75)))), .val (.int (bz (¬ (v5 < v75)))), .val (.int (bz (¬ (v5 < v57)))), .val (.int (bz (¬ (v5 < v39)))), .val (.int (1 : Int32))] [(.int (F11 v5 v3))])) _
          refine XS.iload X100.here hx rfl (hb hby at_377) rfl ?_
          exact k)
        have hb102 : (F11 v5 v3) = (bz (¬ (v5 < v75))) := own_a2 hle em en hv31 hv39 hv49 hv50 hv57 hv67 hv68 hv75 hb34 hb52 hb70
        have pre104 : ∀ t, Steps p.tables e below (T100.setTop (mkF m 391 #[.val (.int lvx), .val (.int nx), .val (.int mx), .val (.long wx), .second, .val (.int v1), .val (.long v3), .second, .val (.long v5), .second, .val (.long v7), .second, .val (.long v13), .second, .val (.long v14), .second, .val (.long v16), .second, .val (.ref b18), .val (.long v85), .second, .val (.long v86), .second, .val (.int (3 : Int32)), .val (.int (bz (¬ (v5 < v39)))), .val (.int (bz (¬ (v5 < v57)))), .val (.int (bz (¬ (v5 < v75)))), .val (.int (bz (¬ (v5 < v75)))), .val (.int (bz (¬ (v5 < v57)))), .val (.int (bz (¬ (v5 < v39)))), .val (.int (1 : Int32))] [(.ref b18)])) t → Steps p.tables e below (s₁.setTop (entryFrame m #[(.int lvx), (.int nx), (.int mx), (.long wx)] maxLocals)) t := fun t k => pre103 t (by
          show Steps p.tables e below (T100.setTop (mkF m 379 #[.val (.int lvx), .val (.int nx), .val (.int mx), .val (.long wx), .second, .val (.int v1), .val (.long v3), .second, .val (.long v5), .second, .val (.long v7), .second, .val (.long v13), .second, .val (.long v14), .second, .val (.long v16), .second, .val (.ref b18), .val (.long v85), .second, .val (.long v86), .second, .val (.int (3 : Int32)), .val (.int (bz (¬ (v5 < v39)))), .val (.int (bz (¬ (v5 < v57)))), .val (.int (bz (¬ (v5 < v75)))), .val (.int (bz (¬ (v5 < v75)))), .val (.int (bz (¬ (v5 < v57)))), .val (.int (bz (¬ (v5 < v39)))), .val (.int (1 : Int32))] [(.int (bz (¬ (v5 < v75)))), (.int (F11 v5 v3))])) _
          refine XS.icmpNo X100.here hx rfl (hb hby at_379) rfl (teq hb102).2 ?_
          refine XS.iconst X100.here hx rfl (hb hby at_382) ?_
          refine XS.goto X100.here hx rfl (pc0 := 383) (pc' := 387) rfl (hb hby at_383) (by decide) (by decide) ?_
          refine XS.istore X100.here hx rfl (hb hby at_387) rfl (l' := #[.val (.int lvx), .val (.int nx), .val (.int mx), .val (.long wx), .second, .val (.int v1), .val (.long v3), .second, .val (.long v5), .second, .val (.long v7), .second, .val (.long v13), .second, .val (.long v14), .second, .val (.long v16), .second, .val (.ref b18), .val (.long v85), .second, .val (.long v86), .second, .val (.int (3 : Int32)), .val (.int (bz (¬ (v5 < v39)))), .val (.int (bz (¬ (v5 < v57)))), .val (.int (bz (¬ (v5 < v75)))), .val (.int (bz (¬ (v5 < v75)))), .val (.int (bz (¬ (v5 < v57)))), .val (.int (bz (¬ (v5 < v39)))), .val (.int (1 : Int32))]) rfl ?_
          refine XS.aload X100.here hx rfl (hb hby at_389) rfl rfl ?_
          exact k)
        obtain ⟨cq105, kq105, q105a, q105b, q105c⟩ := isOf hZ rfl (R100.exa (i := 0) rfl)
        obtain ⟨_, _, ⟨T105, L105, k105, n105⟩, -, X105, ⟨Lc105, hQ105, l105, y105, z105⟩, st105⟩ := X100.virtualBack hx (y := (⟨"com/example/gapless_log/gaplesslog/tree/Ascent", "climb", "()V"⟩ : MethodName)) (z := (⟨"com/example/gapless_log/gaplesslog/tree/Ascent", "climb", "()V"⟩ : MethodName)) hown (mvT hZ (hw _ (List.mem_of_getElem? (i := 64) rfl))) (mvT hZ (hw _ (List.mem_of_getElem? (i := 65) rfl))) (notFace_of_selects (args := #[]) (mvT hZ (hw _ (List.mem_of_getElem? (i := 67) rfl)))) (mvT hZ (hw _ (List.mem_of_getElem? (i := 67) rfl))) (mvT hZ (hw _ (List.mem_of_getElem? (i := 66) rfl))) (by decide) (backOf (W := 0) (rm12 l Z a0 hw [] b18 _ _ T100.heap n0 _ R100 ) hZ (hw _ (List.mem_of_getElem? (i := 68) rfl)) (hw _ (List.mem_of_getElem? (i := 3) rfl)) (by decide) (by decide)) q105a q105c (g := (mkF m 391 #[.val (.int lvx), .val (.int nx), .val (.int mx), .val (.long wx), .second, .val (.int v1), .val (.long v3), .second, .val (.long v5), .second, .val (.long v7), .second, .val (.long v13), .second, .val (.long v14), .second, .val (.long v16), .second, .val (.ref b18), .val (.long v85), .second, .val (.long v86), .second, .val (.int (3 : Int32)), .val (.int (bz (¬ (v5 < v39)))), .val (.int (bz (¬ (v5 < v57)))), .val (.int (bz (¬ (v5 < v75)))), .val (.int (bz (¬ (v5 < v75)))), .val (.int (bz (¬ (v5 < v57)))), .val (.int (bz (¬ (v5 < v39)))), .val (.int (1 : Int32))] [(.ref b18)])) rfl (by rw [hml]; rfl) (Steps.refl _) (argsL := []) (rest := []) (lenOf pd__28_29V rfl) rfl (by show 2 * 0 + _ ≤ _; exact Nat.le_of_eq rfl) (hb hby at_391) (fun _ _ => ⟨rfl, rfl, (by decide : 2 + 0 ≤ _), (by decide : 4 + 0 ≤ _)⟩)
        dsimp only [Pt.U, Pt.locs, Pt.cells, Pt.slots] at X105 l105 y105 z105 st105 hQ105
        subst y105 z105
        obtain ⟨rfl, N105q, R105⟩ := hQ105
        have N105 : Fr n0 L105 := by rw [l105]; exact Fr.app N100 N105q
        replace R105 : Rep Z n0 T105.heap ((b18, Obj "com/example/gapless_log/gaplesslog/tree/Ascent" [("node", "J", (.long (cN v5 v3))), ("last", "J", (.long (cL v5 v3)))]) :: (b21, Obj "com/example/gapless_log/gaplesslog/tree/Subtree" [("start", "J", (.long v16)), ("end", "J", (.long (v16 + v7)))]) :: []) := R105
        have pre106 : ∀ t, Steps p.tables e below (T105.setTop (mkF m 394 #[.val (.int lvx), .val (.int nx), .val (.int mx), .val (.long wx), .second, .val (.int v1), .val (.long v3), .second, .val (.long v5), .second, .val (.long v7), .second, .val (.long v13), .second, .val (.long v14), .second, .val (.long v16), .second, .val (.ref b18), .val (.long v85), .second, .val (.long v86), .second, .val (.int (3 : Int32)), .val (.int (bz (¬ (v5 < v39)))), .val (.int (bz (¬ (v5 < v57)))), .val (.int (bz (¬ (v5 < v75)))), .val (.int (bz (¬ (v5 < v75)))), .val (.int (bz (¬ (v5 < v57)))), .val (.int (bz (¬ (v5 < v39)))), .val (.int (1 : Int32))] [])) t → Steps p.tables e below (s₁.setTop (entryFrame m #[(.int lvx), (.int nx), (.int mx), (.long wx)] maxLocals)) t := fun t k => pre104 t (st105.trans k)
        have pre108 : ∀ t, Steps p.tables e below (T105.setTop (mkF m 397 #[.val (.int lvx), .val (.int nx), .val (.int mx), .val (.long wx), .second, .val (.int v1), .val (.long v3), .second, .val (.long v5), .second, .val (.long v7), .second, .val (.long v13), .second, .val (.long v14), .second, .val (.long v16), .second, .val (.ref b18), .val (.long v85), .second, .val (.long v86), .second, .val (.int (3 : Int32)), .val (.int (bz (¬ (v5 < v39)))), .val (.int (bz (¬ (v5 < v57)))), .val (.int (bz (¬ (v5 < v75)))), .val (.int (bz (¬ (v5 < v75)))), .val (.int (bz (¬ (v5 < v57)))), .val (.int (bz (¬ (v5 < v39)))), .val (.int (1 : Int32))] [(.int (2 : Int32)), (.int (3 : Int32))])) t → Steps p.tables e below (s₁.setTop (entryFrame m #[(.int lvx), (.int nx), (.int mx), (.long wx)] maxLocals)) t := fun t k => pre106 t (by
          show Steps p.tables e below (T105.setTop (mkF m 394 #[.val (.int lvx), .val (.int nx), .val (.int mx), .val (.long wx), .second, .val (.int v1), .val (.long v3), .second, .val (.long v5), .second, .val (.long v7), .second, .val (.long v13), .second, .val (.long v14), .second, .val (.long v16), .second, .val (.ref b18), .val (.long v85), .second, .val (.long v86), .second, .val (.int (3 : Int32)), .val (.int (bz (¬ (v5 < v39)))), .val (.int (bz (¬ (v5 < v57)))), .val (.int (bz (¬ (v5 < v75)))), .val (.int (bz (¬ (v5 < v75)))), .val (.int (bz (¬ (v5 < v57)))), .val (.int (bz (¬ (v5 < v39)))), .val (.int (1 : Int32))] [])) _
          refine XS.iload X105.here hx rfl (hb hby at_394) rfl ?_
          refine XS.iconst X105.here hx rfl (hb hby at_396) ?_
          exact k)
        have hb107 : ¬ ((3 : Int32) < (2 : Int32)) := (by decide)
        have pre110 : ∀ t, Steps p.tables e below (T105.setTop (mkF m 402 #[.val (.int lvx), .val (.int nx), .val (.int mx), .val (.long wx), .second, .val (.int v1), .val (.long v3), .second, .val (.long v5), .second, .val (.long v7), .second, .val (.long v13), .second, .val (.long v14), .second, .val (.long v16), .second, .val (.ref b18), .val (.long v85), .second, .val (.long v86), .second, .val (.int (3 : Int32)), .val (.int (bz (¬ (v5 < v39)))), .val (.int (bz (¬ (v5 < v57)))), .val (.int (bz (¬ (v5 < v75)))), .val (.int (bz (¬ (v5 < v75)))), .val (.int (bz (¬ (v5 < v57)))), .val (.int (bz (¬ (v5 < v39)))), .val (.int (1 : Int32))] [(.int (1 : Int32))])) t → Steps p.tables e below (s₁.setTop (entryFrame m #[(.int lvx), (.int nx), (.int mx), (.long wx)] maxLocals)) t := fun t k => pre108 t (by
          show Steps p.tables e below (T105.setTop (mkF m 397 #[.val (.int lvx), .val (.int nx), .val (.int mx), .val (.long wx), .second, .val (.int v1), .val (.long v3), .second, .val (.long v5), .second, .val (.long v7), .second, .val (.long v13), .second, .val (.long v14), .second, .val (.long v16), .second, .val (.ref b18), .val (.long v85), .second, .val (.long v86), .second, .val (.int (3 : Int32)), .val (.int (bz (¬ (v5 < v39)))), .val (.int (bz (¬ (v5 < v57)))), .val (.int (bz (¬ (v5 < v75)))), .val (.int (bz (¬ (v5 < v75)))), .val (.int (bz (¬ (v5 < v57)))), .val (.int (bz (¬ (v5 < v39)))), .val (.int (1 : Int32))] [(.int (2 : Int32)), (.int (3 : Int32))])) _
          refine XS.icmpNo X105.here hx rfl (hb hby at_397) rfl (flt hb107).1 ?_
          refine XS.iload X105.here hx rfl (hb hby at_400) rfl ?_
          exact k)
        have hb109 : ¬ ((1 : Int32) = (0 : Int32)) := (by decide)
        have pre111 : ∀ t, Steps p.tables e below (T105.setTop (mkF m 407 #[.val (.int lvx), .val (.int nx), .val (.int mx), .val (.long wx), .second, .val (.int v1), .val (.long v3), .second, .val (.long v5), .second, .val (.long v7), .second, .val (.long v13), .second, .val (.long v14), .second, .val (.long v16), .second, .val (.ref b18), .val (.long v85), .second, .val (.long v86), .second, .val (.int (3 : Int32)), .val (.int (bz (¬ (v5 < v39)))), .val (.int (bz (¬ (v5 < v57)))), .val (.int (bz (¬ (v5 < v75)))), .val (.int (bz (¬ (v5 < v75)))), .val (.int (bz (¬ (v5 < v57)))), .val (.int (bz (¬ (v5 < v39)))), .val (.int (1 : Int32))] [(.ref b18)])) t → Steps p.tables e below (s₁.setTop (entryFrame m #[(.int lvx), (.int nx), (.int mx), (.long wx)] maxLocals)) t := fun t k => pre110 t (by
          show Steps p.tables e below (T105.setTop (mkF m 402 #[.val (.int lvx), .val (.int nx), .val (.int mx), .val (.long wx), .second, .val (.int v1), .val (.long v3), .second, .val (.long v5), .second, .val (.long v7), .second, .val (.long v13), .second, .val (.long v14), .second, .val (.long v16), .second, .val (.ref b18), .val (.long v85), .second, .val (.long v86), .second, .val (.int (3 : Int32)), .val (.int (bz (¬ (v5 < v39)))), .val (.int (bz (¬ (v5 < v57)))), .val (.int (bz (¬ (v5 < v75)))), .val (.int (bz (¬ (v5 < v75)))), .val (.int (bz (¬ (v5 < v57)))), .val (.int (bz (¬ (v5 < v39)))), .val (.int (1 : Int32))] [(.int (1 : Int32))])) _
          refine XS.ifNo X105.here hx rfl (hb hby at_402) rfl ((if0 _ _).trans (feq hb109).1) ?_
          refine XS.aload X105.here hx rfl (hb hby at_405) rfl rfl ?_
          exact k)
        obtain ⟨cq112, kq112, q112a, q112b, q112c⟩ := isOf hZ rfl (R105.exa (i := 0) rfl)
        obtain ⟨_, _, ⟨T112, L112, k112, n112⟩, -, X112, ⟨Lc112, hQ112, l112, y112, z112⟩, st112⟩ := X105.virtualBack hx (y := (⟨"com/example/gapless_log/gaplesslog/tree/Ascent", "atRoot", "()Z"⟩ : MethodName)) (z := (⟨"com/example/gapless_log/gaplesslog/tree/Ascent", "atRoot", "()Z"⟩ : MethodName)) hown (mvT hZ (hw _ (List.mem_of_getElem? (i := 54) rfl))) (mvT hZ (hw _ (List.mem_of_getElem? (i := 55) rfl))) (notFace_of_selects (args := #[]) (mvT hZ (hw _ (List.mem_of_getElem? (i := 57) rfl)))) (mvT hZ (hw _ (List.mem_of_getElem? (i := 57) rfl))) (mvT hZ (hw _ (List.mem_of_getElem? (i := 56) rfl))) (by decide) (backOf (W := 0) (rm10 l Z a0 hw [] b18 _ _ T105.heap n0 _ R105 ) hZ (hw _ (List.mem_of_getElem? (i := 58) rfl)) (hw _ (List.mem_of_getElem? (i := 3) rfl)) (by decide) (by decide)) q112a q112c (g := (mkF m 407 #[.val (.int lvx), .val (.int nx), .val (.int mx), .val (.long wx), .second, .val (.int v1), .val (.long v3), .second, .val (.long v5), .second, .val (.long v7), .second, .val (.long v13), .second, .val (.long v14), .second, .val (.long v16), .second, .val (.ref b18), .val (.long v85), .second, .val (.long v86), .second, .val (.int (3 : Int32)), .val (.int (bz (¬ (v5 < v39)))), .val (.int (bz (¬ (v5 < v57)))), .val (.int (bz (¬ (v5 < v75)))), .val (.int (bz (¬ (v5 < v75)))), .val (.int (bz (¬ (v5 < v57)))), .val (.int (bz (¬ (v5 < v39)))), .val (.int (1 : Int32))] [(.ref b18)])) rfl (by rw [hml]; rfl) (Steps.refl _) (argsL := []) (rest := []) (lenOf pd__28_29Z rfl) rfl (by show 2 * 0 + _ ≤ _; exact Nat.le_of_eq rfl) (hb hby at_407) (fun _ _ => ⟨rfl, rfl, (by decide : 2 + 0 ≤ _), (by decide : 4 + 0 ≤ _)⟩)
        dsimp only [Pt.U, Pt.locs, Pt.cells, Pt.slots] at X112 l112 y112 z112 st112 hQ112
        subst y112 z112
        obtain ⟨rfl, N112q, R112⟩ := hQ112
        have N112 : Fr n0 L112 := by rw [l112]; exact Fr.app N105 N112q
        replace R112 : Rep Z n0 T112.heap ((b18, Obj "com/example/gapless_log/gaplesslog/tree/Ascent" [("node", "J", (.long (cN v5 v3))), ("last", "J", (.long (cL v5 v3)))]) :: (b21, Obj "com/example/gapless_log/gaplesslog/tree/Subtree" [("start", "J", (.long v16)), ("end", "J", (.long (v16 + v7)))]) :: []) := R112
        have pre113 : ∀ t, Steps p.tables e below (T112.setTop (mkF m 410 #[.val (.int lvx), .val (.int nx), .val (.int mx), .val (.long wx), .second, .val (.int v1), .val (.long v3), .second, .val (.long v5), .second, .val (.long v7), .second, .val (.long v13), .second, .val (.long v14), .second, .val (.long v16), .second, .val (.ref b18), .val (.long v85), .second, .val (.long v86), .second, .val (.int (3 : Int32)), .val (.int (bz (¬ (v5 < v39)))), .val (.int (bz (¬ (v5 < v57)))), .val (.int (bz (¬ (v5 < v75)))), .val (.int (bz (¬ (v5 < v75)))), .val (.int (bz (¬ (v5 < v57)))), .val (.int (bz (¬ (v5 < v39)))), .val (.int (1 : Int32))] [(.int (F10 (cL v5 v3)))])) t → Steps p.tables e below (s₁.setTop (entryFrame m #[(.int lvx), (.int nx), (.int mx), (.long wx)] maxLocals)) t := fun t k => pre111 t (st112.trans k)
        have hb114 : (F10 (cL v5 v3)) = (0 : Int32) := own_a4 hle em en hv31 hv39 hv49 hv50 hv57 hv67 hv68 hb34 hb52 hb70
        have pre115 : ∀ t, Steps p.tables e below (T112.setTop (mkF m 415 #[.val (.int lvx), .val (.int nx), .val (.int mx), .val (.long wx), .second, .val (.int v1), .val (.long v3), .second, .val (.long v5), .second, .val (.long v7), .second, .val (.long v13), .second, .val (.long v14), .second, .val (.long v16), .second, .val (.ref b18), .val (.long v85), .second, .val (.long v86), .second, .val (.int (3 : Int32)), .val (.int (bz (¬ (v5 < v39)))), .val (.int (bz (¬ (v5 < v57)))), .val (.int (bz (¬ (v5 < v75)))), .val (.int (bz (¬ (v5 < v75)))), .val (.int (bz (¬ (v5 < v57)))), .val (.int (bz (¬ (v5 < v39)))), .val (.int (1 : Int32))] [(.ref b18)])) t → Steps p.tables e below (s₁.setTop (entryFrame m #[(.int lvx), (.int nx), (.int mx), (.long wx)] maxLocals)) t := fun t k => pre113 t (by
          show Steps p.tables e below (T112.setTop (mkF m 410 #[.val (.int lvx), .val (.int nx), .val (.int mx), .val (.long wx), .second, .val (.int v1), .val (.long v3), .second, .val (.long v5), .second, .val (.long v7), .second, .val (.long v13), .second, .val (.long v14), .second, .val (.long v16), .second, .val (.ref b18), .val (.long v85), .second, .val (.long v86), .second, .val (.int (3 : Int32)), .val (.int (bz (¬ (v5 < v39)))), .val (.int (bz (¬ (v5 < v57)))), .val (.int (bz (¬ (v5 < v75)))), .val (.int (bz (¬ (v5 < v75)))), .val (.int (bz (¬ (v5 < v57)))), .val (.int (bz (¬ (v5 < v39)))), .val (.int (1 : Int32))] [(.int (F10 (cL v5 v3)))])) _
          refine XS.ifNo X112.here hx rfl (hb hby at_410) rfl ((if0 _ _).trans (teq hb114).2) ?_
          refine XS.aload X112.here hx rfl (hb hby at_413) rfl rfl ?_
          exact k)
        obtain ⟨cq116, kq116, q116a, q116b, q116c⟩ := isOf hZ rfl (R112.exa (i := 0) rfl)
        obtain ⟨_, _, ⟨T116, L116, k116, n116⟩, -, X116, ⟨Lc116, hQ116, l116, y116, z116⟩, st116⟩ := X112.virtualBack hx (y := (⟨"com/example/gapless_log/gaplesslog/tree/Ascent", "siblingOnLeft", "()Z"⟩ : MethodName)) (z := (⟨"com/example/gapless_log/gaplesslog/tree/Ascent", "siblingOnLeft", "()Z"⟩ : MethodName)) hown (mvT hZ (hw _ (List.mem_of_getElem? (i := 59) rfl))) (mvT hZ (hw _ (List.mem_of_getElem? (i := 60) rfl))) (notFace_of_selects (args := #[]) (mvT hZ (hw _ (List.mem_of_getElem? (i := 62) rfl)))) (mvT hZ (hw _ (List.mem_of_getElem? (i := 62) rfl))) (mvT hZ (hw _ (List.mem_of_getElem? (i := 61) rfl))) (by decide) (backOf (W := 0) (rm11 l Z a0 hw [] b18 _ _ T112.heap n0 _ R112 ) hZ (hw _ (List.mem_of_getElem? (i := 63) rfl)) (hw _ (List.mem_of_getElem? (i := 3) rfl)) (by decide) (by decide)) q116a q116c (g := (mkF m 415 #[.val (.int lvx), .val (.int nx), .val (.int mx), .val (.long wx), .second, .val (.int v1), .val (.long v3), .second, .val (.long v5), .second, .val (.long v7), .second, .val (.long v13), .second, .val (.long v14), .second, .val (.long v16), .second, .val (.ref b18), .val (.long v85), .second, .val (.long v86), .second, .val (.int (3 : Int32)), .val (.int (bz (¬ (v5 < v39)))), .val (.int (bz (¬ (v5 < v57)))), .val (.int (bz (¬ (v5 < v75)))), .val (.int (bz (¬ (v5 < v75)))), .val (.int (bz (¬ (v5 < v57)))), .val (.int (bz (¬ (v5 < v39)))), .val (.int (1 : Int32))] [(.ref b18)])) rfl (by rw [hml]; rfl) (Steps.refl _) (argsL := []) (rest := []) (lenOf pd__28_29Z rfl) rfl (by show 2 * 0 + _ ≤ _; exact Nat.le_of_eq rfl) (hb hby at_415) (fun _ _ => ⟨rfl, rfl, (by decide : 2 + 0 ≤ _), (by decide : 4 + 0 ≤ _)⟩)
        dsimp only [Pt.U, Pt.locs, Pt.cells, Pt.slots] at X116 l116 y116 z116 st116 hQ116
        subst y116 z116
        obtain ⟨rfl, N116q, R116⟩ := hQ116
        have N116 : Fr n0 L116 := by rw [l116]; exact Fr.app N112 N116q
        replace R116 : Rep Z n0 T116.heap ((b18, Obj "com/example/gapless_log/gaplesslog/tree/Ascent" [("node", "J", (.long (cN v5 v3))), ("last", "J", (.long (cL v5 v3)))]) :: (b21, Obj "com/example/gapless_log/gaplesslog/tree/Subtree" [("start", "J", (.long v16)), ("end", "J", (.long (v16 + v7)))]) :: []) := R116
        have pre117 : ∀ t, Steps p.tables e below (T116.setTop (mkF m 418 #[.val (.int lvx), .val (.int nx), .val (.int mx), .val (.long wx), .second, .val (.int v1), .val (.long v3), .second, .val (.long v5), .second, .val (.long v7), .second, .val (.long v13), .second, .val (.long v14), .second, .val (.long v16), .second, .val (.ref b18), .val (.long v85), .second, .val (.long v86), .second, .val (.int (3 : Int32)), .val (.int (bz (¬ (v5 < v39)))), .val (.int (bz (¬ (v5 < v57)))), .val (.int (bz (¬ (v5 < v75)))), .val (.int (bz (¬ (v5 < v75)))), .val (.int (bz (¬ (v5 < v57)))), .val (.int (bz (¬ (v5 < v39)))), .val (.int (1 : Int32))] [(.int (F11 (cN v5 v3) (cL v5 v3)))])) t → Steps p.tables e below (s₁.setTop (entryFrame m #[(.int lvx), (.int nx), (.int mx), (.long wx)] maxLocals)) t := fun t k => pre115 t (st116.trans k)
        have pre119 : ∀ t, Steps p.tables e below (T116.setTop (mkF m 420 #[.val (.int lvx), .val (.int nx), .val (.int mx), .val (.long wx), .second, .val (.int v1), .val (.long v3), .second, .val (.long v5), .second, .val (.long v7), .second, .val (.long v13), .second, .val (.long v14), .second, .val (.long v16), .second, .val (.ref b18), .val (.long v85), .second, .val (.long v86), .second, .val (.int (3 : Int32)), .val (.int (bz (¬ (v5 < v39)))), .val (.int (bz (¬ (v5 < v57)))), .val (.int (bz (¬ (v5 < v75)))), .val (.int (bz (¬ (v5 < v75)))), .val (.int (bz (¬ (v5 < v57)))), .val (.int (bz (¬ (v5 < v39)))), .val (.int (1 : Int32))] [(.int (bz (¬ (v5 < v57)))), (.int (F11 (cN v5 v3) (cL v5 v3)))])) t → Steps p.tables e below (s₁.setTop (entryFrame m #[(.int lvx), (.int nx), (.int mx), (.long wx)] maxLocals)) t := fun t k => pre117 t (by
          show Steps p.tables e below (T116.setTop (mkF m 418 #[.val (.int lvx), .val (.int nx), .val (.int mx), .val (.long wx), .second, .val (.int v1), .val (.long v3), .second, .val (.long v5), .second, .val (.long v7), .second, .val (.long v13), .second, .val (.long v14), .second, .val (.long v16), .second, .val (.ref b18), .val (.long v85), .second, .val (.long v86), .second, .val (.int (3 : Int32)), .val (.int (bz (¬ (v5 < v39)))), .val (.int (bz (¬ (v5 < v57)))), .val (.int (bz (¬ (v5 < v75)))), .val (.int (bz (¬ (v5 < v75)))), .val (.int (bz (¬ (v5 < v57)))), .val (.int (bz (¬ (v5 < v39)))), .val (.int (1 : Int32))] [(.int (F11 (cN v5 v3) (cL v5 v3)))])) _
          refine XS.iload X116.here hx rfl (hb hby at_418) rfl ?_
          exact k)
        have hb118 : (F11 (cN v5 v3) (cL v5 v3)) = (bz (¬ (v5 < v57))) := own_a6 hle em en hv31 hv39 hv49 hv50 hv57 hv67 hv68 hb34 hb52 hb70
        have pre120 : ∀ t, Steps p.tables e below (T116.setTop (mkF m 432 #[.val (.int lvx), .val (.int nx), .val (.int mx), .val (.long wx), .second, .val (.int v1), .val (.long v3), .second, .val (.long v5), .second, .val (.long v7), .second, .val (.long v13), .second, .val (.long v14), .second, .val (.long v16), .second, .val (.ref b18), .val (.long v85), .second, .val (.long v86), .second, .val (.int (3 : Int32)), .val (.int (bz (¬ (v5 < v39)))), .val (.int (bz (¬ (v5 < v57)))), .val (.int (bz (¬ (v5 < v75)))), .val (.int (bz (¬ (v5 < v75)))), .val (.int (bz (¬ (v5 < v57)))), .val (.int (bz (¬ (v5 < v39)))), .val (.int (1 : Int32))] [(.ref b18)])) t → Steps p.tables e below (s₁.setTop (entryFrame m #[(.int lvx), (.int nx), (.int mx), (.long wx)] maxLocals)) t := fun t k => pre119 t (by
          show Steps p.tables e below (T116.setTop (mkF m 420 #[.val (.int lvx), .val (.int nx), .val (.int mx), .val (.long wx), .second, .val (.int v1), .val (.long v3), .second, .val (.long v5), .second, .val (.long v7), .second, .val (.long v13), .second, .val (.long v14), .second, .val (.long v16), .second, .val (.ref b18), .val (.long v85), .second, .val (.long v86), .second, .val (.int (3 : Int32)), .val (.int (bz (¬ (v5 < v39)))), .val (.int (bz (¬ (v5 < v57)))), .val (.int (bz (¬ (v5 < v75)))), .val (.int (bz (¬ (v5 < v75)))), .val (.int (bz (¬ (v5 < v57)))), .val (.int (bz (¬ (v5 < v39)))), .val (.int (1 : Int32))] [(.int (bz (¬ (v5 < v57)))), (.int (F11 (cN v5 v3) (cL v5 v3)))])) _
          refine XS.icmpNo X116.here hx rfl (hb hby at_420) rfl (teq hb118).2 ?_
          refine XS.iconst X116.here hx rfl (hb hby at_423) ?_
          refine XS.goto X116.here hx rfl (pc0 := 424) (pc' := 428) rfl (hb hby at_424) (by decide) (by decide) ?_
          refine XS.istore X116.here hx rfl (hb hby at_428) rfl (l' := #[.val (.int lvx), .val (.int nx), .val (.int mx), .val (.long wx), .second, .val (.int v1), .val (.long v3), .second, .val (.long v5), .second, .val (.long v7), .second, .val (.long v13), .second, .val (.long v14), .second, .val (.long v16), .second, .val (.ref b18), .val (.long v85), .second, .val (.long v86), .second, .val (.int (3 : Int32)), .val (.int (bz (¬ (v5 < v39)))), .val (.int (bz (¬ (v5 < v57)))), .val (.int (bz (¬ (v5 < v75)))), .val (.int (bz (¬ (v5 < v75)))), .val (.int (bz (¬ (v5 < v57)))), .val (.int (bz (¬ (v5 < v39)))), .val (.int (1 : Int32))]) rfl ?_
          refine XS.aload X116.here hx rfl (hb hby at_430) rfl rfl ?_
          exact k)
        obtain ⟨cq121, kq121, q121a, q121b, q121c⟩ := isOf hZ rfl (R116.exa (i := 0) rfl)
        obtain ⟨_, _, ⟨T121, L121, k121, n121⟩, -, X121, ⟨Lc121, hQ121, l121, y121, z121⟩, st121⟩ := X116.virtualBack hx (y := (⟨"com/example/gapless_log/gaplesslog/tree/Ascent", "climb", "()V"⟩ : MethodName)) (z := (⟨"com/example/gapless_log/gaplesslog/tree/Ascent", "climb", "()V"⟩ : MethodName)) hown (mvT hZ (hw _ (List.mem_of_getElem? (i := 64) rfl))) (mvT hZ (hw _ (List.mem_of_getElem? (i := 65) rfl))) (notFace_of_selects (args := #[]) (mvT hZ (hw _ (List.mem_of_getElem? (i := 67) rfl)))) (mvT hZ (hw _ (List.mem_of_getElem? (i := 67) rfl))) (mvT hZ (hw _ (List.mem_of_getElem? (i := 66) rfl))) (by decide) (backOf (W := 0) (rm12 l Z a0 hw [] b18 _ _ T116.heap n0 _ R116 ) hZ (hw _ (List.mem_of_getElem? (i := 68) rfl)) (hw _ (List.mem_of_getElem? (i := 3) rfl)) (by decide) (by decide)) q121a q121c (g := (mkF m 432 #[.val (.int lvx), .val (.int nx), .val (.int mx), .val (.long wx), .second, .val (.int v1), .val (.long v3), .second, .val (.long v5), .second, .val (.long v7), .second, .val (.long v13), .second, .val (.long v14), .second, .val (.long v16), .second, .val (.ref b18), .val (.long v85), .second, .val (.long v86), .second, .val (.int (3 : Int32)), .val (.int (bz (¬ (v5 < v39)))), .val (.int (bz (¬ (v5 < v57)))), .val (.int (bz (¬ (v5 < v75)))), .val (.int (bz (¬ (v5 < v75)))), .val (.int (bz (¬ (v5 < v57)))), .val (.int (bz (¬ (v5 < v39)))), .val (.int (1 : Int32))] [(.ref b18)])) rfl (by rw [hml]; rfl) (Steps.refl _) (argsL := []) (rest := []) (lenOf pd__28_29V rfl) rfl (by show 2 * 0 + _ ≤ _; exact Nat.le_of_eq rfl) (hb hby at_432) (fun _ _ => ⟨rfl, rfl, (by decide : 2 + 0 ≤ _), (by decide : 4 + 0 ≤ _)⟩)
        dsimp only [Pt.U, Pt.locs, Pt.cells, Pt.slots] at X121 l121 y121 z121 st121 hQ121
        subst y121 z121
        obtain ⟨rfl, N121q, R121⟩ := hQ121
        have N121 : Fr n0 L121 := by rw [l121]; exact Fr.app N116 N121q
        replace R121 : Rep Z n0 T121.heap ((b18, Obj "com/example/gapless_log/gaplesslog/tree/Ascent" [("node", "J", (.long (cN (cN v5 v3) (cL v5 v3)))), ("last", "J", (.long (cL (cN v5 v3) (cL v5 v3))))]) :: (b21, Obj "com/example/gapless_log/gaplesslog/tree/Subtree" [("start", "J", (.long v16)), ("end", "J", (.long (v16 + v7)))]) :: []) := R121
        have pre122 : ∀ t, Steps p.tables e below (T121.setTop (mkF m 435 #[.val (.int lvx), .val (.int nx), .val (.int mx), .val (.long wx), .second, .val (.int v1), .val (.long v3), .second, .val (.long v5), .second, .val (.long v7), .second, .val (.long v13), .second, .val (.long v14), .second, .val (.long v16), .second, .val (.ref b18), .val (.long v85), .second, .val (.long v86), .second, .val (.int (3 : Int32)), .val (.int (bz (¬ (v5 < v39)))), .val (.int (bz (¬ (v5 < v57)))), .val (.int (bz (¬ (v5 < v75)))), .val (.int (bz (¬ (v5 < v75)))), .val (.int (bz (¬ (v5 < v57)))), .val (.int (bz (¬ (v5 < v39)))), .val (.int (1 : Int32))] [])) t → Steps p.tables e below (s₁.setTop (entryFrame m #[(.int lvx), (.int nx), (.int mx), (.long wx)] maxLocals)) t := fun t k => pre120 t (st121.trans k)
        have pre124 : ∀ t, Steps p.tables e below (T121.setTop (mkF m 438 #[.val (.int lvx), .val (.int nx), .val (.int mx), .val (.long wx), .second, .val (.int v1), .val (.long v3), .second, .val (.long v5), .second, .val (.long v7), .second, .val (.long v13), .second, .val (.long v14), .second, .val (.long v16), .second, .val (.ref b18), .val (.long v85), .second, .val (.long v86), .second, .val (.int (3 : Int32)), .val (.int (bz (¬ (v5 < v39)))), .val (.int (bz (¬ (v5 < v57)))), .val (.int (bz (¬ (v5 < v75)))), .val (.int (bz (¬ (v5 < v75)))), .val (.int (bz (¬ (v5 < v57)))), .val (.int (bz (¬ (v5 < v39)))), .val (.int (1 : Int32))] [(.int (3 : Int32)), (.int (3 : Int32))])) t → Steps p.tables e below (s₁.setTop (entryFrame m #[(.int lvx), (.int nx), (.int mx), (.long wx)] maxLocals)) t := fun t k => pre122 t (by
          show Steps p.tables e below (T121.setTop (mkF m 435 #[.val (.int lvx), .val (.int nx), .val (.int mx), .val (.long wx), .second, .val (.int v1), .val (.long v3), .second, .val (.long v5), .second, .val (.long v7), .second, .val (.long v13), .second, .val (.long v14), .second, .val (.long v16), .second, .val (.ref b18), .val (.long v85), .second, .val (.long v86), .second, .val (.int (3 : Int32)), .val (.int (bz (¬ (v5 < v39)))), .val (.int (bz (¬ (v5 < v57)))), .val (.int (bz (¬ (v5 < v75)))), .val (.int (bz (¬ (v5 < v75)))), .val (.int (bz (¬ (v5 < v57)))), .val (.int (bz (¬ (v5 < v39)))), .val (.int (1 : Int32))] [])) _
          refine XS.iload X121.here hx rfl (hb hby at_435) rfl ?_
          refine XS.iconst X121.here hx rfl (hb hby at_437) ?_
          exact k)
        have hb123 : ¬ ((3 : Int32) < (3 : Int32)) := (by decide)
        have pre126 : ∀ t, Steps p.tables e below (T121.setTop (mkF m 443 #[.val (.int lvx), .val (.int nx), .val (.int mx), .val (.long wx), .second, .val (.int v1), .val (.long v3), .second, .val (.long v5), .second, .val (.long v7), .second, .val (.long v13), .second, .val (.long v14), .second, .val (.long v16), .second, .val (.ref b18), .val (.long v85), .second, .val (.long v86), .second, .val (.int (3 : Int32)), .val (.int (bz (¬ (v5 < v39)))), .val (.int (bz (¬ (v5 < v57)))), .val (.int (bz (¬ (v5 < v75)))), .val (.int (bz (¬ (v5 < v75)))), .val (.int (bz (¬ (v5 < v57)))), .val (.int (bz (¬ (v5 < v39)))), .val (.int (1 : Int32))] [(.int (1 : Int32))])) t → Steps p.tables e below (s₁.setTop (entryFrame m #[(.int lvx), (.int nx), (.int mx), (.long wx)] maxLocals)) t := fun t k => pre124 t (by
          show Steps p.tables e below (T121.setTop (mkF m 438 #[.val (.int lvx), .val (.int nx), .val (.int mx), .val (.long wx), .second, .val (.int v1), .val (.long v3), .second, .val (.long v5), .second, .val (.long v7), .second, .val (.long v13), .second, .val (.long v14), .second, .val (.long v16), .second, .val (.ref b18), .val (.long v85), .second, .val (.long v86), .second, .val (.int (3 : Int32)), .val (.int (bz (¬ (v5 < v39)))), .val (.int (bz (¬ (v5 < v57)))), .val (.int (bz (¬ (v5 < v75)))), .val (.int (bz (¬ (v5 < v75)))), .val (.int (bz (¬ (v5 < v57)))), .val (.int (bz (¬ (v5 < v39)))), .val (.int (1 : Int32))] [(.int (3 : Int32)), (.int (3 : Int32))])) _
          refine XS.icmpNo X121.here hx rfl (hb hby at_438) rfl (flt hb123).1 ?_
          refine XS.iload X121.here hx rfl (hb hby at_441) rfl ?_
          exact k)
        have hb125 : ¬ ((1 : Int32) = (0 : Int32)) := (by decide)
        have pre127 : ∀ t, Steps p.tables e below (T121.setTop (mkF m 448 #[.val (.int lvx), .val (.int nx), .val (.int mx), .val (.long wx), .second, .val (.int v1), .val (.long v3), .second, .val (.long v5), .second, .val (.long v7), .second, .val (.long v13), .second, .val (.long v14), .second, .val (.long v16), .second, .val (.ref b18), .val (.long v85), .second, .val (.long v86), .second, .val (.int (3 : Int32)), .val (.int (bz (¬ (v5 < v39)))), .val (.int (bz (¬ (v5 < v57)))), .val (.int (bz (¬ (v5 < v75)))), .val (.int (bz (¬ (v5 < v75)))), .val (.int (bz (¬ (v5 < v57)))), .val (.int (bz (¬ (v5 < v39)))), .val (.int (1 : Int32))] [(.ref b18)])) t → Steps p.tables e below (s₁.setTop (entryFrame m #[(.int lvx), (.int nx), (.int mx), (.long wx)] maxLocals)) t := fun t k => pre126 t (by
          show Steps p.tables e below (T121.setTop (mkF m 443 #[.val (.int lvx), .val (.int nx), .val (.int mx), .val (.long wx), .second, .val (.int v1), .val (.long v3), .second, .val (.long v5), .second, .val (.long v7), .second, .val (.long v13), .second, .val (.long v14), .second, .val (.long v16), .second, .val (.ref b18), .val (.long v85), .second, .val (.long v86), .second, .val (.int (3 : Int32)), .val (.int (bz (¬ (v5 < v39)))), .val (.int (bz (¬ (v5 < v57)))), .val (.int (bz (¬ (v5 < v75)))), .val (.int (bz (¬ (v5 < v75)))), .val (.int (bz (¬ (v5 < v57)))), .val (.int (bz (¬ (v5 < v39)))), .val (.int (1 : Int32))] [(.int (1 : Int32))])) _
          refine XS.ifNo X121.here hx rfl (hb hby at_443) rfl ((if0 _ _).trans (feq hb125).1) ?_
          refine XS.aload X121.here hx rfl (hb hby at_446) rfl rfl ?_
          exact k)
        obtain ⟨cq128, kq128, q128a, q128b, q128c⟩ := isOf hZ rfl (R121.exa (i := 0) rfl)
        obtain ⟨_, _, ⟨T128, L128, k128, n128⟩, -, X128, ⟨Lc128, hQ128, l128, y128, z128⟩, st128⟩ := X121.virtualBack hx (y := (⟨"com/example/gapless_log/gaplesslog/tree/Ascent", "atRoot", "()Z"⟩ : MethodName)) (z := (⟨"com/example/gapless_log/gaplesslog/tree/Ascent", "atRoot", "()Z"⟩ : MethodName)) hown (mvT hZ (hw _ (List.mem_of_getElem? (i := 54) rfl))) (mvT hZ (hw _ (List.mem_of_getElem? (i := 55) rfl))) (notFace_of_selects (args := #[]) (mvT hZ (hw _ (List.mem_of_getElem? (i := 57) rfl)))) (mvT hZ (hw _ (List.mem_of_getElem? (i := 57) rfl))) (mvT hZ (hw _ (List.mem_of_getElem? (i := 56) rfl))) (by decide) (backOf (W := 0) (rm10 l Z a0 hw [] b18 _ _ T121.heap n0 _ R121 ) hZ (hw _ (List.mem_of_getElem? (i := 58) rfl)) (hw _ (List.mem_of_getElem? (i := 3) rfl)) (by decide) (by decide)) q128a q128c (g := (mkF m 448 #[.val (.int lvx), .val (.int nx), .val (.int mx), .val (.long wx), .second, .val (.int v1), .val (.long v3), .second, .val (.long v5), .second, .val (.long v7), .second, .val (.long v13), .second, .val (.long v14), .second, .val (.long v16), .second, .val (.ref b18), .val (.long v85), .second, .val (.long v86), .second, .val (.int (3 : Int32)), .val (.int (bz (¬ (v5 < v39)))), .val (.int (bz (¬ (v5 < v57)))), .val (.int (bz (¬ (v5 < v75)))), .val (.int (bz (¬ (v5 < v75)))), .val (.int (bz (¬ (v5 < v57)))), .val (.int (bz (¬ (v5 < v39)))), .val (.int (1 : Int32))] [(.ref b18)])) rfl (by rw [hml]; rfl) (Steps.refl _) (argsL := []) (rest := []) (lenOf pd__28_29Z rfl) rfl (by show 2 * 0 + _ ≤ _; exact Nat.le_of_eq rfl) (hb hby at_448) (fun _ _ => ⟨rfl, rfl, (by decide : 2 + 0 ≤ _), (by decide : 4 + 0 ≤ _)⟩)
        dsimp only [Pt.U, Pt.locs, Pt.cells, Pt.slots] at X128 l128 y128 z128 st128 hQ128
        subst y128 z128
        obtain ⟨rfl, N128q, R128⟩ := hQ128
        have N128 : Fr n0 L128 := by rw [l128]; exact Fr.app N121 N128q
        replace R128 : Rep Z n0 T128.heap ((b18, Obj "com/example/gapless_log/gaplesslog/tree/Ascent" [("node", "J", (.long (cN (cN v5 v3) (cL v5 v3)))), ("last", "J", (.long (cL (cN v5 v3) (cL v5 v3))))]) :: (b21, Obj "com/example/gapless_log/gaplesslog/tree/Subtree" [("start", "J", (.long v16)), ("end", "J", (.long (v16 + v7)))]) :: []) := R128
        have pre129 : ∀ t, Steps p.tables e below (T128.setTop (mkF m 451 #[.val (.int lvx), .val (.int nx), .val (.int mx), .val (.long wx), .second, .val (.int v1), .val (.long v3), .second, .val (.long v5), .second, .val (.long v7), .second, .val (.long v13), .second, .val (.long v14), .second, .val (.long v16), .second, .val (.ref b18), .val (.long v85), .second, .val (.long v86), .second, .val (.int (3 : Int32)), .val (.int (bz (¬ (v5 < v39)))), .val (.int (bz (¬ (v5 < v57)))), .val (.int (bz (¬ (v5 < v75)))), .val (.int (bz (¬ (v5 < v75)))), .val (.int (bz (¬ (v5 < v57)))), .val (.int (bz (¬ (v5 < v39)))), .val (.int (1 : Int32))] [(.int (F10 (cL (cN v5 v3) (cL v5 v3))))])) t → Steps p.tables e below (s₁.setTop (entryFrame m #[(.int lvx), (.int nx), (.int mx), (.long wx)] maxLocals)) t := fun t k => pre127 t (st128.trans k)
        have hb130 : (F10 (cL (cN v5 v3) (cL v5 v3))) = (0 : Int32) := own_a8 hle em en hv31 hv39 hv49 hv50 hv57 hv67 hv68 hb34 hb52 hb70
        have pre131 : ∀ t, Steps p.tables e below (T128.setTop (mkF m 456 #[.val (.int lvx), .val (.int nx), .val (.int mx), .val (.long wx), .second, .val (.int v1), .val (.long v3), .second, .val (.long v5), .second, .val (.long v7), .second, .val (.long v13), .second, .val (.long v14), .second, .val (.long v16), .second, .val (.ref b18), .val (.long v85), .second, .val (.long v86), .second, .val (.int (3 : Int32)), .val (.int (bz (¬ (v5 < v39)))), .val (.int (bz (¬ (v5 < v57)))), .val (.int (bz (¬ (v5 < v75)))), .val (.int (bz (¬ (v5 < v75)))), .val (.int (bz (¬ (v5 < v57)))), .val (.int (bz (¬ (v5 < v39)))), .val (.int (1 : Int32))] [(.ref b18)])) t → Steps p.tables e below (s₁.setTop (entryFrame m #[(.int lvx), (.int nx), (.int mx), (.long wx)] maxLocals)) t := fun t k => pre129 t (by
          show Steps p.tables e below (T128.setTop (mkF m 451 #[.val (.int lvx), .val (.int nx), .val (.int mx), .val (.long wx), .second, .val (.int v1), .val (.long v3), .second, .val (.long v5), .second, .val (.long v7), .second, .val (.long v13), .second, .val (.long v14), .second, .val (.long v16), .second, .val (.ref b18), .val (.long v85), .second, .val (.long v86), .second, .val (.int (3 : Int32)), .val (.int (bz (¬ (v5 < v39)))), .val (.int (bz (¬ (v5 < v57)))), .val (.int (bz (¬ (v5 < v75)))), .val (.int (bz (¬ (v5 < v75)))), .val (.int (bz (¬ (v5 < v57)))), .val (.int (bz (¬ (v5 < v39)))), .val (.int (1 : Int32))] [(.int (F10 (cL (cN v5 v3) (cL v5 v3))))])) _
          refine XS.ifNo X128.here hx rfl (hb hby at_451) rfl ((if0 _ _).trans (teq hb130).2) ?_
          refine XS.aload X128.here hx rfl (hb hby at_454) rfl rfl ?_
          exact k)
        obtain ⟨cq132, kq132, q132a, q132b, q132c⟩ := isOf hZ rfl (R128.exa (i := 0) rfl)
        obtain ⟨_, _, ⟨T132, L132, k132, n132⟩, -, X132, ⟨Lc132, hQ132, l132, y132, z132⟩, st132⟩ := X128.virtualBack hx (y := (⟨"com/example/gapless_log/gaplesslog/tree/Ascent", "siblingOnLeft", "()Z"⟩ : MethodName)) (z := (⟨"com/example/gapless_log/gaplesslog/tree/Ascent", "siblingOnLeft", "()Z"⟩ : MethodName)) hown (mvT hZ (hw _ (List.mem_of_getElem? (i := 59) rfl))) (mvT hZ (hw _ (List.mem_of_getElem? (i := 60) rfl))) (notFace_of_selects (args := #[]) (mvT hZ (hw _ (List.mem_of_getElem? (i := 62) rfl)))) (mvT hZ (hw _ (List.mem_of_getElem? (i := 62) rfl))) (mvT hZ (hw _ (List.mem_of_getElem? (i := 61) rfl))) (by decide) (backOf (W := 0) (rm11 l Z a0 hw [] b18 _ _ T128.heap n0 _ R128 ) hZ (hw _ (List.mem_of_getElem? (i := 63) rfl)) (hw _ (List.mem_of_getElem? (i := 3) rfl)) (by decide) (by decide)) q132a q132c (g := (mkF m 456 #[.val (.int lvx), .val (.int nx), .val (.int mx), .val (.long wx), .second, .val (.int v1), .val (.long v3), .second, .val (.long v5), .second, .val (.long v7), .second, .val (.long v13), .second, .val (.long v14), .second, .val (.long v16), .second, .val (.ref b18), .val (.long v85), .second, .val (.long v86), .second, .val (.int (3 : Int32)), .val (.int (bz (¬ (v5 < v39)))), .val (.int (bz (¬ (v5 < v57)))), .val (.int (bz (¬ (v5 < v75)))), .val (.int (bz (¬ (v5 < v75)))), .val (.int (bz (¬ (v5 < v57)))), .val (.int (bz (¬ (v5 < v39)))), .val (.int (1 : Int32))] [(.ref b18)])) rfl (by rw [hml]; rfl) (Steps.refl _) (argsL := []) (rest := []) (lenOf pd__28_29Z rfl) rfl (by show 2 * 0 + _ ≤ _; exact Nat.le_of_eq rfl) (hb hby at_456) (fun _ _ => ⟨rfl, rfl, (by decide : 2 + 0 ≤ _), (by decide : 4 + 0 ≤ _)⟩)
        dsimp only [Pt.U, Pt.locs, Pt.cells, Pt.slots] at X132 l132 y132 z132 st132 hQ132
        subst y132 z132
        obtain ⟨rfl, N132q, R132⟩ := hQ132
        have N132 : Fr n0 L132 := by rw [l132]; exact Fr.app N128 N132q
        replace R132 : Rep Z n0 T132.heap ((b18, Obj "com/example/gapless_log/gaplesslog/tree/Ascent" [("node", "J", (.long (cN (cN v5 v3) (cL v5 v3)))), ("last", "J", (.long (cL (cN v5 v3) (cL v5 v3))))]) :: (b21, Obj "com/example/gapless_log/gaplesslog/tree/Subtree" [("start", "J", (.long v16)), ("end", "J", (.long (v16 + v7)))]) :: []) := R132
        have pre133 : ∀ t, Steps p.tables e below (T132.setTop (mkF m 459 #[.val (.int lvx), .val (.int nx), .val (.int mx), .val (.long wx), .second, .val (.int v1), .val (.long v3), .second, .val (.long v5), .second, .val (.long v7), .second, .val (.long v13), .second, .val (.long v14), .second, .val (.long v16), .second, .val (.ref b18), .val (.long v85), .second, .val (.long v86), .second, .val (.int (3 : Int32)), .val (.int (bz (¬ (v5 < v39)))), .val (.int (bz (¬ (v5 < v57)))), .val (.int (bz (¬ (v5 < v75)))), .val (.int (bz (¬ (v5 < v75)))), .val (.int (bz (¬ (v5 < v57)))), .val (.int (bz (¬ (v5 < v39)))), .val (.int (1 : Int32))] [(.int (F11 (cN (cN v5 v3) (cL v5 v3)) (cL (cN v5 v3) (cL v5 v3))))])) t → Steps p.tables e below (s₁.setTop (entryFrame m #[(.int lvx), (.int nx), (.int mx), (.long wx)] maxLocals)) t := fun t k => pre131 t (st132.trans k)
        have pre135 : ∀ t, Steps p.tables e below (T132.setTop (mkF m 461 #[.val (.int lvx), .val (.int nx), .val (.int mx), .val (.long wx), .second, .val (.int v1), .val (.long v3), .second, .val (.long v5), .second, .val (.long v7), .second, .val (.long v13), .second, .val (.long v14), .second, .val (.long v16), .second, .val (.ref b18), .val (.long v85), .second, .val (.long v86), .second, .val (.int (3 : Int32)), .val (.int (bz (¬ (v5 < v39)))), .val (.int (bz (¬ (v5 < v57)))), .val (.int (bz (¬ (v5 < v75)))), .val (.int (bz (¬ (v5 < v75)))), .val (.int (bz (¬ (v5 < v57)))), .val (.int (bz (¬ (v5 < v39)))), .val (.int (1 : Int32))] [(.int (bz (¬ (v5 < v39)))), (.int (F11 (cN (cN v5 v3) (cL v5 v3)) (cL (cN v5 v3) (cL v5 v3))))])) t → Steps p.tables e below (s₁.setTop (entryFrame m #[(.int lvx), (.int nx), (.int mx), (.long wx)] maxLocals)) t := fun t k => pre133 t (by
          show Steps p.tables e below (T132.setTop (mkF m 459 #[.val (.int lvx), .val (.int nx), .val (.int mx), .val (.long wx), .second, .val (.int v1), .val (.long v3), .second, .val (.long v5), .second, .val (.long v7), .second, .val (.long v13), .second, .val (.long v14), .second, .val (.long v16), .second, .val (.ref b18), .val (.long v85), .second, .val (.long v86), .second, .val (.int (3 : Int32)), .val (.int (bz (¬ (v5 < v39)))), .val (.int (bz (¬ (v5 < v57)))), .val (.int (bz (¬ (v5 < v75)))), .val (.int (bz (¬ (v5 < v75)))), .val (.int (bz (¬ (v5 < v57)))), .val (.int (bz (¬ (v5 < v39)))), .val (.int (1 : Int32))] [(.int (F11 (cN (cN v5 v3) (cL v5 v3)) (cL (cN v5 v3) (cL v5 v3))))])) _
          refine XS.iload X132.here hx rfl (hb hby at_459) rfl ?_
          exact k)
        have hb134 : (F11 (cN (cN v5 v3) (cL v5 v3)) (cL (cN v5 v3) (cL v5 v3))) = (bz (¬ (v5 < v39))) := own_a10 hle em en hv31 hv39 hv49 hv50 hv57 hv67 hv68 hb34 hb52 hb70
        have pre136 : ∀ t, Steps p.tables e below (T132.setTop (mkF m 473 #[.val (.int lvx), .val (.int nx), .val (.int mx), .val (.long wx), .second, .val (.int v1), .val (.long v3), .second, .val (.long v5), .second, .val (.long v7), .second, .val (.long v13), .second, .val (.long v14), .second, .val (.long v16), .second, .val (.ref b18), .val (.long v85), .second, .val (.long v86), .second, .val (.int (3 : Int32)), .val (.int (bz (¬ (v5 < v39)))), .val (.int (bz (¬ (v5 < v57)))), .val (.int (bz (¬ (v5 < v75)))), .val (.int (bz (¬ (v5 < v75)))), .val (.int (bz (¬ (v5 < v57)))), .val (.int (bz (¬ (v5 < v39)))), .val (.int (1 : Int32))] [(.ref b18)])) t → Steps p.tables e below (s₁.setTop (entryFrame m #[(.int lvx), (.int nx), (.int mx), (.long wx)] maxLocals)) t := fun t k => pre135 t (by
          show Steps p.tables e below (T132.setTop (mkF m 461 #[.val (.int lvx), .val (.int nx), .val (.int mx), .val (.long wx), .second, .val (.int v1), .val (.long v3), .second, .val (.long v5), .second, .val (.long v7), .second, .val (.long v13), .second, .val (.long v14), .second, .val (.long v16), .second, .val (.ref b18), .val (.long v85), .second, .val (.long v86), .second, .val (.int (3 : Int32)), .val (.int (bz (¬ (v5 < v39)))), .val (.int (bz (¬ (v5 < v57)))), .val (.int (bz (¬ (v5 < v75)))), .val (.int (bz (¬ (v5 < v75)))), .val (.int (bz (¬ (v5 < v57)))), .val (.int (bz (¬ (v5 < v39)))), .val (.int (1 : Int32))] [(.int (bz (¬ (v5 < v39)))), (.int (F11 (cN (cN v5 v3) (cL v5 v3)) (cL (cN v5 v3) (cL v5 v3))))])) _
          refine XS.icmpNo X132.here hx rfl (hb hby at_461) rfl (teq hb134).2 ?_
          refine XS.iconst X132.here hx rfl (hb hby at_464) ?_
          refine XS.goto X132.here hx rfl (pc0 := 465) (pc' := 469) rfl (hb hby at_465) (by decide) (by decide) ?_
          refine XS.istore X132.here hx rfl (hb hby at_469) rfl (l' := #[.val (.int lvx), .val (.int nx), .val (.int mx), .val (.long wx), .second, .val (.int v1), .val (.long v3), .second, .val (.long v5), .second, .val (.long v7), .second, .val (.long v13), .second, .val (.long v14), .second, .val (.long v16), .second, .val (.ref b18), .val (.long v85), .second, .val (.long v86), .second, .val (.int (3 : Int32)), .val (.int (bz (¬ (v5 < v39)))), .val (.int (bz (¬ (v5 < v57)))), .val (.int (bz (¬ (v5 < v75)))), .val (.int (bz (¬ (v5 < v75)))), .val (.int (bz (¬ (v5 < v57)))), .val (.int (bz (¬ (v5 < v39)))), .val (.int (1 : Int32))]) rfl ?_
          refine XS.aload X132.here hx rfl (hb hby at_471) rfl rfl ?_
          exact k)
        obtain ⟨cq137, kq137, q137a, q137b, q137c⟩ := isOf hZ rfl (R132.exa (i := 0) rfl)
        obtain ⟨_, _, ⟨T137, L137, k137, n137⟩, -, X137, ⟨Lc137, hQ137, l137, y137, z137⟩, st137⟩ := X132.virtualBack hx (y := (⟨"com/example/gapless_log/gaplesslog/tree/Ascent", "climb", "()V"⟩ : MethodName)) (z := (⟨"com/example/gapless_log/gaplesslog/tree/Ascent", "climb", "()V"⟩ : MethodName)) hown (mvT hZ (hw _ (List.mem_of_getElem? (i := 64) rfl))) (mvT hZ (hw _ (List.mem_of_getElem? (i := 65) rfl))) (notFace_of_selects (args := #[]) (mvT hZ (hw _ (List.mem_of_getElem? (i := 67) rfl)))) (mvT hZ (hw _ (List.mem_of_getElem? (i := 67) rfl))) (mvT hZ (hw _ (List.mem_of_getElem? (i := 66) rfl))) (by decide) (backOf (W := 0) (rm12 l Z a0 hw [] b18 _ _ T132.heap n0 _ R132 ) hZ (hw _ (List.mem_of_getElem? (i := 68) rfl)) (hw _ (List.mem_of_getElem? (i := 3) rfl)) (by decide) (by decide)) q137a q137c (g := (mkF m 473 #[.val (.int lvx), .val (.int nx), .val (.int mx), .val (.long wx), .second, .val (.int v1), .val (.long v3), .second, .val (.long v5), .second, .val (.long v7), .second, .val (.long v13), .second, .val (.long v14), .second, .val (.long v16), .second, .val (.ref b18), .val (.long v85), .second, .val (.long v86), .second, .val (.int (3 : Int32)), .val (.int (bz (¬ (v5 < v39)))), .val (.int (bz (¬ (v5 < v57)))), .val (.int (bz (¬ (v5 < v75)))), .val (.int (bz (¬ (v5 < v75)))), .val (.int (bz (¬ (v5 < v57)))), .val (.int (bz (¬ (v5 < v39)))), .val (.int (1 : Int32))] [(.ref b18)])) rfl (by rw [hml]; rfl) (Steps.refl _) (argsL := []) (rest := []) (lenOf pd__28_29V rfl) rfl (by show 2 * 0 + _ ≤ _; exact Nat.le_of_eq rfl) (hb hby at_473) (fun _ _ => ⟨rfl, rfl, (by decide : 2 + 0 ≤ _), (by decide : 4 + 0 ≤ _)⟩)
        dsimp only [Pt.U, Pt.locs, Pt.cells, Pt.slots] at X137 l137 y137 z137 st137 hQ137
        subst y137 z137
        obtain ⟨rfl, N137q, R137⟩ := hQ137
        have N137 : Fr n0 L137 := by rw [l137]; exact Fr.app N132 N137q
        replace R137 : Rep Z n0 T137.heap ((b18, Obj "com/example/gapless_log/gaplesslog/tree/Ascent" [("node", "J", (.long (cN (cN (cN v5 v3) (cL v5 v3)) (cL (cN v5 v3) (cL v5 v3))))), ("last", "J", (.long (cL (cN (cN v5 v3) (cL v5 v3)) (cL (cN v5 v3) (cL v5 v3)))))]) :: (b21, Obj "com/example/gapless_log/gaplesslog/tree/Subtree" [("start", "J", (.long v16)), ("end", "J", (.long (v16 + v7)))]) :: []) := R137
        have pre138 : ∀ t, Steps p.tables e below (T137.setTop (mkF m 476 #[.val (.int lvx), .val (.int nx), .val (.int mx), .val (.long wx), .second, .val (.int v1), .val (.long v3), .second, .val (.long v5), .second, .val (.long v7), .second, .val (.long v13), .second, .val (.long v14), .second, .val (.long v16), .second, .val (.ref b18), .val (.long v85), .second, .val (.long v86), .second, .val (.int (3 : Int32)), .val (.int (bz (¬ (v5 < v39)))), .val (.int (bz (¬ (v5 < v57)))), .val (.int (bz (¬ (v5 < v75)))), .val (.int (bz (¬ (v5 < v75)))), .val (.int (bz (¬ (v5 < v57)))), .val (.int (bz (¬ (v5 < v39)))), .val (.int (1 : Int32))] [])) t → Steps p.tables e below (s₁.setTop (entryFrame m #[(.int lvx), (.int nx), (.int mx), (.long wx)] maxLocals)) t := fun t k => pre136 t (st137.trans k)
        have pre140 : ∀ t, Steps p.tables e below (T137.setTop (mkF m 478 #[.val (.int lvx), .val (.int nx), .val (.int mx), .val (.long wx), .second, .val (.int v1), .val (.long v3), .second, .val (.long v5), .second, .val (.long v7), .second, .val (.long v13), .second, .val (.long v14), .second, .val (.long v16), .second, .val (.ref b18), .val (.long v85), .second, .val (.long v86), .second, .val (.int (3 : Int32)), .val (.int (bz (¬ (v5 < v39)))), .val (.int (bz (¬ (v5 < v57)))), .val (.int (bz (¬ (v5 < v75)))), .val (.int (bz (¬ (v5 < v75)))), .val (.int (bz (¬ (v5 < v57)))), .val (.int (bz (¬ (v5 < v39)))), .val (.int (1 : Int32))] [(.int (1 : Int32))])) t → Steps p.tables e below (s₁.setTop (entryFrame m #[(.int lvx), (.int nx), (.int mx), (.long wx)] maxLocals)) t := fun t k => pre138 t (by
          show Steps p.tables e below (T137.setTop (mkF m 476 #[.val (.int lvx), .val (.int nx), .val (.int mx), .val (.long wx), .second, .val (.int v1), .val (.long v3), .second, .val (.long v5), .second, .val (.long v7), .second, .val (.long v13), .second, .val (.long v14), .second, .val (.long v16), .second, .val (.ref b18), .val (.long v85), .second, .val (.long v86), .second, .val (.int (3 : Int32)), .val (.int (bz (¬ (v5 < v39)))), .val (.int (bz (¬ (v5 < v57)))), .val (.int (bz (¬ (v5 < v75)))), .val (.int (bz (¬ (v5 < v75)))), .val (.int (bz (¬ (v5 < v57)))), .val (.int (bz (¬ (v5 < v39)))), .val (.int (1 : Int32))] [])) _
          refine XS.iload X137.here hx rfl (hb hby at_476) rfl ?_
          exact k)
        have hb139 : ¬ ((1 : Int32) = (0 : Int32)) := (by decide)
        have pre141 : ∀ t, Steps p.tables e below (T137.setTop (mkF m 483 #[.val (.int lvx), .val (.int nx), .val (.int mx), .val (.long wx), .second, .val (.int v1), .val (.long v3), .second, .val (.long v5), .second, .val (.long v7), .second, .val (.long v13), .second, .val (.long v14), .second, .val (.long v16), .second, .val (.ref b18), .val (.long v85), .second, .val (.long v86), .second, .val (.int (3 : Int32)), .val (.int (bz (¬ (v5 < v39)))), .val (.int (bz (¬ (v5 < v57)))), .val (.int (bz (¬ (v5 < v75)))), .val (.int (bz (¬ (v5 < v75)))), .val (.int (bz (¬ (v5 < v57)))), .val (.int (bz (¬ (v5 < v39)))), .val (.int (1 : Int32))] [(.ref b18)])) t → Steps p.tables e below (s₁.setTop (entryFrame m #[(.int lvx), (.int nx), (.int mx), (.long wx)] maxLocals)) t := fun t k => pre140 t (by
          show Steps p.tables e below (T137.setTop (mkF m 478 #[.val (.int lvx), .val (.int nx), .val (.int mx), .val (.long wx), .second, .val (.int v1), .val (.long v3), .second, .val (.long v5), .second, .val (.long v7), .second, .val (.long v13), .second, .val (.long v14), .second, .val (.long v16), .second, .val (.ref b18), .val (.long v85), .second, .val (.long v86), .second, .val (.int (3 : Int32)), .val (.int (bz (¬ (v5 < v39)))), .val (.int (bz (¬ (v5 < v57)))), .val (.int (bz (¬ (v5 < v75)))), .val (.int (bz (¬ (v5 < v75)))), .val (.int (bz (¬ (v5 < v57)))), .val (.int (bz (¬ (v5 < v39)))), .val (.int (1 : Int32))] [(.int (1 : Int32))])) _
          refine XS.ifNo X137.here hx rfl (hb hby at_478) rfl ((if0 _ _).trans (feq hb139).1) ?_
          refine XS.aload X137.here hx rfl (hb hby at_481) rfl rfl ?_
          exact k)
        obtain ⟨cq142, kq142, q142a, q142b, q142c⟩ := isOf hZ rfl (R137.exa (i := 0) rfl)
        obtain ⟨_, _, ⟨T142, L142, k142, n142⟩, -, X142, ⟨Lc142, hQ142, l142, y142, z142⟩, st142⟩ := X137.virtualBack hx (y := (⟨"com/example/gapless_log/gaplesslog/tree/Ascent", "atRoot", "()Z"⟩ : MethodName)) (z := (⟨"com/example/gapless_log/gaplesslog/tree/Ascent", "atRoot", "()Z"⟩ : MethodName)) hown (mvT hZ (hw _ (List.mem_of_getElem? (i := 54) rfl))) (mvT hZ (hw _ (List.mem_of_getElem? (i := 55) rfl))) (notFace_of_selects (args := #[]) (mvT hZ (hw _ (List.mem_of_getElem? (i := 57) rfl)))) (mvT hZ (hw _ (List.mem_of_getElem? (i := 57) rfl))) (mvT hZ (hw _ (List.mem_of_getElem? (i := 56) rfl))) (by decide) (backOf (W := 0) (rm10 l Z a0 hw [] b18 _ _ T137.heap n0 _ R137 ) hZ (hw _ (List.mem_of_getElem? (i := 58) rfl)) (hw _ (List.mem_of_getElem? (i := 3) rfl)) (by decide) (by decide)) q142a q142c (g := (mkF m 483 #[.val (.int lvx), .val (.int nx), .val (.int mx), .val (.long wx), .second, .val (.int v1), .val (.long v3), .second, .val (.long v5), .second, .val (.long v7), .second, .val (.long v13), .second, .val (.long v14), .second, .val (.long v16), .second, .val (.ref b18), .val (.long v85), .second, .val (.long v86), .second, .val (.int (3 : Int32)), .val (.int (bz (¬ (v5 < v39)))), .val (.int (bz (¬ (v5 < v57)))), .val (.int (bz (¬ (v5 < v75)))), .val (.int (bz (¬ (v5 < v75)))), .val (.int (bz (¬ (v5 < v57)))), .val (.int (bz (¬ (v5 < v39)))), .val (.int (1 : Int32))] [(.ref b18)])) rfl (by rw [hml]; rfl) (Steps.refl _) (argsL := []) (rest := []) (lenOf pd__28_29Z rfl) rfl (by show 2 * 0 + _ ≤ _; exact Nat.le_of_eq rfl) (hb hby at_483) (fun _ _ => ⟨rfl, rfl, (by decide : 2 + 0 ≤ _), (by decide : 4 + 0 ≤ _)⟩)
        dsimp only [Pt.U, Pt.locs, Pt.cells, Pt.slots] at X142 l142 y142 z142 st142 hQ142
        subst y142 z142
        obtain ⟨rfl, N142q, R142⟩ := hQ142
        have N142 : Fr n0 L142 := by rw [l142]; exact Fr.app N137 N142q
        replace R142 : Rep Z n0 T142.heap ((b18, Obj "com/example/gapless_log/gaplesslog/tree/Ascent" [("node", "J", (.long (cN (cN (cN v5 v3) (cL v5 v3)) (cL (cN v5 v3) (cL v5 v3))))), ("last", "J", (.long (cL (cN (cN v5 v3) (cL v5 v3)) (cL (cN v5 v3) (cL v5 v3)))))]) :: (b21, Obj "com/example/gapless_log/gaplesslog/tree/Subtree" [("start", "J", (.long v16)), ("end", "J", (.long (v16 + v7)))]) :: []) := R142
        have pre143 : ∀ t, Steps p.tables e below (T142.setTop (mkF m 486 #[.val (.int lvx), .val (.int nx), .val (.int mx), .val (.long wx), .second, .val (.int v1), .val (.long v3), .second, .val (.long v5), .second, .val (.long v7), .second, .val (.long v13), .second, .val (.long v14), .second, .val (.long v16), .second, .val (.ref b18), .val (.long v85), .second, .val (.long v86), .second, .val (.int (3 : Int32)), .val (.int (bz (¬ (v5 < v39)))), .val (.int (bz (¬ (v5 < v57)))), .val (.int (bz (¬ (v5 < v75)))), .val (.int (bz (¬ (v5 < v75)))), .val (.int (bz (¬ (v5 < v57)))), .val (.int (bz (¬ (v5 < v39)))), .val (.int (1 : Int32))] [(.int (F10 (cL (cN (cN v5 v3) (cL v5 v3)) (cL (cN v5 v3) (cL v5 v3)))))])) t → Steps p.tables e below (s₁.setTop (entryFrame m #[(.int lvx), (.int nx), (.int mx), (.long wx)] maxLocals)) t := fun t k => pre141 t (st142.trans k)
        have hb144 : ¬ ((F10 (cL (cN (cN v5 v3) (cL v5 v3)) (cL (cN v5 v3) (cL v5 v3)))) = (0 : Int32)) := own_a12 hle em en hv31 hv39 hv49 hv50 hv57 hv67 hv68 hb34 hb52 hb70
        have pre145 : ∀ t, Steps p.tables e below (T142.setTop (mkF m 494 #[.val (.int lvx), .val (.int nx), .val (.int mx), .val (.long wx), .second, .val (.int v1), .val (.long v3), .second, .val (.long v5), .second, .val (.long v7), .second, .val (.long v13), .second, .val (.long v14), .second, .val (.long v16), .second, .val (.ref b18), .val (.long v85), .second, .val (.long v86), .second, .val (.int (3 : Int32)), .val (.int (bz (¬ (v5 < v39)))), .val (.int (bz (¬ (v5 < v57)))), .val (.int (bz (¬ (v5 < v75)))), .val (.int (bz (¬ (v5 < v75)))), .val (.int (bz (¬ (v5 < v57)))), .val (.int (bz (¬ (v5 < v39)))), .val (.int (1 : Int32))] [(.int (1 : Int32))])) t → Steps p.tables e below (s₁.setTop (entryFrame m #[(.int lvx), (.int nx), (.int mx), (.long wx)] maxLocals)) t := fun t k => pre143 t (by
          show Steps p.tables e below (T142.setTop (mkF m 486 #[.val (.int lvx), .val (.int nx), .val (.int mx), .val (.long wx), .second, .val (.int v1), .val (.long v3), .second, .val (.long v5), .second, .val (.long v7), .second, .val (.long v13), .second, .val (.long v14), .second, .val (.long v16), .second, .val (.ref b18), .val (.long v85), .second, .val (.long v86), .second, .val (.int (3 : Int32)), .val (.int (bz (¬ (v5 < v39)))), .val (.int (bz (¬ (v5 < v57)))), .val (.int (bz (¬ (v5 < v75)))), .val (.int (bz (¬ (v5 < v75)))), .val (.int (bz (¬ (v5 < v57)))), .val (.int (bz (¬ (v5 < v39)))), .val (.int (1 : Int32))] [(.int (F10 (cL (cN (cN v5 v3) (cL v5 v3)) (cL (cN v5 v3) (cL v5 v3)))))])) _
          refine XS.ifNo X142.here hx rfl (hb hby at_486) rfl ((if0 _ _).trans (feq hb144).1) ?_
          refine XS.iconst X142.here hx rfl (hb hby at_489) ?_
          refine XS.goto X142.here hx rfl (pc0 := 490) (pc' := 494) rfl (hb hby at_490) (by decide) (by decide) ?_
          exact k)
        obtain ⟨fs, hr, hrun, hended, hW, hsame⟩ := X142.leave (v := some (.int (nar .boolean (1 : Int32)))) (fun h => by rw [Bd.returns] at h; cases h)
        refine ⟨_, _, pre145 _ ?_, hrun, hended, _, _, rfl, ?_, ⟨_, rfl⟩, hW, hsame.mono (by decide) (by decide)⟩
        · show Steps p.tables e below (T142.setTop (mkF m 494 #[.val (.int lvx), .val (.int nx), .val (.int mx), .val (.long wx), .second, .val (.int v1), .val (.long v3), .second, .val (.long v5), .second, .val (.long v7), .second, .val (.long v13), .second, .val (.long v14), .second, .val (.long v16), .second, .val (.ref b18), .val (.long v85), .second, .val (.long v86), .second, .val (.int (3 : Int32)), .val (.int (bz (¬ (v5 < v39)))), .val (.int (bz (¬ (v5 < v57)))), .val (.int (bz (¬ (v5 < v75)))), .val (.int (bz (¬ (v5 < v75)))), .val (.int (bz (¬ (v5 < v57)))), .val (.int (bz (¬ (v5 < v39)))), .val (.int (1 : Int32))] [(.int (1 : Int32))])) _
          exact retN X142 hx (t := .boolean) Bd.returns (by simp) (hb hby at_494) hr
        · show Q0 Z lvx nx mx wx n0 [] _ T142.heap _
          have R146 : Rep Z n0 T142.heap ((b21, Obj "com/example/gapless_log/gaplesslog/tree/Subtree" [("start", "J", (.long v16)), ("end", "J", (.long (v16 + v7)))]) :: []) := (R142.front 0 rfl rfl : Rep Z n0 T142.heap ((b18, Obj "com/example/gapless_log/gaplesslog/tree/Ascent" [("node", "J", (.long (cN (cN (cN v5 v3) (cL v5 v3)) (cL (cN v5 v3) (cL v5 v3))))), ("last", "J", (.long (cL (cN (cN v5 v3) (cL v5 v3)) (cL (cN v5 v3) (cL v5 v3)))))]) :: (b21, Obj "com/example/gapless_log/gaplesslog/tree/Subtree" [("start", "J", (.long v16)), ("end", "J", (.long (v16 + v7)))]) :: [])).tail
          have R147 : Rep Z n0 T142.heap ([]) := (R146.front 0 rfl rfl : Rep Z n0 T142.heap ((b21, Obj "com/example/gapless_log/gaplesslog/tree/Subtree" [("start", "J", (.long v16)), ("end", "J", (.long (v16 + v7)))]) :: [])).tail
          exact ⟨(by rfl), N142, R147⟩
      · have pre148 : ∀ t, Steps p.tables e below (T55.setTop (mkF m 305 #[.val (.int lvx), .val (.int nx), .val (.int mx), .val (.long wx), .second, .val (.int v1), .val (.long v3), .second, .val (.long v5), .second, .val (.long v7), .second, .val (.long v13), .second, .val (.long v14), .second, .val (.long v16), .second, .val (.ref b18), .val (.long v67), .second, .val (.long v68), .second, .val (.int (2 : Int32)), .val (.int (bz (¬ (v5 < v39)))), .val (.int (bz (¬ (v5 < v57)))), .val (.int (0 : Int32)), .val (.long v57), .second, .val (.int (bz (¬ (v5 < v57)))), .unset] [])) t → Steps p.tables e below (s₁.setTop (entryFrame m #[(.int lvx), (.int nx), (.int mx), (.long wx)] maxLocals)) t := fun t k => pre69 t (by show Steps p.tables e below (T55.setTop (mkF m 251 #[.val (.int lvx), .val (.int nx), .val (.int mx), .val (.long wx), .second, .val (.int v1), .val (.long v3), .second, .val (.long v5), .second, .val (.long v7), .second, .val (.long v13), .second, .val (.long v14), .second, .val (.long v16), .second, .val (.ref b18), .val (.long v67), .second, .val (.long v68), .second, .val (.int (2 : Int32)), .val (.int (bz (¬ (v5 < v39)))), .val (.int (bz (¬ (v5 < v57)))), .val (.int (0 : Int32)), .val (.long v57), .second, .val (.int (bz (¬ (v5 < v57)))), .unset] [(.int (XT.cmpL (v68 - v67) (1 : Int64)))])) _; refine XS.ifYes X55.here hx rfl (pc0 := 251) (pc' := 305) rfl (hb hby at_251) rfl (XT.ll_le_t hb70) (by decide) (by decide) ?_; exact k)
        have pre150 : ∀ t, Steps p.tables e below (T55.setTop (mkF m 308 #[.val (.int lvx), .val (.int nx), .val (.int mx), .val (.long wx), .second, .val (.int v1), .val (.long v3), .second, .val (.long v5), .second, .val (.long v7), .second, .val (.long v13), .second, .val (.long v14), .second, .val (.long v16), .second, .val (.ref b18), .val (.long v67), .second, .val (.long v68), .second, .val (.int (2 : Int32)), .val (.int (bz (¬ (v5 < v39)))), .val (.int (bz (¬ (v5 < v57)))), .val (.int (0 : Int32)), .val (.long v57), .second, .val (.int (bz (¬ (v5 < v57)))), .unset] [(.int (3 : Int32)), (.int (2 : Int32))])) t → Steps p.tables e below (s₁.setTop (entryFrame m #[(.int lvx), (.int nx), (.int mx), (.long wx)] maxLocals)) t := fun t k => pre148 t (by
          show Steps p.tables e below (T55.setTop (mkF m 305 #[.val (.int lvx), .val (.int nx), .val (.int mx), .val (.long wx), .second, .val (.int v1), .val (.long v3), .second, .val (.long v5), .second, .val (.long v7), .second, .val (.long v13), .second, .val (.long v14), .second, .val (.long v16), .second, .val (.ref b18), .val (.long v67), .second, .val (.long v68), .second, .val (.int (2 : Int32)), .val (.int (bz (¬ (v5 < v39)))), .val (.int (bz (¬ (v5 < v57)))), .val (.int (0 : Int32)), .val (.long v57), .second, .val (.int (bz (¬ (v5 < v57)))), .unset] [])) _
          refine XS.iload X55.here hx rfl (hb hby at_305) rfl ?_
          refine XS.iconst X55.here hx rfl (hb hby at_307) ?_
          exact k)
        have hb149 : ¬ ((2 : Int32) = (3 : Int32)) := (by decide)
        have pre152 : ∀ t, Steps p.tables e below (T55.setTop (mkF m 319 #[.val (.int lvx), .val (.int nx), .val (.int mx), .val (.long wx), .second, .val (.int v1), .val (.long v3), .second, .val (.long v5), .second, .val (.long v7), .second, .val (.long v13), .second, .val (.long v14), .second, .val (.long v16), .second, .val (.ref b18), .val (.long v67), .second, .val (.long v68), .second, .val (.int (2 : Int32)), .val (.int (bz (¬ (v5 < v39)))), .val (.int (bz (¬ (v5 < v57)))), .val (.int (0 : Int32)), .val (.long v57), .second, .val (.int (bz (¬ (v5 < v57)))), .unset] [(.int (2 : Int32)), (.int (2 : Int32))])) t → Steps p.tables e below (s₁.setTop (entryFrame m #[(.int lvx), (.int nx), (.int mx), (.long wx)] maxLocals)) t := fun t k => pre150 t (by
          show Steps p.tables e below (T55.setTop (mkF m 308 #[.val (.int lvx), .val (.int nx), .val (.int mx), .val (.long wx), .second, .val (.int v1), .val (.long v3), .second, .val (.long v5), .second, .val (.long v7), .second, .val (.long v13), .second, .val (.long v14), .second, .val (.long v16), .second, .val (.ref b18), .val (.long v67), .second, .val (.long v68), .second, .val (.int (2 : Int32)), .val (.int (bz (¬ (v5 < v39)))), .val (.int (bz (¬ (v5 < v57)))), .val (.int (0 : Int32)), .val (.long v57), .second, .val (.int (bz (¬ (v5 < v57)))), .unset] [(.int (3 : Int32)), (.int (2 : Int32))])) _
          refine XS.icmpYes X55.here hx rfl (pc0 := 308) (pc' := 316) rfl (hb hby at_308) rfl (feq hb149).2 (by decide) (by decide) ?_
          refine XS.iload X55.here hx rfl (hb hby at_316) rfl ?_
          refine XS.iconst X55.here hx rfl (hb hby at_318) ?_
          exact k)
        have hb151 : (2 : Int32) = (2 : Int32) := (by decide)
        have pre154 : ∀ t, Steps p.tables e below (T55.setTop (mkF m 334 #[.val (.int lvx), .val (.int nx), .val (.int mx), .val (.long wx), .second, .val (.int v1), .val (.long v3), .second, .val (.long v5), .second, .val (.long v7), .second, .val (.long v13), .second, .val (.long v14), .second, .val (.long v16), .second, .val (.ref b18), .val (.long v67), .second, .val (.long v68), .second, .val (.int (2 : Int32)), .val (.int (bz (¬ (v5 < v39)))), .val (.int (bz (¬ (v5 < v57)))), .val (.int (0 : Int32)), .val (.int (bz (¬ (v5 < v57)))), .unset, .val (.int (bz (¬ (v5 < v57)))), .unset] [(.int (3 : Int32)), (.int (2 : Int32))])) t → Steps p.tables e below (s₁.setTop (entryFrame m #[(.int lvx), (.int nx), (.int mx), (.long wx)] maxLocals)) t := fun t k => pre152 t (by
          show Steps p.tables e below (T55.setTop (mkF m 319 #[.val (.int lvx), .val (.int nx), .val (.int mx), .val (.long wx), .second, .val (.int v1), .val (.long v3), .second, .val (.long v5), .second, .val (.long v7), .second, .val (.long v13), .second, .val (.long v14), .second, .val (.long v16), .second, .val (.ref b18), .val (.long v67), .second, .val (.long v68), .second, .val (.int (2 : Int32)), .val (.int (bz (¬ (v5 < v39)))), .val (.int (bz (¬ (v5 < v57)))), .val (.int (0 : Int32)), .val (.long v57), .second, .val (.int (bz (¬ (v5 < v57)))), .unset] [(.int (2 : Int32)), (.int (2 : Int32))])) _
          refine XS.icmpNo X55.here hx rfl (hb hby at_319) rfl (teq hb151).2 ?_
          refine XS.iload X55.here hx rfl (hb hby at_322) rfl ?_
          refine XS.goto X55.here hx rfl (pc0 := 324) (pc' := 329) rfl (hb hby at_324) (by decide) (by decide) ?_
          refine XS.istore X55.here hx rfl (hb hby at_329) rfl (l' := #[.val (.int lvx), .val (.int nx), .val (.int mx), .val (.long wx), .second, .val (.int v1), .val (.long v3), .second, .val (.long v5), .second, .val (.long v7), .second, .val (.long v13), .second, .val (.long v14), .second, .val (.long v16), .second, .val (.ref b18), .val (.long v67), .second, .val (.long v68), .second, .val (.int (2 : Int32)), .val (.int (bz (¬ (v5 < v39)))), .val (.int (bz (¬ (v5 < v57)))), .val (.int (0 : Int32)), .val (.int (bz (¬ (v5 < v57)))), .unset, .val (.int (bz (¬ (v5 < v57)))), .unset]) rfl ?_
          refine XS.iload X55.here hx rfl (hb hby at_331) rfl ?_
          refine XS.iconst X55.here hx rfl (hb hby at_333) ?_
          exact k)
        have hb153 : ¬ ((2 : Int32) = (3 : Int32)) := (by decide)
        have pre156 : ∀ t, Steps p.tables e below (T55.setTop (mkF m 356 #[.val (.int lvx), .val (.int nx), .val (.int mx), .val (.long wx), .second, .val (.int v1), .val (.long v3), .second, .val (.long v5), .second, .val (.long v7), .second, .val (.long v13), .second, .val (.long v14), .second, .val (.long v16), .second, .val (.ref b18), .val (.long v67), .second, .val (.long v68), .second, .val (.int (2 : Int32)), .val (.int (bz (¬ (v5 < v39)))), .val (.int (bz (¬ (v5 < v57)))), .val (.int (0 : Int32)), .val (.int (bz (¬ (v5 < v57)))), .val (.int (bz (¬ (v5 < v39)))), .val (.int (bz (¬ (v5 < v39)))), .val (.int (1 : Int32))] [(.int (1 : Int32)), (.int (2 : Int32))])) t → Steps p.tables e below (s₁.setTop (entryFrame m #[(.int lvx), (.int nx), (.int mx), (.long wx)] maxLocals)) t := fun t k => pre154 t (by
          show Steps p.tables e below (T55.setTop (mkF m 334 #[.val (.int lvx), .val (.int nx), .val (.int mx), .val (.long wx), .second, .val (.int v1), .val (.long v3), .second, .val (.long v5), .second, .val (.long v7), .second, .val (.long v13), .second, .val (.long v14), .second, .val (.long v16), .second, .val (.ref b18), .val (.long v67), .second, .val (.long v68), .second, .val (.int (2 : Int32)), .val (.int (bz (¬ (v5 < v39)))), .val (.int (bz (¬ (v5 < v57)))), .val (.int (0 : Int32)), .val (.int (bz (¬ (v5 < v57)))), .unset, .val (.int (bz (¬ (v5 < v57)))), .unset] [(.int (3 : Int32)), (.int (2 : Int32))])) _
          refine XS.icmpYes X55.here hx rfl (pc0 := 334) (pc' := 342) rfl (hb hby at_334) rfl (feq hb153).2 (by decide) (by decide) ?_
          refine XS.iload X55.here hx rfl (hb hby at_342) rfl ?_
          refine XS.istore X55.here hx rfl (hb hby at_344) rfl (l' := #[.val (.int lvx), .val (.int nx), .val (.int mx), .val (.long wx), .second, .val (.int v1), .val (.long v3), .second, .val (.long v5), .second, .val (.long v7), .second, .val (.long v13), .second, .val (.long v14), .second, .val (.long v16), .second, .val (.ref b18), .val (.long v67), .second, .val (.long v68), .second, .val (.int (2 : Int32)), .val (.int (bz (¬ (v5 < v39)))), .val (.int (bz (¬ (v5 < v57)))), .val (.int (0 : Int32)), .val (.int (bz (¬ (v5 < v57)))), .val (.int (bz (¬ (v5 < v39)))), .val (.int (bz (¬ (v5 < v57)))), .unset]) rfl ?_
          refine XS.iload X55.here hx rfl (hb hby at_346) rfl ?_
          refine XS.istore X55.here hx rfl (hb hby at_348) rfl (l' := #[.val (.int lvx), .val (.int nx), .val (.int mx), .val (.long wx), .second, .val (.int v1), .val (.long v3), .second, .val (.long v5), .second, .val (.long v7), .second, .val (.long v13), .second, .val (.long v14), .second, .val (.long v16), .second, .val (.ref b18), .val (.long v67), .second, .val (.long v68), .second, .val (.int (2 : Int32)), .val (.int (bz (¬ (v5 < v39)))), .val (.int (bz (¬ (v5 < v57)))), .val (.int (0 : Int32)), .val (.int (bz (¬ (v5 < v57)))), .val (.int (bz (¬ (v5 < v39)))), .val (.int (bz (¬ (v5 < v39)))), .unset]) rfl ?_
          refine XS.iconst X55.here hx rfl (hb hby at_350) ?_
          refine XS.istore X55.here hx rfl (hb hby at_351) rfl (l' := #[.val (.int lvx), .val (.int nx), .val (.int mx), .val (.long wx), .second, .val (.int v1), .val (.long v3), .second, .val (.long v5), .second, .val (.long v7), .second, .val (.long v13), .second, .val (.long v14), .second, .val (.long v16), .second, .val (.ref b18), .val (.long v67), .second, .val (.long v68), .second, .val (.int (2 : Int32)), .val (.int (bz (¬ (v5 < v39)))), .val (.int (bz (¬ (v5 < v57)))), .val (.int (0 : Int32)), .val (.int (bz (¬ (v5 < v57)))), .val (.int (bz (¬ (v5 < v39)))), .val (.int (bz (¬ (v5 < v39)))), .val (.int (1 : Int32))]) rfl ?_
          show Steps p.tables e below (T55.setTop (mkF m 353 #[.val (.int lvx), .val (.int nx), .val (.int mx), .val (.long wx), .second, .val (.int v1), .val (.long v3), .second, .val (.long v5), .second, .val (.long v7), .second, .val (.long v13), .second, .val (.long v14), .second, .val (.long v16), .second, .val (.ref b18), .val (.long v67), .second, .val (.long v68), .second, .val (.int (2 : Int32)), .val (.int (bz (¬ (v5 < v39)))), .val (.int (bz (¬ (v5 < v57)))), .val (.int (0 : Int32)), .val (.int (bz (¬ (v5 < v57)))), .val (.int (bz (¬ (v5 < v39)))), .val (.int (bz (¬ (v5 < v39)))), .val (.int (1 : Int32))] [])) _
          refine XS.iload X55.here hx rfl (hb hby at_353) rfl ?_
          refine XS.iconst X55.here hx rfl (hb hby at_355) ?_
          exact k)
        have hb155 : ¬ ((2 : Int32) < (1 : Int32)) := (by decide)
        have pre158 : ∀ t, Steps p.tables e below (T55.setTop (mkF m 361 #[.val (.int lvx), .val (.int nx), .val (.int mx), .val (.long wx), .second, .val (.int v1), .val (.long v3), .second, .val (.long v5), .second, .val (.long v7), .second, .val (.long v13), .second, .val (.long v14), .second, .val (.long v16), .second, .val (.ref b18), .val (.long v67), .second, .val (.long v68), .second, .val (.int (2 : Int32)), .val (.int (bz (¬ (v5 < v39)))), .val (.int (bz (¬ (v5 < v57)))), .val (.int (0 : Int32)), .val (.int (bz (¬ (v5 < v57)))), .val (.int (bz (¬ (v5 < v39)))), .val (.int (bz (¬ (v5 < v39)))), .val (.int (1 : Int32))] [(.int (1 : Int32))])) t → Steps p.tables e below (s₁.setTop (entryFrame m #[(.int lvx), (.int nx), (.int mx), (.long wx)] maxLocals)) t := fun t k => pre156 t (by
          show Steps p.tables e below (T55.setTop (mkF m 356 #[.val (.int lvx), .val (.int nx), .val (.int mx), .val (.long wx), .second, .val (.int v1), .val (.long v3), .second, .val (.long v5), .second, .val (.long v7), .second, .val (.long v13), .second, .val (.long v14), .second, .val (.long v16), .second, .val (.ref b18), .val (.long v67), .second, .val (.long v68), .second, .val (.int (2 : Int32)), .val (.int (bz (¬ (v5 < v39)))), .val (.int (bz (¬ (v5 < v57)))), .val (.int (0 : Int32)), .val (.int (bz (¬ (v5 < v57)))), .val (.int (bz (¬ (v5 < v39)))), .val (.int (bz (¬ (v5 < v39)))), .val (.int (1 : Int32))] [(.int (1 : Int32)), (.int (2 : Int32))])) _
          refine XS.icmpNo X55.here hx rfl (hb hby at_356) rfl (flt hb155).1 ?_
          refine XS.iload X55.here hx rfl (hb hby at_359) rfl ?_
          exact k)
        have hb157 : ¬ ((1 : Int32) = (0 : Int32)) := (by decide)
        have pre159 : ∀ t, Steps p.tables e below (T55.setTop (mkF m 366 #[.val (.int lvx), .val (.int nx), .val (.int mx), .val (.long wx), .second, .val (.int v1), .val (.long v3), .second, .val (.long v5), .second, .val (.long v7), .second, .val (.long v13), .second, .val (.long v14), .second, .val (.long v16), .second, .val (.ref b18), .val (.long v67), .second, .val (.long v68), .second, .val (.int (2 : Int32)), .val (.int (bz (¬ (v5 < v39)))), .val (.int (bz (¬ (v5 < v57)))), .val (.int (0 : Int32)), .val (.int (bz (¬ (v5 < v57)))), .val (.int (bz (¬ (v5 < v39)))), .val (.int (bz (¬ (v5 < v39)))), .val (.int (1 : Int32))] [(.ref b18)])) t → Steps p.tables e below (s₁.setTop (entryFrame m #[(.int lvx), (.int nx), (.int mx), (.long wx)] maxLocals)) t := fun t k => pre158 t (by
          show Steps p.tables e below (T55.setTop (mkF m 361 #[.val (.int lvx), .val (.int nx), .val (.int mx), .val (.long wx), .second, .val (.int v1), .val (.long v3), .second, .val (.long v5), .second, .val (.long v7), .second, .val (.long v13), .second, .val (.long v14), .second, .val (.long v16), .second, .val (.ref b18), .val (.long v67), .second, .val (.long v68), .second, .val (.int (2 : Int32)), .val (.int (bz (¬ (v5 < v39)))), .val (.int (bz (¬ (v5 < v57)))), .val (.int (0 : Int32)), .val (.int (bz (¬ (v5 < v57)))), .val (.int (bz (¬ (v5 < v39)))), .val (.int (bz (¬ (v5 < v39)))), .val (.int (1 : Int32))] [(.int (1 : Int32))])) _
          refine XS.ifNo X55.here hx rfl (hb hby at_361) rfl ((if0 _ _).trans (feq hb157).1) ?_
          refine XS.aload X55.here hx rfl (hb hby at_364) rfl rfl ?_
          exact k)
        obtain ⟨cq160, kq160, q160a, q160b, q160c⟩ := isOf hZ rfl (R55.exa (i := 0) rfl)
        obtain ⟨_, _, ⟨T160, L160, k160, n160⟩, -, X160, ⟨Lc160, hQ160, l160, y160, z160⟩, st160⟩ := X55.virtualBack hx (y := (⟨"com/example/gapless_log/gaplesslog/tree/Ascent", "atRoot", "()Z"⟩ : MethodName)) (z := (⟨"com/example/gapless_log/gaplesslog/tree/Ascent", "atRoot", "()Z"⟩ : MethodName)) hown (mvT hZ (hw _ (List.mem_of_getElem? (i := 54) rfl))) (mvT hZ (hw _ (List.mem_of_getElem? (i := 55) rfl))) (notFace_of_selects (args := #[]) (mvT hZ (hw _ (List.mem_of_getElem? (i := 57) rfl)))) (mvT hZ (hw _ (List.mem_of_getElem? (i := 57) rfl))) (mvT hZ (hw _ (List.mem_of_getElem? (i := 56) rfl))) (by decide) (backOf (W := 0) (rm10 l Z a0 hw [] b18 _ _ T55.heap n0 _ R55 ) hZ (hw _ (List.mem_of_getElem? (i := 58) rfl)) (hw _ (List.mem_of_getElem? (i := 3) rfl)) (by decide) (by decide)) q160a q160c (g := (mkF m 366 #[.val (.int lvx), .val (.int nx), .val (.int mx), .val (.long wx), .second, .val (.int v1), .val (.long v3), .second, .val (.long v5), .second, .val (.long v7), .second, .val (.long v13), .second, .val (.long v14), .second, .val (.long v16), .second, .val (.ref b18), .val (.long v67), .second, .val (.long v68), .second, .val (.int (2 : Int32)), .val (.int (bz (¬ (v5 < v39)))), .val (.int (bz (¬ (v5 < v57)))), .val (.int (0 : Int32)), .val (.int (bz (¬ (v5 < v57)))), .val (.int (bz (¬ (v5 < v39)))), .val (.int (bz (¬ (v5 < v39)))), .val (.int (1 : Int32))] [(.ref b18)])) rfl (by rw [hml]; rfl) (Steps.refl _) (argsL := []) (rest := []) (lenOf pd__28_29Z rfl) rfl (by show 2 * 0 + _ ≤ _; exact Nat.le_of_eq rfl) (hb hby at_366) (fun _ _ => ⟨rfl, rfl, (by decide : 2 + 0 ≤ _), (by decide : 4 + 0 ≤ _)⟩)
        dsimp only [Pt.U, Pt.locs, Pt.cells, Pt.slots] at X160 l160 y160 z160 st160 hQ160
        subst y160 z160
        obtain ⟨rfl, N160q, R160⟩ := hQ160
        have N160 : Fr n0 L160 := by rw [l160]; exact Fr.app N55 N160q
        replace R160 : Rep Z n0 T160.heap ((b18, Obj "com/example/gapless_log/gaplesslog/tree/Ascent" [("node", "J", (.long v5)), ("last", "J", (.long v3))]) :: (b21, Obj "com/example/gapless_log/gaplesslog/tree/Subtree" [("start", "J", (.long v16)), ("end", "J", (.long (v16 + v7)))]) :: []) := R160
        have pre161 : ∀ t, Steps p.tables e below (T160.setTop (mkF m 369 #[.val (.int lvx), .val (.int nx), .val (.int mx), .val (.long wx), .second, .val (.int v1), .val (.long v3), .second, .val (.long v5), .second, .val (.long v7), .second, .val (.long v13), .second, .val (.long v14), .second, .val (.long v16), .second, .val (.ref b18), .val (.long v67), .second, .val (.long v68), .second, .val (.int (2 : Int32)), .val (.int (bz (¬ (v5 < v39)))), .val (.int (bz (¬ (v5 < v57)))), .val (.int (0 : Int32)), .val (.int (bz (¬ (v5 < v57)))), .val (.int (bz (¬ (v5 < v39)))), .val (.int (bz (¬ (v5 < v39)))), .val (.int (1 : Int32))] [(.int (F10 v3))])) t → Steps p.tables e below (s₁.setTop (entryFrame m #[(.int lvx), (.int nx), (.int mx), (.long wx)] maxLocals)) t := fun t k => pre159 t (st160.trans k)
        have hb162 : (F10 v3) = (0 : Int32) := own_a14 hle em en hv31 hv39 hv49 hv50 hv57 hv67 hv68 hb34 hb52 hb70
        have pre163 : ∀ t, Steps p.tables e below (T160.setTop (mkF m 374 #[.val (.int lvx), .val (.int nx), .val (.int mx), .val (.long wx), .second, .val (.int v1), .val (.long v3), .second, .val (.long v5), .second, .val (.long v7), .second, .val (.long v13), .second, .val (.long v14), .second, .val (.long v16), .second, .val (.ref b18), .val (.long v67), .second, .val (.long v68), .second, .val (.int (2 : Int32)), .val (.int (bz (¬ (v5 < v39)))), .val (.int (bz (¬ (v5 < v57)))), .val (.int (0 : Int32)), .val (.int (bz (¬ (v5 < v57)))), .val (.int (bz (¬ (v5 < v39)))), .val (.int (bz (¬ (v5 < v39)))), .val (.int (1 : Int32))] [(.ref b18)])) t → Steps p.tables e below (s₁.setTop (entryFrame m #[(.int lvx), (.int nx), (.int mx), (.long wx)] maxLocals)) t := fun t k => pre161 t (by
          show Steps p.tables e below (T160.setTop (mkF m 369 #[.val (.int lvx), .val (.int nx), .val (.int mx), .val (.long wx), .second, .val (.int v1), .val (.long v3), .second, .val (.long v5), .second, .val (.long v7), .second, .val (.long v13), .second, .val (.long v14), .second, .val (.long v16), .second, .val (.ref b18), .val (.long v67), .second, .val (.long v68), .second, .val (.int (2 : Int32)), .val (.int (bz (¬ (v5 < v39)))), .val (.int (bz (¬ (v5 < v57)))), .val (.int (0 : Int32)), .val (.int (bz (¬ (v5 < v57)))), .val (.int (bz (¬ (v5 < v39)))), .val (.int (bz (¬ (v5 < v39)))), .val (.int (1 : Int32))] [(.int (F10 v3))])) _
          refine XS.ifNo X160.here hx rfl (hb hby at_369) rfl ((if0 _ _).trans (teq hb162).2) ?_
          refine XS.aload X160.here hx rfl (hb hby at_372) rfl rfl ?_
          exact k)
        obtain ⟨cq164, kq164, q164a, q164b, q164c⟩ := isOf hZ rfl (R160.exa (i := 0) rfl)
        obtain ⟨_, _, ⟨T164, L164, k164, n164⟩, -, X164, ⟨Lc164, hQ164, l164, y164, z164⟩, st164⟩ := X160.virtualBack hx (y := (⟨"com/example/gapless_log/gaplesslog/tree/Ascent", "siblingOnLeft", "()Z"⟩ : MethodName)) (z := (⟨"com/example/gapless_log/gaplesslog/tree/Ascent", "siblingOnLeft", "()Z"⟩ : MethodName)) hown (mvT hZ (hw _ (List.mem_of_getElem? (i := 59) rfl))) (mvT hZ (hw _ (List.mem_of_getElem? (i := 60) rfl))) (notFace_of_selects (args := #[]) (mvT hZ (hw _ (List.mem_of_getElem? (i := 62) rfl)))) (mvT hZ (hw _ (List.mem_of_getElem? (i := 62) rfl))) (mvT hZ (hw _ (List.mem_of_getElem? (i := 61) rfl))) (by decide) (backOf (W := 0) (rm11 l Z a0 hw [] b18 _ _ T160.heap n0 _ R160 ) hZ (hw _ (List.mem_of_getElem? (i := 63) rfl)) (hw _ (List.mem_of_getElem? (i := 3) rfl)) (by decide) (by decide)) q164a q164c (g := (mkF m 374 #[.val (.int lvx), .val (.int nx), .val (.int mx), .val (.long wx), .second, .val (.int v1), .val (.long v3), .second, .val (.long v5), .second, .val (.long v7), .second, .val (.long v13), .second, .val (.long v14), .second, .val (.long v16), .second, .val (.ref b18), .val (.long v67), .second, .val (.long v68), .second, .val (.int (2 : Int32)), .val (.int (bz (¬ (v5 < v39)))), .val (.int (bz (¬ (v5 < v57)))), .val (.int (0 : Int32)), .val (.int (bz (¬ (v5 < v57)))), .val (.int (bz (¬ (v5 < v39)))), .val (.int (bz (¬ (v5 < v39)))), .val (.int (1 : Int32))] [(.ref b18)])) rfl (by rw [hml]; rfl) (Steps.refl _) (argsL := []) (rest := []) (lenOf pd__28_29Z rfl) rfl (by show 2 * 0 + _ ≤ _; exact Nat.le_of_eq rfl) (hb hby at_374) (fun _ _ => ⟨rfl, rfl, (by decide : 2 + 0 ≤ _), (by decide : 4 + 0 ≤ _)⟩)
        dsimp only [Pt.U, Pt.locs, Pt.cells, Pt.slots] at X164 l164 y164 z164 st164 hQ164
        subst y164 z164
        obtain ⟨rfl, N164q, R164⟩ := hQ164
        have N164 : Fr n0 L164 := by rw [l164]; exact Fr.app N160 N164q
        replace R164 : Rep Z n0 T164.heap ((b18, Obj "com/example/gapless_log/gaplesslog/tree/Ascent" [("node", "J", (.long v5)), ("last", "J", (.long v3))]) :: (b21, Obj "com/example/gapless_log/gaplesslog/tree/Subtree" [("start", "J", (.long v16)), ("end", "J", (.long (v16 + v7)))]) :: []) := R164
        have pre165 : ∀ t, Steps p.tables e below (T164.setTop (mkF m 377 #[.val (.int lvx), .val (.int nx), .val (.int mx), .val (.long wx), .second, .val (.int v1), .val (.long v3), .second, .val (.long v5), .second, .val (.long v7), .second, .val (.long v13), .second, .val (.long v14), .second, .val (.long v16), .second, .val (.ref b18), .val (.long v67), .second, .val (.long v68), .second, .val (.int (2 : Int32)), .val (.int (bz (¬ (v5 < v39)))), .val (.int (bz (¬ (v5 < v57)))), .val (.int (0 : Int32)), .val (.int (bz (¬ (v5 < v57)))), .val (.int (bz (¬ (v5 < v39)))), .val (.int (bz (¬ (v5 < v39)))), .val (.int (1 : Int32))] [(.int (F11 v5 v3))])) t → Steps p.tables e below (s₁.setTop (entryFrame m #[(.int lvx), (.int nx), (.int mx), (.long wx)] maxLocals)) t := fun t k => pre163 t (st164.trans k)
        have pre167 : ∀ t, Steps p.tables e below (T164.setTop (mkF m 379 #[.val (.int lvx), .val (.int nx), .val (.int mx), .val (.long wx), .second, .val (.int v1), .val (.long v3), .second, .val (.long v5), .second, .val (.long v7), .second, .val (.long v13), .second, .val (.long v14), .second, .val (.long v16), .second, .val (.ref b18), .val (.long v67), .second, .val (.long v68), .second, .val (.int (2 : Int32)), .val (.int (bz (¬ (v5 < v39)))), .val (.int (bz (¬ (v5 < v57)))), .val (.int (0 : Int32)), .val (.int (bz (¬ (v5 < v57)))), .val (.int (bz (¬ (v5 < v39)))), .val (.int (bz (¬ (v5 < v39)))), .val (.int (1 : Int32))] [(.int (bz (¬ (v5 < v57)))), (.int (F11 v5 v3))])) t → Steps p.tables e below (s₁.setTop (entryFrame m #[(.int lvx), (.int nx), (.int mx), (.long wx)] maxLocals)) t := fun t k => pre165 t (by
          show Steps p.tables e below (T164.setTop (mkF m 377 #[.val (.int lvx), .val (.int nx), .val (.int mx), .val (.long wx), .second, .val (.int v1), .val (.long v3), .second, .val (.long v5), .second, .val (.long v7), .second, .val (.long v13), .second, .val (.long v14), .second, .val (.long v16), .second, .val (.ref b18), .val (.long v67), .second, .val (.long v68), .second, .val (.int (2 : Int32)), .val (.int (bz (¬ (v5 < v39)))), .val (.int (bz (¬ (v5 < v57)))), .val (.int (0 : Int32)), .val (.int (bz (¬ (v5 < v57)))), .val (.int (bz (¬ (v5 < v39)))), .val (.int (bz (¬ (v5 < v39)))), .val (.int (1 : Int32))] [(.int (F11 v5 v3))])) _
          refine XS.iload X164.here hx rfl (hb hby at_377) rfl ?_
          exact k)
        have hb166 : (F11 v5 v3) = (bz (¬ (v5 < v57))) := own_a16 hle em en hv31 hv39 hv49 hv50 hv57 hv67 hv68 hb34 hb52 hb70
        have pre168 : ∀ t, Steps p.tables e below (T164.setTop (mkF m 391 #[.val (.int lvx), .val (.int nx), .val (.int mx), .val (.long wx), .second, .val (.int v1), .val (.long v3), .second, .val (.long v5), .second, .val (.long v7), .second, .val (.long v13), .second, .val (.long v14), .second, .val (.long v16), .second, .val (.ref b18), .val (.long v67), .second, .val (.long v68), .second, .val (.int (2 : Int32)), .val (.int (bz (¬ (v5 < v39)))), .val (.int (bz (¬ (v5 < v57)))), .val (.int (0 : Int32)), .val (.int (bz (¬ (v5 < v57)))), .val (.int (bz (¬ (v5 < v39)))), .val (.int (bz (¬ (v5 < v39)))), .val (.int (1 : Int32))] [(.ref b18)])) t → Steps p.tables e below (s₁.setTop (entryFrame m #[(.int lvx), (.int nx), (.int mx), (.long wx)] maxLocals)) t := fun t k => pre167 t (by
          show Steps p.tables e below (T164.setTop (mkF m 379 #[.val (.int lvx), .val (.int nx), .val (.int mx), .val (.long wx), .second, .val (.int v1), .val (.long v3), .second, .val (.long v5), .second, .val (.long v7), .second, .val (.long v13), .second, .val (.long v14), .second, .val (.long v16), .second, .val (.ref b18), .val (.long v67), .second, .val (.long v68), .second, .val (.int (2 : Int32)), .val (.int (bz (¬ (v5 < v39)))), .val (.int (bz (¬ (v5 < v57)))), .val (.int (0 : Int32)), .val (.int (bz (¬ (v5 < v57)))), .val (.int (bz (¬ (v5 < v39)))), .val (.int (bz (¬ (v5 < v39)))), .val (.int (1 : Int32))] [(.int (bz (¬ (v5 < v57)))), (.int (F11 v5 v3))])) _
          refine XS.icmpNo X164.here hx rfl (hb hby at_379) rfl (teq hb166).2 ?_
          refine XS.iconst X164.here hx rfl (hb hby at_382) ?_
          refine XS.goto X164.here hx rfl (pc0 := 383) (pc' := 387) rfl (hb hby at_383) (by decide) (by decide) ?_
          refine XS.istore X164.here hx rfl (hb hby at_387) rfl (l' := #[.val (.int lvx), .val (.int nx), .val (.int mx), .val (.long wx), .second, .val (.int v1), .val (.long v3), .second, .val (.long v5), .second, .val (.long v7), .second, .val (.long v13), .second, .val (.long v14), .second, .val (.long v16), .second, .val (.ref b18), .val (.long v67), .second, .val (.long v68), .second, .val (.int (2 : Int32)), .val (.int (bz (¬ (v5 < v39)))), .val (.int (bz (¬ (v5 < v57)))), .val (.int (0 : Int32)), .val (.int (bz (¬ (v5 < v57)))), .val (.int (bz (¬ (v5 < v39)))), .val (.int (bz (¬ (v5 < v39)))), .val (.int (1 : Int32))]) rfl ?_
          refine XS.aload X164.here hx rfl (hb hby at_389) rfl rfl ?_
          exact k)
        obtain ⟨cq169, kq169, q169a, q169b, q169c⟩ := isOf hZ rfl (R164.exa (i := 0) rfl)
        obtain ⟨_, _, ⟨T169, L169, k169, n169⟩, -, X169, ⟨Lc169, hQ169, l169, y169, z169⟩, st169⟩ := X164.virtualBack hx (y := (⟨"com/example/gapless_log/gaplesslog/tree/Ascent", "climb", "()V"⟩ : MethodName)) (z := (⟨"com/example/gapless_log/gaplesslog/tree/Ascent", "climb", "()V"⟩ : MethodName)) hown (mvT hZ (hw _ (List.mem_of_getElem? (i := 64) rfl))) (mvT hZ (hw _ (List.mem_of_getElem? (i := 65) rfl))) (notFace_of_selects (args := #[]) (mvT hZ (hw _ (List.mem_of_getElem? (i := 67) rfl)))) (mvT hZ (hw _ (List.mem_of_getElem? (i := 67) rfl))) (mvT hZ (hw _ (List.mem_of_getElem? (i := 66) rfl))) (by decide) (backOf (W := 0) (rm12 l Z a0 hw [] b18 _ _ T164.heap n0 _ R164 ) hZ (hw _ (List.mem_of_getElem? (i := 68) rfl)) (hw _ (List.mem_of_getElem? (i := 3) rfl)) (by decide) (by decide)) q169a q169c (g := (mkF m 391 #[.val (.int lvx), .val (.int nx), .val (.int mx), .val (.long wx), .second, .val (.int v1), .val (.long v3), .second, .val (.long v5), .second, .val (.long v7), .second, .val (.long v13), .second, .val (.long v14), .second, .val (.long v16), .second, .val (.ref b18), .val (.long v67), .second, .val (.long v68), .second, .val (.int (2 : Int32)), .val (.int (bz (¬ (v5 < v39)))), .val (.int (bz (¬ (v5 < v57)))), .val (.int (0 : Int32)), .val (.int (bz (¬ (v5 < v57)))), .val (.int (bz (¬ (v5 < v39)))), .val (.int (bz (¬ (v5 < v39)))), .val (.int (1 : Int32))] [(.ref b18)])) rfl (by rw [hml]; rfl) (Steps.refl _) (argsL := []) (rest := []) (lenOf pd__28_29V rfl) rfl (by show 2 * 0 + _ ≤ _; exact Nat.le_of_eq rfl) (hb hby at_391) (fun _ _ => ⟨rfl, rfl, (by decide : 2 + 0 ≤ _), (by decide : 4 + 0 ≤ _)⟩)
        dsimp only [Pt.U, Pt.locs, Pt.cells, Pt.slots] at X169 l169 y169 z169 st169 hQ169
        subst y169 z169
        obtain ⟨rfl, N169q, R169⟩ := hQ169
        have N169 : Fr n0 L169 := by rw [l169]; exact Fr.app N164 N169q
        replace R169 : Rep Z n0 T169.heap ((b18, Obj "com/example/gapless_log/gaplesslog/tree/Ascent" [("node", "J", (.long (cN v5 v3))), ("last", "J", (.long (cL v5 v3)))]) :: (b21, Obj "com/example/gapless_log/gaplesslog/tree/Subtree" [("start", "J", (.long v16)), ("end", "J", (.long (v16 + v7)))]) :: []) := R169
        have pre170 : ∀ t, Steps p.tables e below (T169.setTop (mkF m 394 #[.val (.int lvx), .val (.int nx), .val (.int mx), .val (.long wx), .second, .val (.int v1), .val (.long v3), .second, .val (.long v5), .second, .val (.long v7), .second, .val (.long v13), .second, .val (.long v14), .second, .val (.long v16), .second, .val (.ref b18), .val (.long v67), .second, .val (.long v68), .second, .val (.int (2 : Int32)), .val (.int (bz (¬ (v5 < v39)))), .val (.int (bz (¬ (v5 < v57)))), .val (.int (0 : Int32)), .val (.int (bz (¬ (v5 < v57)))), .val (.int (bz (¬ (v5 < v39)))), .val (.int (bz (¬ (v5 < v39)))), .val (.int (1 : Int32))] [])) t → Steps p.tables e below (s₁.setTop (entryFrame m #[(.int lvx), (.int nx), (.int mx), (.long wx)] maxLocals)) t := fun t k => pre168 t (st169.trans k)
        have pre172 : ∀ t, Steps p.tables e below (T169.setTop (mkF m 397 #[.val (.int lvx), .val (.int nx), .val (.int mx), .val (.long wx), .second, .val (.int v1), .val (.long v3), .second, .val (.long v5), .second, .val (.long v7), .second, .val (.long v13), .second, .val (.long v14), .second, .val (.long v16), .second, .val (.ref b18), .val (.long v67), .second, .val (.long v68), .second, .val (.int (2 : Int32)), .val (.int (bz (¬ (v5 < v39)))), .val (.int (bz (¬ (v5 < v57)))), .val (.int (0 : Int32)), .val (.int (bz (¬ (v5 < v57)))), .val (.int (bz (¬ (v5 < v39)))), .val (.int (bz (¬ (v5 < v39)))), .val (.int (1 : Int32))] [(.int (2 : Int32)), (.int (2 : Int32))])) t → Steps p.tables e below (s₁.setTop (entryFrame m #[(.int lvx), (.int nx), (.int mx), (.long wx)] maxLocals)) t := fun t k => pre170 t (by
          show Steps p.tables e below (T169.setTop (mkF m 394 #[.val (.int lvx), .val (.int nx), .val (.int mx), .val (.long wx), .second, .val (.int v1), .val (.long v3), .second, .val (.long v5), .second, .val (.long v7), .second, .val (.long v13), .second, .val (.long v14), .second, .val (.long v16), .second, .val (.ref b18), .val (.long v67), .second, .val (.long v68), .second, .val (.int (2 : Int32)), .val (.int (bz (¬ (v5 < v39)))), .val (.int (bz (¬ (v5 < v57)))), .val (.int (0 : Int32)), .val (.int (bz (¬ (v5 < v57)))), .val (.int (bz (¬ (v5 < v39)))), .val (.int (bz (¬ (v5 < v39)))), .val (.int (1 : Int32))] [])) _
          refine XS.iload X169.here hx rfl (hb hby at_394) rfl ?_
          refine XS.iconst X169.here hx rfl (hb hby at_396) ?_
          exact k)
        have hb171 : ¬ ((2 : Int32) < (2 : Int32)) := (by decide)
        have pre174 : ∀ t, Steps p.tables e below (T169.setTop (mkF m 402 #[.val (.int lvx), .val (.int nx), .val (.int mx), .val (.long wx), .second, .val (.int v1), .val (.long v3), .second, .val (.long v5), .second, .val (.long v7), .second, .val (.long v13), .second, .val (.long v14), .second, .val (.long v16), .second, .val (.ref b18), .val (.long v67), .second, .val (.long v68), .second, .val (.int (2 : Int32)), .val (.int (bz (¬ (v5 < v39)))), .val (.int (bz (¬ (v5 < v57)))), .val (.int (0 : Int32)), .val (.int (bz (¬ (v5 < v57)))), .val (.int (bz (¬ (v5 < v39)))), .val (.int (bz (¬ (v5 < v39)))), .val (.int (1 : Int32))] [(.int (1 : Int32))])) t → Steps p.tables e below (s₁.setTop (entryFrame m #[(.int lvx), (.int nx), (.int mx), (.long wx)] maxLocals)) t := fun t k => pre172 t (by
          show Steps p.tables e below (T169.setTop (mkF m 397 #[.val (.int lvx), .val (.int nx), .val (.int mx), .val (.long wx), .second, .val (.int v1), .val (.long v3), .second, .val (.long v5), .second, .val (.long v7), .second, .val (.long v13), .second, .val (.long v14), .second, .val (.long v16), .second, .val (.ref b18), .val (.long v67), .second, .val (.long v68), .second, .val (.int (2 : Int32)), .val (.int (bz (¬ (v5 < v39)))), .val (.int (bz (¬ (v5 < v57)))), .val (.int (0 : Int32)), .val (.int (bz (¬ (v5 < v57)))), .val (.int (bz (¬ (v5 < v39)))), .val (.int (bz (¬ (v5 < v39)))), .val (.int (1 : Int32))] [(.int (2 : Int32)), (.int (2 : Int32))])) _
          refine XS.icmpNo X169.here hx rfl (hb hby at_397) rfl (flt hb171).1 ?_
          refine XS.iload X169.here hx rfl (hb hby at_400) rfl ?_
          exact k)
        have hb173 : ¬ ((1 : Int32) = (0 : Int32)) := (by decide)
        have pre175 : ∀ t, Steps p.tables e below (T169.setTop (mkF m 407 #[.val (.int lvx), .val (.int nx), .val (.int mx), .val (.long wx), .second, .val (.int v1), .val (.long v3), .second, .val (.long v5), .second, .val (.long v7), .second, .val (.long v13), .second, .val (.long v14), .second, .val (.long v16), .second, .val (.ref b18), .val (.long v67), .second, .val (.long v68), .second, .val (.int (2 : Int32)), .val (.int (bz (¬ (v5 < v39)))), .val (.int (bz (¬ (v5 < v57)))), .val (.int (0 : Int32)), .val (.int (bz (¬ (v5 < v57)))), .val (.int (bz (¬ (v5 < v39)))), .val (.int (bz (¬ (v5 < v39)))), .val (.int (1 : Int32))] [(.ref b18)])) t → Steps p.tables e below (s₁.setTop (entryFrame m #[(.int lvx), (.int nx), (.int mx), (.long wx)] maxLocals)) t := fun t k => pre174 t (by
          show Steps p.tables e below (T169.setTop (mkF m 402 #[.val (.int lvx), .val (.int nx), .val (.int mx), .val (.long wx), .second, .val (.int v1), .val (.long v3), .second, .val (.long v5), .second, .val (.long v7), .second, .val (.long v13), .second, .val (.long v14), .second, .val (.long v16), .second, .val (.ref b18), .val (.long v67), .second, .val (.long v68), .second, .val (.int (2 : Int32)), .val (.int (bz (¬ (v5 < v39)))), .val (.int (bz (¬ (v5 < v57)))), .val (.int (0 : Int32)), .val (.int (bz (¬ (v5 < v57)))), .val (.int (bz (¬ (v5 < v39)))), .val (.int (bz (¬ (v5 < v39)))), .val (.int (1 : Int32))] [(.int (1 : Int32))])) _
          refine XS.ifNo X169.here hx rfl (hb hby at_402) rfl ((if0 _ _).trans (feq hb173).1) ?_
          refine XS.aload X169.here hx rfl (hb hby at_405) rfl rfl ?_
          exact k)
        obtain ⟨cq176, kq176, q176a, q176b, q176c⟩ := isOf hZ rfl (R169.exa (i := 0) rfl)
        obtain ⟨_, _, ⟨T176, L176, k176, n176⟩, -, X176, ⟨Lc176, hQ176, l176, y176, z176⟩, st176⟩ := X169.virtualBack hx (y := (⟨"com/example/gapless_log/gaplesslog/tree/Ascent", "atRoot", "()Z"⟩ : MethodName)) (z := (⟨"com/example/gapless_log/gaplesslog/tree/Ascent", "atRoot", "()Z"⟩ : MethodName)) hown (mvT hZ (hw _ (List.mem_of_getElem? (i := 54) rfl))) (mvT hZ (hw _ (List.mem_of_getElem? (i := 55) rfl))) (notFace_of_selects (args := #[]) (mvT hZ (hw _ (List.mem_of_getElem? (i := 57) rfl)))) (mvT hZ (hw _ (List.mem_of_getElem? (i := 57) rfl))) (mvT hZ (hw _ (List.mem_of_getElem? (i := 56) rfl))) (by decide) (backOf (W := 0) (rm10 l Z a0 hw [] b18 _ _ T169.heap n0 _ R169 ) hZ (hw _ (List.mem_of_getElem? (i := 58) rfl)) (hw _ (List.mem_of_getElem? (i := 3) rfl)) (by decide) (by decide)) q176a q176c (g := (mkF m 407 #[.val (.int lvx), .val (.int nx), .val (.int mx), .val (.long wx), .second, .val (.int v1), .val (.long v3), .second, .val (.long v5), .second, .val (.long v7), .second, .val (.long v13), .second, .val (.long v14), .second, .val (.long v16), .second, .val (.ref b18), .val (.long v67), .second, .val (.long v68), .second, .val (.int (2 : Int32)), .val (.int (bz (¬ (v5 < v39)))), .val (.int (bz (¬ (v5 < v57)))), .val (.int (0 : Int32)), .val (.int (bz (¬ (v5 < v57)))), .val (.int (bz (¬ (v5 < v39)))), .val (.int (bz (¬ (v5 < v39)))), .val (.int (1 : Int32))] [(.ref b18)])) rfl (by rw [hml]; rfl) (Steps.refl _) (argsL := []) (rest := []) (lenOf pd__28_29Z rfl) rfl (by show 2 * 0 + _ ≤ _; exact Nat.le_of_eq rfl) (hb hby at_407) (fun _ _ => ⟨rfl, rfl, (by decide : 2 + 0 ≤ _), (by decide : 4 + 0 ≤ _)⟩)
        dsimp only [Pt.U, Pt.locs, Pt.cells, Pt.slots] at X176 l176 y176 z176 st176 hQ176
        subst y176 z176
        obtain ⟨rfl, N176q, R176⟩ := hQ176
        have N176 : Fr n0 L176 := by rw [l176]; exact Fr.app N169 N176q
        replace R176 : Rep Z n0 T176.heap ((b18, Obj "com/example/gapless_log/gaplesslog/tree/Ascent" [("node", "J", (.long (cN v5 v3))), ("last", "J", (.long (cL v5 v3)))]) :: (b21, Obj "com/example/gapless_log/gaplesslog/tree/Subtree" [("start", "J", (.long v16)), ("end", "J", (.long (v16 + v7)))]) :: []) := R176
        have pre177 : ∀ t, Steps p.tables e below (T176.setTop (mkF m 410 #[.val (.int lvx), .val (.int nx), .val (.int mx), .val (.long wx), .second, .val (.int v1), .val (.long v3), .second, .val (.long v5), .second, .val (.long v7), .second, .val (.long v13), .second, .val (.long v14), .second, .val (.long v16), .second, .val (.ref b18), .val (.long v67), .second, .val (.long v68), .second, .val (.int (2 : Int32)), .val (.int (bz (¬ (v5 < v39)))), .val (.int (bz (¬ (v5 < v57)))), .val (.int (0 : Int32)), .val (.int (bz (¬ (v5 < v57)))), .val (.int (bz (¬ (v5 < v39)))), .val (.int (bz (¬ (v5 < v39)))), .val (.int (1 : Int32))] [(.int (F10 (cL v5 v3)))])) t → Steps p.tables e below (s₁.setTop (entryFrame m #[(.int lvx), (.int nx), (.int mx), (.long wx)] maxLocals)) t := fun t k => pre175 t (st176.trans k)
        have hb178 : (F10 (cL v5 v3)) = (0 : Int32) := own_a18 hle em en hv31 hv39 hv49 hv50 hv57 hv67 hv68 hb34 hb52 hb70
        have pre179 : ∀ t, Steps p.tables e below (T176.setTop (mkF m 415 #[.val (.int lvx), .val (.int nx), .val (.int mx), .val (.long wx), .second, .val (.int v1), .val (.long v3), .second, .val (.long v5), .second, .val (.long v7), .second, .val (.long v13), .second, .val (.long v14), .second, .val (.long v16), .second, .val (.ref b18), .val (.long v67), .second, .val (.long v68), .second, .val (.int (2 : Int32)), .val (.int (bz (¬ (v5 < v39)))), .val (.int (bz (¬ (v5 < v57)))), .val (.int (0 : Int32)), .val (.int (bz (¬ (v5 < v57)))), .val (.int (bz (¬ (v5 < v39)))), .val (.int (bz (¬ (v5 < v39)))), .val (.int (1 : Int32))] [(.ref b18)])) t → Steps p.tables e below (s₁.setTop (entryFrame m #[(.int lvx), (.int nx), (.int mx), (.long wx)] maxLocals)) t := fun t k => pre177 t (by
          show Steps p.tables e below (T176.setTop (mkF m 410 #[.val (.int lvx), .val (.int nx), .val (.int mx), .val (.long wx), .second, .val (.int v1), .val (.long v3), .second, .val (.long v5), .second, .val (.long v7), .second, .val (.long v13), .second, .val (.long v14), .second, .val (.long v16), .second, .val (.ref b18), .val (.long v67), .second, .val (.long v68), .second, .val (.int (2 : Int32)), .val (.int (bz (¬ (v5 < v39)))), .val (.int (bz (¬ (v5 < v57)))), .val (.int (0 : Int32)), .val (.int (bz (¬ (v5 < v57)))), .val (.int (bz (¬ (v5 < v39)))), .val (.int (bz (¬ (v5 < v39)))), .val (.int (1 : Int32))] [(.int (F10 (cL v5 v3)))])) _
          refine XS.ifNo X176.here hx rfl (hb hby at_410) rfl ((if0 _ _).trans (teq hb178).2) ?_
          refine XS.aload X176.here hx rfl (hb hby at_413) rfl rfl ?_
          exact k)
        obtain ⟨cq180, kq180, q180a, q180b, q180c⟩ := isOf hZ rfl (R176.exa (i := 0) rfl)
        obtain ⟨_, _, ⟨T180, L180, k180, n180⟩, -, X180, ⟨Lc180, hQ180, l180, y180, z180⟩, st180⟩ := X176.virtualBack hx (y := (⟨"com/example/gapless_log/gaplesslog/tree/Ascent", "siblingOnLeft", "()Z"⟩ : MethodName)) (z := (⟨"com/example/gapless_log/gaplesslog/tree/Ascent", "siblingOnLeft", "()Z"⟩ : MethodName)) hown (mvT hZ (hw _ (List.mem_of_getElem? (i := 59) rfl))) (mvT hZ (hw _ (List.mem_of_getElem? (i := 60) rfl))) (notFace_of_selects (args := #[]) (mvT hZ (hw _ (List.mem_of_getElem? (i := 62) rfl)))) (mvT hZ (hw _ (List.mem_of_getElem? (i := 62) rfl))) (mvT hZ (hw _ (List.mem_of_getElem? (i := 61) rfl))) (by decide) (backOf (W := 0) (rm11 l Z a0 hw [] b18 _ _ T176.heap n0 _ R176 ) hZ (hw _ (List.mem_of_getElem? (i := 63) rfl)) (hw _ (List.mem_of_getElem? (i := 3) rfl)) (by decide) (by decide)) q180a q180c (g := (mkF m 415 #[.val (.int lvx), .val (.int nx), .val (.int mx), .val (.long wx), .second, .val (.int v1), .val (.long v3), .second, .val (.long v5), .second, .val (.long v7), .second, .val (.long v13), .second, .val (.long v14), .second, .val (.long v16), .second, .val (.ref b18), .val (.long v67), .second, .val (.long v68), .second, .val (.int (2 : Int32)), .val (.int (bz (¬ (v5 < v39)))), .val (.int (bz (¬ (v5 < v57)))), .val (.int (0 : Int32)), .val (.int (bz (¬ (v5 < v57)))), .val (.int (bz (¬ (v5 < v39)))), .val (.int (bz (¬ (v5 < v39)))), .val (.int (1 : Int32))] [(.ref b18)])) rfl (by rw [hml]; rfl) (Steps.refl _) (argsL := []) (rest := []) (lenOf pd__28_29Z rfl) rfl (by show 2 * 0 + _ ≤ _; exact Nat.le_of_eq rfl) (hb hby at_415) (fun _ _ => ⟨rfl, rfl, (by decide : 2 + 0 ≤ _), (by decide : 4 + 0 ≤ _)⟩)
        dsimp only [Pt.U, Pt.locs, Pt.cells, Pt.slots] at X180 l180 y180 z180 st180 hQ180
        subst y180 z180
        obtain ⟨rfl, N180q, R180⟩ := hQ180
        have N180 : Fr n0 L180 := by rw [l180]; exact Fr.app N176 N180q
        replace R180 : Rep Z n0 T180.heap ((b18, Obj "com/example/gapless_log/gaplesslog/tree/Ascent" [("node", "J", (.long (cN v5 v3))), ("last", "J", (.long (cL v5 v3)))]) :: (b21, Obj "com/example/gapless_log/gaplesslog/tree/Subtree" [("start", "J", (.long v16)), ("end", "J", (.long (v16 + v7)))]) :: []) := R180
        have pre181 : ∀ t, Steps p.tables e below (T180.setTop (mkF m 418 #[.val (.int lvx), .val (.int nx), .val (.int mx), .val (.long wx), .second, .val (.int v1), .val (.long v3), .second, .val (.long v5), .second, .val (.long v7), .second, .val (.long v13), .second, .val (.long v14), .second, .val (.long v16), .second, .val (.ref b18), .val (.long v67), .second, .val (.long v68), .second, .val (.int (2 : Int32)), .val (.int (bz (¬ (v5 < v39)))), .val (.int (bz (¬ (v5 < v57)))), .val (.int (0 : Int32)), .val (.int (bz (¬ (v5 < v57)))), .val (.int (bz (¬ (v5 < v39)))), .val (.int (bz (¬ (v5 < v39)))), .val (.int (1 : Int32))] [(.int (F11 (cN v5 v3) (cL v5 v3)))])) t → Steps p.tables e below (s₁.setTop (entryFrame m #[(.int lvx), (.int nx), (.int mx), (.long wx)] maxLocals)) t := fun t k => pre179 t (st180.trans k)
        have pre183 : ∀ t, Steps p.tables e below (T180.setTop (mkF m 420 #[.val (.int lvx), .val (.int nx), .val (.int mx), .val (.long wx), .second, .val (.int v1), .val (.long v3), .second, .val (.long v5), .second, .val (.long v7), .second, .val (.long v13), .second, .val (.long v14), .second, .val (.long v16), .second, .val (.ref b18), .val (.long v67), .second, .val (.long v68), .second, .val (.int (2 : Int32)), .val (.int (bz (¬ (v5 < v39)))), .val (.int (bz (¬ (v5 < v57)))), .val (.int (0 : Int32)), .val (.int (bz (¬ (v5 < v57)))), .val (.int (bz (¬ (v5 < v39)))), .val (.int (bz (¬ (v5 < v39)))), .val (.int (1 : Int32))] [(.int (bz (¬ (v5 < v39)))), (.int (F11 (cN v5 v3) (cL v5 v3)))])) t → Steps p.tables e below (s₁.setTop (entryFrame m #[(.int lvx), (.int nx), (.int mx), (.long wx)] maxLocals)) t := fun t k => pre181 t (by
          show Steps p.tables e below (T180.setTop (mkF m 418 #[.val (.int lvx), .val (.int nx), .val (.int mx), .val (.long wx), .second, .val (.int v1), .val (.long v3), .second, .val (.long v5), .second, .val (.long v7), .second, .val (.long v13), .second, .val (.long v14), .second, .val (.long v16), .second, .val (.ref b18), .val (.long v67), .second, .val (.long v68), .second, .val (.int (2 : Int32)), .val (.int (bz (¬ (v5 < v39)))), .val (.int (bz (¬ (v5 < v57)))), .val (.int (0 : Int32)), .val (.int (bz (¬ (v5 < v57)))), .val (.int (bz (¬ (v5 < v39)))), .val (.int (bz (¬ (v5 < v39)))), .val (.int (1 : Int32))] [(.int (F11 (cN v5 v3) (cL v5 v3)))])) _
          refine XS.iload X180.here hx rfl (hb hby at_418) rfl ?_
          exact k)
        have hb182 : (F11 (cN v5 v3) (cL v5 v3)) = (bz (¬ (v5 < v39))) := own_a20 hle em en hv31 hv39 hv49 hv50 hv57 hv67 hv68 hb34 hb52 hb70
        have pre184 : ∀ t, Steps p.tables e below (T180.setTop (mkF m 432 #[.val (.int lvx), .val (.int nx), .val (.int mx), .val (.long wx), .second, .val (.int v1), .val (.long v3), .second, .val (.long v5), .second, .val (.long v7), .second, .val (.long v13), .second, .val (.long v14), .second, .val (.long v16), .second, .val (.ref b18), .val (.long v67), .second, .val (.long v68), .second, .val (.int (2 : Int32)), .val (.int (bz (¬ (v5 < v39)))), .val (.int (bz (¬ (v5 < v57)))), .val (.int (0 : Int32)), .val (.int (bz (¬ (v5 < v57)))), .val (.int (bz (¬ (v5 < v39)))), .val (.int (bz (¬ (v5 < v39)))), .val (.int (1 : Int32))] [(.ref b18)])) t → Steps p.tables e below (s₁.setTop (entryFrame m #[(.int lvx), (.int nx), (.int mx), (.long wx)] maxLocals)) t := fun t k => pre183 t (by
          show Steps p.tables e below (T180.setTop (mkF m 420 #[.val (.int lvx), .val (.int nx), .val (.int mx), .val (.long wx), .second, .val (.int v1), .val (.long v3), .second, .val (.long v5), .second, .val (.long v7), .second, .val (.long v13), .second, .val (.long v14), .second, .val (.long v16), .second, .val (.ref b18), .val (.long v67), .second, .val (.long v68), .second, .val (.int (2 : Int32)), .val (.int (bz (¬ (v5 < v39)))), .val (.int (bz (¬ (v5 < v57)))), .val (.int (0 : Int32)), .val (.int (bz (¬ (v5 < v57)))), .val (.int (bz (¬ (v5 < v39)))), .val (.int (bz (¬ (v5 < v39)))), .val (.int (1 : Int32))] [(.int (bz (¬ (v5 < v39)))), (.int (F11 (cN v5 v3) (cL v5 v3)))])) _
          refine XS.icmpNo X180.here hx rfl (hb hby at_420) rfl (teq hb182).2 ?_
          refine XS.iconst X180.here hx rfl (hb hby at_423) ?_
          refine XS.goto X180.here hx rfl (pc0 := 424) (pc' := 428) rfl (hb hby at_424) (by decide) (by decide) ?_
          refine XS.istore X180.here hx rfl (hb hby at_428) rfl (l' := #[.val (.int lvx), .val (.int nx), .val (.int mx), .val (.long wx), .second, .val (.int v1), .val (.long v3), .second, .val (.long v5), .second, .val (.long v7), .second, .val (.long v13), .second, .val (.long v14), .second, .val (.long v16), .second, .val (.ref b18), .val (.long v67), .second, .val (.long v68), .second, .val (.int (2 : Int32)), .val (.int (bz (¬ (v5 < v39)))), .val (.int (bz (¬ (v5 < v57)))), .val (.int (0 : Int32)), .val (.int (bz (¬ (v5 < v57)))), .val (.int (bz (¬ (v5 < v39)))), .val (.int (bz (¬ (v5 < v39)))), .val (.int (1 : Int32))]) rfl ?_
          refine XS.aload X180.here hx rfl (hb hby at_430) rfl rfl ?_
          exact k)
        obtain ⟨cq185, kq185, q185a, q185b, q185c⟩ := isOf hZ rfl (R180.exa (i := 0) rfl)
        obtain ⟨_, _, ⟨T185, L185, k185, n185⟩, -, X185, ⟨Lc185, hQ185, l185, y185, z185⟩, st185⟩ := X180.virtualBack hx (y := (⟨"com/example/gapless_log/gaplesslog/tree/Ascent", "climb", "()V"⟩ : MethodName)) (z := (⟨"com/example/gapless_log/gaplesslog/tree/Ascent", "climb", "()V"⟩ : MethodName)) hown (mvT hZ (hw _ (List.mem_of_getElem? (i := 64) rfl))) (mvT hZ (hw _ (List.mem_of_getElem? (i := 65) rfl))) (notFace_of_selects (args := #[]) (mvT hZ (hw _ (List.mem_of_getElem? (i := 67) rfl)))) (mvT hZ (hw _ (List.mem_of_getElem? (i := 67) rfl))) (mvT hZ (hw _ (List.mem_of_getElem? (i := 66) rfl))) (by decide) (backOf (W := 0) (rm12 l Z a0 hw [] b18 _ _ T180.heap n0 _ R180 ) hZ (hw _ (List.mem_of_getElem? (i := 68) rfl)) (hw _ (List.mem_of_getElem? (i := 3) rfl)) (by decide) (by decide)) q185a q185c (g := (mkF m 432 #[.val (.int lvx), .val (.int nx), .val (.int mx), .val (.long wx), .second, .val (.int v1), .val (.long v3), .second, .val (.long v5), .second, .val (.long v7), .second, .val (.long v13), .second, .val (.long v14), .second, .val (.long v16), .second, .val (.ref b18), .val (.long v67), .second, .val (.long v68), .second, .val (.int (2 : Int32)), .val (.int (bz (¬ (v5 < v39)))), .val (.int (bz (¬ (v5 < v57)))), .val (.int (0 : Int32)), .val (.int (bz (¬ (v5 < v57)))), .val (.int (bz (¬ (v5 < v39)))), .val (.int (bz (¬ (v5 < v39)))), .val (.int (1 : Int32))] [(.ref b18)])) rfl (by rw [hml]; rfl) (Steps.refl _) (argsL := []) (rest := []) (lenOf pd__28_29V rfl) rfl (by show 2 * 0 + _ ≤ _; exact Nat.le_of_eq rfl) (hb hby at_432) (fun _ _ => ⟨rfl, rfl, (by decide : 2 + 0 ≤ _), (by decide : 4 + 0 ≤ _)⟩)
        dsimp only [Pt.U, Pt.locs, Pt.cells, Pt.slots] at X185 l185 y185 z185 st185 hQ185
        subst y185 z185
        obtain ⟨rfl, N185q, R185⟩ := hQ185
        have N185 : Fr n0 L185 := by rw [l185]; exact Fr.app N180 N185q
        replace R185 : Rep Z n0 T185.heap ((b18, Obj "com/example/gapless_log/gaplesslog/tree/Ascent" [("node", "J", (.long (cN (cN v5 v3) (cL v5 v3)))), ("last", "J", (.long (cL (cN v5 v3) (cL v5 v3))))]) :: (b21, Obj "com/example/gapless_log/gaplesslog/tree/Subtree" [("start", "J", (.long v16)), ("end", "J", (.long (v16 + v7)))]) :: []) := R185
        have pre186 : ∀ t, Steps p.tables e below (T185.setTop (mkF m 435 #[.val (.int lvx), .val (.int nx), .val (.int mx), .val (.long wx), .second, .val (.int v1), .val (.long v3), .second, .val (.long v5), .second, .val (.long v7), .second, .val (.long v13), .second, .val (.long v14), .second, .val (.long v16), .second, .val (.ref b18), .val (.long v67), .second, .val (.long v68), .second, .val (.int (2 : Int32)), .val (.int (bz (¬ (v5 < v39)))), .val (.int (bz (¬ (v5 < v57)))), .val (.int (0 : Int32)), .val (.int (bz (¬ (v5 < v57)))), .val (.int (bz (¬ (v5 < v39)))), .val (.int (bz (¬ (v5 < v39)))), .val (.int (1 : Int32))] [])) t → Steps p.tables e below (s₁.setTop (entryFrame m #[(.int lvx), (.int nx), (.int mx), (.long wx)] maxLocals)) t := fun t k => pre184 t (st185.trans k)
        have pre188 : ∀ t, Steps p.tables e below (T185.setTop (mkF m 438 #[.val (.int lvx), .val (.int nx), .val (.int mx), .val (.long wx), .second, .val (.int v1), .val (.long v3), .second, .val (.long v5), .second, .val (.long v7), .second, .val (.long v13), .second, .val (.long v14), .second, .val (.long v16), .second, .val (.ref b18), .val (.long v67), .second, .val (.long v68), .second, .val (.int (2 : Int32)), .val (.int (bz (¬ (v5 < v39)))), .val (.int (bz (¬ (v5 < v57)))), .val (.int (0 : Int32)), .val (.int (bz (¬ (v5 < v57)))), .val (.int (bz (¬ (v5 < v39)))), .val (.int (bz (¬ (v5 < v39)))), .val (.int (1 : Int32))] [(.int (3 : Int32)), (.int (2 : Int32))])) t → Steps p.tables e below (s₁.setTop (entryFrame m #[(.int lvx), (.int nx), (.int mx), (.long wx)] maxLocals)) t := fun t k => pre186 t (by
          show Steps p.tables e below (T185.setTop (mkF m 435 #[.val (.int lvx), .val (.int nx), .val (.int mx), .val (.long wx), .second, .val (.int v1), .val (.long v3), .second, .val (.long v5), .second, .val (.long v7), .second, .val (.long v13), .second, .val (.long v14), .second, .val (.long v16), .second, .val (.ref b18), .val (.long v67), .second, .val (.long v68), .second, .val (.int (2 : Int32)), .val (.int (bz (¬ (v5 < v39)))), .val (.int (bz (¬ (v5 < v57)))), .val (.int (0 : Int32)), .val (.int (bz (¬ (v5 < v57)))), .val (.int (bz (¬ (v5 < v39)))), .val (.int (bz (¬ (v5 < v39)))), .val (.int (1 : Int32))] [])) _
          refine XS.iload X185.here hx rfl (hb hby at_435) rfl ?_
          refine XS.iconst X185.here hx rfl (hb hby at_437) ?_
          exact k)
        have hb187 : (2 : Int32) < (3 : Int32) := (by decide)
        have pre190 : ∀ t, Steps p.tables e below (T185.setTop (mkF m 478 #[.val (.int lvx), .val (.int nx), .val (.int mx), .val (.long wx), .second, .val (.int v1), .val (.long v3), .second, .val (.long v5), .second, .val (.long v7), .second, .val (.long v13), .second, .val (.long v14), .second, .val (.long v16), .second, .val (.ref b18), .val (.long v67), .second, .val (.long v68), .second, .val (.int (2 : Int32)), .val (.int (bz (¬ (v5 < v39)))), .val (.int (bz (¬ (v5 < v57)))), .val (.int (0 : Int32)), .val (.int (bz (¬ (v5 < v57)))), .val (.int (bz (¬ (v5 < v39)))), .val (.int (bz (¬ (v5 < v39)))), .val (.int (1 : Int32))] [(.int (1 : Int32))])) t → Steps p.tables e below (s₁.setTop (entryFrame m #[(.int lvx), (.int nx), (.int mx), (.long wx)] maxLocals)) t := fun t k => pre188 t (by
          show Steps p.tables e below (T185.setTop (mkF m 438 #[.val (.int lvx), .val (.int nx), .val (.int mx), .val (.long wx), .second, .val (.int v1), .val (.long v3), .second, .val (.long v5), .second, .val (.long v7), .second, .val (.long v13), .second, .val (.long v14), .second, .val (.long v16), .second, .val (.ref b18), .val (.long v67), .second, .val (.long v68), .second, .val (.int (2 : Int32)), .val (.int (bz (¬ (v5 < v39)))), .val (.int (bz (¬ (v5 < v57)))), .val (.int (0 : Int32)), .val (.int (bz (¬ (v5 < v57)))), .val (.int (bz (¬ (v5 < v39)))), .val (.int (bz (¬ (v5 < v39)))), .val (.int (1 : Int32))] [(.int (3 : Int32)), (.int (2 : Int32))])) _
          refine XS.icmpYes X185.here hx rfl (pc0 := 438) (pc' := 476) rfl (hb hby at_438) rfl (tlt hb187).1 (by decide) (by decide) ?_
          refine XS.iload X185.here hx rfl (hb hby at_476) rfl ?_
          exact k)
        have hb189 : ¬ ((1 : Int32) = (0 : Int32)) := (by decide)
        have pre191 : ∀ t, Steps p.tables e below (T185.setTop (mkF m 483 #[.val (.int lvx), .val (.int nx), .val (.int mx), .val (.long wx), .second, .val (.int v1), .val (.long v3), .second, .val (.long v5), .second, .val (.long v7), .second, .val (.long v13), .second, .val (.long v14), .second, .val (.long v16), .second, .val (.ref b18), .val (.long v67), .second, .val (.long v68), .second, .val (.int (2 : Int32)), .val (.int (bz (¬ (v5 < v39)))), .val (.int (bz (¬ (v5 < v57)))), .val (.int (0 : Int32)), .val (.int (bz (¬ (v5 < v57)))), .val (.int (bz (¬ (v5 < v39)))), .val (.int (bz (¬ (v5 < v39)))), .val (.int (1 : Int32))] [(.ref b18)])) t → Steps p.tables e below (s₁.setTop (entryFrame m #[(.int lvx), (.int nx), (.int mx), (.long wx)] maxLocals)) t := fun t k => pre190 t (by
          show Steps p.tables e below (T185.setTop (mkF m 478 #[.val (.int lvx), .val (.int nx), .val (.int mx), .val (.long wx), .second, .val (.int v1), .val (.long v3), .second, .val (.long v5), .second, .val (.long v7), .second, .val (.long v13), .second, .val (.long v14), .second, .val (.long v16), .second, .val (.ref b18), .val (.long v67), .second, .val (.long v68), .second, .val (.int (2 : Int32)), .val (.int (bz (¬ (v5 < v39)))), .val (.int (bz (¬ (v5 < v57)))), .val (.int (0 : Int32)), .val (.int (bz (¬ (v5 < v57)))), .val (.int (bz (¬ (v5 < v39)))), .val (.int (bz (¬ (v5 < v39)))), .val (.int (1 : Int32))] [(.int (1 : Int32))])) _
          refine XS.ifNo X185.here hx rfl (hb hby at_478) rfl ((if0 _ _).trans (feq hb189).1) ?_
          refine XS.aload X185.here hx rfl (hb hby at_481) rfl rfl ?_
          exact k)
        obtain ⟨cq192, kq192, q192a, q192b, q192c⟩ := isOf hZ rfl (R185.exa (i := 0) rfl)
        obtain ⟨_, _, ⟨T192, L192, k192, n192⟩, -, X192, ⟨Lc192, hQ192, l192, y192, z192⟩, st192⟩ := X185.virtualBack hx (y := (⟨"com/example/gapless_log/gaplesslog/tree/Ascent", "atRoot", "()Z"⟩ : MethodName)) (z := (⟨"com/example/gapless_log/gaplesslog/tree/Ascent", "atRoot", "()Z"⟩ : MethodName)) hown (mvT hZ (hw _ (List.mem_of_getElem? (i := 54) rfl))) (mvT hZ (hw _ (List.mem_of_getElem? (i := 55) rfl))) (notFace_of_selects (args := #[]) (mvT hZ (hw _ (List.mem_of_getElem? (i := 57) rfl)))) (mvT hZ (hw _ (List.mem_of_getElem? (i := 57) rfl))) (mvT hZ (hw _ (List.mem_of_getElem? (i := 56) rfl))) (by decide) (backOf (W := 0) (rm10 l Z a0 hw [] b18 _ _ T185.heap n0 _ R185 ) hZ (hw _ (List.mem_of_getElem? (i := 58) rfl)) (hw _ (List.mem_of_getElem? (i := 3) rfl)) (by decide) (by decide)) q192a q192c (g := (mkF m 483 #[.val (.int lvx), .val (.int nx), .val (.int mx), .val (.long wx), .second, .val (.int v1), .val (.long v3), .second, .val (.long v5), .second, .val (.long v7), .second, .val (.long v13), .second, .val (.long v14), .second, .val (.long v16), .second, .val (.ref b18), .val (.long v67), .second, .val (.long v68), .second, .val (.int (2 : Int32)), .val (.int (bz (¬ (v5 < v39)))), .val (.int (bz (¬ (v5 < v57)))), .val (.int (0 : Int32)), .val (.int (bz (¬ (v5 < v57)))), .val (.int (bz (¬ (v5 < v39)))), .val (.int (bz (¬ (v5 < v39)))), .val (.int (1 : Int32))] [(.ref b18)])) rfl (by rw [hml]; rfl) (Steps.refl _) (argsL := []) (rest := []) (lenOf pd__28_29Z rfl) rfl (by show 2 * 0 + _ ≤ _; exact Nat.le_of_eq rfl) (hb hby at_483) (fun _ _ => ⟨rfl, rfl, (by decide : 2 + 0 ≤ _), (by decide : 4 + 0 ≤ _)⟩)
        dsimp only [Pt.U, Pt.locs, Pt.cells, Pt.slots] at X192 l192 y192 z192 st192 hQ192
        subst y192 z192
        obtain ⟨rfl, N192q, R192⟩ := hQ192
        have N192 : Fr n0 L192 := by rw [l192]; exact Fr.app N185 N192q
        replace R192 : Rep Z n0 T192.heap ((b18, Obj "com/example/gapless_log/gaplesslog/tree/Ascent" [("node", "J", (.long (cN (cN v5 v3) (cL v5 v3)))), ("last", "J", (.long (cL (cN v5 v3) (cL v5 v3))))]) :: (b21, Obj "com/example/gapless_log/gaplesslog/tree/Subtree" [("start", "J", (.long v16)), ("end", "J", (.long (v16 + v7)))]) :: []) := R192
        have pre193 : ∀ t, Steps p.tables e below (T192.setTop (mkF m 486 #[.val (.int lvx), .val (.int nx), .val (.int mx), .val (.long wx), .second, .val (.int v1), .val (.long v3), .second, .val (.long v5), .second, .val (.long v7), .second, .val (.long v13), .second, .val (.long v14), .second, .val (.long v16), .second, .val (.ref b18), .val (.long v67), .second, .val (.long v68), .second, .val (.int (2 : Int32)), .val (.int (bz (¬ (v5 < v39)))), .val (.int (bz (¬ (v5 < v57)))), .val (.int (0 : Int32)), .val (.int (bz (¬ (v5 < v57)))), .val (.int (bz (¬ (v5 < v39)))), .val (.int (bz (¬ (v5 < v39)))), .val (.int (1 : Int32))] [(.int (F10 (cL (cN v5 v3) (cL v5 v3))))])) t → Steps p.tables e below (s₁.setTop (entryFrame m #[(.int lvx), (.int nx), (.int mx), (.long wx)] maxLocals)) t := fun t k => pre191 t (st192.trans k)
        have hb194 : ¬ ((F10 (cL (cN v5 v3) (cL v5 v3))) = (0 : Int32)) := own_a22 hle em en hv31 hv39 hv49 hv50 hv57 hv67 hv68 hb34 hb52 hb70
        have pre195 : ∀ t, Steps p.tables e below (T192.setTop (mkF m 494 #[.val (.int lvx), .val (.int nx), .val (.int mx), .val (.long wx), .second, .val (.int v1), .val (.long v3), .second, .val (.long v5), .second, .val (.long v7), .second, .val (.long v13), .second, .val (.long v14), .second, .val (.long v16), .second, .val (.ref b18), .val (.long v67), .second, .val (.long v68), .second, .val (.int (2 : Int32)), .val (.int (bz (¬ (v5 < v39)))), .val (.int (bz (¬ (v5 < v57)))), .val (.int (0 : Int32)), .val (.int (bz (¬ (v5 < v57)))), .val (.int (bz (¬ (v5 < v39)))), .val (.int (bz (¬ (v5 < v39)))), .val (.int (1 : Int32))] [(.int (1 : Int32))])) t → Steps p.tables e below (s₁.setTop (entryFrame m #[(.int lvx), (.int nx), (.int mx), (.long wx)] maxLocals)) t := fun t k => pre193 t (by
          show Steps p.tables e below (T192.setTop (mkF m 486 #[.val (.int lvx), .val (.int nx), .val (.int mx), .val (.long wx), .second, .val (.int v1), .val (.long v3), .second, .val (.long v5), .second, .val (.long v7), .second, .val (.long v13), .second, .val (.long v14), .second, .val (.long v16), .second, .val (.ref b18), .val (.long v67), .second, .val (.long v68), .second, .val (.int (2 : Int32)), .val (.int (bz (¬ (v5 < v39)))), .val (.int (bz (¬ (v5 < v57)))), .val (.int (0 : Int32)), .val (.int (bz (¬ (v5 < v57)))), .val (.int (bz (¬ (v5 < v39)))), .val (.int (bz (¬ (v5 < v39)))), .val (.int (1 : Int32))] [(.int (F10 (cL (cN v5 v3) (cL v5 v3))))])) _
          refine XS.ifNo X192.here hx rfl (hb hby at_486) rfl ((if0 _ _).trans (feq hb194).1) ?_
          refine XS.iconst X192.here hx rfl (hb hby at_489) ?_
          refine XS.goto X192.here hx rfl (pc0 := 490) (pc' := 494) rfl (hb hby at_490) (by decide) (by decide) ?_
          exact k)
        obtain ⟨fs, hr, hrun, hended, hW, hsame⟩ := X192.leave (v := some (.int (nar .boolean (1 : Int32)))) (fun h => by rw [Bd.returns] at h; cases h)
        refine ⟨_, _, pre195 _ ?_, hrun, hended, _, _, rfl, ?_, ⟨_, rfl⟩, hW, hsame.mono (by decide) (by decide)⟩
        · show Steps p.tables e below (T192.setTop (mkF m 494 #[.val (.int lvx), .val (.int nx), .val (.int mx), .val (.long wx), .second, .val (.int v1), .val (.long v3), .second, .val (.long v5), .second, .val (.long v7), .second, .val (.long v13), .second, .val (.long v14), .second, .val (.long v16), .second, .val (.ref b18), .val (.long v67), .second, .val (.long v68), .second, .val (.int (2 : Int32)), .val (.int (bz (¬ (v5 < v39)))), .val (.int (bz (¬ (v5 < v57)))), .val (.int (0 : Int32)), .val (.int (bz (¬ (v5 < v57)))), .val (.int (bz (¬ (v5 < v39)))), .val (.int (bz (¬ (v5 < v39)))), .val (.int (1 : Int32))] [(.int (1 : Int32))])) _
          exact retN X192 hx (t := .boolean) Bd.returns (by simp) (hb hby at_494) hr
        · show Q0 Z lvx nx mx wx n0 [] _ T192.heap _
          have R196 : Rep Z n0 T192.heap ((b21, Obj "com/example/gapless_log/gaplesslog/tree/Subtree" [("start", "J", (.long v16)), ("end", "J", (.long (v16 + v7)))]) :: []) := (R192.front 0 rfl rfl : Rep Z n0 T192.heap ((b18, Obj "com/example/gapless_log/gaplesslog/tree/Ascent" [("node", "J", (.long (cN (cN v5 v3) (cL v5 v3)))), ("last", "J", (.long (cL (cN v5 v3) (cL v5 v3))))]) :: (b21, Obj "com/example/gapless_log/gaplesslog/tree/Subtree" [("start", "J", (.long v16)), ("end", "J", (.long (v16 + v7)))]) :: [])).tail
          have R197 : Rep Z n0 T192.heap ([]) := (R196.front 0 rfl rfl : Rep Z n0 T192.heap ((b21, Obj "com/example/gapless_log/gaplesslog/tree/Subtree" [("start", "J", (.long v16)), ("end", "J", (.long (v16 + v7)))]) :: [])).tail
          exact ⟨(by rfl), N192, R197⟩
    · have pre198 : ∀ t, Steps p.tables e below (T37.setTop (mkF m 244 #[.val (.int lvx), .val (.int nx), .val (.int mx), .val (.long wx), .second, .val (.int v1), .val (.long v3), .second, .val (.long v5), .second, .val (.long v7), .second, .val (.long v13), .second, .val (.long v14), .second, .val (.long v16), .second, .val (.ref b18), .val (.long v49), .second, .val (.long v50), .second, .val (.int (1 : Int32)), .val (.int (bz (¬ (v5 < v39)))), .val (.int (0 : Int32)), .val (.int (0 : Int32)), .val (.long v39), .second, .val (.int (bz (¬ (v5 < v39)))), .unset] [])) t → Steps p.tables e below (s₁.setTop (entryFrame m #[(.int lvx), (.int nx), (.int mx), (.long wx)] maxLocals)) t := fun t k => pre51 t (by show Steps p.tables e below (T37.setTop (mkF m 190 #[.val (.int lvx), .val (.int nx), .val (.int mx), .val (.long wx), .second, .val (.int v1), .val (.long v3), .second, .val (.long v5), .second, .val (.long v7), .second, .val (.long v13), .second, .val (.long v14), .second, .val (.long v16), .second, .val (.ref b18), .val (.long v49), .second, .val (.long v50), .second, .val (.int (1 : Int32)), .val (.int (bz (¬ (v5 < v39)))), .val (.int (0 : Int32)), .val (.int (0 : Int32)), .val (.long v39), .second, .val (.int (bz (¬ (v5 < v39)))), .unset] [(.int (XT.cmpL (v50 - v49) (1 : Int64)))])) _; refine XS.ifYes X37.here hx rfl (pc0 := 190) (pc' := 244) rfl (hb hby at_190) rfl (XT.ll_le_t hb52) (by decide) (by decide) ?_; exact k)
      have pre200 : ∀ t, Steps p.tables e below (T37.setTop (mkF m 251 #[.val (.int lvx), .val (.int nx), .val (.int mx), .val (.long wx), .second, .val (.int v1), .val (.long v3), .second, .val (.long v5), .second, .val (.long v7), .second, .val (.long v13), .second, .val (.long v14), .second, .val (.long v16), .second, .val (.ref b18), .val (.long v49), .second, .val (.long v50), .second, .val (.int (1 : Int32)), .val (.int (bz (¬ (v5 < v39)))), .val (.int (0 : Int32)), .val (.int (0 : Int32)), .val (.long v39), .second, .val (.int (bz (¬ (v5 < v39)))), .unset] [(.int (XT.cmpL (v50 - v49) (1 : Int64)))])) t → Steps p.tables e below (s₁.setTop (entryFrame m #[(.int lvx), (.int nx), (.int mx), (.long wx)] maxLocals)) t := fun t k => pre198 t (by
        show Steps p.tables e below (T37.setTop (mkF m 244 #[.val (.int lvx), .val (.int nx), .val (.int mx), .val (.long wx), .second, .val (.int v1), .val (.long v3), .second, .val (.long v5), .second, .val (.long v7), .second, .val (.long v13), .second, .val (.long v14), .second, .val (.long v16), .second, .val (.ref b18), .val (.long v49), .second, .val (.long v50), .second, .val (.int (1 : Int32)), .val (.int (bz (¬ (v5 < v39)))), .val (.int (0 : Int32)), .val (.int (0 : Int32)), .val (.long v39), .second, .val (.int (bz (¬ (v5 < v39)))), .unset] [])) _
        refine XS.lload X37.here hx rfl (hb hby at_244) rfl ?_
        refine XS.lload X37.here hx rfl (hb hby at_246) rfl ?_
        refine XS.lsub X37.here hx rfl (hb hby at_248) rfl ?_
        refine XS.lconst X37.here hx rfl (hb hby at_249) ?_
        refine XS.lcmp X37.here hx rfl (hb hby at_250) rfl ?_
        exact k)
      have hb199 : ¬ ((1 : Int64) < (v50 - v49)) := hb52
      have pre202 : ∀ t, Steps p.tables e below (T37.setTop (mkF m 308 #[.val (.int lvx), .val (.int nx), .val (.int mx), .val (.long wx), .second, .val (.int v1), .val (.long v3), .second, .val (.long v5), .second, .val (.long v7), .second, .val (.long v13), .second, .val (.long v14), .second, .val (.long v16), .second, .val (.ref b18), .val (.long v49), .second, .val (.long v50), .second, .val (.int (1 : Int32)), .val (.int (bz (¬ (v5 < v39)))), .val (.int (0 : Int32)), .val (.int (0 : Int32)), .val (.long v39), .second, .val (.int (bz (¬ (v5 < v39)))), .unset] [(.int (3 : Int32)), (.int (1 : Int32))])) t → Steps p.tables e below (s₁.setTop (entryFrame m #[(.int lvx), (.int nx), (.int mx), (.long wx)] maxLocals)) t := fun t k => pre200 t (by
        show Steps p.tables e below (T37.setTop (mkF m 251 #[.val (.int lvx), .val (.int nx), .val (.int mx), .val (.long wx), .second, .val (.int v1), .val (.long v3), .second, .val (.long v5), .second, .val (.long v7), .second, .val (.long v13), .second, .val (.long v14), .second, .val (.long v16), .second, .val (.ref b18), .val (.long v49), .second, .val (.long v50), .second, .val (.int (1 : Int32)), .val (.int (bz (¬ (v5 < v39)))), .val (.int (0 : Int32)), .val (.int (0 : Int32)), .val (.long v39), .second, .val (.int (bz (¬ (v5 < v39)))), .unset] [(.int (XT.cmpL (v50 - v49) (1 : Int64)))])) _
        refine XS.ifYes X37.here hx rfl (pc0 := 251) (pc' := 305) rfl (hb hby at_251) rfl (XT.ll_le_t hb199) (by decide) (by decide) ?_
        refine XS.iload X37.here hx rfl (hb hby at_305) rfl ?_
        refine XS.iconst X37.here hx rfl (hb hby at_307) ?_
        exact k)
      have hb201 : ¬ ((1 : Int32) = (3 : Int32)) := (by decide)
      have pre204 : ∀ t, Steps p.tables e below (T37.setTop (mkF m 319 #[.val (.int lvx), .val (.int nx), .val (.int mx), .val (.long wx), .second, .val (.int v1), .val (.long v3), .second, .val (.long v5), .second, .val (.long v7), .second, .val (.long v13), .second, .val (.long v14), .second, .val (.long v16), .second, .val (.ref b18), .val (.long v49), .second, .val (.long v50), .second, .val (.int (1 : Int32)), .val (.int (bz (¬ (v5 < v39)))), .val (.int (0 : Int32)), .val (.int (0 : Int32)), .val (.long v39), .second, .val (.int (bz (¬ (v5 < v39)))), .unset] [(.int (2 : Int32)), (.int (1 : Int32))])) t → Steps p.tables e below (s₁.setTop (entryFrame m #[(.int lvx), (.int nx), (.int mx), (.long wx)] maxLocals)) t := fun t k => pre202 t (by
        show Steps p.tables e below (T37.setTop (mkF m 308 #[.val (.int lvx), .val (.int nx), .val (.int mx), .val (.long wx), .second, .val (.int v1), .val (.long v3), .second, .val (.long v5), .second, .val (.long v7), .second, .val (.long v13), .second, .val (.long v14), .second, .val (.long v16), .second, .val (.ref b18), .val (.long v49), .second, .val (.long v50), .second, .val (.int (1 : Int32)), .val (.int (bz (¬ (v5 < v39)))), .val (.int (0 : Int32)), .val (.int (0 : Int32)), .val (.long v39), .second, .val (.int (bz (¬ (v5 < v39)))), .unset] [(.int (3 : Int32)), (.int (1 : Int32))])) _
        refine XS.icmpYes X37.here hx rfl (pc0 := 308) (pc' := 316) rfl (hb hby at_308) rfl (feq hb201).2 (by decide) (by decide) ?_
        refine XS.iload X37.here hx rfl (hb hby at_316) rfl ?_
        refine XS.iconst X37.here hx rfl (hb hby at_318) ?_
        exact k)
      have hb203 : ¬ ((1 : Int32) = (2 : Int32)) := (by decide)
      have pre206 : ∀ t, Steps p.tables e below (T37.setTop (mkF m 334 #[.val (.int lvx), .val (.int nx), .val (.int mx), .val (.long wx), .second, .val (.int v1), .val (.long v3), .second, .val (.long v5), .second, .val (.long v7), .second, .val (.long v13), .second, .val (.long v14), .second, .val (.long v16), .second, .val (.ref b18), .val (.long v49), .second, .val (.long v50), .second, .val (.int (1 : Int32)), .val (.int (bz (¬ (v5 < v39)))), .val (.int (0 : Int32)), .val (.int (0 : Int32)), .val (.int (bz (¬ (v5 < v39)))), .unset, .val (.int (bz (¬ (v5 < v39)))), .unset] [(.int (3 : Int32)), (.int (1 : Int32))])) t → Steps p.tables e below (s₁.setTop (entryFrame m #[(.int lvx), (.int nx), (.int mx), (.long wx)] maxLocals)) t := fun t k => pre204 t (by
        show Steps p.tables e below (T37.setTop (mkF m 319 #[.val (.int lvx), .val (.int nx), .val (.int mx), .val (.long wx), .second, .val (.int v1), .val (.long v3), .second, .val (.long v5), .second, .val (.long v7), .second, .val (.long v13), .second, .val (.long v14), .second, .val (.long v16), .second, .val (.ref b18), .val (.long v49), .second, .val (.long v50), .second, .val (.int (1 : Int32)), .val (.int (bz (¬ (v5 < v39)))), .val (.int (0 : Int32)), .val (.int (0 : Int32)), .val (.long v39), .second, .val (.int (bz (¬ (v5 < v39)))), .unset] [(.int (2 : Int32)), (.int (1 : Int32))])) _
        refine XS.icmpYes X37.here hx rfl (pc0 := 319) (pc' := 327) rfl (hb hby at_319) rfl (feq hb203).2 (by decide) (by decide) ?_
        refine XS.iload X37.here hx rfl (hb hby at_327) rfl ?_
        refine XS.istore X37.here hx rfl (hb hby at_329) rfl (l' := #[.val (.int lvx), .val (.int nx), .val (.int mx), .val (.long wx), .second, .val (.int v1), .val (.long v3), .second, .val (.long v5), .second, .val (.long v7), .second, .val (.long v13), .second, .val (.long v14), .second, .val (.long v16), .second, .val (.ref b18), .val (.long v49), .second, .val (.long v50), .second, .val (.int (1 : Int32)), .val (.int (bz (¬ (v5 < v39)))), .val (.int (0 : Int32)), .val (.int (0 : Int32)), .val (.int (bz (¬ (v5 < v39)))), .unset, .val (.int (bz (¬ (v5 < v39)))), .unset]) rfl ?_
        refine XS.iload X37.here hx rfl (hb hby at_331) rfl ?_
        refine XS.iconst X37.here hx rfl (hb hby at_333) ?_
        exact k)
      have hb205 : ¬ ((1 : Int32) = (3 : Int32)) := (by decide)
      have pre208 : ∀ t, Steps p.tables e below (T37.setTop (mkF m 356 #[.val (.int lvx), .val (.int nx), .val (.int mx), .val (.long wx), .second, .val (.int v1), .val (.long v3), .second, .val (.long v5), .second, .val (.long v7), .second, .val (.long v13), .second, .val (.long v14), .second, .val (.long v16), .second, .val (.ref b18), .val (.long v49), .second, .val (.long v50), .second, .val (.int (1 : Int32)), .val (.int (bz (¬ (v5 < v39)))), .val (.int (0 : Int32)), .val (.int (0 : Int32)), .val (.int (bz (¬ (v5 < v39)))), .val (.int (bz (¬ (v5 < v39)))), .val (.int (bz (¬ (v5 < v39)))), .val (.int (1 : Int32))] [(.int (1 : Int32)), (.int (1 : Int32))])) t → Steps p.tables e below (s₁.setTop (entryFrame m #[(.int lvx), (.int nx), (.int mx), (.long wx)] maxLocals)) t := fun t k => pre206 t (by
        show Steps p.tables e below (T37.setTop (mkF m 334 #[.val (.int lvx), .val (.int nx), .val (.int mx), .val (.long wx), .second, .val (.int v1), .val (.long v3), .second, .val (.long v5), .second, .val (.long v7), .second, .val (.long v13), .second, .val (.long v14), .second, .val (.long v16), .second, .val (.ref b18), .val (.long v49), .second, .val (.long v50), .second, .val (.int (1 : Int32)), .val (.int (bz (¬ (v5 < v39)))), .val (.int (0 : Int32)), .val (.int (0 : Int32)), .val (.int (bz (¬ (v5 < v39)))), .unset, .val (.int (bz (¬ (v5 < v39)))), .unset] [(.int (3 : Int32)), (.int (1 : Int32))])) _
        refine XS.icmpYes X37.here hx rfl (pc0 := 334) (pc' := 342) rfl (hb hby at_334) rfl (feq hb205).2 (by decide) (by decide) ?_
        refine XS.iload X37.here hx rfl (hb hby at_342) rfl ?_
        refine XS.istore X37.here hx rfl (hb hby at_344) rfl (l' := #[.val (.int lvx), .val (.int nx), .val (.int mx), .val (.long wx), .second, .val (.int v1), .val (.long v3), .second, .val (.long v5), .second, .val (.long v7), .second, .val (.long v13), .second, .val (.long v14), .second, .val (.long v16), .second, .val (.ref b18), .val (.long v49), .second, .val (.long v50), .second, .val (.int (1 : Int32)), .val (.int (bz (¬ (v5 < v39)))), .val (.int (0 : Int32)), .val (.int (0 : Int32)), .val (.int (bz (¬ (v5 < v39)))), .val (.int (bz (¬ (v5 < v39)))), .val (.int (bz (¬ (v5 < v39)))), .unset]) rfl ?_
        refine XS.iload X37.here hx rfl (hb hby at_346) rfl ?_
        refine XS.istore X37.here hx rfl (hb hby at_348) rfl (l' := #[.val (.int lvx), .val (.int nx), .val (.int mx), .val (.long wx), .second, .val (.int v1), .val (.long v3), .second, .val (.long v5), .second, .val (.long v7), .second, .val (.long v13), .second, .val (.long v14), .second, .val (.long v16), .second, .val (.ref b18), .val (.long v49), .second, .val (.long v50), .second, .val (.int (1 : Int32)), .val (.int (bz (¬ (v5 < v39)))), .val (.int (0 : Int32)), .val (.int (0 : Int32)), .val (.int (bz (¬ (v5 < v39)))), .val (.int (bz (¬ (v5 < v39)))), .val (.int (bz (¬ (v5 < v39)))), .unset]) rfl ?_
        refine XS.iconst X37.here hx rfl (hb hby at_350) ?_
        refine XS.istore X37.here hx rfl (hb hby at_351) rfl (l' := #[.val (.int lvx), .val (.int nx), .val (.int mx), .val (.long wx), .second, .val (.int v1), .val (.long v3), .second, .val (.long v5), .second, .val (.long v7), .second, .val (.long v13), .second, .val (.long v14), .second, .val (.long v16), .second, .val (.ref b18), .val (.long v49), .second, .val (.long v50), .second, .val (.int (1 : Int32)), .val (.int (bz (¬ (v5 < v39)))), .val (.int (0 : Int32)), .val (.int (0 : Int32)), .val (.int (bz (¬ (v5 < v39)))), .val (.int (bz (¬ (v5 < v39)))), .val (.int (bz (¬ (v5 < v39)))), .val (.int (1 : Int32))]) rfl ?_
        show Steps p.tables e below (T37.setTop (mkF m 353 #[.val (.int lvx), .val (.int nx), .val (.int mx), .val (.long wx), .second, .val (.int v1), .val (.long v3), .second, .val (.long v5), .second, .val (.long v7), .second, .val (.long v13), .second, .val (.long v14), .second, .val (.long v16), .second, .val (.ref b18), .val (.long v49), .second, .val (.long v50), .second, .val (.int (1 : Int32)), .val (.int (bz (¬ (v5 < v39)))), .val (.int (0 : Int32)), .val (.int (0 : Int32)), .val (.int (bz (¬ (v5 < v39)))), .val (.int (bz (¬ (v5 < v39)))), .val (.int (bz (¬ (v5 < v39)))), .val (.int (1 : Int32))] [])) _
        refine XS.iload X37.here hx rfl (hb hby at_353) rfl ?_
        refine XS.iconst X37.here hx rfl (hb hby at_355) ?_
        exact k)
      have hb207 : ¬ ((1 : Int32) < (1 : Int32)) := (by decide)
      have pre210 : ∀ t, Steps p.tables e below (T37.setTop (mkF m 361 #[.val (.int lvx), .val (.int nx), .val (.int mx), .val (.long wx), .second, .val (.int v1), .val (.long v3), .second, .val (.long v5), .second, .val (.long v7), .second, .val (.long v13), .second, .val (.long v14), .second, .val (.long v16), .second, .val (.ref b18), .val (.long v49), .second, .val (.long v50), .second, .val (.int (1 : Int32)), .val (.int (bz (¬ (v5 < v39)))), .val (.int (0 : Int32)), .val (.int (0 : Int32)), .val (.int (bz (¬ (v5 < v39)))), .val (.int (bz (¬ (v5 < v39)))), .val (.int (bz (¬ (v5 < v39)))), .val (.int (1 : Int32))] [(.int (1 : Int32))])) t → Steps p.tables e below (s₁.setTop (entryFrame m #[(.int lvx), (.int nx), (.int mx), (.long wx)] maxLocals)) t := fun t k => pre208 t (by
        show Steps p.tables e below (T37.setTop (mkF m 356 #[.val (.int lvx), .val (.int nx), .val (.int mx), .val (.long wx), .second, .val (.int v1), .val (.long v3), .second, .val (.long v5), .second, .val (.long v7), .second, .val (.long v13), .second, .val (.long v14), .second, .val (.long v16), .second, .val (.ref b18), .val (.long v49), .second, .val (.long v50), .second, .val (.int (1 : Int32)), .val (.int (bz (¬ (v5 < v39)))), .val (.int (0 : Int32)), .val (.int (0 : Int32)), .val (.int (bz (¬ (v5 < v39)))), .val (.int (bz (¬ (v5 < v39)))), .val (.int (bz (¬ (v5 < v39)))), .val (.int (1 : Int32))] [(.int (1 : Int32)), (.int (1 : Int32))])) _
        refine XS.icmpNo X37.here hx rfl (hb hby at_356) rfl (flt hb207).1 ?_
        refine XS.iload X37.here hx rfl (hb hby at_359) rfl ?_
        exact k)
      have hb209 : ¬ ((1 : Int32) = (0 : Int32)) := (by decide)
      have pre211 : ∀ t, Steps p.tables e below (T37.setTop (mkF m 366 #[.val (.int lvx), .val (.int nx), .val (.int mx), .val (.long wx), .second, .val (.int v1), .val (.long v3), .second, .val (.long v5), .second, .val (.long v7), .second, .val (.long v13), .second, .val (.long v14), .second, .val (.long v16), .second, .val (.ref b18), .val (.long v49), .second, .val (.long v50), .second, .val (.int (1 : Int32)), .val (.int (bz (¬ (v5 < v39)))), .val (.int (0 : Int32)), .val (.int (0 : Int32)), .val (.int (bz (¬ (v5 < v39)))), .val (.int (bz (¬ (v5 < v39)))), .val (.int (bz (¬ (v5 < v39)))), .val (.int (1 : Int32))] [(.ref b18)])) t → Steps p.tables e below (s₁.setTop (entryFrame m #[(.int lvx), (.int nx), (.int mx), (.long wx)] maxLocals)) t := fun t k => pre210 t (by
        show Steps p.tables e below (T37.setTop (mkF m 361 #[.val (.int lvx), .val (.int nx), .val (.int mx), .val (.long wx), .second, .val (.int v1), .val (.long v3), .second, .val (.long v5), .second, .val (.long v7), .second, .val (.long v13), .second, .val (.long v14), .second, .val (.long v16), .second, .val (.ref b18), .val (.long v49), .second, .val (.long v50), .second, .val (.int (1 : Int32)), .val (.int (bz (¬ (v5 < v39)))), .val (.int (0 : Int32)), .val (.int (0 : Int32)), .val (.int (bz (¬ (v5 < v39)))), .val (.int (bz (¬ (v5 < v39)))), .val (.int (bz (¬ (v5 < v39)))), .val (.int (1 : Int32))] [(.int (1 : Int32))])) _
        refine XS.ifNo X37.here hx rfl (hb hby at_361) rfl ((if0 _ _).trans (feq hb209).1) ?_
        refine XS.aload X37.here hx rfl (hb hby at_364) rfl rfl ?_
        exact k)
      obtain ⟨cq212, kq212, q212a, q212b, q212c⟩ := isOf hZ rfl (R37.exa (i := 0) rfl)
      obtain ⟨_, _, ⟨T212, L212, k212, n212⟩, -, X212, ⟨Lc212, hQ212, l212, y212, z212⟩, st212⟩ := X37.virtualBack hx (y := (⟨"com/example/gapless_log/gaplesslog/tree/Ascent", "atRoot", "()Z"⟩ : MethodName)) (z := (⟨"com/example/gapless_log/gaplesslog/tree/Ascent", "atRoot", "()Z"⟩ : MethodName)) hown (mvT hZ (hw _ (List.mem_of_getElem? (i := 54) rfl))) (mvT hZ (hw _ (List.mem_of_getElem? (i := 55) rfl))) (notFace_of_selects (args := #[]) (mvT hZ (hw _ (List.mem_of_getElem? (i := 57) rfl)))) (mvT hZ (hw _ (List.mem_of_getElem? (i := 57) rfl))) (mvT hZ (hw _ (List.mem_of_getElem? (i := 56) rfl))) (by decide) (backOf (W := 0) (rm10 l Z a0 hw [] b18 _ _ T37.heap n0 _ R37 ) hZ (hw _ (List.mem_of_getElem? (i := 58) rfl)) (hw _ (List.mem_of_getElem? (i := 3) rfl)) (by decide) (by decide)) q212a q212c (g := (mkF m 366 #[.val (.int lvx), .val (.int nx), .val (.int mx), .val (.long wx), .second, .val (.int v1), .val (.long v3), .second, .val (.long v5), .second, .val (.long v7), .second, .val (.long v13), .second, .val (.long v14), .second, .val (.long v16), .second, .val (.ref b18), .val (.long v49), .second, .val (.long v50), .second, .val (.int (1 : Int32)), .val (.int (bz (¬ (v5 < v39)))), .val (.int (0 : Int32)), .val (.int (0 : Int32)), .val (.int (bz (¬ (v5 < v39)))), .val (.int (bz (¬ (v5 < v39)))), .val (.int (bz (¬ (v5 < v39)))), .val (.int (1 : Int32))] [(.ref b18)])) rfl (by rw [hml]; rfl) (Steps.refl _) (argsL := []) (rest := []) (lenOf pd__28_29Z rfl) rfl (by show 2 * 0 + _ ≤ _; exact Nat.le_of_eq rfl) (hb hby at_366) (fun _ _ => ⟨rfl, rfl, (by decide : 2 + 0 ≤ _), (by decide : 4 + 0 ≤ _)⟩)
      dsimp only [Pt.U, Pt.locs, Pt.cells, Pt.slots] at X212 l212 y212 z212 st212 hQ212
      subst y212 z212
      obtain ⟨rfl, N212q, R212⟩ := hQ212
      have N212 : Fr n0 L212 := by rw [l212]; exact Fr.app N37 N212q
      replace R212 : Rep Z n0 T212.heap ((b18, Obj "com/example/gapless_log/gaplesslog/tree/Ascent" [("node", "J", (.long v5)), ("last", "J", (.long v3))]) :: (b21, Obj "com/example/gapless_log/gaplesslog/tree/Subtree" [("start", "J", (.long v16)), ("end", "J", (.long (v16 + v7)))]) :: []) := R212
      have pre213 : ∀ t, Steps p.tables e below (T212.setTop (mkF m 369 #[.val (.int lvx), .val (.int nx), .val (.int mx), .val (.long wx), .second, .val (.int v1), .val (.long v3), .second, .val (.long v5), .second, .val (.long v7), .second, .val (.long v13), .second, .val (.long v14), .second, .val (.long v16), .second, .val (.ref b18), .val (.long v49), .second, .val (.long v50), .second, .val (.int (1 : Int32)), .val (.int (bz (¬ (v5 < v39)))), .val (.int (0 : Int32)), .val (.int (0 : Int32)), .val (.int (bz (¬ (v5 < v39)))), .val (.int (bz (¬ (v5 < v39)))), .val (.int (bz (¬ (v5 < v39)))), .val (.int (1 : Int32))] [(.int (F10 v3))])) t → Steps p.tables e below (s₁.setTop (entryFrame m #[(.int lvx), (.int nx), (.int mx), (.long wx)] maxLocals)) t := fun t k => pre211 t (st212.trans k)
      have hb214 : (F10 v3) = (0 : Int32) := own_a24 hle em en hv31 hv39 hv49 hv50 hb34 hb52
      have pre215 : ∀ t, Steps p.tables e below (T212.setTop (mkF m 374 #[.val (.int lvx), .val (.int nx), .val (.int mx), .val (.long wx), .second, .val (.int v1), .val (.long v3), .second, .val (.long v5), .second, .val (.long v7), .second, .val (.long v13), .second, .val (.long v14), .second, .val (.long v16), .second, .val (.ref b18), .val (.long v49), .second, .val (.long v50), .second, .val (.int (1 : Int32)), .val (.int (bz (¬ (v5 < v39)))), .val (.int (0 : Int32)), .val (.int (0 : Int32)), .val (.int (bz (¬ (v5 < v39)))), .val (.int (bz (¬ (v5 < v39)))), .val (.int (bz (¬ (v5 < v39)))), .val (.int (1 : Int32))] [(.ref b18)])) t → Steps p.tables e below (s₁.setTop (entryFrame m #[(.int lvx), (.int nx), (.int mx), (.long wx)] maxLocals)) t := fun t k => pre213 t (by
        show Steps p.tables e below (T212.setTop (mkF m 369 #[.val (.int lvx), .val (.int nx), .val (.int mx), .val (.long wx), .second, .val (.int v1), .val (.long v3), .second, .val (.long v5), .second, .val (.long v7), .second, .val (.long v13), .second, .val (.long v14), .second, .val (.long v16), .second, .val (.ref b18), .val (.long v49), .second, .val (.long v50), .second, .val (.int (1 : Int32)), .val (.int (bz (¬ (v5 < v39)))), .val (.int (0 : Int32)), .val (.int (0 : Int32)), .val (.int (bz (¬ (v5 < v39)))), .val (.int (bz (¬ (v5 < v39)))), .val (.int (bz (¬ (v5 < v39)))), .val (.int (1 : Int32))] [(.int (F10 v3))])) _
        refine XS.ifNo X212.here hx rfl (hb hby at_369) rfl ((if0 _ _).trans (teq hb214).2) ?_
        refine XS.aload X212.here hx rfl (hb hby at_372) rfl rfl ?_
        exact k)
      obtain ⟨cq216, kq216, q216a, q216b, q216c⟩ := isOf hZ rfl (R212.exa (i := 0) rfl)
      obtain ⟨_, _, ⟨T216, L216, k216, n216⟩, -, X216, ⟨Lc216, hQ216, l216, y216, z216⟩, st216⟩ := X212.virtualBack hx (y := (⟨"com/example/gapless_log/gaplesslog/tree/Ascent", "siblingOnLeft", "()Z"⟩ : MethodName)) (z := (⟨"com/example/gapless_log/gaplesslog/tree/Ascent", "siblingOnLeft", "()Z"⟩ : MethodName)) hown (mvT hZ (hw _ (List.mem_of_getElem? (i := 59) rfl))) (mvT hZ (hw _ (List.mem_of_getElem? (i := 60) rfl))) (notFace_of_selects (args := #[]) (mvT hZ (hw _ (List.mem_of_getElem? (i := 62) rfl)))) (mvT hZ (hw _ (List.mem_of_getElem? (i := 62) rfl))) (mvT hZ (hw _ (List.mem_of_getElem? (i := 61) rfl))) (by decide) (backOf (W := 0) (rm11 l Z a0 hw [] b18 _ _ T212.heap n0 _ R212 ) hZ (hw _ (List.mem_of_getElem? (i := 63) rfl)) (hw _ (List.mem_of_getElem? (i := 3) rfl)) (by decide) (by decide)) q216a q216c (g := (mkF m 374 #[.val (.int lvx), .val (.int nx), .val (.int mx), .val (.long wx), .second, .val (.int v1), .val (.long v3), .second, .val (.long v5), .second, .val (.long v7), .second, .val (.long v13), .second, .val (.long v14), .second, .val (.long v16), .second, .val (.ref b18), .val (.long v49), .second, .val (.long v50), .second, .val (.int (1 : Int32)), .val (.int (bz (¬ (v5 < v39)))), .val (.int (0 : Int32)), .val (.int (0 : Int32)), .val (.int (bz (¬ (v5 < v39)))), .val (.int (bz (¬ (v5 < v39)))), .val (.int (bz (¬ (v5 < v39)))), .val (.int (1 : Int32))] [(.ref b18)])) rfl (by rw [hml]; rfl) (Steps.refl _) (argsL := []) (rest := []) (lenOf pd__28_29Z rfl) rfl (by show 2 * 0 + _ ≤ _; exact Nat.le_of_eq rfl) (hb hby at_374) (fun _ _ => ⟨rfl, rfl, (by decide : 2 + 0 ≤ _), (by decide : 4 + 0 ≤ _)⟩)
      dsimp only [Pt.U, Pt.locs, Pt.cells, Pt.slots] at X216 l216 y216 z216 st216 hQ216
      subst y216 z216
      obtain ⟨rfl, N216q, R216⟩ := hQ216
      have N216 : Fr n0 L216 := by rw [l216]; exact Fr.app N212 N216q
      replace R216 : Rep Z n0 T216.heap ((b18, Obj "com/example/gapless_log/gaplesslog/tree/Ascent" [("node", "J", (.long v5)), ("last", "J", (.long v3))]) :: (b21, Obj "com/example/gapless_log/gaplesslog/tree/Subtree" [("start", "J", (.long v16)), ("end", "J", (.long (v16 + v7)))]) :: []) := R216
      have pre217 : ∀ t, Steps p.tables e below (T216.setTop (mkF m 377 #[.val (.int lvx), .val (.int nx), .val (.int mx), .val (.long wx), .second, .val (.int v1), .val (.long v3), .second, .val (.long v5), .second, .val (.long v7), .second, .val (.long v13), .second, .val (.long v14), .second, .val (.long v16), .second, .val (.ref b18), .val (.long v49), .second, .val (.long v50), .second, .val (.int (1 : Int32)), .val (.int (bz (¬ (v5 < v39)))), .val (.int (0 : Int32)), .val (.int (0 : Int32)), .val (.int (bz (¬ (v5 < v39)))), .val (.int (bz (¬ (v5 < v39)))), .val (.int (bz (¬ (v5 < v39)))), .val (.int (1 : Int32))] [(.int (F11 v5 v3))])) t → Steps p.tables e below (s₁.setTop (entryFrame m #[(.int lvx), (.int nx), (.int mx), (.long wx)] maxLocals)) t := fun t k => pre215 t (st216.trans k)
      have pre219 : ∀ t, Steps p.tables e below (T216.setTop (mkF m 379 #[.val (.int lvx), .val (.int nx), .val (.int mx), .val (.long wx), .second, .val (.int v1), .val (.long v3), .second, .val (.long v5), .second, .val (.long v7), .second, .val (.long v13), .second, .val (.long v14), .second, .val (.long v16), .second, .val (.ref b18), .val (.long v49), .second, .val (.long v50), .second, .val (.int (1 : Int32)), .val (.int (bz (¬ (v5 < v39)))), .val (.int (0 : Int32)), .val (.int (0 : Int32)), .val (.int (bz (¬ (v5 < v39)))), .val (.int (bz (¬ (v5 < v39)))), .val (.int (bz (¬ (v5 < v39)))), .val (.int (1 : Int32))] [(.int (bz (¬ (v5 < v39)))), (.int (F11 v5 v3))])) t → Steps p.tables e below (s₁.setTop (entryFrame m #[(.int lvx), (.int nx), (.int mx), (.long wx)] maxLocals)) t := fun t k => pre217 t (by
        show Steps p.tables e below (T216.setTop (mkF m 377 #[.val (.int lvx), .val (.int nx), .val (.int mx), .val (.long wx), .second, .val (.int v1), .val (.long v3), .second, .val (.long v5), .second, .val (.long v7), .second, .val (.long v13), .second, .val (.long v14), .second, .val (.long v16), .second, .val (.ref b18), .val (.long v49), .second, .val (.long v50), .second, .val (.int (1 : Int32)), .val (.int (bz (¬ (v5 < v39)))), .val (.int (0 : Int32)), .val (.int (0 : Int32)), .val (.int (bz (¬ (v5 < v39)))), .val (.int (bz (¬ (v5 < v39)))), .val (.int (bz (¬ (v5 < v39)))), .val (.int (1 : Int32))] [(.int (F11 v5 v3))])) _
        refine XS.iload X216.here hx rfl (hb hby at_377) rfl ?_
        exact k)
      have hb218 : (F11 v5 v3) = (bz (¬ (v5 < v39))) := own_a26 hle em en hv31 hv39 hv49 hv50 hb34 hb52
      have pre220 : ∀ t, Steps p.tables e below (T216.setTop (mkF m 391 #[.val (.int lvx), .val (.int nx), .val (.int mx), .val (.long wx), .second, .val (.int v1), .val (.long v3), .second, .val (.long v5), .second, .val (.long v7), .second, .val (.long v13), .second, .val (.long v14), .second, .val (.long v16), .second, .val (.ref b18), .val (.long v49), .second, .val (.long v50), .second, .val (.int (1 : Int32)), .val (.int (bz (¬ (v5 < v39)))), .val (.int (0 : Int32)), .val (.int (0 : Int32)), .val (.int (bz (¬ (v5 < v39)))), .val (.int (bz (¬ (v5 < v39)))), .val (.int (bz (¬ (v5 < v39)))), .val (.int (1 : Int32))] [(.ref b18)])) t → Steps p.tables e below (s₁.setTop (entryFrame m #[(.int lvx), (.int nx), (.int mx), (.long wx)] maxLocals)) t := fun t k => pre219 t (by
        show Steps p.tables e below (T216.setTop (mkF m 379 #[.val (.int lvx), .val (.int nx), .val (.int mx), .val (.long wx), .second, .val (.int v1), .val (.long v3), .second, .val (.long v5), .second, .val (.long v7), .second, .val (.long v13), .second, .val (.long v14), .second, .val (.long v16), .second, .val (.ref b18), .val (.long v49), .second, .val (.long v50), .second, .val (.int (1 : Int32)), .val (.int (bz (¬ (v5 < v39)))), .val (.int (0 : Int32)), .val (.int (0 : Int32)), .val (.int (bz (¬ (v5 < v39)))), .val (.int (bz (¬ (v5 < v39)))), .val (.int (bz (¬ (v5 < v39)))), .val (.int (1 : Int32))] [(.int (bz (¬ (v5 < v39)))), (.int (F11 v5 v3))])) _
        refine XS.icmpNo X216.here hx rfl (hb hby at_379) rfl (teq hb218).2 ?_
        refine XS.iconst X216.here hx rfl (hb hby at_382) ?_
        refine XS.goto X216.here hx rfl (pc0 := 383) (pc' := 387) rfl (hb hby at_383) (by decide) (by decide) ?_
        refine XS.istore X216.here hx rfl (hb hby at_387) rfl (l' := #[.val (.int lvx), .val (.int nx), .val (.int mx), .val (.long wx), .second, .val (.int v1), .val (.long v3), .second, .val (.long v5), .second, .val (.long v7), .second, .val (.long v13), .second, .val (.long v14), .second, .val (.long v16), .second, .val (.ref b18), .val (.long v49), .second, .val (.long v50), .second, .val (.int (1 : Int32)), .val (.int (bz (¬ (v5 < v39)))), .val (.int (0 : Int32)), .val (.int (0 : Int32)), .val (.int (bz (¬ (v5 < v39)))), .val (.int (bz (¬ (v5 < v39)))), .val (.int (bz (¬ (v5 < v39)))), .val (.int (1 : Int32))]) rfl ?_
        refine XS.aload X216.here hx rfl (hb hby at_389) rfl rfl ?_
        exact k)
      obtain ⟨cq221, kq221, q221a, q221b, q221c⟩ := isOf hZ rfl (R216.exa (i := 0) rfl)
      obtain ⟨_, _, ⟨T221, L221, k221, n221⟩, -, X221, ⟨Lc221, hQ221, l221, y221, z221⟩, st221⟩ := X216.virtualBack hx (y := (⟨"com/example/gapless_log/gaplesslog/tree/Ascent", "climb", "()V"⟩ : MethodName)) (z := (⟨"com/example/gapless_log/gaplesslog/tree/Ascent", "climb", "()V"⟩ : MethodName)) hown (mvT hZ (hw _ (List.mem_of_getElem? (i := 64) rfl))) (mvT hZ (hw _ (List.mem_of_getElem? (i := 65) rfl))) (notFace_of_selects (args := #[]) (mvT hZ (hw _ (List.mem_of_getElem? (i := 67) rfl)))) (mvT hZ (hw _ (List.mem_of_getElem? (i := 67) rfl))) (mvT hZ (hw _ (List.mem_of_getElem? (i := 66) rfl))) (by decide) (backOf (W := 0) (rm12 l Z a0 hw [] b18 _ _ T216.heap n0 _ R216 ) hZ (hw _ (List.mem_of_getElem? (i := 68) rfl)) (hw _ (List.mem_of_getElem? (i := 3) rfl)) (by decide) (by decide)) q221a q221c (g := (mkF m 391 #[.val (.int lvx), .val (.int nx), .val (.int mx), .val (.long wx), .second, .val (.int v1), .val (.long v3), .second, .val (.long v5), .second, .val (.long v7), .second, .val (.long v13), .second, .val (.long v14), .second, .val (.long v16), .second, .val (.ref b18), .val (.long v49), .second, .val (.long v50), .second, .val (.int (1 : Int32)), .val (.int (bz (¬ (v5 < v39)))), .val (.int (0 : Int32)), .val (.int (0 : Int32)), .val (.int (bz (¬ (v5 < v39)))), .val (.int (bz (¬ (v5 < v39)))), .val (.int (bz (¬ (v5 < v39)))), .val (.int (1 : Int32))] [(.ref b18)])) rfl (by rw [hml]; rfl) (Steps.refl _) (argsL := []) (rest := []) (lenOf pd__28_29V rfl) rfl (by show 2 * 0 + _ ≤ _; exact Nat.le_of_eq rfl) (hb hby at_391) (fun _ _ => ⟨rfl, rfl, (by decide : 2 + 0 ≤ _), (by decide : 4 + 0 ≤ _)⟩)
      dsimp only [Pt.U, Pt.locs, Pt.cells, Pt.slots] at X221 l221 y221 z221 st221 hQ221
      subst y221 z221
      obtain ⟨rfl, N221q, R221⟩ := hQ221
      have N221 : Fr n0 L221 := by rw [l221]; exact Fr.app N216 N221q
      replace R221 : Rep Z n0 T221.heap ((b18, Obj "com/example/gapless_log/gaplesslog/tree/Ascent" [("node", "J", (.long (cN v5 v3))), ("last", "J", (.long (cL v5 v3)))]) :: (b21, Obj "com/example/gapless_log/gaplesslog/tree/Subtree" [("start", "J", (.long v16)), ("end", "J", (.long (v16 + v7)))]) :: []) := R221
      have pre222 : ∀ t, Steps p.tables e below (T221.setTop (mkF m 394 #[.val (.int lvx), .val (.int nx), .val (.int mx), .val (.long wx), .second, .val (.int v1), .val (.long v3), .second, .val (.long v5), .second, .val (.long v7), .second, .val (.long v13), .second, .val (.long v14), .second, .val (.long v16), .second, .val (.ref b18), .val (.long v49), .second, .val (.long v50), .second, .val (.int (1 : Int32)), .val (.int (bz (¬ (v5 < v39)))), .val (.int (0 : Int32)), .val (.int (0 : Int32)), .val (.int (bz (¬ (v5 < v39)))), .val (.int (bz (¬ (v5 < v39)))), .val (.int (bz (¬ (v5 < v39)))), .val (.int (1 : Int32))] [])) t → Steps p.tables e below (s₁.setTop (entryFrame m #[(.int lvx), (.int nx), (.int mx), (.long wx)] maxLocals)) t := fun t k => pre220 t (st221.trans k)
      have pre224 : ∀ t, Steps p.tables e below (T221.setTop (mkF m 397 #[.val (.int lvx), .val (.int nx), .val (.int mx), .val (.long wx), .second, .val (.int v1), .val (.long v3), .second, .val (.long v5), .second, .val (.long v7), .second, .val (.long v13), .second, .val (.long v14), .second, .val (.long v16), .second, .val (.ref b18), .val (.long v49), .second, .val (.long v50), .second, .val (.int (1 : Int32)), .val (.int (bz (¬ (v5 < v39)))), .val (.int (0 : Int32)), .val (.int (0 : Int32)), .val (.int (bz (¬ (v5 < v39)))), .val (.int (bz (¬ (v5 < v39)))), .val (.int (bz (¬ (v5 < v39)))), .val (.int (1 : Int32))] [(.int (2 : Int32)), (.int (1 : Int32))])) t → Steps p.tables e below (s₁.setTop (entryFrame m #[(.int lvx), (.int nx), (.int mx), (.long wx)] maxLocals)) t := fun t k => pre222 t (by
        show Steps p.tables e below (T221.setTop (mkF m 394 #[.val (.int lvx), .val (.int nx), .val (.int mx), .val (.long wx), .second, .val (.int v1), .val (.long v3), .second, .val (.long v5), .second, .val (.long v7), .second, .val (.long v13), .second, .val (.long v14), .second, .val (.long v16), .second, .val (.ref b18), .val (.long v49), .second, .val (.long v50), .second, .val (.int (1 : Int32)), .val (.int (bz (¬ (v5 < v39)))), .val (.int (0 : Int32)), .val (.int (0 : Int32)), .val (.int (bz (¬ (v5 < v39)))), .val (.int (bz (¬ (v5 < v39)))), .val (.int (bz (¬ (v5 < v39)))), .val (.int (1 : Int32))] [])) _
        refine XS.iload X221.here hx rfl (hb hby at_394) rfl ?_
        refine XS.iconst X221.here hx rfl (hb hby at_396) ?_
        exact k)
      have hb223 : (1 : Int32) < (2 : Int32) := (by decide)
      have pre226 : ∀ t, Steps p.tables e below (T221.setTop (mkF m 438 #[.val (.int lvx), .val (.int nx), .val (.int mx), .val (.long wx), .second, .val (.int v1), .val (.long v3), .second, .val (.long v5), .second, .val (.long v7), .second, .val (.long v13), .second, .val (.long v14), .second, .val (.long v16), .second, .val (.ref b18), .val (.long v49), .second, .val (.long v50), .second, .val (.int (1 : Int32)), .val (.int (bz (¬ (v5 < v39)))), .val (.int (0 : Int32)), .val (.int (0 : Int32)), .val (.int (bz (¬ (v5 < v39)))), .val (.int (bz (¬ (v5 < v39)))), .val (.int (bz (¬ (v5 < v39)))), .val (.int (1 : Int32))] [(.int (3 : Int32)), (.int (1 : Int32))])) t → Steps p.tables e below (s₁.setTop (entryFrame m #[(.int lvx), (.int nx), (.int mx), (.long wx)] maxLocals)) t := fun t k => pre224 t (by
        show Steps p.tables e below (T221.setTop (mkF m 397 #[.val (.int lvx), .val (.int nx), .val (.int mx), .val (.long wx), .second, .val (.int v1), .val (.long v3), .second, .val (.long v5), .second, .val (.long v7), .second, .val (.long v13), .second, .val (.long v14), .second, .val (.long v16), .second, .val (.ref b18), .val (.long v49), .second, .val (.long v50), .second, .val (.int (1 : Int32)), .val (.int (bz (¬ (v5 < v39)))), .val (.int (0 : Int32)), .val (.int (0 : Int32)), .val (.int (bz (¬ (v5 < v39)))), .val (.int (bz (¬ (v5 < v39)))), .val (.int (bz (¬ (v5 < v39)))), .val (.int (1 : Int32))] [(.int (2 : Int32)), (.int (1 : Int32))])) _
        refine XS.icmpYes X221.here hx rfl (pc0 := 397) (pc' := 435) rfl (hb hby at_397) rfl (tlt hb223).1 (by decide) (by decide) ?_
        refine XS.iload X221.here hx rfl (hb hby at_435) rfl ?_
        refine XS.iconst X221.here hx rfl (hb hby at_437) ?_
        exact k)
      have hb225 : (1 : Int32) < (3 : Int32) := (by decide)
      have pre228 : ∀ t, Steps p.tables e below (T221.setTop (mkF m 478 #[.val (.int lvx), .val (.int nx), .val (.int mx), .val (.long wx), .second, .val (.int v1), .val (.long v3), .second, .val (.long v5), .second, .val (.long v7), .second, .val (.long v13), .second, .val (.long v14), .second, .val (.long v16), .second, .val (.ref b18), .val (.long v49), .second, .val (.long v50), .second, .val (.int (1 : Int32)), .val (.int (bz (¬ (v5 < v39)))), .val (.int (0 : Int32)), .val (.int (0 : Int32)), .val (.int (bz (¬ (v5 < v39)))), .val (.int (bz (¬ (v5 < v39)))), .val (.int (bz (¬ (v5 < v39)))), .val (.int (1 : Int32))] [(.int (1 : Int32))])) t → Steps p.tables e below (s₁.setTop (entryFrame m #[(.int lvx), (.int nx), (.int mx), (.long wx)] maxLocals)) t := fun t k => pre226 t (by
        show Steps p.tables e below (T221.setTop (mkF m 438 #[.val (.int lvx), .val (.int nx), .val (.int mx), .val (.long wx), .second, .val (.int v1), .val (.long v3), .second, .val (.long v5), .second, .val (.long v7), .second, .val (.long v13), .second, .val (.long v14), .second, .val (.long v16), .second, .val (.ref b18), .val (.long v49), .second, .val (.long v50), .second, .val (.int (1 : Int32)), .val (.int (bz (¬ (v5 < v39)))), .val (.int (0 : Int32)), .val (.int (0 : Int32)), .val (.int (bz (¬ (v5 < v39)))), .val (.int (bz (¬ (v5 < v39)))), .val (.int (bz (¬ (v5 < v39)))), .val (.int (1 : Int32))] [(.int (3 : Int32)), (.int (1 : Int32))])) _
        refine XS.icmpYes X221.here hx rfl (pc0 := 438) (pc' := 476) rfl (hb hby at_438) rfl (tlt hb225).1 (by decide) (by decide) ?_
        refine XS.iload X221.here hx rfl (hb hby at_476) rfl ?_
        exact k)
      have hb227 : ¬ ((1 : Int32) = (0 : Int32)) := (by decide)
      have pre229 : ∀ t, Steps p.tables e below (T221.setTop (mkF m 483 #[.val (.int lvx), .val (.int nx), .val (.int mx), .val (.long wx), .second, .val (.int v1), .val (.long v3), .second, .val (.long v5), .second, .val (.long v7), .second, .val (.long v13), .second, .val (.long v14), .second, .val (.long v16), .second, .val (.ref b18), .val (.long v49), .second, .val (.long v50), .second, .val (.int (1 : Int32)), .val (.int (bz (¬ (v5 < v39)))), .val (.int (0 : Int32)), .val (.int (0 : Int32)), .val (.int (bz (¬ (v5 < v39)))), .val (.int (bz (¬ (v5 < v39)))), .val (.int (bz (¬ (v5 < v39)))), .val (.int (1 : Int32))] [(.ref b18)])) t → Steps p.tables e below (s₁.setTop (entryFrame m #[(.int lvx), (.int nx), (.int mx), (.long wx)] maxLocals)) t := fun t k => pre228 t (by
        show Steps p.tables e below (T221.setTop (mkF m 478 #[.val (.int lvx), .val (.int nx), .val (.int mx), .val (.long wx), .second, .val (.int v1), .val (.long v3), .second, .val (.long v5), .second, .val (.long v7), .second, .val (.long v13), .second, .val (.long v14), .second, .val (.long v16), .second, .val (.ref b18), .val (.long v49), .second, .val (.long v50), .second, .val (.int (1 : Int32)), .val (.int (bz (¬ (v5 < v39)))), .val (.int (0 : Int32)), .val (.int (0 : Int32)), .val (.int (bz (¬ (v5 < v39)))), .val (.int (bz (¬ (v5 < v39)))), .val (.int (bz (¬ (v5 < v39)))), .val (.int (1 : Int32))] [(.int (1 : Int32))])) _
        refine XS.ifNo X221.here hx rfl (hb hby at_478) rfl ((if0 _ _).trans (feq hb227).1) ?_
        refine XS.aload X221.here hx rfl (hb hby at_481) rfl rfl ?_
        exact k)
      obtain ⟨cq230, kq230, q230a, q230b, q230c⟩ := isOf hZ rfl (R221.exa (i := 0) rfl)
      obtain ⟨_, _, ⟨T230, L230, k230, n230⟩, -, X230, ⟨Lc230, hQ230, l230, y230, z230⟩, st230⟩ := X221.virtualBack hx (y := (⟨"com/example/gapless_log/gaplesslog/tree/Ascent", "atRoot", "()Z"⟩ : MethodName)) (z := (⟨"com/example/gapless_log/gaplesslog/tree/Ascent", "atRoot", "()Z"⟩ : MethodName)) hown (mvT hZ (hw _ (List.mem_of_getElem? (i := 54) rfl))) (mvT hZ (hw _ (List.mem_of_getElem? (i := 55) rfl))) (notFace_of_selects (args := #[]) (mvT hZ (hw _ (List.mem_of_getElem? (i := 57) rfl)))) (mvT hZ (hw _ (List.mem_of_getElem? (i := 57) rfl))) (mvT hZ (hw _ (List.mem_of_getElem? (i := 56) rfl))) (by decide) (backOf (W := 0) (rm10 l Z a0 hw [] b18 _ _ T221.heap n0 _ R221 ) hZ (hw _ (List.mem_of_getElem? (i := 58) rfl)) (hw _ (List.mem_of_getElem? (i := 3) rfl)) (by decide) (by decide)) q230a q230c (g := (mkF m 483 #[.val (.int lvx), .val (.int nx), .val (.int mx), .val (.long wx), .second, .val (.int v1), .val (.long v3), .second, .val (.long v5), .second, .val (.long v7), .second, .val (.long v13), .second, .val (.long v14), .second, .val (.long v16), .second, .val (.ref b18), .val (.long v49), .second, .val (.long v50), .second, .val (.int (1 : Int32)), .val (.int (bz (¬ (v5 < v39)))), .val (.int (0 : Int32)), .val (.int (0 : Int32)), .val (.int (bz (¬ (v5 < v39)))), .val (.int (bz (¬ (v5 < v39)))), .val (.int (bz (¬ (v5 < v39)))), .val (.int (1 : Int32))] [(.ref b18)])) rfl (by rw [hml]; rfl) (Steps.refl _) (argsL := []) (rest := []) (lenOf pd__28_29Z rfl) rfl (by show 2 * 0 + _ ≤ _; exact Nat.le_of_eq rfl) (hb hby at_483) (fun _ _ => ⟨rfl, rfl, (by decide : 2 + 0 ≤ _), (by decide : 4 + 0 ≤ _)⟩)
      dsimp only [Pt.U, Pt.locs, Pt.cells, Pt.slots] at X230 l230 y230 z230 st230 hQ230
      subst y230 z230
      obtain ⟨rfl, N230q, R230⟩ := hQ230
      have N230 : Fr n0 L230 := by rw [l230]; exact Fr.app N221 N230q
      replace R230 : Rep Z n0 T230.heap ((b18, Obj "com/example/gapless_log/gaplesslog/tree/Ascent" [("node", "J", (.long (cN v5 v3))), ("last", "J", (.long (cL v5 v3)))]) :: (b21, Obj "com/example/gapless_log/gaplesslog/tree/Subtree" [("start", "J", (.long v16)), ("end", "J", (.long (v16 + v7)))]) :: []) := R230
      have pre231 : ∀ t, Steps p.tables e below (T230.setTop (mkF m 486 #[.val (.int lvx), .val (.int nx), .val (.int mx), .val (.long wx), .second, .val (.int v1), .val (.long v3), .second, .val (.long v5), .second, .val (.long v7), .second, .val (.long v13), .second, .val (.long v14), .second, .val (.long v16), .second, .val (.ref b18), .val (.long v49), .second, .val (.long v50), .second, .val (.int (1 : Int32)), .val (.int (bz (¬ (v5 < v39)))), .val (.int (0 : Int32)), .val (.int (0 : Int32)), .val (.int (bz (¬ (v5 < v39)))), .val (.int (bz (¬ (v5 < v39)))), .val (.int (bz (¬ (v5 < v39)))), .val (.int (1 : Int32))] [(.int (F10 (cL v5 v3)))])) t → Steps p.tables e below (s₁.setTop (entryFrame m #[(.int lvx), (.int nx), (.int mx), (.long wx)] maxLocals)) t := fun t k => pre229 t (st230.trans k)
      have hb232 : ¬ ((F10 (cL v5 v3)) = (0 : Int32)) := own_a28 hle em en hv31 hv39 hv49 hv50 hb34 hb52
      have pre233 : ∀ t, Steps p.tables e below (T230.setTop (mkF m 494 #[.val (.int lvx), .val (.int nx), .val (.int mx), .val (.long wx), .second, .val (.int v1), .val (.long v3), .second, .val (.long v5), .second, .val (.long v7), .second, .val (.long v13), .second, .val (.long v14), .second, .val (.long v16), .second, .val (.ref b18), .val (.long v49), .second, .val (.long v50), .second, .val (.int (1 : Int32)), .val (.int (bz (¬ (v5 < v39)))), .val (.int (0 : Int32)), .val (.int (0 : Int32)), .val (.int (bz (¬ (v5 < v39)))), .val (.int (bz (¬ (v5 < v39)))), .val (.int (bz (¬ (v5 < v39)))), .val (.int (1 : Int32))] [(.int (1 : Int32))])) t → Steps p.tables e below (s₁.setTop (entryFrame m #[(.int lvx), (.int nx), (.int mx), (.long wx)] maxLocals)) t := fun t k => pre231 t (by
        show Steps p.tables e below (T230.setTop (mkF m 486 #[.val (.int lvx), .val (.int nx), .val (.int mx), .val (.long wx), .second, .val (.int v1), .val (.long v3), .second, .val (.long v5), .second, .val (.long v7), .second, .val (.long v13), .second, .val (.long v14), .second, .val (.long v16), .second, .val (.ref b18), .val (.long v49), .second, .val (.long v50), .second, .val (.int (1 : Int32)), .val (.int (bz (¬ (v5 < v39)))), .val (.int (0 : Int32)), .val (.int (0 : Int32)), .val (.int (bz (¬ (v5 < v39)))), .val (.int (bz (¬ (v5 < v39)))), .val (.int (bz (¬ (v5 < v39)))), .val (.int (1 : Int32))] [(.int (F10 (cL v5 v3)))])) _
        refine XS.ifNo X230.here hx rfl (hb hby at_486) rfl ((if0 _ _).trans (feq hb232).1) ?_
        refine XS.iconst X230.here hx rfl (hb hby at_489) ?_
        refine XS.goto X230.here hx rfl (pc0 := 490) (pc' := 494) rfl (hb hby at_490) (by decide) (by decide) ?_
        exact k)
      obtain ⟨fs, hr, hrun, hended, hW, hsame⟩ := X230.leave (v := some (.int (nar .boolean (1 : Int32)))) (fun h => by rw [Bd.returns] at h; cases h)
      refine ⟨_, _, pre233 _ ?_, hrun, hended, _, _, rfl, ?_, ⟨_, rfl⟩, hW, hsame.mono (by decide) (by decide)⟩
      · show Steps p.tables e below (T230.setTop (mkF m 494 #[.val (.int lvx), .val (.int nx), .val (.int mx), .val (.long wx), .second, .val (.int v1), .val (.long v3), .second, .val (.long v5), .second, .val (.long v7), .second, .val (.long v13), .second, .val (.long v14), .second, .val (.long v16), .second, .val (.ref b18), .val (.long v49), .second, .val (.long v50), .second, .val (.int (1 : Int32)), .val (.int (bz (¬ (v5 < v39)))), .val (.int (0 : Int32)), .val (.int (0 : Int32)), .val (.int (bz (¬ (v5 < v39)))), .val (.int (bz (¬ (v5 < v39)))), .val (.int (bz (¬ (v5 < v39)))), .val (.int (1 : Int32))] [(.int (1 : Int32))])) _
        exact retN X230 hx (t := .boolean) Bd.returns (by simp) (hb hby at_494) hr
      · show Q0 Z lvx nx mx wx n0 [] _ T230.heap _
        have R234 : Rep Z n0 T230.heap ((b21, Obj "com/example/gapless_log/gaplesslog/tree/Subtree" [("start", "J", (.long v16)), ("end", "J", (.long (v16 + v7)))]) :: []) := (R230.front 0 rfl rfl : Rep Z n0 T230.heap ((b18, Obj "com/example/gapless_log/gaplesslog/tree/Ascent" [("node", "J", (.long (cN v5 v3))), ("last", "J", (.long (cL v5 v3)))]) :: (b21, Obj "com/example/gapless_log/gaplesslog/tree/Subtree" [("start", "J", (.long v16)), ("end", "J", (.long (v16 + v7)))]) :: [])).tail
        have R235 : Rep Z n0 T230.heap ([]) := (R234.front 0 rfl rfl : Rep Z n0 T230.heap ((b21, Obj "com/example/gapless_log/gaplesslog/tree/Subtree" [("start", "J", (.long v16)), ("end", "J", (.long (v16 + v7)))]) :: [])).tail
        exact ⟨(by rfl), N230, R235⟩
  · have pre236 : ∀ t, Steps p.tables e below (T27.setTop (mkF m 183 #[.val (.int lvx), .val (.int nx), .val (.int mx), .val (.long wx), .second, .val (.int v1), .val (.long v3), .second, .val (.long v5), .second, .val (.long v7), .second, .val (.long v13), .second, .val (.long v14), .second, .val (.long v16), .second, .val (.ref b18), .val (.long (0 : Int64)), .second, .val (.long v31), .second, .val (.int (0 : Int32)), .val (.int (0 : Int32)), .val (.int (0 : Int32)), .val (.int (0 : Int32)), .unset, .unset, .unset, .unset] [])) t → Steps p.tables e below (s₁.setTop (entryFrame m #[(.int lvx), (.int nx), (.int mx), (.long wx)] maxLocals)) t := fun t k => pre33 t (by show Steps p.tables e below (T27.setTop (mkF m 129 #[.val (.int lvx), .val (.int nx), .val (.int mx), .val (.long wx), .second, .val (.int v1), .val (.long v3), .second, .val (.long v5), .second, .val (.long v7), .second, .val (.long v13), .second, .val (.long v14), .second, .val (.long v16), .second, .val (.ref b18), .val (.long (0 : Int64)), .second, .val (.long v31), .second, .val (.int (0 : Int32)), .val (.int (0 : Int32)), .val (.int (0 : Int32)), .val (.int (0 : Int32)), .unset, .unset, .unset, .unset] [(.int (XT.cmpL (v31 - (0 : Int64)) (1 : Int64)))])) _; refine XS.ifYes X27.here hx rfl (pc0 := 129) (pc' := 183) rfl (hb hby at_129) rfl (XT.ll_le_t hb34) (by decide) (by decide) ?_; exact k)
    have pre238 : ∀ t, Steps p.tables e below (T27.setTop (mkF m 190 #[.val (.int lvx), .val (.int nx), .val (.int mx), .val (.long wx), .second, .val (.int v1), .val (.long v3), .second, .val (.long v5), .second, .val (.long v7), .second, .val (.long v13), .second, .val (.long v14), .second, .val (.long v16), .second, .val (.ref b18), .val (.long (0 : Int64)), .second, .val (.long v31), .second, .val (.int (0 : Int32)), .val (.int (0 : Int32)), .val (.int (0 : Int32)), .val (.int (0 : Int32)), .unset, .unset, .unset, .unset] [(.int (XT.cmpL (v31 - (0 : Int64)) (1 : Int64)))])) t → Steps p.tables e below (s₁.setTop (entryFrame m #[(.int lvx), (.int nx), (.int mx), (.long wx)] maxLocals)) t := fun t k => pre236 t (by
      show Steps p.tables e below (T27.setTop (mkF m 183 #[.val (.int lvx), .val (.int nx), .val (.int mx), .val (.long wx), .second, .val (.int v1), .val (.long v3), .second, .val (.long v5), .second, .val (.long v7), .second, .val (.long v13), .second, .val (.long v14), .second, .val (.long v16), .second, .val (.ref b18), .val (.long (0 : Int64)), .second, .val (.long v31), .second, .val (.int (0 : Int32)), .val (.int (0 : Int32)), .val (.int (0 : Int32)), .val (.int (0 : Int32)), .unset, .unset, .unset, .unset] [])) _
      refine XS.lload X27.here hx rfl (hb hby at_183) rfl ?_
      refine XS.lload X27.here hx rfl (hb hby at_185) rfl ?_
      refine XS.lsub X27.here hx rfl (hb hby at_187) rfl ?_
      refine XS.lconst X27.here hx rfl (hb hby at_188) ?_
      refine XS.lcmp X27.here hx rfl (hb hby at_189) rfl ?_
      exact k)
    have hb237 : ¬ ((1 : Int64) < (v31 - (0 : Int64))) := hb34
    have pre240 : ∀ t, Steps p.tables e below (T27.setTop (mkF m 251 #[.val (.int lvx), .val (.int nx), .val (.int mx), .val (.long wx), .second, .val (.int v1), .val (.long v3), .second, .val (.long v5), .second, .val (.long v7), .second, .val (.long v13), .second, .val (.long v14), .second, .val (.long v16), .second, .val (.ref b18), .val (.long (0 : Int64)), .second, .val (.long v31), .second, .val (.int (0 : Int32)), .val (.int (0 : Int32)), .val (.int (0 : Int32)), .val (.int (0 : Int32)), .unset, .unset, .unset, .unset] [(.int (XT.cmpL (v31 - (0 : Int64)) (1 : Int64)))])) t → Steps p.tables e below (s₁.setTop (entryFrame m #[(.int lvx), (.int nx), (.int mx), (.long wx)] maxLocals)) t := fun t k => pre238 t (by
      show Steps p.tables e below (T27.setTop (mkF m 190 #[.val (.int lvx), .val (.int nx), .val (.int mx), .val (.long wx), .second, .val (.int v1), .val (.long v3), .second, .val (.long v5), .second, .val (.long v7), .second, .val (.long v13), .second, .val (.long v14), .second, .val (.long v16), .second, .val (.ref b18), .val (.long (0 : Int64)), .second, .val (.long v31), .second, .val (.int (0 : Int32)), .val (.int (0 : Int32)), .val (.int (0 : Int32)), .val (.int (0 : Int32)), .unset, .unset, .unset, .unset] [(.int (XT.cmpL (v31 - (0 : Int64)) (1 : Int64)))])) _
      refine XS.ifYes X27.here hx rfl (pc0 := 190) (pc' := 244) rfl (hb hby at_190) rfl (XT.ll_le_t hb237) (by decide) (by decide) ?_
      refine XS.lload X27.here hx rfl (hb hby at_244) rfl ?_
      refine XS.lload X27.here hx rfl (hb hby at_246) rfl ?_
      refine XS.lsub X27.here hx rfl (hb hby at_248) rfl ?_
      refine XS.lconst X27.here hx rfl (hb hby at_249) ?_
      refine XS.lcmp X27.here hx rfl (hb hby at_250) rfl ?_
      exact k)
    have hb239 : ¬ ((1 : Int64) < (v31 - (0 : Int64))) := hb34
    have pre242 : ∀ t, Steps p.tables e below (T27.setTop (mkF m 308 #[.val (.int lvx), .val (.int nx), .val (.int mx), .val (.long wx), .second, .val (.int v1), .val (.long v3), .second, .val (.long v5), .second, .val (.long v7), .second, .val (.long v13), .second, .val (.long v14), .second, .val (.long v16), .second, .val (.ref b18), .val (.long (0 : Int64)), .second, .val (.long v31), .second, .val (.int (0 : Int32)), .val (.int (0 : Int32)), .val (.int (0 : Int32)), .val (.int (0 : Int32)), .unset, .unset, .unset, .unset] [(.int (3 : Int32)), (.int (0 : Int32))])) t → Steps p.tables e below (s₁.setTop (entryFrame m #[(.int lvx), (.int nx), (.int mx), (.long wx)] maxLocals)) t := fun t k => pre240 t (by
      show Steps p.tables e below (T27.setTop (mkF m 251 #[.val (.int lvx), .val (.int nx), .val (.int mx), .val (.long wx), .second, .val (.int v1), .val (.long v3), .second, .val (.long v5), .second, .val (.long v7), .second, .val (.long v13), .second, .val (.long v14), .second, .val (.long v16), .second, .val (.ref b18), .val (.long (0 : Int64)), .second, .val (.long v31), .second, .val (.int (0 : Int32)), .val (.int (0 : Int32)), .val (.int (0 : Int32)), .val (.int (0 : Int32)), .unset, .unset, .unset, .unset] [(.int (XT.cmpL (v31 - (0 : Int64)) (1 : Int64)))])) _
      refine XS.ifYes X27.here hx rfl (pc0 := 251) (pc' := 305) rfl (hb hby at_251) rfl (XT.ll_le_t hb239) (by decide) (by decide) ?_
      refine XS.iload X27.here hx rfl (hb hby at_305) rfl ?_
      refine XS.iconst X27.here hx rfl (hb hby at_307) ?_
      exact k)
    have hb241 : ¬ ((0 : Int32) = (3 : Int32)) := (by decide)
    have pre244 : ∀ t, Steps p.tables e below (T27.setTop (mkF m 319 #[.val (.int lvx), .val (.int nx), .val (.int mx), .val (.long wx), .second, .val (.int v1), .val (.long v3), .second, .val (.long v5), .second, .val (.long v7), .second, .val (.long v13), .second, .val (.long v14), .second, .val (.long v16), .second, .val (.ref b18), .val (.long (0 : Int64)), .second, .val (.long v31), .second, .val (.int (0 : Int32)), .val (.int (0 : Int32)), .val (.int (0 : Int32)), .val (.int (0 : Int32)), .unset, .unset, .unset, .unset] [(.int (2 : Int32)), (.int (0 : Int32))])) t → Steps p.tables e below (s₁.setTop (entryFrame m #[(.int lvx), (.int nx), (.int mx), (.long wx)] maxLocals)) t := fun t k => pre242 t (by
      show Steps p.tables e below (T27.setTop (mkF m 308 #[.val (.int lvx), .val (.int nx), .val (.int mx), .val (.long wx), .second, .val (.int v1), .val (.long v3), .second, .val (.long v5), .second, .val (.long v7), .second, .val (.long v13), .second, .val (.long v14), .second, .val (.long v16), .second, .val (.ref b18), .val (.long (0 : Int64)), .second, .val (.long v31), .second, .val (.int (0 : Int32)), .val (.int (0 : Int32)), .val (.int (0 : Int32)), .val (.int (0 : Int32)), .unset, .unset, .unset, .unset] [(.int (3 : Int32)), (.int (0 : Int32))])) _
      refine XS.icmpYes X27.here hx rfl (pc0 := 308) (pc' := 316) rfl (hb hby at_308) rfl (feq hb241).2 (by decide) (by decide) ?_
      refine XS.iload X27.here hx rfl (hb hby at_316) rfl ?_
      refine XS.iconst X27.here hx rfl (hb hby at_318) ?_
      exact k)
    have hb243 : ¬ ((0 : Int32) = (2 : Int32)) := (by decide)
    have pre246 : ∀ t, Steps p.tables e below (T27.setTop (mkF m 334 #[.val (.int lvx), .val (.int nx), .val (.int mx), .val (.long wx), .second, .val (.int v1), .val (.long v3), .second, .val (.long v5), .second, .val (.long v7), .second, .val (.long v13), .second, .val (.long v14), .second, .val (.long v16), .second, .val (.ref b18), .val (.long (0 : Int64)), .second, .val (.long v31), .second, .val (.int (0 : Int32)), .val (.int (0 : Int32)), .val (.int (0 : Int32)), .val (.int (0 : Int32)), .val (.int (0 : Int32)), .unset, .unset, .unset] [(.int (3 : Int32)), (.int (0 : Int32))])) t → Steps p.tables e below (s₁.setTop (entryFrame m #[(.int lvx), (.int nx), (.int mx), (.long wx)] maxLocals)) t := fun t k => pre244 t (by
      show Steps p.tables e below (T27.setTop (mkF m 319 #[.val (.int lvx), .val (.int nx), .val (.int mx), .val (.long wx), .second, .val (.int v1), .val (.long v3), .second, .val (.long v5), .second, .val (.long v7), .second, .val (.long v13), .second, .val (.long v14), .second, .val (.long v16), .second, .val (.ref b18), .val (.long (0 : Int64)), .second, .val (.long v31), .second, .val (.int (0 : Int32)), .val (.int (0 : Int32)), .val (.int (0 : Int32)), .val (.int (0 : Int32)), .unset, .unset, .unset, .unset] [(.int (2 : Int32)), (.int (0 : Int32))])) _
      refine XS.icmpYes X27.here hx rfl (pc0 := 319) (pc' := 327) rfl (hb hby at_319) rfl (feq hb243).2 (by decide) (by decide) ?_
      refine XS.iload X27.here hx rfl (hb hby at_327) rfl ?_
      refine XS.istore X27.here hx rfl (hb hby at_329) rfl (l' := #[.val (.int lvx), .val (.int nx), .val (.int mx), .val (.long wx), .second, .val (.int v1), .val (.long v3), .second, .val (.long v5), .second, .val (.long v7), .second, .val (.long v13), .second, .val (.long v14), .second, .val (.long v16), .second, .val (.ref b18), .val (.long (0 : Int64)), .second, .val (.long v31), .second, .val (.int (0 : Int32)), .val (.int (0 : Int32)), .val (.int (0 : Int32)), .val (.int (0 : Int32)), .val (.int (0 : Int32)), .unset, .unset, .unset]) rfl ?_
      refine XS.iload X27.here hx rfl (hb hby at_331) rfl ?_
      refine XS.iconst X27.here hx rfl (hb hby at_333) ?_
      exact k)
    have hb245 : ¬ ((0 : Int32) = (3 : Int32)) := (by decide)
    have pre248 : ∀ t, Steps p.tables e below (T27.setTop (mkF m 356 #[.val (.int lvx), .val (.int nx), .val (.int mx), .val (.long wx), .second, .val (.int v1), .val (.long v3), .second, .val (.long v5), .second, .val (.long v7), .second, .val (.long v13), .second, .val (.long v14), .second, .val (.long v16), .second, .val (.ref b18), .val (.long (0 : Int64)), .second, .val (.long v31), .second, .val (.int (0 : Int32)), .val (.int (0 : Int32)), .val (.int (0 : Int32)), .val (.int (0 : Int32)), .val (.int (0 : Int32)), .val (.int (0 : Int32)), .val (.int (0 : Int32)), .val (.int (1 : Int32))] [(.int (1 : Int32)), (.int (0 : Int32))])) t → Steps p.tables e below (s₁.setTop (entryFrame m #[(.int lvx), (.int nx), (.int mx), (.long wx)] maxLocals)) t := fun t k => pre246 t (by
      show Steps p.tables e below (T27.setTop (mkF m 334 #[.val (.int lvx), .val (.int nx), .val (.int mx), .val (.long wx), .second, .val (.int v1), .val (.long v3), .second, .val (.long v5), .second, .val (.long v7), .second, .val (.long v13), .second, .val (.long v14), .second, .val (.long v16), .second, .val (.ref b18), .val (.long (0 : Int64)), .second, .val (.long v31), .second, .val (.int (0 : Int32)), .val (.int (0 : Int32)), .val (.int (0 : Int32)), .val (.int (0 : Int32)), .val (.int (0 : Int32)), .unset, .unset, .unset] [(.int (3 : Int32)), (.int (0 : Int32))])) _
      refine XS.icmpYes X27.here hx rfl (pc0 := 334) (pc' := 342) rfl (hb hby at_334) rfl (feq hb245).2 (by decide) (by decide) ?_
      refine XS.iload X27.here hx rfl (hb hby at_342) rfl ?_
      refine XS.istore X27.here hx rfl (hb hby at_344) rfl (l' := #[.val (.int lvx), .val (.int nx), .val (.int mx), .val (.long wx), .second, .val (.int v1), .val (.long v3), .second, .val (.long v5), .second, .val (.long v7), .second, .val (.long v13), .second, .val (.long v14), .second, .val (.long v16), .second, .val (.ref b18), .val (.long (0 : Int64)), .second, .val (.long v31), .second, .val (.int (0 : Int32)), .val (.int (0 : Int32)), .val (.int (0 : Int32)), .val (.int (0 : Int32)), .val (.int (0 : Int32)), .val (.int (0 : Int32)), .unset, .unset]) rfl ?_
      refine XS.iload X27.here hx rfl (hb hby at_346) rfl ?_
      refine XS.istore X27.here hx rfl (hb hby at_348) rfl (l' := #[.val (.int lvx), .val (.int nx), .val (.int mx), .val (.long wx), .second, .val (.int v1), .val (.long v3), .second, .val (.long v5), .second, .val (.long v7), .second, .val (.long v13), .second, .val (.long v14), .second, .val (.long v16), .second, .val (.ref b18), .val (.long (0 : Int64)), .second, .val (.long v31), .second, .val (.int (0 : Int32)), .val (.int (0 : Int32)), .val (.int (0 : Int32)), .val (.int (0 : Int32)), .val (.int (0 : Int32)), .val (.int (0 : Int32)), .val (.int (0 : Int32)), .unset]) rfl ?_
      refine XS.iconst X27.here hx rfl (hb hby at_350) ?_
      refine XS.istore X27.here hx rfl (hb hby at_351) rfl (l' := #[.val (.int lvx), .val (.int nx), .val (.int mx), .val (.long wx), .second, .val (.int v1), .val (.long v3), .second, .val (.long v5), .second, .val (.long v7), .second, .val (.long v13), .second, .val (.long v14), .second, .val (.long v16), .second, .val (.ref b18), .val (.long (0 : Int64)), .second, .val (.long v31), .second, .val (.int (0 : Int32)), .val (.int (0 : Int32)), .val (.int (0 : Int32)), .val (.int (0 : Int32)), .val (.int (0 : Int32)), .val (.int (0 : Int32)), .val (.int (0 : Int32)), .val (.int (1 : Int32))]) rfl ?_
      show Steps p.tables e below (T27.setTop (mkF m 353 #[.val (.int lvx), .val (.int nx), .val (.int mx), .val (.long wx), .second, .val (.int v1), .val (.long v3), .second, .val (.long v5), .second, .val (.long v7), .second, .val (.long v13), .second, .val (.long v14), .second, .val (.long v16), .second, .val (.ref b18), .val (.long (0 : Int64)), .second, .val (.long v31), .second, .val (.int (0 : Int32)), .val (.int (0 : Int32)), .val (.int (0 : Int32)), .val (.int (0 : Int32)), .val (.int (0 : Int32)), .val (.int (0 : Int32)), .val (.int (0 : Int32)), .val (.int (1 : Int32))] [])) _
      refine XS.iload X27.here hx rfl (hb hby at_353) rfl ?_
      refine XS.iconst X27.here hx rfl (hb hby at_355) ?_
      exact k)
    have hb247 : (0 : Int32) < (1 : Int32) := (by decide)
    have pre250 : ∀ t, Steps p.tables e below (T27.setTop (mkF m 397 #[.val (.int lvx), .val (.int nx), .val (.int mx), .val (.long wx), .second, .val (.int v1), .val (.long v3), .second, .val (.long v5), .second, .val (.long v7), .second, .val (.long v13), .second, .val (.long v14), .second, .val (.long v16), .second, .val (.ref b18), .val (.long (0 : Int64)), .second, .val (.long v31), .second, .val (.int (0 : Int32)), .val (.int (0 : Int32)), .val (.int (0 : Int32)), .val (.int (0 : Int32)), .val (.int (0 : Int32)), .val (.int (0 : Int32)), .val (.int (0 : Int32)), .val (.int (1 : Int32))] [(.int (2 : Int32)), (.int (0 : Int32))])) t → Steps p.tables e below (s₁.setTop (entryFrame m #[(.int lvx), (.int nx), (.int mx), (.long wx)] maxLocals)) t := fun t k => pre248 t (by
      show Steps p.tables e below (T27.setTop (mkF m 356 #[.val (.int lvx), .val (.int nx), .val (.int mx), .val (.long wx), .second, .val (.int v1), .val (.long v3), .second, .val (.long v5), .second, .val (.long v7), .second, .val (.long v13), .second, .val (.long v14), .second, .val (.long v16), .second, .val (.ref b18), .val (.long (0 : Int64)), .second, .val (.long v31), .second, .val (.int (0 : Int32)), .val (.int (0 : Int32)), .val (.int (0 : Int32)), .val (.int (0 : Int32)), .val (.int (0 : Int32)), .val (.int (0 : Int32)), .val (.int (0 : Int32)), .val (.int (1 : Int32))] [(.int (1 : Int32)), (.int (0 : Int32))])) _
      refine XS.icmpYes X27.here hx rfl (pc0 := 356) (pc' := 394) rfl (hb hby at_356) rfl (tlt hb247).1 (by decide) (by decide) ?_
      refine XS.iload X27.here hx rfl (hb hby at_394) rfl ?_
      refine XS.iconst X27.here hx rfl (hb hby at_396) ?_
      exact k)
    have hb249 : (0 : Int32) < (2 : Int32) := (by decide)
    have pre252 : ∀ t, Steps p.tables e below (T27.setTop (mkF m 438 #[.val (.int lvx), .val (.int nx), .val (.int mx), .val (.long wx), .second, .val (.int v1), .val (.long v3), .second, .val (.long v5), .second, .val (.long v7), .second, .val (.long v13), .second, .val (.long v14), .second, .val (.long v16), .second, .val (.ref b18), .val (.long (0 : Int64)), .second, .val (.long v31), .second, .val (.int (0 : Int32)), .val (.int (0 : Int32)), .val (.int (0 : Int32)), .val (.int (0 : Int32)), .val (.int (0 : Int32)), .val (.int (0 : Int32)), .val (.int (0 : Int32)), .val (.int (1 : Int32))] [(.int (3 : Int32)), (.int (0 : Int32))])) t → Steps p.tables e below (s₁.setTop (entryFrame m #[(.int lvx), (.int nx), (.int mx), (.long wx)] maxLocals)) t := fun t k => pre250 t (by
      show Steps p.tables e below (T27.setTop (mkF m 397 #[.val (.int lvx), .val (.int nx), .val (.int mx), .val (.long wx), .second, .val (.int v1), .val (.long v3), .second, .val (.long v5), .second, .val (.long v7), .second, .val (.long v13), .second, .val (.long v14), .second, .val (.long v16), .second, .val (.ref b18), .val (.long (0 : Int64)), .second, .val (.long v31), .second, .val (.int (0 : Int32)), .val (.int (0 : Int32)), .val (.int (0 : Int32)), .val (.int (0 : Int32)), .val (.int (0 : Int32)), .val (.int (0 : Int32)), .val (.int (0 : Int32)), .val (.int (1 : Int32))] [(.int (2 : Int32)), (.int (0 : Int32))])) _
      refine XS.icmpYes X27.here hx rfl (pc0 := 397) (pc' := 435) rfl (hb hby at_397) rfl (tlt hb249).1 (by decide) (by decide) ?_
      refine XS.iload X27.here hx rfl (hb hby at_435) rfl ?_
      refine XS.iconst X27.here hx rfl (hb hby at_437) ?_
      exact k)
    have hb251 : (0 : Int32) < (3 : Int32) := (by decide)
    have pre254 : ∀ t, Steps p.tables e below (T27.setTop (mkF m 478 #[.val (.int lvx), .val (.int nx), .val (.int mx), .val (.long wx), .second, .val (.int v1), .val (.long v3), .second, .val (.long v5), .second, .val (.long v7), .second, .val (.long v13), .second, .val (.long v14), .second, .val (.long v16), .second, .val (.ref b18), .val (.long (0 : Int64)), .second, .val (.long v31), .second, .val (.int (0 : Int32)), .val (.int (0 : Int32)), .val (.int (0 : Int32)), .val (.int (0 : Int32)), .val (.int (0 : Int32)), .val (.int (0 : Int32)), .val (.int (0 : Int32)), .val (.int (1 : Int32))] [(.int (1 : Int32))])) t → Steps p.tables e below (s₁.setTop (entryFrame m #[(.int lvx), (.int nx), (.int mx), (.long wx)] maxLocals)) t := fun t k => pre252 t (by
      show Steps p.tables e below (T27.setTop (mkF m 438 #[.val (.int lvx), .val (.int nx), .val (.int mx), .val (.long wx), .second, .val (.int v1), .val (.long v3), .second, .val (.long v5), .second, .val (.long v7), .second, .val (.long v13), .second, .val (.long v14), .second, .val (.long v16), .second, .val (.ref b18), .val (.long (0 : Int64)), .second, .val (.long v31), .second, .val (.int (0 : Int32)), .val (.int (0 : Int32)), .val (.int (0 : Int32)), .val (.int (0 : Int32)), .val (.int (0 : Int32)), .val (.int (0 : Int32)), .val (.int (0 : Int32)), .val (.int (1 : Int32))] [(.int (3 : Int32)), (.int (0 : Int32))])) _
      refine XS.icmpYes X27.here hx rfl (pc0 := 438) (pc' := 476) rfl (hb hby at_438) rfl (tlt hb251).1 (by decide) (by decide) ?_
      refine XS.iload X27.here hx rfl (hb hby at_476) rfl ?_
      exact k)
    have hb253 : ¬ ((1 : Int32) = (0 : Int32)) := (by decide)
    have pre255 : ∀ t, Steps p.tables e below (T27.setTop (mkF m 483 #[.val (.int lvx), .val (.int nx), .val (.int mx), .val (.long wx), .second, .val (.int v1), .val (.long v3), .second, .val (.long v5), .second, .val (.long v7), .second, .val (.long v13), .second, .val (.long v14), .second, .val (.long v16), .second, .val (.ref b18), .val (.long (0 : Int64)), .second, .val (.long v31), .second, .val (.int (0 : Int32)), .val (.int (0 : Int32)), .val (.int (0 : Int32)), .val (.int (0 : Int32)), .val (.int (0 : Int32)), .val (.int (0 : Int32)), .val (.int (0 : Int32)), .val (.int (1 : Int32))] [(.ref b18)])) t → Steps p.tables e below (s₁.setTop (entryFrame m #[(.int lvx), (.int nx), (.int mx), (.long wx)] maxLocals)) t := fun t k => pre254 t (by
      show Steps p.tables e below (T27.setTop (mkF m 478 #[.val (.int lvx), .val (.int nx), .val (.int mx), .val (.long wx), .second, .val (.int v1), .val (.long v3), .second, .val (.long v5), .second, .val (.long v7), .second, .val (.long v13), .second, .val (.long v14), .second, .val (.long v16), .second, .val (.ref b18), .val (.long (0 : Int64)), .second, .val (.long v31), .second, .val (.int (0 : Int32)), .val (.int (0 : Int32)), .val (.int (0 : Int32)), .val (.int (0 : Int32)), .val (.int (0 : Int32)), .val (.int (0 : Int32)), .val (.int (0 : Int32)), .val (.int (1 : Int32))] [(.int (1 : Int32))])) _
      refine XS.ifNo X27.here hx rfl (hb hby at_478) rfl ((if0 _ _).trans (feq hb253).1) ?_
      refine XS.aload X27.here hx rfl (hb hby at_481) rfl rfl ?_
      exact k)
    obtain ⟨cq256, kq256, q256a, q256b, q256c⟩ := isOf hZ rfl (R27.exa (i := 0) rfl)
    obtain ⟨_, _, ⟨T256, L256, k256, n256⟩, -, X256, ⟨Lc256, hQ256, l256, y256, z256⟩, st256⟩ := X27.virtualBack hx (y := (⟨"com/example/gapless_log/gaplesslog/tree/Ascent", "atRoot", "()Z"⟩ : MethodName)) (z := (⟨"com/example/gapless_log/gaplesslog/tree/Ascent", "atRoot", "()Z"⟩ : MethodName)) hown (mvT hZ (hw _ (List.mem_of_getElem? (i := 54) rfl))) (mvT hZ (hw _ (List.mem_of_getElem? (i := 55) rfl))) (notFace_of_selects (args := #[]) (mvT hZ (hw _ (List.mem_of_getElem? (i := 57) rfl)))) (mvT hZ (hw _ (List.mem_of_getElem? (i := 57) rfl))) (mvT hZ (hw _ (List.mem_of_getElem? (i := 56) rfl))) (by decide) (backOf (W := 0) (rm10 l Z a0 hw [] b18 _ _ T27.heap n0 _ R27 ) hZ (hw _ (List.mem_of_getElem? (i := 58) rfl)) (hw _ (List.mem_of_getElem? (i := 3) rfl)) (by decide) (by decide)) q256a q256c (g := (mkF m 483 #[.val (.int lvx), .val (.int nx), .val (.int mx), .val (.long wx), .second, .val (.int v1), .val (.long v3), .second, .val (.long v5), .second, .val (.long v7), .second, .val (.long v13), .second, .val (.long v14), .second, .val (.long v16), .second, .val (.ref b18), .val (.long (0 : Int64)), .second, .val (.long v31), .second, .val (.int (0 : Int32)), .val (.int (0 : Int32)), .val (.int (0 : Int32)), .val (.int (0 : Int32)), .val (.int (0 : Int32)), .val (.int (0 : Int32)), .val (.int (0 : Int32)), .val (.int (1 : Int32))] [(.ref b18)])) rfl (by rw [hml]; rfl) (Steps.refl _) (argsL := []) (rest := []) (lenOf pd__28_29Z rfl) rfl (by show 2 * 0 + _ ≤ _; exact Nat.le_of_eq rfl) (hb hby at_483) (fun _ _ => ⟨rfl, rfl, (by decide : 2 + 0 ≤ _), (by decide : 4 + 0 ≤ _)⟩)
    dsimp only [Pt.U, Pt.locs, Pt.cells, Pt.slots] at X256 l256 y256 z256 st256 hQ256
    subst y256 z256
    obtain ⟨rfl, N256q, R256⟩ := hQ256
    have N256 : Fr n0 L256 := by rw [l256]; exact Fr.app N27 N256q
    replace R256 : Rep Z n0 T256.heap ((b18, Obj "com/example/gapless_log/gaplesslog/tree/Ascent" [("node", "J", (.long v5)), ("last", "J", (.long v3))]) :: (b21, Obj "com/example/gapless_log/gaplesslog/tree/Subtree" [("start", "J", (.long v16)), ("end", "J", (.long (v16 + v7)))]) :: []) := R256
    have pre257 : ∀ t, Steps p.tables e below (T256.setTop (mkF m 486 #[.val (.int lvx), .val (.int nx), .val (.int mx), .val (.long wx), .second, .val (.int v1), .val (.long v3), .second, .val (.long v5), .second, .val (.long v7), .second, .val (.long v13), .second, .val (.long v14), .second, .val (.long v16), .second, .val (.ref b18), .val (.long (0 : Int64)), .second, .val (.long v31), .second, .val (.int (0 : Int32)), .val (.int (0 : Int32)), .val (.int (0 : Int32)), .val (.int (0 : Int32)), .val (.int (0 : Int32)), .val (.int (0 : Int32)), .val (.int (0 : Int32)), .val (.int (1 : Int32))] [(.int (F10 v3))])) t → Steps p.tables e below (s₁.setTop (entryFrame m #[(.int lvx), (.int nx), (.int mx), (.long wx)] maxLocals)) t := fun t k => pre255 t (st256.trans k)
    have hb258 : ¬ ((F10 v3) = (0 : Int32)) := own_a30 hle em en hv31 hb34
    have pre259 : ∀ t, Steps p.tables e below (T256.setTop (mkF m 494 #[.val (.int lvx), .val (.int nx), .val (.int mx), .val (.long wx), .second, .val (.int v1), .val (.long v3), .second, .val (.long v5), .second, .val (.long v7), .second, .val (.long v13), .second, .val (.long v14), .second, .val (.long v16), .second, .val (.ref b18), .val (.long (0 : Int64)), .second, .val (.long v31), .second, .val (.int (0 : Int32)), .val (.int (0 : Int32)), .val (.int (0 : Int32)), .val (.int (0 : Int32)), .val (.int (0 : Int32)), .val (.int (0 : Int32)), .val (.int (0 : Int32)), .val (.int (1 : Int32))] [(.int (1 : Int32))])) t → Steps p.tables e below (s₁.setTop (entryFrame m #[(.int lvx), (.int nx), (.int mx), (.long wx)] maxLocals)) t := fun t k => pre257 t (by
      show Steps p.tables e below (T256.setTop (mkF m 486 #[.val (.int lvx), .val (.int nx), .val (.int mx), .val (.long wx), .second, .val (.int v1), .val (.long v3), .second, .val (.long v5), .second, .val (.long v7), .second, .val (.long v13), .second, .val (.long v14), .second, .val (.long v16), .second, .val (.ref b18), .val (.long (0 : Int64)), .second, .val (.long v31), .second, .val (.int (0 : Int32)), .val (.int (0 : Int32)), .val (.int (0 : Int32)), .val (.int (0 : Int32)), .val (.int (0 : Int32)), .val (.int (0 : Int32)), .val (.int (0 : Int32)), .val (.int (1 : Int32))] [(.int (F10 v3))])) _
      refine XS.ifNo X256.here hx rfl (hb hby at_486) rfl ((if0 _ _).trans (feq hb258).1) ?_
      refine XS.iconst X256.here hx rfl (hb hby at_489) ?_
      refine XS.goto X256.here hx rfl (pc0 := 490) (pc' := 494) rfl (hb hby at_490) (by decide) (by decide) ?_
      exact k)
    obtain ⟨fs, hr, hrun, hended, hW, hsame⟩ := X256.leave (v := some (.int (nar .boolean (1 : Int32)))) (fun h => by rw [Bd.returns] at h; cases h)
    refine ⟨_, _, pre259 _ ?_, hrun, hended, _, _, rfl, ?_, ⟨_, rfl⟩, hW, hsame.mono (by decide) (by decide)⟩
    · show Steps p.tables e below (T256.setTop (mkF m 494 #[.val (.int lvx), .val (.int nx), .val (.int mx), .val (.long wx), .second, .val (.int v1), .val (.long v3), .second, .val (.long v5), .second, .val (.long v7), .second, .val (.long v13), .second, .val (.long v14), .second, .val (.long v16), .second, .val (.ref b18), .val (.long (0 : Int64)), .second, .val (.long v31), .second, .val (.int (0 : Int32)), .val (.int (0 : Int32)), .val (.int (0 : Int32)), .val (.int (0 : Int32)), .val (.int (0 : Int32)), .val (.int (0 : Int32)), .val (.int (0 : Int32)), .val (.int (1 : Int32))] [(.int (1 : Int32))])) _
      exact retN X256 hx (t := .boolean) Bd.returns (by simp) (hb hby at_494) hr
    · show Q0 Z lvx nx mx wx n0 [] _ T256.heap _
      have R260 : Rep Z n0 T256.heap ((b21, Obj "com/example/gapless_log/gaplesslog/tree/Subtree" [("start", "J", (.long v16)), ("end", "J", (.long (v16 + v7)))]) :: []) := (R256.front 0 rfl rfl : Rep Z n0 T256.heap ((b18, Obj "com/example/gapless_log/gaplesslog/tree/Ascent" [("node", "J", (.long v5)), ("last", "J", (.long v3))]) :: (b21, Obj "com/example/gapless_log/gaplesslog/tree/Subtree" [("start", "J", (.long v16)), ("end", "J", (.long (v16 + v7)))]) :: [])).tail
      have R261 : Rep Z n0 T256.heap ([]) := (R260.front 0 rfl rfl : Rep Z n0 T256.heap ((b21, Obj "com/example/gapless_log/gaplesslog/tree/Subtree" [("start", "J", (.long v16)), ("end", "J", (.long (v16 + v7)))]) :: [])).tail
      exact ⟨(by rfl), N256, R261⟩
set_option maxRecDepth 65536 in
set_option maxHeartbeats 40000000 in
theorem comes_1 {Post : Tables → Env → Array Value → State → Outcome → State → Prop} (hpost : ∀ tb e args s v u, (limb_1_1.after args s (.returned v) u = true ∧ limb_1_2.after args s (.returned v) u = true ∧ True) → FrameEnd s (.returned v) u (Jvm.fieldLocs frame_1_writes args s ++ Jvm.arrayLocs frame_1_arrays args s ++ Jvm.staticLocs frame_1_statics s) 16 128 → Post tb e args s (.returned v) u) :
    ArmFor flags0 classFile x code maxLocals ret World_1 tables_1 room_1 Calls_1 rest_1 Pre_1 Post := by
  intro l hfl _ _ p e ha hc hk s m args below hf hA hF happ hP
  obtain ⟨hcalls, hrest, hpre⟩ := hP
  obtain ⟨-, -, -, hnamed, -, -, -, hat⟩ := (Spec.applies_iff hf).mp happ
  obtain ⟨hg, hn⟩ := and_e (Cond.before_iff.mp (show (Jvm.Cond.and given_1 narrow_1).before args s = true from hpre))
  obtain ⟨hct, hg⟩ := and_e hg
  obtain ⟨hg0, hg⟩ := and_e hg
  obtain ⟨hg1, hg⟩ := and_e hg
  obtain ⟨hg2, hg⟩ := and_e hg
  have hg3 := hg
  obtain ⟨w0, w1, w2, w3, rfl⟩ : ∃ w0 w1 w2 w3 : Value, args = #[w0, w1, w2, w3] := by
    have hs : args.size = 4 := by simpa [Cond.value, given_1] using hct
    obtain ⟨L⟩ := args
    match L, hs with
    | [w0, w1, w2, w3], _ => exact ⟨w0, w1, w2, w3, rfl⟩
  have hw := fun d (hd : d ∈ tables_1) => atoms_spec (ws := Jvm.Cond.code x code maxLocals ret :: tables_1) hat d (List.mem_cons_of_mem _ hd)
  obtain ⟨i0, ei0⟩ := is_v hg0
  obtain rfl : w0 = (.int i0) := Option.some.inj ei0
  obtain ⟨i1, ei1⟩ := is_v hg1
  obtain rfl : w1 = (.int i1) := Option.some.inj ei1
  obtain ⟨i2, ei2⟩ := is_v hg2
  obtain rfl : w2 = (.int i2) := Option.some.inj ei2
  obtain ⟨i3, ei3⟩ := isL_v hg3
  obtain rfl : w3 = (.long i3) := Option.some.inj ei3
  obtain ⟨n, o, h1, h2, h3, _, L, rfl, ⟨rfl, N, -⟩, hq⟩ := rm0 l s _ hw tables_1 i0 i1 i2 i3 s.heap s.heap.size (Rep.nil _) p e ha hc hk s m _ below hf ((Spec.applies_iff_loose hf).mp happ).1 ⟨rfl, State.Warmed39.refl s, rfl⟩ trivial
  refine ⟨n, _, h1, h2, h3, hpost _ _ _ _ _ _ ⟨Cond.after_iff.mpr rfl, Cond.after_iff.mpr (eq_i res_at (Term.int_eval (1)) rfl), trivial⟩ ⟨hq.1, hq.2.1, (hq.2.2.sift fun y hy => Or.inr (N y hy)).mono (by decide) (by decide)⟩⟩
theorem main_1_1 : Claimed_1_1 := comes_1 fun _ _ _ _ _ _ h hF => ⟨h.1, hF⟩
theorem main_1_2 : Claimed_1_2 := comes_1 fun _ _ _ _ _ _ h hF => ⟨h.2.1, hF⟩
end Jvm.Pilot.@@N@@
namespace Jvm.Pilot.@@N@@
open Jvm Jvm.ClassFile Sem Op Lib Jvm.Free Jvm.Stand Jvm.Pilot.@@N@@.Jvm.D
/-! MADE BY PROGRAM (witnessworld.py) out of the Statement's table words and the real class files: 17 classes; the members and pool entries that the words name. The judged class is class 1, her method 1. -/
namespace start1
open Jvm.ClassFile
def u (s : String) : CpInfo := .utf8 (stringToUtf16 s)
/-- a pool by its gaps: so many unusable entries, then the entry; so many at the end -/
def gap : Nat → List CpInfo → List CpInfo
  | 0, r => r
  | n + 1, r => .unusable :: gap n r
def poolList (es : List (Nat × CpInfo)) (last : Nat) : List CpInfo := es.foldr (fun e r => gap e.1 (e.2 :: r)) (gap last [])
def pool (es : List (Nat × CpInfo)) (last : Nat) : Array CpInfo := ⟨poolList es last⟩
def fileOf (pool : Array CpInfo) (this : Nat) (attrs : Array Attribute := #[]) (ms : Array MethodInfo := #[]) (fl : Nat := 33) (sup : Nat := 0) (ifs : Array Nat := #[]) (fds : Array FieldInfo := #[]) : ClassFile where
  minorVersion := 0
  majorVersion := 65
  constantPool := pool
  accessFlags := fl
  thisClass := this
  superClass := sup
  interfaces := ifs
  fields := fds
  methods := ms
  attributes := attrs
def plain (name : String) (sup : Option ClassId) : Class where
  name := name
  kind := .ordinary
  loader := none
  accessFlags := 33
  super := sup
  interfaces := #[]
  cf := none
  fields := #[]
  methods := #[]
  instanceTypes := #[]
  staticTypes := #[]
  resolved := #[]
  callSites := []
  init := .initialized
  statics := none
  mirror := none

def pool0 : Array CpInfo := pool [(5, u "<init>"), (0, u "()V"), (1, .class_ 10), (1, u "java/lang/Object")] 113

def k0c0 : Code := { maxStack := 0, maxLocals := 1, code := object_method_1_code, exceptionTable := #[], attributes := #[] }
def k0m0 : Method := { name := "<init>", desc := "()V", sig := { parameters := [], returnType := none }, accessFlags := 1, code := some k0c0 }
/-- java/lang/Object -/
def k0 : Class := { plain "java/lang/Object" none with
  accessFlags := 33
  interfaces := #[]
  cf := some (fileOf pool0 8 #[] #[{ accessFlags := 1, nameIndex := 5, descriptorIndex := 6, attributes := #[] }] 33 0 #[] #[])
  fields := #[]
  methods := #[k0m0]
  instanceTypes := #[]
  staticTypes := #[]
  resolved := Array.replicate 124 none
  statics := none }

def pool1 : Array CpInfo := pool [(2, .class_ 4), (1, u "java/lang/Object"), (0, u "<init>"), (0, u "()V"), (0, .integer 2147483647), (0, .class_ 9), (0, u "com/example/gapless_log/gaplesslog/tree/Ascent"), (0, .class_ 11), (0, u "com/example/gapless_log/gaplesslog/tree/Subtree"), (0, .methodref 10 13), (0, .nameAndType 5 14), (0, u "(JJ)V"), (0, .methodref 8 16), (0, .nameAndType 5 17), (0, u "(Lcom/example/gapless_log/gaplesslog/tree/Subtree;J)V"), (0, .methodref 19 20), (0, .class_ 21), (0, .nameAndType 22 23), (0, u "com/example/gapless_log/gaplesslog/tree/AscentClimbPinLaw"), (0, u "below"), (0, u "(J)J"), (0, .methodref 8 25), (0, .nameAndType 26 27), (0, u "atRoot"), (0, u "()Z"), (0, .methodref 8 29), (0, .nameAndType 30 27), (0, u "siblingOnLeft"), (0, .methodref 8 32), (0, .nameAndType 33 6), (0, u "climb"), (0, .long 4), (1, .long 2), (3, u "law"), (0, u "(IIIJ)Z")] 3

def k1m0 : Method := { name := "<init>", desc := "()V", sig := { parameters := [], returnType := none }, accessFlags := 1, code := none }
def k1c1 : Code := { maxStack := 10, maxLocals := 31, code := code, exceptionTable := #[], attributes := #[] }
def k1m1 : Method := { name := "law", desc := "(IIIJ)Z", sig := { parameters := [.int, .int, .int, .long], returnType := some .boolean }, accessFlags := 9, code := some k1c1 }
def k1c2 : Code := { maxStack := 4, maxLocals := 2, code := method_3_code, exceptionTable := #[], attributes := #[] }
def k1m2 : Method := { name := "below", desc := "(J)J", sig := { parameters := [.long], returnType := some .long }, accessFlags := 10, code := some k1c2 }
/-- com/example/gapless_log/gaplesslog/tree/AscentClimbPinLaw -/
def k1 : Class := { plain "com/example/gapless_log/gaplesslog/tree/AscentClimbPinLaw" (some 0) with
  accessFlags := 49
  interfaces := #[]
  cf := some (fileOf pool1 19 #[] #[{ accessFlags := 1, nameIndex := 5, descriptorIndex := 6, attributes := #[] }, { accessFlags := 9, nameIndex := 40, descriptorIndex := 41, attributes := #[] }, { accessFlags := 10, nameIndex := 22, descriptorIndex := 23, attributes := #[] }] 49 2 #[] #[])
  fields := #[]
  methods := #[k1m0, k1m1, k1m2]
  instanceTypes := #[]
  staticTypes := #[]
  resolved := Array.replicate 45 none
  statics := none }

def pool2 : Array CpInfo := pool [(1, .methodref 2 3), (0, .class_ 4), (0, .nameAndType 5 6), (0, u "java/lang/Object"), (0, u "<init>"), (0, u "()V"), (0, .methodref 8 9), (0, .class_ 10), (0, .nameAndType 11 12), (0, u "com/example/gapless_log/gaplesslog/tree/Subtree"), (0, u "end"), (0, u "()J"), (0, .methodref 8 14), (0, .nameAndType 15 12), (0, u "start"), (0, .methodref 17 18), (0, .class_ 19), (0, .nameAndType 20 21), (0, u "java/lang/Long"), (0, u "numberOfTrailingZeros"), (0, u "(J)I"), (0, .fieldref 23 24), (0, .class_ 25), (0, .nameAndType 26 27), (0, u "com/example/gapless_log/gaplesslog/tree/Ascent"), (0, u "node"), (0, u "J"), (0, .fieldref 23 29), (0, .nameAndType 30 27), (0, u "last"), (0, .methodref 23 32), (0, .nameAndType 33 34), (0, u "siblingOnLeft"), (0, u "()Z"), (0, u "(Lcom/example/gapless_log/gaplesslog/tree/Subtree;J)V"), (2, u "atRoot"), (1, u "climb")] 2

def k2c0 : Code := { maxStack := 5, maxLocals := 5, code := prog_33_method_1_code, exceptionTable := #[], attributes := #[] }
def k2m0 : Method := { name := "<init>", desc := "(Lcom/example/gapless_log/gaplesslog/tree/Subtree;J)V", sig := { parameters := [(.object "com/example/gapless_log/gaplesslog/tree/Subtree"), .long], returnType := none }, accessFlags := 0, code := some k2c0 }
def k2c1 : Code := { maxStack := 4, maxLocals := 1, code := prog_33_method_2_code, exceptionTable := #[], attributes := #[] }
def k2m1 : Method := { name := "atRoot", desc := "()Z", sig := { parameters := [], returnType := some .boolean }, accessFlags := 0, code := some k2c1 }
def k2c2 : Code := { maxStack := 4, maxLocals := 1, code := prog_33_method_3_code, exceptionTable := #[], attributes := #[] }
def k2m2 : Method := { name := "siblingOnLeft", desc := "()Z", sig := { parameters := [], returnType := some .boolean }, accessFlags := 0, code := some k2c2 }
def k2c3 : Code := { maxStack := 4, maxLocals := 1, code := prog_33_method_4_code, exceptionTable := #[], attributes := #[] }
def k2m3 : Method := { name := "climb", desc := "()V", sig := { parameters := [], returnType := none }, accessFlags := 0, code := some k2c3 }
/-- com/example/gapless_log/gaplesslog/tree/Ascent -/
def k2 : Class := { plain "com/example/gapless_log/gaplesslog/tree/Ascent" (some 0) with
  accessFlags := 48
  interfaces := #[]
  cf := some (fileOf pool2 23 #[] #[{ accessFlags := 0, nameIndex := 5, descriptorIndex := 35, attributes := #[] }, { accessFlags := 0, nameIndex := 38, descriptorIndex := 34, attributes := #[] }, { accessFlags := 0, nameIndex := 33, descriptorIndex := 34, attributes := #[] }, { accessFlags := 0, nameIndex := 40, descriptorIndex := 6, attributes := #[] }] 48 2 #[] #[{ accessFlags := 2, nameIndex := 26, descriptorIndex := 27, attributes := #[] }, { accessFlags := 2, nameIndex := 30, descriptorIndex := 27, attributes := #[] }])
  fields := #[{ name := "node", type := .long, accessFlags := 2, slot := 0, constantValue := 0 }, { name := "last", type := .long, accessFlags := 2, slot := 1, constantValue := 0 }]
  methods := #[k2m0, k2m1, k2m2, k2m3]
  instanceTypes := #[.long, .long]
  staticTypes := #[]
  resolved := Array.replicate 43 none
  statics := none }

def pool3 : Array CpInfo := pool [(1, .methodref 2 3), (0, .class_ 4), (0, .nameAndType 5 6), (0, u "java/lang/Object"), (0, u "<init>"), (0, u "()V"), (0, .class_ 8), (0, u "java/lang/Record")] 13

def k3c0 : Code := { maxStack := 1, maxLocals := 1, code := jdk_30_method_1_code, exceptionTable := #[], attributes := #[] }
def k3m0 : Method := { name := "<init>", desc := "()V", sig := { parameters := [], returnType := none }, accessFlags := 4, code := some k3c0 }
/-- java/lang/Record -/
def k3 : Class := { plain "java/lang/Record" (some 0) with
  accessFlags := 1057
  interfaces := #[]
  cf := some (fileOf pool3 7 #[] #[{ accessFlags := 4, nameIndex := 5, descriptorIndex := 6, attributes := #[] }] 1057 2 #[] #[])
  fields := #[]
  methods := #[k3m0]
  instanceTypes := #[]
  staticTypes := #[]
  resolved := Array.replicate 22 none
  statics := none }

def pool4 : Array CpInfo := pool [(1, .methodref 2 3), (0, .class_ 4), (0, .nameAndType 5 6), (0, u "java/lang/Record"), (0, u "<init>"), (0, u "()V"), (9, .fieldref 17 18), (0, .class_ 19), (0, .nameAndType 20 21), (0, u "com/example/gapless_log/gaplesslog/tree/Subtree"), (0, u "start"), (0, u "J"), (0, .fieldref 17 23), (0, .nameAndType 24 21), (0, u "end"), (17, u "(JJ)V"), (45, u "()J")] 31

def k4c0 : Code := { maxStack := 6, maxLocals := 5, code := prog_38_method_1_code, exceptionTable := #[], attributes := #[] }
def k4m0 : Method := { name := "<init>", desc := "(JJ)V", sig := { parameters := [.long, .long], returnType := none }, accessFlags := 1, code := some k4c0 }
def k4c1 : Code := { maxStack := 2, maxLocals := 1, code := prog_38_method_7_code, exceptionTable := #[], attributes := #[] }
def k4m1 : Method := { name := "start", desc := "()J", sig := { parameters := [], returnType := some .long }, accessFlags := 1, code := some k4c1 }
def k4c2 : Code := { maxStack := 2, maxLocals := 1, code := prog_38_method_8_code, exceptionTable := #[], attributes := #[] }
def k4m2 : Method := { name := "end", desc := "()J", sig := { parameters := [], returnType := some .long }, accessFlags := 1, code := some k4c2 }
/-- com/example/gapless_log/gaplesslog/tree/Subtree -/
def k4 : Class := { plain "com/example/gapless_log/gaplesslog/tree/Subtree" (some 3) with
  accessFlags := 49
  interfaces := #[]
  cf := some (fileOf pool4 17 #[] #[{ accessFlags := 1, nameIndex := 5, descriptorIndex := 42, attributes := #[] }, { accessFlags := 1, nameIndex := 20, descriptorIndex := 88, attributes := #[] }, { accessFlags := 1, nameIndex := 24, descriptorIndex := 88, attributes := #[] }] 49 2 #[] #[{ accessFlags := 18, nameIndex := 20, descriptorIndex := 21, attributes := #[] }, { accessFlags := 18, nameIndex := 24, descriptorIndex := 21, attributes := #[] }])
  fields := #[{ name := "start", type := .long, accessFlags := 18, slot := 0, constantValue := 0 }, { name := "end", type := .long, accessFlags := 18, slot := 1, constantValue := 0 }]
  methods := #[k4m0, k4m1, k4m2]
  instanceTypes := #[.long, .long]
  staticTypes := #[]
  resolved := Array.replicate 120 none
  statics := none }

def pool5 : Array CpInfo := pool [(1, .class_ 2), (0, u "java/io/Serializable"), (0, .class_ 4), (0, u "java/lang/Object")] 2

/-- java/io/Serializable -/
def k5 : Class := { plain "java/io/Serializable" (some 0) with
  accessFlags := 1537
  interfaces := #[]
  cf := some (fileOf pool5 1 #[] #[] 1537 3 #[] #[])
  fields := #[]
  methods := #[]
  instanceTypes := #[]
  staticTypes := #[]
  resolved := Array.replicate 7 none
  statics := none }

def pool6 : Array CpInfo := pool [(2, .class_ 4), (1, u "java/lang/Object"), (0, u "<init>"), (0, u "()V"), (1, .class_ 10), (1, u "java/lang/Number"), (2, .class_ 14), (0, u "java/io/Serializable"), (0, u "serialVersionUID"), (0, u "J")] 20

def k6m0 : Method := { name := "<init>", desc := "()V", sig := { parameters := [], returnType := none }, accessFlags := 1, code := none }
/-- java/lang/Number -/
def k6 : Class := { plain "java/lang/Number" (some 0) with
  accessFlags := 1057
  interfaces := #[5]
  cf := some (fileOf pool6 8 #[] #[{ accessFlags := 1, nameIndex := 5, descriptorIndex := 6, attributes := #[] }] 1057 2 #[13] #[{ accessFlags := 26, nameIndex := 15, descriptorIndex := 16, attributes := #[] }])
  fields := #[{ name := "serialVersionUID", type := .long, accessFlags := 26, slot := 0, constantValue := 0 }]
  methods := #[k6m0]
  instanceTypes := #[]
  staticTypes := #[.long]
  resolved := Array.replicate 37 none
  statics := none }

def pool7 : Array CpInfo := pool [(1, .class_ 2), (0, u "java/lang/Comparable"), (0, .class_ 4), (0, u "java/lang/Object")] 7

/-- java/lang/Comparable -/
def k7 : Class := { plain "java/lang/Comparable" (some 0) with
  accessFlags := 1537
  interfaces := #[]
  cf := some (fileOf pool7 1 #[] #[] 1537 3 #[] #[])
  fields := #[]
  methods := #[]
  instanceTypes := #[]
  staticTypes := #[]
  resolved := Array.replicate 12 none
  statics := none }

def pool8 : Array CpInfo := pool [(1, .class_ 2), (0, u "java/lang/constant/Constable"), (0, .class_ 4), (0, u "java/lang/Object")] 6

/-- java/lang/constant/Constable -/
def k8 : Class := { plain "java/lang/constant/Constable" (some 0) with
  accessFlags := 1537
  interfaces := #[]
  cf := some (fileOf pool8 1 #[] #[] 1537 3 #[] #[])
  fields := #[]
  methods := #[]
  instanceTypes := #[]
  staticTypes := #[]
  resolved := Array.replicate 11 none
  statics := none }

def pool9 : Array CpInfo := pool [(1, .class_ 2), (0, u "java/lang/constant/ConstantDesc"), (0, .class_ 4), (0, u "java/lang/Object")] 32

/-- java/lang/constant/ConstantDesc -/
def k9 : Class := { plain "java/lang/constant/ConstantDesc" (some 0) with
  accessFlags := 1537
  interfaces := #[]
  cf := some (fileOf pool9 1 #[] #[] 1537 3 #[] #[])
  fields := #[]
  methods := #[]
  instanceTypes := #[]
  staticTypes := #[]
  resolved := Array.replicate 37 none
  statics := none }

def pool10 : Array CpInfo := pool [(1, .class_ 2), (0, u "java/lang/Long"), (15, .class_ 20), (1, u "java/lang/Integer"), (80, u "(J)I"), (133, .class_ 237), (1, u "java/lang/Long$LongCache"), (33, .class_ 272), (0, u "java/lang/Number"), (2, u "value"), (0, u "J"), (33, u "(I)I"), (0, .methodref 18 312), (0, .nameAndType 313 310), (0, u "numberOfTrailingZeros"), (47, u "TYPE"), (0, u "Ljava/lang/Class;"), (0, .class_ 364), (0, u "java/lang/Comparable"), (0, .class_ 366), (0, u "java/lang/constant/Constable"), (0, .class_ 368), (0, u "java/lang/constant/ConstantDesc"), (0, u "MIN_VALUE"), (1, u "MAX_VALUE"), (4, u "SIZE"), (0, u "I"), (1, u "BYTES"), (1, u "serialVersionUID")] 142

def k10c0 : Code := { maxStack := 4, maxLocals := 3, code := jdk_35_method_49_code, exceptionTable := #[], attributes := #[] }
def k10m0 : Method := { name := "numberOfTrailingZeros", desc := "(J)I", sig := { parameters := [.long], returnType := some .int }, accessFlags := 9, code := some k10c0 }
/-- java/lang/Long -/
def k10 : Class := { plain "java/lang/Long" (some 6) with
  accessFlags := 49
  interfaces := #[7, 8, 9]
  cf := some (fileOf pool10 1 #[.nestMembers #[235]] #[{ accessFlags := 9, nameIndex := 313, descriptorIndex := 101, attributes := #[] }] 49 271 #[363, 365, 367] #[{ accessFlags := 25, nameIndex := 369, descriptorIndex := 276, attributes := #[] }, { accessFlags := 25, nameIndex := 371, descriptorIndex := 276, attributes := #[] }, { accessFlags := 25, nameIndex := 361, descriptorIndex := 362, attributes := #[] }, { accessFlags := 18, nameIndex := 275, descriptorIndex := 276, attributes := #[] }, { accessFlags := 25, nameIndex := 376, descriptorIndex := 377, attributes := #[] }, { accessFlags := 25, nameIndex := 379, descriptorIndex := 377, attributes := #[] }, { accessFlags := 26, nameIndex := 381, descriptorIndex := 276, attributes := #[] }])
  fields := #[{ name := "MIN_VALUE", type := .long, accessFlags := 25, slot := 0, constantValue := 0 }, { name := "MAX_VALUE", type := .long, accessFlags := 25, slot := 1, constantValue := 0 }, { name := "TYPE", type := (.object "java/lang/Class"), accessFlags := 25, slot := 2, constantValue := 0 }, { name := "value", type := .long, accessFlags := 18, slot := 0, constantValue := 0 }, { name := "SIZE", type := .int, accessFlags := 25, slot := 3, constantValue := 0 }, { name := "BYTES", type := .int, accessFlags := 25, slot := 4, constantValue := 0 }, { name := "serialVersionUID", type := .long, accessFlags := 26, slot := 5, constantValue := 0 }]
  methods := #[k10m0]
  instanceTypes := #[.long]
  staticTypes := #[.long, .long, (.object "java/lang/Class"), .int, .int, .long]
  resolved := Array.replicate 524 none
  statics := none }

def pool11 : Array CpInfo := pool [(1, .class_ 2), (0, u "java/lang/Integer"), (16, u "digits"), (0, u "[C"), (33, u "(I)I"), (30, u "DigitOnes"), (0, u "[B"), (2, u "DigitTens"), (99, .class_ 190), (0, u "java/lang/Integer$IntegerCache"), (3, u "I"), (8, .class_ 204), (0, u "java/lang/Number"), (2, u "value"), (56, .integer 65536), (37, u "TYPE"), (0, u "Ljava/lang/Class;"), (0, .class_ 305), (0, u "java/lang/Comparable"), (0, .class_ 307), (0, u "java/lang/constant/Constable"), (0, .class_ 309), (0, u "java/lang/constant/ConstantDesc"), (0, u "MIN_VALUE"), (1, u "MAX_VALUE"), (3, u "SIZE"), (1, u "BYTES"), (1, u "serialVersionUID"), (0, u "J"), (84, u "numberOfTrailingZeros")] 46

def k11c0 : Code := { maxStack := 3, maxLocals := 2, code := jdk_33_method_48_code, exceptionTable := #[], attributes := #[] }
def k11m0 : Method := { name := "numberOfTrailingZeros", desc := "(I)I", sig := { parameters := [.int], returnType := some .int }, accessFlags := 9, code := some k11c0 }
/-- java/lang/Integer -/
def k11 : Class := { plain "java/lang/Integer" (some 6) with
  accessFlags := 49
  interfaces := #[7, 8, 9]
  cf := some (fileOf pool11 1 #[.nestMembers #[189]] #[{ accessFlags := 9, nameIndex := 406, descriptorIndex := 54, attributes := #[] }] 49 203 #[304, 306, 308] #[{ accessFlags := 25, nameIndex := 310, descriptorIndex := 194, attributes := #[] }, { accessFlags := 25, nameIndex := 312, descriptorIndex := 194, attributes := #[] }, { accessFlags := 25, nameIndex := 302, descriptorIndex := 303, attributes := #[] }, { accessFlags := 24, nameIndex := 19, descriptorIndex := 20, attributes := #[] }, { accessFlags := 24, nameIndex := 89, descriptorIndex := 86, attributes := #[] }, { accessFlags := 24, nameIndex := 85, descriptorIndex := 86, attributes := #[] }, { accessFlags := 18, nameIndex := 207, descriptorIndex := 194, attributes := #[] }, { accessFlags := 25, nameIndex := 316, descriptorIndex := 194, attributes := #[] }, { accessFlags := 25, nameIndex := 318, descriptorIndex := 194, attributes := #[] }, { accessFlags := 26, nameIndex := 320, descriptorIndex := 321, attributes := #[] }])
  fields := #[{ name := "MIN_VALUE", type := .int, accessFlags := 25, slot := 0, constantValue := 0 }, { name := "MAX_VALUE", type := .int, accessFlags := 25, slot := 1, constantValue := 0 }, { name := "TYPE", type := (.object "java/lang/Class"), accessFlags := 25, slot := 2, constantValue := 0 }, { name := "digits", type := (.array .char), accessFlags := 24, slot := 3, constantValue := 0 }, { name := "DigitTens", type := (.array .byte), accessFlags := 24, slot := 4, constantValue := 0 }, { name := "DigitOnes", type := (.array .byte), accessFlags := 24, slot := 5, constantValue := 0 }, { name := "value", type := .int, accessFlags := 18, slot := 0, constantValue := 0 }, { name := "SIZE", type := .int, accessFlags := 25, slot := 6, constantValue := 0 }, { name := "BYTES", type := .int, accessFlags := 25, slot := 7, constantValue := 0 }, { name := "serialVersionUID", type := .long, accessFlags := 26, slot := 8, constantValue := 0 }]
  methods := #[k11m0]
  instanceTypes := #[.int]
  staticTypes := #[.int, .int, (.object "java/lang/Class"), (.array .char), (.array .byte), (.array .byte), .int, .int, .long]
  resolved := Array.replicate 453 none
  statics := none }

def pool12 : Array CpInfo := pool [(1, u "java/lang/Cloneable"), (0, .class_ 1), (0, u "java/lang/Object"), (0, .class_ 3)] 3

/-- java/lang/Cloneable -/
def k12 : Class := { plain "java/lang/Cloneable" (some 0) with
  accessFlags := 1537
  interfaces := #[]
  cf := some (fileOf pool12 2 #[] #[] 1537 4 #[] #[])
  fields := #[]
  methods := #[]
  instanceTypes := #[]
  staticTypes := #[]
  resolved := Array.replicate 8 none
  statics := none }

/-- the primitive byte -/
def k13 : Class := { plain "byte" none with kind := .primitive 'B', accessFlags := 0x411 }
/-- [B -/
def k14 : Class := { plain "[B" (some 0) with kind := .array 13 .byte, interfaces := #[12, 5], accessFlags := 1041 }

/-- the primitive int -/
def k15 : Class := { plain "int" none with kind := .primitive 'I', accessFlags := 0x411 }
/-- [I -/
def k16 : Class := { plain "[I" (some 0) with kind := .array 15 .int, interfaces := #[12, 5], accessFlags := 1041 }

def heap : Heap := #[]
def classes : Array Class := #[k0, k1, k2, k3, k4, k5, k6, k7, k8, k9, k10, k11, k12, k13, k14, k15, k16]
def interned : List (Array UInt16 × Addr) := []
def slotsUsed : Nat := 0
def theMethod : MethodId := ⟨1, 1⟩
def args0 : Array Value := #[.int 5, .int 2, .int 3, .long 7]
def aboutOver (below : List Frame) : State where
  vm := { classes := classes, interned := interned.toArray }
  heap := heap
  slotsUsed := slotsUsed
  threads := #[{ frames := .invoking theMethod args0 :: below }]
def below0 : List Frame := [.native { method := ⟨0, 0⟩, args := #[] }]
def about1 : State := aboutOver below0
def p0 : Program := .bare "" "" ""
def e0 : Env := launch0.env 0 0 0
theorem w_frames : about1.frames = Frame.invoking theMethod args0 :: below0 := rfl
set_option maxRecDepth 65536 in
theorem w_args : argsFit about1.vm theMethod args0 = true := by decide +kernel
set_option maxRecDepth 65536 in
theorem w_heap : heapFits about1 = true := by decide +kernel
set_option maxRecDepth 65536 in
theorem w_runnable : about1.curStatus? = some .runnable := by decide +kernel
set_option maxRecDepth 65536 in
theorem w_alone : about1.alone = true := by decide +kernel
set_option maxRecDepth 65536 in
theorem w_named : about1.methodNamed? x = some theMethod := by decide +kernel
set_option maxRecDepth 65536 in
theorem w_hears : about1.hears theMethod below0 = true := by decide +kernel
set_option maxRecDepth 65536 in
theorem w_ripe : about1.ripe theMethod args0 below0 = true := by decide +kernel
theorem w_running : about1.status = .running := rfl
set_option maxRecDepth 65536 in
theorem w_room : about1.hasRoom e0.platform room_1 = true :=
  launch0.hasRoom_least _ room_1 (by decide +kernel) (by decide +kernel) (by decide +kernel) (by decide +kernel) (by decide +kernel) (by decide +kernel)
theorem allAtoms_all (ts : List Jvm.Cond) (a : Array Jvm.Value) (st : Jvm.State) : (allAtoms ts).before a st = ts.all (fun c => c.before a st) := by
  induction ts with
  | nil => rfl
  | cons c t ih =>
    show (Jvm.Cond.and c (allAtoms t)).before a st = _
    rw [Jvm.Cond.before_and, ih, List.all_cons]
def words1 : List Jvm.Cond := Jvm.Cond.code x code maxLocals ret :: tables_1
/-- a 'code' word, met by the world's own term for the bytes: nothing is compared byte by byte -/
theorem code_word {y : MethodName} {bytes : ByteArray} {mx : Nat} {rt : Option FieldType} {a : Array Value} {s : State} {m : MethodId} {meth : Method} {c : Code} (h1 : s.methodNamed? y = some m) (h2 : s.vm.method? m = some meth) (h3 : meth.code = some c) (h4 : c.code = bytes)
    (h5 : (c.maxLocals == mx && c.exceptionTable.isEmpty && decide (c.maxStack ≤ mostOperands) && decide (meth.sig.returnType = rt) && !meth.locks && decide (parseMethodDescriptor y.desc = some meth.sig)) = true) : (Jvm.Cond.code y bytes mx rt).before a s = true := by
  simp only [Bool.and_eq_true, beq_iff_eq, Bool.not_eq_true', decide_eq_true_eq] at h5
  obtain ⟨⟨⟨⟨⟨g1, g2⟩, g3⟩, g4⟩, g5⟩, g6⟩ := h5
  simp [Cond.before, Cond.holds, Cond.value, h1, h2, h3, h4, g1, g2, g3, g4, g5, g6]
def isCode : Jvm.Cond → Bool
  | .code _ _ _ _ => true
  | _ => false
theorem all_split {L : List Jvm.Cond} {P : Jvm.Cond → Bool} (h1 : L.all (fun c => isCode c || P c) = true) (h2 : ∀ c ∈ L.filter isCode, P c = true) : L.all P = true := by
  refine List.all_eq_true.mpr fun c hc => ?_
  have h := List.all_eq_true.mp h1 c hc
  rcases Bool.eq_false_or_eq_true (isCode c) with hi | hi
  · exact h2 c (List.mem_filter.mpr ⟨hc, hi⟩)
  · simpa [hi] using h
set_option maxRecDepth 65536 in
theorem w_c0 : (Jvm.Cond.code x code maxLocals ret).before args0 about1 = true := code_word (m := ⟨1, 1⟩) (meth := k1m1) (c := k1c1) (by decide +kernel) rfl rfl rfl (by decide +kernel)
set_option maxRecDepth 65536 in
theorem w_c1 : (Jvm.Cond.code ({ cls := "com/example/gapless_log/gaplesslog/tree/Subtree", name := "<init>", desc := "(JJ)V" } : Jvm.MethodName) prog_38_method_1_code (5 : Nat) (Option.none : Option Jvm.ClassFile.FieldType)).before args0 about1 = true := code_word (m := ⟨4, 0⟩) (meth := k4m0) (c := k4c0) (by decide +kernel) rfl rfl rfl (by decide +kernel)
set_option maxRecDepth 65536 in
theorem w_c2 : (Jvm.Cond.code ({ cls := "java/lang/Record", name := "<init>", desc := "()V" } : Jvm.MethodName) jdk_30_method_1_code (1 : Nat) (Option.none : Option Jvm.ClassFile.FieldType)).before args0 about1 = true := code_word (m := ⟨3, 0⟩) (meth := k3m0) (c := k3c0) (by decide +kernel) rfl rfl rfl (by decide +kernel)
set_option maxRecDepth 65536 in
theorem w_c3 : (Jvm.Cond.code ({ cls := "java/lang/Object", name := "<init>", desc := "()V" } : Jvm.MethodName) object_method_1_code (1 : Nat) (Option.none : Option Jvm.ClassFile.FieldType)).before args0 about1 = true := code_word (m := ⟨0, 0⟩) (meth := k0m0) (c := k0c0) (by decide +kernel) rfl rfl rfl (by decide +kernel)
set_option maxRecDepth 65536 in
theorem w_c4 : (Jvm.Cond.code ({ cls := "com/example/gapless_log/gaplesslog/tree/Ascent", name := "<init>", desc := "(Lcom/example/gapless_log/gaplesslog/tree/Subtree;J)V" } : Jvm.MethodName) prog_33_method_1_code (5 : Nat) (Option.none : Option Jvm.ClassFile.FieldType)).before args0 about1 = true := code_word (m := ⟨2, 0⟩) (meth := k2m0) (c := k2c0) (by decide +kernel) rfl rfl rfl (by decide +kernel)
set_option maxRecDepth 65536 in
theorem w_c5 : (Jvm.Cond.code ({ cls := "com/example/gapless_log/gaplesslog/tree/Subtree", name := "end", desc := "()J" } : Jvm.MethodName) prog_38_method_8_code (1 : Nat) (Option.some Jvm.ClassFile.FieldType.long)).before args0 about1 = true := code_word (m := ⟨4, 2⟩) (meth := k4m2) (c := k4c2) (by decide +kernel) rfl rfl rfl (by decide +kernel)
set_option maxRecDepth 65536 in
theorem w_c6 : (Jvm.Cond.code ({ cls := "com/example/gapless_log/gaplesslog/tree/Subtree", name := "start", desc := "()J" } : Jvm.MethodName) prog_38_method_7_code (1 : Nat) (Option.some Jvm.ClassFile.FieldType.long)).before args0 about1 = true := code_word (m := ⟨4, 1⟩) (meth := k4m1) (c := k4c1) (by decide +kernel) rfl rfl rfl (by decide +kernel)
set_option maxRecDepth 65536 in
theorem w_c7 : (Jvm.Cond.code ({ cls := "java/lang/Long", name := "numberOfTrailingZeros", desc := "(J)I" } : Jvm.MethodName) jdk_35_method_49_code (3 : Nat) (Option.some Jvm.ClassFile.FieldType.int)).before args0 about1 = true := code_word (m := ⟨10, 0⟩) (meth := k10m0) (c := k10c0) (by decide +kernel) rfl rfl rfl (by decide +kernel)
set_option maxRecDepth 65536 in
theorem w_c8 : (Jvm.Cond.code ({ cls := "java/lang/Integer", name := "numberOfTrailingZeros", desc := "(I)I" } : Jvm.MethodName) jdk_33_method_48_code (2 : Nat) (Option.some Jvm.ClassFile.FieldType.int)).before args0 about1 = true := code_word (m := ⟨11, 0⟩) (meth := k11m0) (c := k11c0) (by decide +kernel) rfl rfl rfl (by decide +kernel)
set_option maxRecDepth 65536 in
theorem w_c9 : (Jvm.Cond.code ({ cls := "com/example/gapless_log/gaplesslog/tree/AscentClimbPinLaw", name := "below", desc := "(J)J" } : Jvm.MethodName) method_3_code (2 : Nat) (Option.some Jvm.ClassFile.FieldType.long)).before args0 about1 = true := code_word (m := ⟨1, 2⟩) (meth := k1m2) (c := k1c2) (by decide +kernel) rfl rfl rfl (by decide +kernel)
set_option maxRecDepth 65536 in
theorem w_c10 : (Jvm.Cond.code ({ cls := "com/example/gapless_log/gaplesslog/tree/Ascent", name := "atRoot", desc := "()Z" } : Jvm.MethodName) prog_33_method_2_code (1 : Nat) (Option.some Jvm.ClassFile.FieldType.boolean)).before args0 about1 = true := code_word (m := ⟨2, 1⟩) (meth := k2m1) (c := k2c1) (by decide +kernel) rfl rfl rfl (by decide +kernel)
set_option maxRecDepth 65536 in
theorem w_c11 : (Jvm.Cond.code ({ cls := "com/example/gapless_log/gaplesslog/tree/Ascent", name := "siblingOnLeft", desc := "()Z" } : Jvm.MethodName) prog_33_method_3_code (1 : Nat) (Option.some Jvm.ClassFile.FieldType.boolean)).before args0 about1 = true := code_word (m := ⟨2, 2⟩) (meth := k2m2) (c := k2c2) (by decide +kernel) rfl rfl rfl (by decide +kernel)
set_option maxRecDepth 65536 in
theorem w_c12 : (Jvm.Cond.code ({ cls := "com/example/gapless_log/gaplesslog/tree/Ascent", name := "climb", desc := "()V" } : Jvm.MethodName) prog_33_method_4_code (1 : Nat) (Option.none : Option Jvm.ClassFile.FieldType)).before args0 about1 = true := code_word (m := ⟨2, 3⟩) (meth := k2m3) (c := k2c3) (by decide +kernel) rfl rfl rfl (by decide +kernel)
def codes1 : List Jvm.Cond := [Jvm.Cond.code x code maxLocals ret, Jvm.Cond.code ({ cls := "com/example/gapless_log/gaplesslog/tree/Subtree", name := "<init>", desc := "(JJ)V" } : Jvm.MethodName) prog_38_method_1_code (5 : Nat) (Option.none : Option Jvm.ClassFile.FieldType), Jvm.Cond.code ({ cls := "java/lang/Record", name := "<init>", desc := "()V" } : Jvm.MethodName) jdk_30_method_1_code (1 : Nat) (Option.none : Option Jvm.ClassFile.FieldType), Jvm.Cond.code ({ cls := "java/lang/Object", name := "<init>", desc := "()V" } : Jvm.MethodName) object_method_1_code (1 : Nat) (Option.none : Option Jvm.ClassFile.FieldType), Jvm.Cond.code ({ cls := "com/example/gapless_log/gaplesslog/tree/Ascent", name := "<init>", desc := "(Lcom/example/gapless_log/gaplesslog/tree/Subtree;J)V" } : Jvm.MethodName) prog_33_method_1_code (5 : Nat) (Option.none : Option Jvm.ClassFile.FieldType), Jvm.Cond.code ({ cls := "com/example/gapless_log/gaplesslog/tree/Subtree", name := "end", desc := "()J" } : Jvm.MethodName) prog_38_method_8_code (1 : Nat) (Option.some Jvm.ClassFile.FieldType.long), Jvm.Cond.code ({ cls := "com/example/gapless_log/gaplesslog/tree/Subtree", name := "start", desc := "()J" } : Jvm.MethodName) prog_38_method_7_code (1 : Nat) (Option.some Jvm.ClassFile.FieldType.long), Jvm.Cond.code ({ cls := "java/lang/Long", name := "numberOfTrailingZeros", desc := "(J)I" } : Jvm.MethodName) jdk_35_method_49_code (3 : Nat) (Option.some Jvm.ClassFile.FieldType.int), Jvm.Cond.code ({ cls := "java/lang/Integer", name := "numberOfTrailingZeros", desc := "(I)I" } : Jvm.MethodName) jdk_33_method_48_code (2 : Nat) (Option.some Jvm.ClassFile.FieldType.int), Jvm.Cond.code ({ cls := "com/example/gapless_log/gaplesslog/tree/AscentClimbPinLaw", name := "below", desc := "(J)J" } : Jvm.MethodName) method_3_code (2 : Nat) (Option.some Jvm.ClassFile.FieldType.long), Jvm.Cond.code ({ cls := "com/example/gapless_log/gaplesslog/tree/Ascent", name := "atRoot", desc := "()Z" } : Jvm.MethodName) prog_33_method_2_code (1 : Nat) (Option.some Jvm.ClassFile.FieldType.boolean), Jvm.Cond.code ({ cls := "com/example/gapless_log/gaplesslog/tree/Ascent", name := "siblingOnLeft", desc := "()Z" } : Jvm.MethodName) prog_33_method_3_code (1 : Nat) (Option.some Jvm.ClassFile.FieldType.boolean), Jvm.Cond.code ({ cls := "com/example/gapless_log/gaplesslog/tree/Ascent", name := "climb", desc := "()V" } : Jvm.MethodName) prog_33_method_4_code (1 : Nat) (Option.none : Option Jvm.ClassFile.FieldType)]
set_option maxRecDepth 65536 in
theorem codes_eq : words1.filter isCode = codes1 := rfl
theorem w_codes : ∀ c ∈ words1.filter isCode, c.before args0 about1 = true := by
  rw [codes_eq]
  intro c hc
  simp only [codes1, List.mem_cons, List.not_mem_nil, or_false] at hc
  rcases hc with rfl | rfl | rfl | rfl | rfl | rfl | rfl | rfl | rfl | rfl | rfl | rfl | rfl
  · exact w_c0
  · exact w_c1
  · exact w_c2
  · exact w_c3
  · exact w_c4
  · exact w_c5
  · exact w_c6
  · exact w_c7
  · exact w_c8
  · exact w_c9
  · exact w_c10
  · exact w_c11
  · exact w_c12
set_option maxRecDepth 65536 in
theorem w_t1 : (words1.take 24).all (fun c => isCode c || c.before args0 about1) = true := by decide +kernel
set_option maxRecDepth 65536 in
theorem w_t2 : ((words1.drop 24).take 24).all (fun c => isCode c || c.before args0 about1) = true := by decide +kernel
set_option maxRecDepth 65536 in
theorem w_t3 : ((words1.drop 24).drop 24).all (fun c => isCode c || c.before args0 about1) = true := by decide +kernel
theorem w_tables : (allAtoms (Jvm.Cond.code x code maxLocals ret :: tables_1)).before args0 about1 = true := by
  rw [allAtoms_all]
  show words1.all (fun c => c.before args0 about1) = true
  refine all_split ?_ w_codes
  rw [← List.take_append_drop 24 words1, List.all_append, w_t1, ← List.take_append_drop 24 (words1.drop 24), List.all_append, w_t2, w_t3]
  rfl
set_option maxRecDepth 65536 in
theorem w_case : (Jvm.Cond.and given_1 narrow_1).before args0 about1 = true := by decide +kernel
theorem w_applies : (headSpec (Jvm.Cond.code x code maxLocals ret :: tables_1) room_1).applies x e0.platform about1 = true :=
  (Spec.applies_iff w_frames).mpr ⟨w_running, w_runnable, w_alone, w_named, w_hears, w_ripe, w_room, w_tables⟩
theorem atStart : AtStart classFile x code maxLocals ret World_1 tables_1 room_1 Calls_1 rest_1 Pre_1 launch0 p0 e0 about1 theMethod args0 below0 :=
  ⟨lists_1, trivial, launch0.admits_env _ _ _, launch0.least_env, fairChoices_fair.cas, fairChoices_fair.clock, w_frames, w_args, w_heap, w_applies, trivial, trivial, w_case⟩
end start1
theorem witness_1 : WitnessClaimed_1 := ⟨start1.p0, start1.e0, start1.about1, start1.theMethod, start1.args0, start1.below0, start1.atStart⟩
end Jvm.Pilot.@@N@@
