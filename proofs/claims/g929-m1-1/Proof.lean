import JvmDerived
import JvmDerived.Pilot.@@N@@Statement
import JvmDerived.Pilot.@@N@@Code
set_option linter.unusedVariables false
set_option linter.unusedSimpArgs false
namespace Jvm.Pilot.@@N@@
open Jvm Jvm.ClassFile Sem Op Lib Jvm.Free Jvm.Stand Jvm.LawKit Jvm.RoadKit Bundle Jvm.Pilot.@@N@@.Jvm.D
abbrev Cx : Type := Program × Launch × Env × Room × State × MethodId × Array Value × List Frame × Method × Code
abbrev Cx.p (K : Cx) : Program := K.1
abbrev Cx.l (K : Cx) : Launch := K.2.1
abbrev Cx.e (K : Cx) : Env := K.2.2.1
abbrev Cx.R (K : Cx) : Room := K.2.2.2.1
abbrev Cx.s (K : Cx) : State := K.2.2.2.2.1
abbrev Cx.m (K : Cx) : MethodId := K.2.2.2.2.2.1
abbrev Cx.args (K : Cx) : Array Value := K.2.2.2.2.2.2.1
abbrev Cx.below (K : Cx) : List Frame := K.2.2.2.2.2.2.2.1
abbrev Cx.meth (K : Cx) : Method := K.2.2.2.2.2.2.2.2.1
abbrev Cx.c (K : Cx) : Code := K.2.2.2.2.2.2.2.2.2
/-- from T at this frame the body ends within the room, and what it leaves is Q's -/
def Go (K : Cx) (n0 kc kj : Nat) (Q : Option Value → Heap → Prop) (T : State) (pc : Nat) (Ls : Array Slot) (st : List Value) : Prop :=
  ∃ t o, Steps K.p.tables K.e K.below (T.setTop (mkF K.m pc Ls st)) t ∧ t.status = .running ∧ Ended t K.below o ∧ ∃ v L, o = .returned v ∧ (Q v t.heap ∧ Fr n0 L) ∧ FrameEnd K.s o t L kc kj
/-- where the walk stands: the body's own facts, the heap, how many cells and slots have been made -/
def St (K : Cx) (Z : State) (own : String) (b : ByteArray) (mx : Nat) (ret : Option FieldType) (rm : Room) (n0 k j : Nat) (T : State) (h : Heap) : Prop :=
  K.p.tables.exec = Jvm.exec ∧ Z.Warmed39 K.s.vm ∧ K.s.vm.findClass own = some K.m.cls ∧ K.c.code = b ∧ K.c.maxLocals = mx ∧ K.meth.sig.returnType = ret ∧ K.meth.locks = false ∧ K.R = rm ∧ T.heap = h ∧
    ∃ locs, Stand K.p K.l K.e K.R K.s K.m K.args K.below K.meth K.c T locs k j ∧ Fr n0 locs
def Isn (b : ByteArray) (pc : Nat) (i : Instr) (n pc' : Nat) : Prop := decode b pc = .ok (i, n) ∧ pc + n = pc'
def Brn (b : ByteArray) (pc : Nat) (i : Instr) (o : Int) (pc' tg : Nat) : Prop := decode b pc = .ok (i, 3) ∧ pc + 3 = pc' ∧ 0 ≤ (pc : Int) + o ∧ ((pc : Int) + o).toNat = tg
/-- a body's contract, at its arguments and heap -/
def CtrW (l : Launch) (Z : State) (y : MethodName) (b : ByteArray) (mx : Nat) (ret : Option FieldType) (ws : List Jvm.Cond) (rm : Room) (kc kj : Nat) (as' : List Value) (h : Heap) (n0 : Nat) (Q : Option Value → Heap → Prop) : Prop :=
  MetFree l y (head1 (Jvm.Cond.code y b mx ret :: ws) rm) (fun a U => a = as'.toArray ∧ Z.Warmed39 U.vm ∧ U.heap = h) (fun _ _ _ _ _ => True) (fun _ U o U' => ∃ v L, o = .returned v ∧ (Q v U'.heap ∧ Fr n0 L) ∧ FrameEnd U o U' L kc kj)
abbrev Ctr (l : Launch) (Z : State) (y : MethodName) (b : ByteArray) (mx : Nat) (ret : Option FieldType) (rm : Room) (as' : List Value) (h : Heap) (n0 : Nat) (Q : Option Value → Heap → Prop) : Prop :=
  CtrW l Z y b mx ret [] rm rm.cells rm.slots as' h n0 Q
section OwnKit
variable {K : Cx} {Z : State} {own : String} {b : ByteArray} {mx : Nat} {ret : Option FieldType} {rm : Room} {n0 k j kc kj : Nat} {T : State} {h : Heap} {Q : Option Value → Heap → Prop} {pc pc' tg : Nat} {Ls Ls' : Array Slot} {st rest : List Value} {a0 : Array Value}
theorem St.ex (X : St K Z own b mx ret rm n0 k j T h) : K.p.tables.exec = Jvm.exec := X.1
theorem St.wZ (X : St K Z own b mx ret rm n0 k j T h) : Z.Warmed39 K.s.vm := X.2.1
theorem St.ow (X : St K Z own b mx ret rm n0 k j T h) : K.s.vm.findClass own = some K.m.cls := X.2.2.1
theorem St.dec (X : St K Z own b mx ret rm n0 k j T h) {r : Except DecodeError (Instr × Nat)} (d : decode b pc = r) : decode K.c.code pc = r := hb X.2.2.2.1 d
theorem St.ml (X : St K Z own b mx ret rm n0 k j T h) : K.c.maxLocals = mx := X.2.2.2.2.1
theorem St.rt (X : St K Z own b mx ret rm n0 k j T h) : K.meth.sig.returnType = ret := X.2.2.2.2.2.1
theorem St.nl (X : St K Z own b mx ret rm n0 k j T h) : K.meth.locks = false := X.2.2.2.2.2.2.1
theorem St.rmE (X : St K Z own b mx ret rm n0 k j T h) : K.R = rm := X.2.2.2.2.2.2.2.1
theorem St.hp (X : St K Z own b mx ret rm n0 k j T h) : T.heap = h := X.2.2.2.2.2.2.2.2.1
theorem St.sd (X : St K Z own b mx ret rm n0 k j T h) : ∃ locs, Stand K.p K.l K.e K.R K.s K.m K.args K.below K.meth K.c T locs k j ∧ Fr n0 locs := X.2.2.2.2.2.2.2.2.2
theorem St.here (X : St K Z own b mx ret rm n0 k j T h) : At T K.m K.c K.below := by obtain ⟨_, S, _⟩ := X.sd; exact S.here
theorem St.mk' (X : St K Z own b mx ret rm n0 k j T h) {T' : State} {h' : Heap} {k' j' : Nat} {locs : List Loc} (S : Stand K.p K.l K.e K.R K.s K.m K.args K.below K.meth K.c T' locs k' j') (N : Fr n0 locs) (q : T'.heap = h') : St K Z own b mx ret rm n0 k' j' T' h' :=
  ⟨X.1, X.2.1, X.2.2.1, X.2.2.2.1, X.2.2.2.2.1, X.2.2.2.2.2.1, X.2.2.2.2.2.2.1, X.2.2.2.2.2.2.2.1, q, _, S, N⟩
theorem St.more (X : St K Z own b mx ret rm n0 k j T h) {k' j' : Nat} (hk : k ≤ k') (hj : j ≤ j') : St K Z own b mx ret rm n0 k' j' T h := by
  obtain ⟨_, S, N⟩ := X.sd; exact X.mk' (S.more hk hj) N X.hp
theorem St.eqh (X : St K Z own b mx ret rm n0 k j T h) {h' : Heap} (q : h = h') : St K Z own b mx ret rm n0 k j T h' := q ▸ X
theorem o_go {T' : State} {st' : List Value} (f : ∀ t, Steps K.p.tables K.e K.below (T'.setTop (mkF K.m pc' Ls' st')) t → Steps K.p.tables K.e K.below (T.setTop (mkF K.m pc Ls st)) t) (g : Go K n0 kc kj Q T' pc' Ls' st') : Go K n0 kc kj Q T pc Ls st := by
  obtain ⟨t, o, h1, h2⟩ := g; exact ⟨t, o, f t h1, h2⟩
theorem Go.imp {Q' : Option Value → Heap → Prop} (g : Go K n0 kc kj Q T pc Ls st) (f : ∀ v h, Q v h → Q' v h) : Go K n0 kc kj Q' T pc Ls st := by
  obtain ⟨t, o, h1, h2, h3, v, L, h4, ⟨h5, h6⟩, h7⟩ := g; exact ⟨t, o, h1, h2, h3, v, L, h4, ⟨f _ _ h5, h6⟩, h7⟩
theorem o_v1 {v : Value} (g : Go K n0 kc kj Q T pc Ls (v :: rest)) : Go K n0 kc kj Q T pc Ls ((some v).toList ++ rest) := g
theorem o_v0 (g : Go K n0 kc kj Q T pc Ls rest) : Go K n0 kc kj Q T pc Ls ((none : Option Value).toList ++ rest) := g
theorem o_st {st' : List Value} (q : st = st') (g : Go K n0 kc kj Q T pc Ls st') : Go K n0 kc kj Q T pc Ls st := q ▸ g
theorem o_gen {x : Int32} (g : ∀ z, z = x → Go K n0 kc kj Q T pc Ls (.int z :: rest)) : Go K n0 kc kj Q T pc Ls (.int x :: rest) := g x rfl
theorem o_genL {x : Int64} (g : ∀ z, z = x → Go K n0 kc kj Q T pc Ls (.long z :: rest)) : Go K n0 kc kj Q T pc Ls (.long x :: rest) := g x rfl
theorem o_cutL (pj : Nat) (z : Int64) {x : Int32} (B : Go K n0 kc kj Q T pj Ls (.long z :: rest) → Go K n0 kc kj Q T pc Ls (.int x :: rest)) (J : Go K n0 kc kj Q T pj Ls (.long z :: rest)) : Go K n0 kc kj Q T pc Ls (.int x :: rest) := B J
theorem o_cutI (pj : Nat) (z : Int32) {x : Int32} (B : Go K n0 kc kj Q T pj Ls (.int z :: rest) → Go K n0 kc kj Q T pc Ls (.int x :: rest)) (J : Go K n0 kc kj Q T pj Ls (.int z :: rest)) : Go K n0 kc kj Q T pc Ls (.int x :: rest) := B J
theorem o_cutI2 (pj : Nat) (z : Int32) {x y : Int32} (B : Go K n0 kc kj Q T pj Ls (.int z :: rest) → Go K n0 kc kj Q T pc Ls (.int y :: .int x :: rest)) (J : Go K n0 kc kj Q T pj Ls (.int z :: rest)) : Go K n0 kc kj Q T pc Ls (.int y :: .int x :: rest) := B J
theorem o_cutS (pj : Nat) {x : Int32} (X : St K Z own b mx ret rm n0 k j T h) (B : (∀ T' z, St K Z own b mx ret rm n0 k j T' h → Go K n0 kc kj Q T' pj Ls (.int z :: rest)) → Go K n0 kc kj Q T pc Ls (.int x :: rest)) (J : ∀ T' z, St K Z own b mx ret rm n0 k j T' h → Go K n0 kc kj Q T' pj Ls (.int z :: rest)) : Go K n0 kc kj Q T pc Ls (.int x :: rest) := B J
theorem o_cutI2L (pj : Nat) (z : Int64) {x y : Int32} (B : Go K n0 kc kj Q T pj Ls (.long z :: rest) → Go K n0 kc kj Q T pc Ls (.int y :: .int x :: rest)) (J : Go K n0 kc kj Q T pj Ls (.long z :: rest)) : Go K n0 kc kj Q T pc Ls (.int y :: .int x :: rest) := B J
theorem o_ls (q : Ls = Ls') (g : Go K n0 kc kj Q T pc Ls' st) : Go K n0 kc kj Q T pc Ls st := q ▸ g
theorem o_iadd (X : St K Z own b mx ret rm n0 k j T h) {x y : Int32} (d : Isn b pc (.iadd) 1 pc') (g : Go K n0 kc kj Q T pc' Ls (.int (x + y) :: rest)) : Go K n0 kc kj Q T pc Ls (.int y :: .int x :: rest) := by
  obtain ⟨d, rfl⟩ := d; exact o_go (fun t k => XS.iadd X.here X.ex rfl (X.dec d) rfl k) g
theorem o_isub (X : St K Z own b mx ret rm n0 k j T h) {x y : Int32} (d : Isn b pc (.isub) 1 pc') (g : Go K n0 kc kj Q T pc' Ls (.int (x - y) :: rest)) : Go K n0 kc kj Q T pc Ls (.int y :: .int x :: rest) := by
  obtain ⟨d, rfl⟩ := d; exact o_go (fun t k => XS.isub X.here X.ex rfl (X.dec d) rfl k) g
theorem o_imul (X : St K Z own b mx ret rm n0 k j T h) {x y : Int32} (d : Isn b pc (.imul) 1 pc') (g : Go K n0 kc kj Q T pc' Ls (.int (x * y) :: rest)) : Go K n0 kc kj Q T pc Ls (.int y :: .int x :: rest) := by
  obtain ⟨d, rfl⟩ := d; exact o_go (fun t k => XS.imul X.here X.ex rfl (X.dec d) rfl k) g
theorem o_iand (X : St K Z own b mx ret rm n0 k j T h) {x y : Int32} (d : Isn b pc (.iand) 1 pc') (g : Go K n0 kc kj Q T pc' Ls (.int (x &&& y) :: rest)) : Go K n0 kc kj Q T pc Ls (.int y :: .int x :: rest) := by
  obtain ⟨d, rfl⟩ := d; exact o_go (fun t k => XS.iand X.here X.ex rfl (X.dec d) rfl k) g
theorem o_ixor (X : St K Z own b mx ret rm n0 k j T h) {x y : Int32} (d : Isn b pc (.ixor) 1 pc') (g : Go K n0 kc kj Q T pc' Ls (.int (x ^^^ y) :: rest)) : Go K n0 kc kj Q T pc Ls (.int y :: .int x :: rest) := by
  obtain ⟨d, rfl⟩ := d; exact o_go (fun t k => XT.ixor X.here X.ex rfl (X.dec d) rfl k) g
theorem o_ior (X : St K Z own b mx ret rm n0 k j T h) {x y : Int32} (d : Isn b pc (.ior) 1 pc') (g : Go K n0 kc kj Q T pc' Ls (.int (x ||| y) :: rest)) : Go K n0 kc kj Q T pc Ls (.int y :: .int x :: rest) := by
  obtain ⟨d, rfl⟩ := d; exact o_go (fun t k => XT.ior X.here X.ex rfl (X.dec d) rfl k) g
theorem o_ishl (X : St K Z own b mx ret rm n0 k j T h) {x y : Int32} (d : Isn b pc (.ishl) 1 pc') (g : Go K n0 kc kj Q T pc' Ls (.int (x <<< (y &&& 31)) :: rest)) : Go K n0 kc kj Q T pc Ls (.int y :: .int x :: rest) := by
  obtain ⟨d, rfl⟩ := d; exact o_go (fun t k => XT.ishl X.here X.ex rfl (X.dec d) rfl k) g
theorem o_ishr (X : St K Z own b mx ret rm n0 k j T h) {x y : Int32} (d : Isn b pc (.ishr) 1 pc') (g : Go K n0 kc kj Q T pc' Ls (.int (x >>> (y &&& 31)) :: rest)) : Go K n0 kc kj Q T pc Ls (.int y :: .int x :: rest) := by
  obtain ⟨d, rfl⟩ := d; exact o_go (fun t k => XT.ishr X.here X.ex rfl (X.dec d) rfl k) g
theorem o_iushr (X : St K Z own b mx ret rm n0 k j T h) {x y : Int32} (d : Isn b pc (.iushr) 1 pc') (g : Go K n0 kc kj Q T pc' Ls (.int (XT.ushr x y) :: rest)) : Go K n0 kc kj Q T pc Ls (.int y :: .int x :: rest) := by
  obtain ⟨d, rfl⟩ := d; exact o_go (fun t k => XT.iushr X.here X.ex rfl (X.dec d) rfl k) g
theorem o_ladd (X : St K Z own b mx ret rm n0 k j T h) {x y : Int64} (d : Isn b pc (.ladd) 1 pc') (g : Go K n0 kc kj Q T pc' Ls (.long (x + y) :: rest)) : Go K n0 kc kj Q T pc Ls (.long y :: .long x :: rest) := by
  obtain ⟨d, rfl⟩ := d; exact o_go (fun t k => XT.ladd X.here X.ex rfl (X.dec d) rfl k) g
theorem o_lsub (X : St K Z own b mx ret rm n0 k j T h) {x y : Int64} (d : Isn b pc (.lsub) 1 pc') (g : Go K n0 kc kj Q T pc' Ls (.long (x - y) :: rest)) : Go K n0 kc kj Q T pc Ls (.long y :: .long x :: rest) := by
  obtain ⟨d, rfl⟩ := d; exact o_go (fun t k => XT.lsub X.here X.ex rfl (X.dec d) rfl k) g
theorem o_lmul (X : St K Z own b mx ret rm n0 k j T h) {x y : Int64} (d : Isn b pc (.lmul) 1 pc') (g : Go K n0 kc kj Q T pc' Ls (.long (x * y) :: rest)) : Go K n0 kc kj Q T pc Ls (.long y :: .long x :: rest) := by
  obtain ⟨d, rfl⟩ := d; exact o_go (fun t k => XT.lmul X.here X.ex rfl (X.dec d) rfl k) g
theorem o_land (X : St K Z own b mx ret rm n0 k j T h) {x y : Int64} (d : Isn b pc (.land) 1 pc') (g : Go K n0 kc kj Q T pc' Ls (.long (x &&& y) :: rest)) : Go K n0 kc kj Q T pc Ls (.long y :: .long x :: rest) := by
  obtain ⟨d, rfl⟩ := d; exact o_go (fun t k => XT.land X.here X.ex rfl (X.dec d) rfl k) g
theorem o_lor (X : St K Z own b mx ret rm n0 k j T h) {x y : Int64} (d : Isn b pc (.lor) 1 pc') (g : Go K n0 kc kj Q T pc' Ls (.long (x ||| y) :: rest)) : Go K n0 kc kj Q T pc Ls (.long y :: .long x :: rest) := by
  obtain ⟨d, rfl⟩ := d; exact o_go (fun t k => XT.lor X.here X.ex rfl (X.dec d) rfl k) g
theorem o_lxor (X : St K Z own b mx ret rm n0 k j T h) {x y : Int64} (d : Isn b pc (.lxor) 1 pc') (g : Go K n0 kc kj Q T pc' Ls (.long (x ^^^ y) :: rest)) : Go K n0 kc kj Q T pc Ls (.long y :: .long x :: rest) := by
  obtain ⟨d, rfl⟩ := d; exact o_go (fun t k => XT.lxor X.here X.ex rfl (X.dec d) rfl k) g
theorem o_lshl (X : St K Z own b mx ret rm n0 k j T h) {x : Int64} {y : Int32} (d : Isn b pc (.lshl) 1 pc') (g : Go K n0 kc kj Q T pc' Ls (.long (x <<< (y.toInt64 &&& 63)) :: rest)) : Go K n0 kc kj Q T pc Ls (.int y :: .long x :: rest) := by
  obtain ⟨d, rfl⟩ := d; exact o_go (fun t k => XT.lshl X.here X.ex rfl (X.dec d) rfl k) g
theorem o_lshr (X : St K Z own b mx ret rm n0 k j T h) {x : Int64} {y : Int32} (d : Isn b pc (.lshr) 1 pc') (g : Go K n0 kc kj Q T pc' Ls (.long (x >>> (y.toInt64 &&& 63)) :: rest)) : Go K n0 kc kj Q T pc Ls (.int y :: .long x :: rest) := by
  obtain ⟨d, rfl⟩ := d; exact o_go (fun t k => XT.lshr X.here X.ex rfl (X.dec d) rfl k) g
theorem o_lushr (X : St K Z own b mx ret rm n0 k j T h) {x : Int64} {y : Int32} (d : Isn b pc (.lushr) 1 pc') (g : Go K n0 kc kj Q T pc' Ls (.long (XT.ushrL x y) :: rest)) : Go K n0 kc kj Q T pc Ls (.int y :: .long x :: rest) := by
  obtain ⟨d, rfl⟩ := d; exact o_go (fun t k => XT.lushr X.here X.ex rfl (X.dec d) rfl k) g
theorem o_lcmp (X : St K Z own b mx ret rm n0 k j T h) {x y : Int64} (d : Isn b pc (.lcmp) 1 pc') (g : Go K n0 kc kj Q T pc' Ls (.int (XT.cmpL x y) :: rest)) : Go K n0 kc kj Q T pc Ls (.long y :: .long x :: rest) := by
  obtain ⟨d, rfl⟩ := d; exact o_go (fun t k => XT.lcmp X.here X.ex rfl (X.dec d) rfl k) g
theorem o_idiv (X : St K Z own b mx ret rm n0 k j T h) {x y : Int32} (d : Isn b pc (.idiv) 1 pc') (hy : y ≠ 0) (g : Go K n0 kc kj Q T pc' Ls (.int (x / y) :: rest)) : Go K n0 kc kj Q T pc Ls (.int y :: .int x :: rest) := by
  obtain ⟨d, rfl⟩ := d; exact o_go (fun t k => XS.idiv X.here X.ex rfl (X.dec d) rfl hy k) g
theorem o_ldiv (X : St K Z own b mx ret rm n0 k j T h) {x y : Int64} (d : Isn b pc (.ldiv) 1 pc') (hy : y ≠ 0) (g : Go K n0 kc kj Q T pc' Ls (.long (x / y) :: rest)) : Go K n0 kc kj Q T pc Ls (.long y :: .long x :: rest) := by
  obtain ⟨d, rfl⟩ := d; exact o_go (fun t k => XT.ldiv X.here X.ex rfl (X.dec d) rfl hy k) g
theorem o_irem (X : St K Z own b mx ret rm n0 k j T h) {x y : Int32} (d : Isn b pc .irem 1 pc') (hy : y ≠ 0) (g : Go K n0 kc kj Q T pc' Ls (.int (x % y) :: rest)) : Go K n0 kc kj Q T pc Ls (.int y :: .int x :: rest) := by
  obtain ⟨d, rfl⟩ := d; obtain ⟨_, S, _⟩ := X.sd; exact o_go (fun t k => iremM S X.ex rfl (X.dec d) rfl hy k) g
theorem o_lrem (X : St K Z own b mx ret rm n0 k j T h) {x y : Int64} (d : Isn b pc .lrem 1 pc') (hy : y ≠ 0) (g : Go K n0 kc kj Q T pc' Ls (.long (x % y) :: rest)) : Go K n0 kc kj Q T pc Ls (.long y :: .long x :: rest) := by
  obtain ⟨d, rfl⟩ := d; rw [← lrem_mod] at g; exact o_go (fun t k => XT.lrem X.here X.ex rfl (X.dec d) rfl hy k) g
theorem o_i2l (X : St K Z own b mx ret rm n0 k j T h) {x : Int32} (d : Isn b pc (.i2l) 1 pc') (g : Go K n0 kc kj Q T pc' Ls (.long (x.toInt64) :: rest)) : Go K n0 kc kj Q T pc Ls (.int x :: rest) := by
  obtain ⟨d, rfl⟩ := d; exact o_go (fun t k => XT.i2l X.here X.ex rfl (X.dec d) rfl k) g
theorem o_l2i (X : St K Z own b mx ret rm n0 k j T h) {x : Int64} (d : Isn b pc (.l2i) 1 pc') (g : Go K n0 kc kj Q T pc' Ls (.int (x.toInt32) :: rest)) : Go K n0 kc kj Q T pc Ls (.long x :: rest) := by
  obtain ⟨d, rfl⟩ := d; exact o_go (fun t k => XT.l2i X.here X.ex rfl (X.dec d) rfl k) g
theorem o_i2b (X : St K Z own b mx ret rm n0 k j T h) {x : Int32} (d : Isn b pc (.i2b) 1 pc') (g : Go K n0 kc kj Q T pc' Ls (.int (x.toInt8.toInt32) :: rest)) : Go K n0 kc kj Q T pc Ls (.int x :: rest) := by
  obtain ⟨d, rfl⟩ := d; exact o_go (fun t k => XT.i2b X.here X.ex rfl (X.dec d) rfl k) g
theorem o_i2c (X : St K Z own b mx ret rm n0 k j T h) {x : Int32} (d : Isn b pc (.i2c) 1 pc') (g : Go K n0 kc kj Q T pc' Ls (.int (x.toUInt32.toUInt16.toUInt32.toInt32) :: rest)) : Go K n0 kc kj Q T pc Ls (.int x :: rest) := by
  obtain ⟨d, rfl⟩ := d; exact o_go (fun t k => XT.i2c X.here X.ex rfl (X.dec d) rfl k) g
theorem o_i2s (X : St K Z own b mx ret rm n0 k j T h) {x : Int32} (d : Isn b pc (.i2s) 1 pc') (g : Go K n0 kc kj Q T pc' Ls (.int (x.toInt16.toInt32) :: rest)) : Go K n0 kc kj Q T pc Ls (.int x :: rest) := by
  obtain ⟨d, rfl⟩ := d; exact o_go (fun t k => XT.i2s X.here X.ex rfl (X.dec d) rfl k) g
theorem o_ineg (X : St K Z own b mx ret rm n0 k j T h) {x : Int32} (d : Isn b pc (.ineg) 1 pc') (g : Go K n0 kc kj Q T pc' Ls (.int (-x) :: rest)) : Go K n0 kc kj Q T pc Ls (.int x :: rest) := by
  obtain ⟨d, rfl⟩ := d; exact o_go (fun t k => XS.ineg X.here X.ex rfl (X.dec d) rfl k) g
theorem o_lneg (X : St K Z own b mx ret rm n0 k j T h) {x : Int64} (d : Isn b pc (.lneg) 1 pc') (g : Go K n0 kc kj Q T pc' Ls (.long (-x) :: rest)) : Go K n0 kc kj Q T pc Ls (.long x :: rest) := by
  obtain ⟨d, rfl⟩ := d; exact o_go (fun t k => XT.lneg X.here X.ex rfl (X.dec d) rfl k) g
theorem o_iload_n (X : St K Z own b mx ret rm n0 k j T h) {i : Fin 4} {v : Int32} (d : Isn b pc (.iload_n i) 1 pc') (hl : Ls[i.val]? = some (.val (.int v))) (g : Go K n0 kc kj Q T pc' Ls (.int v :: st)) : Go K n0 kc kj Q T pc Ls (st) := by
  obtain ⟨d, rfl⟩ := d; exact o_go (fun t k => XS.iloadN X.here X.ex rfl (X.dec d) hl k) g
theorem o_iload (X : St K Z own b mx ret rm n0 k j T h) {i : Nat} {v : Int32} (d : Isn b pc (.iload i) 2 pc') (hl : Ls[i]? = some (.val (.int v))) (g : Go K n0 kc kj Q T pc' Ls (.int v :: st)) : Go K n0 kc kj Q T pc Ls (st) := by
  obtain ⟨d, rfl⟩ := d; exact o_go (fun t k => XS.iload X.here X.ex rfl (X.dec d) hl k) g
theorem o_lload_n (X : St K Z own b mx ret rm n0 k j T h) {i : Fin 4} {v : Int64} (d : Isn b pc (.lload_n i) 1 pc') (hl : Ls[i.val]? = some (.val (.long v))) (g : Go K n0 kc kj Q T pc' Ls (.long v :: st)) : Go K n0 kc kj Q T pc Ls (st) := by
  obtain ⟨d, rfl⟩ := d; exact o_go (fun t k => XT.lloadN X.here X.ex rfl (X.dec d) hl k) g
theorem o_lload (X : St K Z own b mx ret rm n0 k j T h) {i : Nat} {v : Int64} (d : Isn b pc (.lload i) 2 pc') (hl : Ls[i]? = some (.val (.long v))) (g : Go K n0 kc kj Q T pc' Ls (.long v :: st)) : Go K n0 kc kj Q T pc Ls (st) := by
  obtain ⟨d, rfl⟩ := d; exact o_go (fun t k => XT.lload X.here X.ex rfl (X.dec d) hl k) g
theorem o_aload_n (X : St K Z own b mx ret rm n0 k j T h) {i : Fin 4} {v : Value} (d : Isn b pc (.aload_n i) 1 pc') (hl : Ls[i.val]? = some (.val v)) (hv : v.isRef = true) (g : Go K n0 kc kj Q T pc' Ls (v :: st)) : Go K n0 kc kj Q T pc Ls (st) := by
  obtain ⟨d, rfl⟩ := d; exact o_go (fun t k => XS.aloadN X.here X.ex rfl (X.dec d) hl hv k) g
theorem o_aload (X : St K Z own b mx ret rm n0 k j T h) {i : Nat} {v : Value} (d : Isn b pc (.aload i) 2 pc') (hl : Ls[i]? = some (.val v)) (hv : v.isRef = true) (g : Go K n0 kc kj Q T pc' Ls (v :: st)) : Go K n0 kc kj Q T pc Ls (st) := by
  obtain ⟨d, rfl⟩ := d; exact o_go (fun t k => XS.aload X.here X.ex rfl (X.dec d) hl hv k) g
theorem o_istore_n (X : St K Z own b mx ret rm n0 k j T h) {i : Fin 4} {x : Int32} (d : Isn b pc (.istore_n i) 1 pc') (hl : storeLocals Ls i.val (.int x) = some Ls') (g : Go K n0 kc kj Q T pc' Ls' (rest)) : Go K n0 kc kj Q T pc Ls (.int x :: rest) := by
  obtain ⟨d, rfl⟩ := d; exact o_go (fun t k => XS.istoreN X.here X.ex rfl (X.dec d) rfl hl k) g
theorem o_istore (X : St K Z own b mx ret rm n0 k j T h) {i : Nat} {x : Int32} (d : Isn b pc (.istore i) 2 pc') (hl : storeLocals Ls i (.int x) = some Ls') (g : Go K n0 kc kj Q T pc' Ls' (rest)) : Go K n0 kc kj Q T pc Ls (.int x :: rest) := by
  obtain ⟨d, rfl⟩ := d; exact o_go (fun t k => XS.istore X.here X.ex rfl (X.dec d) rfl hl k) g
theorem o_lstore_n (X : St K Z own b mx ret rm n0 k j T h) {i : Fin 4} {x : Int64} (d : Isn b pc (.lstore_n i) 1 pc') (hl : storeLocals Ls i.val (.long x) = some Ls') (g : Go K n0 kc kj Q T pc' Ls' (rest)) : Go K n0 kc kj Q T pc Ls (.long x :: rest) := by
  obtain ⟨d, rfl⟩ := d; exact o_go (fun t k => XT.lstoreN X.here X.ex rfl (X.dec d) rfl hl k) g
theorem o_lstore (X : St K Z own b mx ret rm n0 k j T h) {i : Nat} {x : Int64} (d : Isn b pc (.lstore i) 2 pc') (hl : storeLocals Ls i (.long x) = some Ls') (g : Go K n0 kc kj Q T pc' Ls' (rest)) : Go K n0 kc kj Q T pc Ls (.long x :: rest) := by
  obtain ⟨d, rfl⟩ := d; exact o_go (fun t k => XT.lstore X.here X.ex rfl (X.dec d) rfl hl k) g
theorem o_astore_n (X : St K Z own b mx ret rm n0 k j T h) {i : Fin 4} {x : Value} (d : Isn b pc (.astore_n i) 1 pc') (hv : x.isRef = true) (hl : storeLocals Ls i.val x = some Ls') (g : Go K n0 kc kj Q T pc' Ls' (rest)) : Go K n0 kc kj Q T pc Ls (x :: rest) := by
  obtain ⟨d, rfl⟩ := d; exact o_go (fun t k => XS.astoreN X.here X.ex rfl (X.dec d) rfl hv hl k) g
theorem o_astore (X : St K Z own b mx ret rm n0 k j T h) {i : Nat} {x : Value} (d : Isn b pc (.astore i) 2 pc') (hv : x.isRef = true) (hl : storeLocals Ls i x = some Ls') (g : Go K n0 kc kj Q T pc' Ls' (rest)) : Go K n0 kc kj Q T pc Ls (x :: rest) := by
  obtain ⟨d, rfl⟩ := d; exact o_go (fun t k => XS.astore X.here X.ex rfl (X.dec d) rfl hv hl k) g
theorem o_iconst (v : Int32) (X : St K Z own b mx ret rm n0 k j T h) {i : Int} (d : Isn b pc (.iconst i) 1 pc') (hv : Int32.ofInt i = v) (g : Go K n0 kc kj Q T pc' Ls (.int v :: st)) : Go K n0 kc kj Q T pc Ls (st) := by
  obtain ⟨d, rfl⟩ := d; exact o_go (fun t k => XT.iconstV X.here X.ex rfl v (X.dec d) hv k) g
theorem o_bipush (v : Int32) (X : St K Z own b mx ret rm n0 k j T h) {i : Int} (d : Isn b pc (.bipush i) 2 pc') (hv : (Int8.ofInt i).toInt32 = v) (g : Go K n0 kc kj Q T pc' Ls (.int v :: st)) : Go K n0 kc kj Q T pc Ls (st) := by
  obtain ⟨d, rfl⟩ := d; exact o_go (fun t k => XT.bipushV X.here X.ex rfl v (X.dec d) hv k) g
theorem o_sipush (v : Int32) (X : St K Z own b mx ret rm n0 k j T h) {i : Int} (d : Isn b pc (.sipush i) 3 pc') (hv : (Int16.ofInt i).toInt32 = v) (g : Go K n0 kc kj Q T pc' Ls (.int v :: st)) : Go K n0 kc kj Q T pc Ls (st) := by
  obtain ⟨d, rfl⟩ := d; exact o_go (fun t k => XT.sipushV X.here X.ex rfl v (X.dec d) hv k) g
theorem o_lconst (v : Int64) (X : St K Z own b mx ret rm n0 k j T h) {i : Fin 2} (d : Isn b pc (.lconst i) 1 pc') (hv : Int64.ofNat i = v) (g : Go K n0 kc kj Q T pc' Ls (.long v :: st)) : Go K n0 kc kj Q T pc Ls (st) := by
  obtain ⟨d, rfl⟩ := d; exact o_go (fun t k => XT.lconstV X.here X.ex rfl v (X.dec d) hv k) g
theorem o_aconst_null (X : St K Z own b mx ret rm n0 k j T h)  (d : Isn b pc (.aconst_null) 1 pc') (g : Go K n0 kc kj Q T pc' Ls (.null :: st)) : Go K n0 kc kj Q T pc Ls (st) := by
  obtain ⟨d, rfl⟩ := d; exact o_go (fun t k => XS.aconstNull X.here X.ex rfl (X.dec d)  k) g
theorem o_iinc (v : Int32) (X : St K Z own b mx ret rm n0 k j T h) {i : Nat} {cst : Int} {x : Int32} (d : Isn b pc (.iinc i cst) 3 pc') (hv : Int32.ofInt cst = v) (hl : Ls[i]? = some (.val (.int x))) (hl' : storeLocals Ls i (.int (x + v)) = some Ls') (g : Go K n0 kc kj Q T pc' Ls' (st)) : Go K n0 kc kj Q T pc Ls (st) := by
  obtain ⟨d, rfl⟩ := d; exact o_go (fun t k => XT.iincV X.here X.ex rfl v (X.dec d) hv hl hl' k) g
theorem o_ldc (X : St K Z own b mx ret rm n0 k j T h) {i : Nat} {v : Int32} (d : Isn b pc (.ldc i) 2 pc') (wd : (Jvm.Cond.constant own i v).before a0 Z = true) (g : Go K n0 kc kj Q T pc' Ls (.int v :: st)) : Go K n0 kc kj Q T pc Ls (st) := by
  obtain ⟨d, rfl⟩ := d; obtain ⟨_, S, _⟩ := X.sd; exact o_go (fun t k => S.ldcI X.ex X.ow (mvT X.wZ wd) rfl (X.dec d) k) g
theorem o_ldc2 (X : St K Z own b mx ret rm n0 k j T h) {i : Nat} {v : Int64} (d : Isn b pc (.ldc2_w i) 3 pc') (wd : (Jvm.Cond.constantLong own i v).before a0 Z = true) (g : Go K n0 kc kj Q T pc' Ls (.long v :: st)) : Go K n0 kc kj Q T pc Ls (st) := by
  obtain ⟨d, rfl⟩ := d; obtain ⟨_, S, _⟩ := X.sd; exact o_go (fun t k => S.ldc2J X.ex X.ow (mvT X.wZ wd) rfl (X.dec d) k) g
theorem o_dup (X : St K Z own b mx ret rm n0 k j T h) {x : Value} (d : Isn b pc (.dup) 1 pc') (hc : x.category = 1) (g : Go K n0 kc kj Q T pc' Ls (x :: x :: rest)) : Go K n0 kc kj Q T pc Ls (x :: rest) := by
  obtain ⟨d, rfl⟩ := d; exact o_go (fun t k => XS.dup X.here X.ex rfl (X.dec d) rfl hc k) g
theorem o_pop (X : St K Z own b mx ret rm n0 k j T h) {x : Value} (d : Isn b pc (.pop) 1 pc') (hc : x.category = 1) (g : Go K n0 kc kj Q T pc' Ls (rest)) : Go K n0 kc kj Q T pc Ls (x :: rest) := by
  obtain ⟨d, rfl⟩ := d; exact o_go (fun t k => XT.pop X.here X.ex rfl (X.dec d) rfl hc k) g
theorem o_dup2 (X : St K Z own b mx ret rm n0 k j T h) {x y : Value} (d : Isn b pc (.dup2) 1 pc') (hc : x.category = 1) (hc' : y.category = 1) (g : Go K n0 kc kj Q T pc' Ls (x :: y :: x :: y :: rest)) : Go K n0 kc kj Q T pc Ls (x :: y :: rest) := by
  obtain ⟨d, rfl⟩ := d; exact o_go (fun t k => XT.dup2 X.here X.ex rfl (X.dec d) rfl hc hc' k) g
theorem o_dup_x1 (X : St K Z own b mx ret rm n0 k j T h) {x y : Value} (d : Isn b pc (.dup_x1) 1 pc') (hc : x.category = 1) (hc' : y.category = 1) (g : Go K n0 kc kj Q T pc' Ls (x :: y :: x :: rest)) : Go K n0 kc kj Q T pc Ls (x :: y :: rest) := by
  obtain ⟨d, rfl⟩ := d; exact o_go (fun t k => XT.dupX1 X.here X.ex rfl (X.dec d) rfl hc hc' k) g
theorem o_dup2L (X : St K Z own b mx ret rm n0 k j T h) {x : Int64} (d : Isn b pc (.dup2) 1 pc') (g : Go K n0 kc kj Q T pc' Ls (.long x :: .long x :: rest)) : Go K n0 kc kj Q T pc Ls (.long x :: rest) := by
  obtain ⟨d, rfl⟩ := d; exact o_go (fun t k => XT.dup2L X.here X.ex rfl (X.dec d) rfl k) g
theorem o_goto (X : St K Z own b mx ret rm n0 k j T h) {o : Int} (d : Brn b pc (.goto o) o pc' tg) (g : Go K n0 kc kj Q T tg Ls (st)) : Go K n0 kc kj Q T pc Ls (st) := by
  obtain ⟨d, rfl, h1, h2⟩ := d; exact o_go (fun t k => XS.goto X.here X.ex rfl rfl (X.dec d) h1 h2 k) g
theorem o_icmp_eq_t (X : St K Z own b mx ret rm n0 k j T h) {x y : Int32} {o : Int} (d : Brn b pc (.if_icmp .eq o) o pc' tg) (q : x = y) (g : Go K n0 kc kj Q T tg Ls (rest)) : Go K n0 kc kj Q T pc Ls (.int y :: .int x :: rest) := by
  obtain ⟨d, rfl, h1, h2⟩ := d; exact o_go (fun t k => XS.icmpYes X.here X.ex rfl rfl (X.dec d) rfl (XT.ii_eq_t q) h1 h2 k) g
theorem o_icmp_eq_f (X : St K Z own b mx ret rm n0 k j T h) {x y : Int32} {o : Int} (d : Brn b pc (.if_icmp .eq o) o pc' tg) (q : ¬ x = y) (g : Go K n0 kc kj Q T pc' Ls (rest)) : Go K n0 kc kj Q T pc Ls (.int y :: .int x :: rest) := by
  obtain ⟨d, rfl, h1, h2⟩ := d; exact o_go (fun t k => XS.icmpNo X.here X.ex rfl (X.dec d) rfl (XT.ii_eq_f q) k) g
theorem o_icmp_eq (X : St K Z own b mx ret rm n0 k j T h) {x y : Int32} {o : Int} (d : Brn b pc (.if_icmp .eq o) o pc' tg) (gt : x = y → Go K n0 kc kj Q T tg Ls (rest)) (gf : ¬ x = y → Go K n0 kc kj Q T pc' Ls (rest)) : Go K n0 kc kj Q T pc Ls (.int y :: .int x :: rest) := by
  by_cases q : x = y
  · exact o_icmp_eq_t X d q (gt q)
  · exact o_icmp_eq_f X d q (gf q)
theorem o_if_eq_t (X : St K Z own b mx ret rm n0 k j T h) {x : Int32} {o : Int} (d : Brn b pc (.ifCond .eq o) o pc' tg) (q : x = 0) (g : Go K n0 kc kj Q T tg Ls (rest)) : Go K n0 kc kj Q T pc Ls (.int x :: rest) := by
  obtain ⟨d, rfl, h1, h2⟩ := d; exact o_go (fun t k => XS.ifYes X.here X.ex rfl rfl (X.dec d) rfl (XT.i0_eq_t q) h1 h2 k) g
theorem o_if_eq_f (X : St K Z own b mx ret rm n0 k j T h) {x : Int32} {o : Int} (d : Brn b pc (.ifCond .eq o) o pc' tg) (q : ¬ x = 0) (g : Go K n0 kc kj Q T pc' Ls (rest)) : Go K n0 kc kj Q T pc Ls (.int x :: rest) := by
  obtain ⟨d, rfl, h1, h2⟩ := d; exact o_go (fun t k => XS.ifNo X.here X.ex rfl (X.dec d) rfl (XT.i0_eq_f q) k) g
theorem o_if_eq (X : St K Z own b mx ret rm n0 k j T h) {x : Int32} {o : Int} (d : Brn b pc (.ifCond .eq o) o pc' tg) (gt : x = 0 → Go K n0 kc kj Q T tg Ls (rest)) (gf : ¬ x = 0 → Go K n0 kc kj Q T pc' Ls (rest)) : Go K n0 kc kj Q T pc Ls (.int x :: rest) := by
  by_cases q : x = 0
  · exact o_if_eq_t X d q (gt q)
  · exact o_if_eq_f X d q (gf q)
theorem o_lif_eq_t (X : St K Z own b mx ret rm n0 k j T h) {x y : Int64} {o : Int} (d : Brn b pc (.ifCond .eq o) o pc' tg) (q : x = y) (g : Go K n0 kc kj Q T tg Ls (rest)) : Go K n0 kc kj Q T pc Ls (.int (XT.cmpL x y) :: rest) := by
  obtain ⟨d, rfl, h1, h2⟩ := d; exact o_go (fun t k => XS.ifYes X.here X.ex rfl rfl (X.dec d) rfl (XT.ll_eq_t q) h1 h2 k) g
theorem o_lif_eq_f (X : St K Z own b mx ret rm n0 k j T h) {x y : Int64} {o : Int} (d : Brn b pc (.ifCond .eq o) o pc' tg) (q : ¬ x = y) (g : Go K n0 kc kj Q T pc' Ls (rest)) : Go K n0 kc kj Q T pc Ls (.int (XT.cmpL x y) :: rest) := by
  obtain ⟨d, rfl, h1, h2⟩ := d; exact o_go (fun t k => XS.ifNo X.here X.ex rfl (X.dec d) rfl (XT.ll_eq_f q) k) g
theorem o_lif_eq (X : St K Z own b mx ret rm n0 k j T h) {x y : Int64} {o : Int} (d : Brn b pc (.ifCond .eq o) o pc' tg) (gt : x = y → Go K n0 kc kj Q T tg Ls (rest)) (gf : ¬ x = y → Go K n0 kc kj Q T pc' Ls (rest)) : Go K n0 kc kj Q T pc Ls (.int (XT.cmpL x y) :: rest) := by
  by_cases q : x = y
  · exact o_lif_eq_t X d q (gt q)
  · exact o_lif_eq_f X d q (gf q)
theorem o_icmp_ne_t (X : St K Z own b mx ret rm n0 k j T h) {x y : Int32} {o : Int} (d : Brn b pc (.if_icmp .ne o) o pc' tg) (q : ¬ x = y) (g : Go K n0 kc kj Q T tg Ls (rest)) : Go K n0 kc kj Q T pc Ls (.int y :: .int x :: rest) := by
  obtain ⟨d, rfl, h1, h2⟩ := d; exact o_go (fun t k => XS.icmpYes X.here X.ex rfl rfl (X.dec d) rfl (XT.ii_ne_t q) h1 h2 k) g
theorem o_icmp_ne_f (X : St K Z own b mx ret rm n0 k j T h) {x y : Int32} {o : Int} (d : Brn b pc (.if_icmp .ne o) o pc' tg) (q : x = y) (g : Go K n0 kc kj Q T pc' Ls (rest)) : Go K n0 kc kj Q T pc Ls (.int y :: .int x :: rest) := by
  obtain ⟨d, rfl, h1, h2⟩ := d; exact o_go (fun t k => XS.icmpNo X.here X.ex rfl (X.dec d) rfl (XT.ii_ne_f q) k) g
theorem o_icmp_ne (X : St K Z own b mx ret rm n0 k j T h) {x y : Int32} {o : Int} (d : Brn b pc (.if_icmp .ne o) o pc' tg) (gt : ¬ x = y → Go K n0 kc kj Q T tg Ls (rest)) (gf : x = y → Go K n0 kc kj Q T pc' Ls (rest)) : Go K n0 kc kj Q T pc Ls (.int y :: .int x :: rest) := by
  by_cases q : x = y
  · exact o_icmp_ne_f X d q (gf q)
  · exact o_icmp_ne_t X d q (gt q)
theorem o_if_ne_t (X : St K Z own b mx ret rm n0 k j T h) {x : Int32} {o : Int} (d : Brn b pc (.ifCond .ne o) o pc' tg) (q : ¬ x = 0) (g : Go K n0 kc kj Q T tg Ls (rest)) : Go K n0 kc kj Q T pc Ls (.int x :: rest) := by
  obtain ⟨d, rfl, h1, h2⟩ := d; exact o_go (fun t k => XS.ifYes X.here X.ex rfl rfl (X.dec d) rfl (XT.i0_ne_t q) h1 h2 k) g
theorem o_if_ne_f (X : St K Z own b mx ret rm n0 k j T h) {x : Int32} {o : Int} (d : Brn b pc (.ifCond .ne o) o pc' tg) (q : x = 0) (g : Go K n0 kc kj Q T pc' Ls (rest)) : Go K n0 kc kj Q T pc Ls (.int x :: rest) := by
  obtain ⟨d, rfl, h1, h2⟩ := d; exact o_go (fun t k => XS.ifNo X.here X.ex rfl (X.dec d) rfl (XT.i0_ne_f q) k) g
theorem o_if_ne (X : St K Z own b mx ret rm n0 k j T h) {x : Int32} {o : Int} (d : Brn b pc (.ifCond .ne o) o pc' tg) (gt : ¬ x = 0 → Go K n0 kc kj Q T tg Ls (rest)) (gf : x = 0 → Go K n0 kc kj Q T pc' Ls (rest)) : Go K n0 kc kj Q T pc Ls (.int x :: rest) := by
  by_cases q : x = 0
  · exact o_if_ne_f X d q (gf q)
  · exact o_if_ne_t X d q (gt q)
theorem o_lif_ne_t (X : St K Z own b mx ret rm n0 k j T h) {x y : Int64} {o : Int} (d : Brn b pc (.ifCond .ne o) o pc' tg) (q : ¬ x = y) (g : Go K n0 kc kj Q T tg Ls (rest)) : Go K n0 kc kj Q T pc Ls (.int (XT.cmpL x y) :: rest) := by
  obtain ⟨d, rfl, h1, h2⟩ := d; exact o_go (fun t k => XS.ifYes X.here X.ex rfl rfl (X.dec d) rfl (XT.ll_ne_t q) h1 h2 k) g
theorem o_lif_ne_f (X : St K Z own b mx ret rm n0 k j T h) {x y : Int64} {o : Int} (d : Brn b pc (.ifCond .ne o) o pc' tg) (q : x = y) (g : Go K n0 kc kj Q T pc' Ls (rest)) : Go K n0 kc kj Q T pc Ls (.int (XT.cmpL x y) :: rest) := by
  obtain ⟨d, rfl, h1, h2⟩ := d; exact o_go (fun t k => XS.ifNo X.here X.ex rfl (X.dec d) rfl (XT.ll_ne_f q) k) g
theorem o_lif_ne (X : St K Z own b mx ret rm n0 k j T h) {x y : Int64} {o : Int} (d : Brn b pc (.ifCond .ne o) o pc' tg) (gt : ¬ x = y → Go K n0 kc kj Q T tg Ls (rest)) (gf : x = y → Go K n0 kc kj Q T pc' Ls (rest)) : Go K n0 kc kj Q T pc Ls (.int (XT.cmpL x y) :: rest) := by
  by_cases q : x = y
  · exact o_lif_ne_f X d q (gf q)
  · exact o_lif_ne_t X d q (gt q)
theorem o_icmp_lt_t (X : St K Z own b mx ret rm n0 k j T h) {x y : Int32} {o : Int} (d : Brn b pc (.if_icmp .lt o) o pc' tg) (q : x < y) (g : Go K n0 kc kj Q T tg Ls (rest)) : Go K n0 kc kj Q T pc Ls (.int y :: .int x :: rest) := by
  obtain ⟨d, rfl, h1, h2⟩ := d; exact o_go (fun t k => XS.icmpYes X.here X.ex rfl rfl (X.dec d) rfl (XT.ii_lt_t q) h1 h2 k) g
theorem o_icmp_lt_f (X : St K Z own b mx ret rm n0 k j T h) {x y : Int32} {o : Int} (d : Brn b pc (.if_icmp .lt o) o pc' tg) (q : ¬ x < y) (g : Go K n0 kc kj Q T pc' Ls (rest)) : Go K n0 kc kj Q T pc Ls (.int y :: .int x :: rest) := by
  obtain ⟨d, rfl, h1, h2⟩ := d; exact o_go (fun t k => XS.icmpNo X.here X.ex rfl (X.dec d) rfl (XT.ii_lt_f q) k) g
theorem o_icmp_lt (X : St K Z own b mx ret rm n0 k j T h) {x y : Int32} {o : Int} (d : Brn b pc (.if_icmp .lt o) o pc' tg) (gt : x < y → Go K n0 kc kj Q T tg Ls (rest)) (gf : ¬ x < y → Go K n0 kc kj Q T pc' Ls (rest)) : Go K n0 kc kj Q T pc Ls (.int y :: .int x :: rest) := by
  by_cases q : x < y
  · exact o_icmp_lt_t X d q (gt q)
  · exact o_icmp_lt_f X d q (gf q)
theorem o_if_lt_t (X : St K Z own b mx ret rm n0 k j T h) {x : Int32} {o : Int} (d : Brn b pc (.ifCond .lt o) o pc' tg) (q : x < 0) (g : Go K n0 kc kj Q T tg Ls (rest)) : Go K n0 kc kj Q T pc Ls (.int x :: rest) := by
  obtain ⟨d, rfl, h1, h2⟩ := d; exact o_go (fun t k => XS.ifYes X.here X.ex rfl rfl (X.dec d) rfl (XT.i0_lt_t q) h1 h2 k) g
theorem o_if_lt_f (X : St K Z own b mx ret rm n0 k j T h) {x : Int32} {o : Int} (d : Brn b pc (.ifCond .lt o) o pc' tg) (q : ¬ x < 0) (g : Go K n0 kc kj Q T pc' Ls (rest)) : Go K n0 kc kj Q T pc Ls (.int x :: rest) := by
  obtain ⟨d, rfl, h1, h2⟩ := d; exact o_go (fun t k => XS.ifNo X.here X.ex rfl (X.dec d) rfl (XT.i0_lt_f q) k) g
theorem o_if_lt (X : St K Z own b mx ret rm n0 k j T h) {x : Int32} {o : Int} (d : Brn b pc (.ifCond .lt o) o pc' tg) (gt : x < 0 → Go K n0 kc kj Q T tg Ls (rest)) (gf : ¬ x < 0 → Go K n0 kc kj Q T pc' Ls (rest)) : Go K n0 kc kj Q T pc Ls (.int x :: rest) := by
  by_cases q : x < 0
  · exact o_if_lt_t X d q (gt q)
  · exact o_if_lt_f X d q (gf q)
theorem o_lif_lt_t (X : St K Z own b mx ret rm n0 k j T h) {x y : Int64} {o : Int} (d : Brn b pc (.ifCond .lt o) o pc' tg) (q : x < y) (g : Go K n0 kc kj Q T tg Ls (rest)) : Go K n0 kc kj Q T pc Ls (.int (XT.cmpL x y) :: rest) := by
  obtain ⟨d, rfl, h1, h2⟩ := d; exact o_go (fun t k => XS.ifYes X.here X.ex rfl rfl (X.dec d) rfl (XT.ll_lt_t q) h1 h2 k) g
theorem o_lif_lt_f (X : St K Z own b mx ret rm n0 k j T h) {x y : Int64} {o : Int} (d : Brn b pc (.ifCond .lt o) o pc' tg) (q : ¬ x < y) (g : Go K n0 kc kj Q T pc' Ls (rest)) : Go K n0 kc kj Q T pc Ls (.int (XT.cmpL x y) :: rest) := by
  obtain ⟨d, rfl, h1, h2⟩ := d; exact o_go (fun t k => XS.ifNo X.here X.ex rfl (X.dec d) rfl (XT.ll_lt_f q) k) g
theorem o_lif_lt (X : St K Z own b mx ret rm n0 k j T h) {x y : Int64} {o : Int} (d : Brn b pc (.ifCond .lt o) o pc' tg) (gt : x < y → Go K n0 kc kj Q T tg Ls (rest)) (gf : ¬ x < y → Go K n0 kc kj Q T pc' Ls (rest)) : Go K n0 kc kj Q T pc Ls (.int (XT.cmpL x y) :: rest) := by
  by_cases q : x < y
  · exact o_lif_lt_t X d q (gt q)
  · exact o_lif_lt_f X d q (gf q)
theorem o_icmp_ge_t (X : St K Z own b mx ret rm n0 k j T h) {x y : Int32} {o : Int} (d : Brn b pc (.if_icmp .ge o) o pc' tg) (q : ¬ x < y) (g : Go K n0 kc kj Q T tg Ls (rest)) : Go K n0 kc kj Q T pc Ls (.int y :: .int x :: rest) := by
  obtain ⟨d, rfl, h1, h2⟩ := d; exact o_go (fun t k => XS.icmpYes X.here X.ex rfl rfl (X.dec d) rfl (XT.ii_ge_t q) h1 h2 k) g
theorem o_icmp_ge_f (X : St K Z own b mx ret rm n0 k j T h) {x y : Int32} {o : Int} (d : Brn b pc (.if_icmp .ge o) o pc' tg) (q : x < y) (g : Go K n0 kc kj Q T pc' Ls (rest)) : Go K n0 kc kj Q T pc Ls (.int y :: .int x :: rest) := by
  obtain ⟨d, rfl, h1, h2⟩ := d; exact o_go (fun t k => XS.icmpNo X.here X.ex rfl (X.dec d) rfl (XT.ii_ge_f q) k) g
theorem o_icmp_ge (X : St K Z own b mx ret rm n0 k j T h) {x y : Int32} {o : Int} (d : Brn b pc (.if_icmp .ge o) o pc' tg) (gt : ¬ x < y → Go K n0 kc kj Q T tg Ls (rest)) (gf : x < y → Go K n0 kc kj Q T pc' Ls (rest)) : Go K n0 kc kj Q T pc Ls (.int y :: .int x :: rest) := by
  by_cases q : x < y
  · exact o_icmp_ge_f X d q (gf q)
  · exact o_icmp_ge_t X d q (gt q)
theorem o_if_ge_t (X : St K Z own b mx ret rm n0 k j T h) {x : Int32} {o : Int} (d : Brn b pc (.ifCond .ge o) o pc' tg) (q : ¬ x < 0) (g : Go K n0 kc kj Q T tg Ls (rest)) : Go K n0 kc kj Q T pc Ls (.int x :: rest) := by
  obtain ⟨d, rfl, h1, h2⟩ := d; exact o_go (fun t k => XS.ifYes X.here X.ex rfl rfl (X.dec d) rfl (XT.i0_ge_t q) h1 h2 k) g
theorem o_if_ge_f (X : St K Z own b mx ret rm n0 k j T h) {x : Int32} {o : Int} (d : Brn b pc (.ifCond .ge o) o pc' tg) (q : x < 0) (g : Go K n0 kc kj Q T pc' Ls (rest)) : Go K n0 kc kj Q T pc Ls (.int x :: rest) := by
  obtain ⟨d, rfl, h1, h2⟩ := d; exact o_go (fun t k => XS.ifNo X.here X.ex rfl (X.dec d) rfl (XT.i0_ge_f q) k) g
theorem o_if_ge (X : St K Z own b mx ret rm n0 k j T h) {x : Int32} {o : Int} (d : Brn b pc (.ifCond .ge o) o pc' tg) (gt : ¬ x < 0 → Go K n0 kc kj Q T tg Ls (rest)) (gf : x < 0 → Go K n0 kc kj Q T pc' Ls (rest)) : Go K n0 kc kj Q T pc Ls (.int x :: rest) := by
  by_cases q : x < 0
  · exact o_if_ge_f X d q (gf q)
  · exact o_if_ge_t X d q (gt q)
theorem o_lif_ge_t (X : St K Z own b mx ret rm n0 k j T h) {x y : Int64} {o : Int} (d : Brn b pc (.ifCond .ge o) o pc' tg) (q : ¬ x < y) (g : Go K n0 kc kj Q T tg Ls (rest)) : Go K n0 kc kj Q T pc Ls (.int (XT.cmpL x y) :: rest) := by
  obtain ⟨d, rfl, h1, h2⟩ := d; exact o_go (fun t k => XS.ifYes X.here X.ex rfl rfl (X.dec d) rfl (XT.ll_ge_t q) h1 h2 k) g
theorem o_lif_ge_f (X : St K Z own b mx ret rm n0 k j T h) {x y : Int64} {o : Int} (d : Brn b pc (.ifCond .ge o) o pc' tg) (q : x < y) (g : Go K n0 kc kj Q T pc' Ls (rest)) : Go K n0 kc kj Q T pc Ls (.int (XT.cmpL x y) :: rest) := by
  obtain ⟨d, rfl, h1, h2⟩ := d; exact o_go (fun t k => XS.ifNo X.here X.ex rfl (X.dec d) rfl (XT.ll_ge_f q) k) g
theorem o_lif_ge (X : St K Z own b mx ret rm n0 k j T h) {x y : Int64} {o : Int} (d : Brn b pc (.ifCond .ge o) o pc' tg) (gt : ¬ x < y → Go K n0 kc kj Q T tg Ls (rest)) (gf : x < y → Go K n0 kc kj Q T pc' Ls (rest)) : Go K n0 kc kj Q T pc Ls (.int (XT.cmpL x y) :: rest) := by
  by_cases q : x < y
  · exact o_lif_ge_f X d q (gf q)
  · exact o_lif_ge_t X d q (gt q)
theorem o_icmp_gt_t (X : St K Z own b mx ret rm n0 k j T h) {x y : Int32} {o : Int} (d : Brn b pc (.if_icmp .gt o) o pc' tg) (q : y < x) (g : Go K n0 kc kj Q T tg Ls (rest)) : Go K n0 kc kj Q T pc Ls (.int y :: .int x :: rest) := by
  obtain ⟨d, rfl, h1, h2⟩ := d; exact o_go (fun t k => XS.icmpYes X.here X.ex rfl rfl (X.dec d) rfl (XT.ii_gt_t q) h1 h2 k) g
theorem o_icmp_gt_f (X : St K Z own b mx ret rm n0 k j T h) {x y : Int32} {o : Int} (d : Brn b pc (.if_icmp .gt o) o pc' tg) (q : ¬ y < x) (g : Go K n0 kc kj Q T pc' Ls (rest)) : Go K n0 kc kj Q T pc Ls (.int y :: .int x :: rest) := by
  obtain ⟨d, rfl, h1, h2⟩ := d; exact o_go (fun t k => XS.icmpNo X.here X.ex rfl (X.dec d) rfl (XT.ii_gt_f q) k) g
theorem o_icmp_gt (X : St K Z own b mx ret rm n0 k j T h) {x y : Int32} {o : Int} (d : Brn b pc (.if_icmp .gt o) o pc' tg) (gt : y < x → Go K n0 kc kj Q T tg Ls (rest)) (gf : ¬ y < x → Go K n0 kc kj Q T pc' Ls (rest)) : Go K n0 kc kj Q T pc Ls (.int y :: .int x :: rest) := by
  by_cases q : y < x
  · exact o_icmp_gt_t X d q (gt q)
  · exact o_icmp_gt_f X d q (gf q)
theorem o_if_gt_t (X : St K Z own b mx ret rm n0 k j T h) {x : Int32} {o : Int} (d : Brn b pc (.ifCond .gt o) o pc' tg) (q : 0 < x) (g : Go K n0 kc kj Q T tg Ls (rest)) : Go K n0 kc kj Q T pc Ls (.int x :: rest) := by
  obtain ⟨d, rfl, h1, h2⟩ := d; exact o_go (fun t k => XS.ifYes X.here X.ex rfl rfl (X.dec d) rfl (XT.i0_gt_t q) h1 h2 k) g
theorem o_if_gt_f (X : St K Z own b mx ret rm n0 k j T h) {x : Int32} {o : Int} (d : Brn b pc (.ifCond .gt o) o pc' tg) (q : ¬ 0 < x) (g : Go K n0 kc kj Q T pc' Ls (rest)) : Go K n0 kc kj Q T pc Ls (.int x :: rest) := by
  obtain ⟨d, rfl, h1, h2⟩ := d; exact o_go (fun t k => XS.ifNo X.here X.ex rfl (X.dec d) rfl (XT.i0_gt_f q) k) g
theorem o_if_gt (X : St K Z own b mx ret rm n0 k j T h) {x : Int32} {o : Int} (d : Brn b pc (.ifCond .gt o) o pc' tg) (gt : 0 < x → Go K n0 kc kj Q T tg Ls (rest)) (gf : ¬ 0 < x → Go K n0 kc kj Q T pc' Ls (rest)) : Go K n0 kc kj Q T pc Ls (.int x :: rest) := by
  by_cases q : 0 < x
  · exact o_if_gt_t X d q (gt q)
  · exact o_if_gt_f X d q (gf q)
theorem o_lif_gt_t (X : St K Z own b mx ret rm n0 k j T h) {x y : Int64} {o : Int} (d : Brn b pc (.ifCond .gt o) o pc' tg) (q : y < x) (g : Go K n0 kc kj Q T tg Ls (rest)) : Go K n0 kc kj Q T pc Ls (.int (XT.cmpL x y) :: rest) := by
  obtain ⟨d, rfl, h1, h2⟩ := d; exact o_go (fun t k => XS.ifYes X.here X.ex rfl rfl (X.dec d) rfl (XT.ll_gt_t q) h1 h2 k) g
theorem o_lif_gt_f (X : St K Z own b mx ret rm n0 k j T h) {x y : Int64} {o : Int} (d : Brn b pc (.ifCond .gt o) o pc' tg) (q : ¬ y < x) (g : Go K n0 kc kj Q T pc' Ls (rest)) : Go K n0 kc kj Q T pc Ls (.int (XT.cmpL x y) :: rest) := by
  obtain ⟨d, rfl, h1, h2⟩ := d; exact o_go (fun t k => XS.ifNo X.here X.ex rfl (X.dec d) rfl (XT.ll_gt_f q) k) g
theorem o_lif_gt (X : St K Z own b mx ret rm n0 k j T h) {x y : Int64} {o : Int} (d : Brn b pc (.ifCond .gt o) o pc' tg) (gt : y < x → Go K n0 kc kj Q T tg Ls (rest)) (gf : ¬ y < x → Go K n0 kc kj Q T pc' Ls (rest)) : Go K n0 kc kj Q T pc Ls (.int (XT.cmpL x y) :: rest) := by
  by_cases q : y < x
  · exact o_lif_gt_t X d q (gt q)
  · exact o_lif_gt_f X d q (gf q)
theorem o_icmp_le_t (X : St K Z own b mx ret rm n0 k j T h) {x y : Int32} {o : Int} (d : Brn b pc (.if_icmp .le o) o pc' tg) (q : ¬ y < x) (g : Go K n0 kc kj Q T tg Ls (rest)) : Go K n0 kc kj Q T pc Ls (.int y :: .int x :: rest) := by
  obtain ⟨d, rfl, h1, h2⟩ := d; exact o_go (fun t k => XS.icmpYes X.here X.ex rfl rfl (X.dec d) rfl (XT.ii_le_t q) h1 h2 k) g
theorem o_icmp_le_f (X : St K Z own b mx ret rm n0 k j T h) {x y : Int32} {o : Int} (d : Brn b pc (.if_icmp .le o) o pc' tg) (q : y < x) (g : Go K n0 kc kj Q T pc' Ls (rest)) : Go K n0 kc kj Q T pc Ls (.int y :: .int x :: rest) := by
  obtain ⟨d, rfl, h1, h2⟩ := d; exact o_go (fun t k => XS.icmpNo X.here X.ex rfl (X.dec d) rfl (XT.ii_le_f q) k) g
theorem o_icmp_le (X : St K Z own b mx ret rm n0 k j T h) {x y : Int32} {o : Int} (d : Brn b pc (.if_icmp .le o) o pc' tg) (gt : ¬ y < x → Go K n0 kc kj Q T tg Ls (rest)) (gf : y < x → Go K n0 kc kj Q T pc' Ls (rest)) : Go K n0 kc kj Q T pc Ls (.int y :: .int x :: rest) := by
  by_cases q : y < x
  · exact o_icmp_le_f X d q (gf q)
  · exact o_icmp_le_t X d q (gt q)
theorem o_if_le_t (X : St K Z own b mx ret rm n0 k j T h) {x : Int32} {o : Int} (d : Brn b pc (.ifCond .le o) o pc' tg) (q : ¬ 0 < x) (g : Go K n0 kc kj Q T tg Ls (rest)) : Go K n0 kc kj Q T pc Ls (.int x :: rest) := by
  obtain ⟨d, rfl, h1, h2⟩ := d; exact o_go (fun t k => XS.ifYes X.here X.ex rfl rfl (X.dec d) rfl (XT.i0_le_t q) h1 h2 k) g
theorem o_if_le_f (X : St K Z own b mx ret rm n0 k j T h) {x : Int32} {o : Int} (d : Brn b pc (.ifCond .le o) o pc' tg) (q : 0 < x) (g : Go K n0 kc kj Q T pc' Ls (rest)) : Go K n0 kc kj Q T pc Ls (.int x :: rest) := by
  obtain ⟨d, rfl, h1, h2⟩ := d; exact o_go (fun t k => XS.ifNo X.here X.ex rfl (X.dec d) rfl (XT.i0_le_f q) k) g
theorem o_if_le (X : St K Z own b mx ret rm n0 k j T h) {x : Int32} {o : Int} (d : Brn b pc (.ifCond .le o) o pc' tg) (gt : ¬ 0 < x → Go K n0 kc kj Q T tg Ls (rest)) (gf : 0 < x → Go K n0 kc kj Q T pc' Ls (rest)) : Go K n0 kc kj Q T pc Ls (.int x :: rest) := by
  by_cases q : 0 < x
  · exact o_if_le_f X d q (gf q)
  · exact o_if_le_t X d q (gt q)
theorem o_lif_le_t (X : St K Z own b mx ret rm n0 k j T h) {x y : Int64} {o : Int} (d : Brn b pc (.ifCond .le o) o pc' tg) (q : ¬ y < x) (g : Go K n0 kc kj Q T tg Ls (rest)) : Go K n0 kc kj Q T pc Ls (.int (XT.cmpL x y) :: rest) := by
  obtain ⟨d, rfl, h1, h2⟩ := d; exact o_go (fun t k => XS.ifYes X.here X.ex rfl rfl (X.dec d) rfl (XT.ll_le_t q) h1 h2 k) g
theorem o_lif_le_f (X : St K Z own b mx ret rm n0 k j T h) {x y : Int64} {o : Int} (d : Brn b pc (.ifCond .le o) o pc' tg) (q : y < x) (g : Go K n0 kc kj Q T pc' Ls (rest)) : Go K n0 kc kj Q T pc Ls (.int (XT.cmpL x y) :: rest) := by
  obtain ⟨d, rfl, h1, h2⟩ := d; exact o_go (fun t k => XS.ifNo X.here X.ex rfl (X.dec d) rfl (XT.ll_le_f q) k) g
theorem o_lif_le (X : St K Z own b mx ret rm n0 k j T h) {x y : Int64} {o : Int} (d : Brn b pc (.ifCond .le o) o pc' tg) (gt : ¬ y < x → Go K n0 kc kj Q T tg Ls (rest)) (gf : y < x → Go K n0 kc kj Q T pc' Ls (rest)) : Go K n0 kc kj Q T pc Ls (.int (XT.cmpL x y) :: rest) := by
  by_cases q : y < x
  · exact o_lif_le_f X d q (gf q)
  · exact o_lif_le_t X d q (gt q)
theorem o_bool_icmp_eq (X : St K Z own b mx ret rm n0 k j T h) {x y : Int32} {o o2 : Int} {pc2 pc3 pj : Nat} (d : Brn b pc (.if_icmp .eq o) o pc' tg) (d1 : Isn b pc' (.iconst 1) 1 pc2) (d2 : Brn b pc2 (.goto o2) o2 pc3 pj) (d3 : Isn b tg (.iconst 0) 1 pj) (g : Go K n0 kc kj Q T pj Ls (.int (if x = y then 0 else 1) :: rest)) : Go K n0 kc kj Q T pc Ls (.int y :: .int x :: rest) := by
  refine o_icmp_eq X d (fun q => o_iconst 0 X d3 rfl ?_) (fun q => o_iconst 1 X d1 rfl (o_goto X d2 ?_))
  · simpa only [q, if_true, if_false] using g
  · simpa only [q, if_true, if_false] using g
theorem o_bool_if_eq (X : St K Z own b mx ret rm n0 k j T h) {x : Int32} {o o2 : Int} {pc2 pc3 pj : Nat} (d : Brn b pc (.ifCond .eq o) o pc' tg) (d1 : Isn b pc' (.iconst 1) 1 pc2) (d2 : Brn b pc2 (.goto o2) o2 pc3 pj) (d3 : Isn b tg (.iconst 0) 1 pj) (g : Go K n0 kc kj Q T pj Ls (.int (if x = 0 then 0 else 1) :: rest)) : Go K n0 kc kj Q T pc Ls (.int x :: rest) := by
  refine o_if_eq X d (fun q => o_iconst 0 X d3 rfl ?_) (fun q => o_iconst 1 X d1 rfl (o_goto X d2 ?_))
  · simpa only [q, if_true, if_false] using g
  · simpa only [q, if_true, if_false] using g
theorem o_bool_lif_eq (X : St K Z own b mx ret rm n0 k j T h) {x y : Int64} {o o2 : Int} {pc2 pc3 pj : Nat} (d : Brn b pc (.ifCond .eq o) o pc' tg) (d1 : Isn b pc' (.iconst 1) 1 pc2) (d2 : Brn b pc2 (.goto o2) o2 pc3 pj) (d3 : Isn b tg (.iconst 0) 1 pj) (g : Go K n0 kc kj Q T pj Ls (.int (if x = y then 0 else 1) :: rest)) : Go K n0 kc kj Q T pc Ls (.int (XT.cmpL x y) :: rest) := by
  refine o_lif_eq X d (fun q => o_iconst 0 X d3 rfl ?_) (fun q => o_iconst 1 X d1 rfl (o_goto X d2 ?_))
  · simpa only [q, if_true, if_false] using g
  · simpa only [q, if_true, if_false] using g
theorem o_bool_icmp_ne (X : St K Z own b mx ret rm n0 k j T h) {x y : Int32} {o o2 : Int} {pc2 pc3 pj : Nat} (d : Brn b pc (.if_icmp .ne o) o pc' tg) (d1 : Isn b pc' (.iconst 1) 1 pc2) (d2 : Brn b pc2 (.goto o2) o2 pc3 pj) (d3 : Isn b tg (.iconst 0) 1 pj) (g : Go K n0 kc kj Q T pj Ls (.int (if x = y then 1 else 0) :: rest)) : Go K n0 kc kj Q T pc Ls (.int y :: .int x :: rest) := by
  refine o_icmp_ne X d (fun q => o_iconst 0 X d3 rfl ?_) (fun q => o_iconst 1 X d1 rfl (o_goto X d2 ?_))
  · simpa only [q, if_true, if_false] using g
  · simpa only [q, if_true, if_false] using g
theorem o_bool_if_ne (X : St K Z own b mx ret rm n0 k j T h) {x : Int32} {o o2 : Int} {pc2 pc3 pj : Nat} (d : Brn b pc (.ifCond .ne o) o pc' tg) (d1 : Isn b pc' (.iconst 1) 1 pc2) (d2 : Brn b pc2 (.goto o2) o2 pc3 pj) (d3 : Isn b tg (.iconst 0) 1 pj) (g : Go K n0 kc kj Q T pj Ls (.int (if x = 0 then 1 else 0) :: rest)) : Go K n0 kc kj Q T pc Ls (.int x :: rest) := by
  refine o_if_ne X d (fun q => o_iconst 0 X d3 rfl ?_) (fun q => o_iconst 1 X d1 rfl (o_goto X d2 ?_))
  · simpa only [q, if_true, if_false] using g
  · simpa only [q, if_true, if_false] using g
theorem o_bool_lif_ne (X : St K Z own b mx ret rm n0 k j T h) {x y : Int64} {o o2 : Int} {pc2 pc3 pj : Nat} (d : Brn b pc (.ifCond .ne o) o pc' tg) (d1 : Isn b pc' (.iconst 1) 1 pc2) (d2 : Brn b pc2 (.goto o2) o2 pc3 pj) (d3 : Isn b tg (.iconst 0) 1 pj) (g : Go K n0 kc kj Q T pj Ls (.int (if x = y then 1 else 0) :: rest)) : Go K n0 kc kj Q T pc Ls (.int (XT.cmpL x y) :: rest) := by
  refine o_lif_ne X d (fun q => o_iconst 0 X d3 rfl ?_) (fun q => o_iconst 1 X d1 rfl (o_goto X d2 ?_))
  · simpa only [q, if_true, if_false] using g
  · simpa only [q, if_true, if_false] using g
theorem o_bool_icmp_lt (X : St K Z own b mx ret rm n0 k j T h) {x y : Int32} {o o2 : Int} {pc2 pc3 pj : Nat} (d : Brn b pc (.if_icmp .lt o) o pc' tg) (d1 : Isn b pc' (.iconst 1) 1 pc2) (d2 : Brn b pc2 (.goto o2) o2 pc3 pj) (d3 : Isn b tg (.iconst 0) 1 pj) (g : Go K n0 kc kj Q T pj Ls (.int (if x < y then 0 else 1) :: rest)) : Go K n0 kc kj Q T pc Ls (.int y :: .int x :: rest) := by
  refine o_icmp_lt X d (fun q => o_iconst 0 X d3 rfl ?_) (fun q => o_iconst 1 X d1 rfl (o_goto X d2 ?_))
  · simpa only [q, if_true, if_false] using g
  · simpa only [q, if_true, if_false] using g
theorem o_bool_if_lt (X : St K Z own b mx ret rm n0 k j T h) {x : Int32} {o o2 : Int} {pc2 pc3 pj : Nat} (d : Brn b pc (.ifCond .lt o) o pc' tg) (d1 : Isn b pc' (.iconst 1) 1 pc2) (d2 : Brn b pc2 (.goto o2) o2 pc3 pj) (d3 : Isn b tg (.iconst 0) 1 pj) (g : Go K n0 kc kj Q T pj Ls (.int (if x < 0 then 0 else 1) :: rest)) : Go K n0 kc kj Q T pc Ls (.int x :: rest) := by
  refine o_if_lt X d (fun q => o_iconst 0 X d3 rfl ?_) (fun q => o_iconst 1 X d1 rfl (o_goto X d2 ?_))
  · simpa only [q, if_true, if_false] using g
  · simpa only [q, if_true, if_false] using g
theorem o_bool_lif_lt (X : St K Z own b mx ret rm n0 k j T h) {x y : Int64} {o o2 : Int} {pc2 pc3 pj : Nat} (d : Brn b pc (.ifCond .lt o) o pc' tg) (d1 : Isn b pc' (.iconst 1) 1 pc2) (d2 : Brn b pc2 (.goto o2) o2 pc3 pj) (d3 : Isn b tg (.iconst 0) 1 pj) (g : Go K n0 kc kj Q T pj Ls (.int (if x < y then 0 else 1) :: rest)) : Go K n0 kc kj Q T pc Ls (.int (XT.cmpL x y) :: rest) := by
  refine o_lif_lt X d (fun q => o_iconst 0 X d3 rfl ?_) (fun q => o_iconst 1 X d1 rfl (o_goto X d2 ?_))
  · simpa only [q, if_true, if_false] using g
  · simpa only [q, if_true, if_false] using g
theorem o_bool_icmp_ge (X : St K Z own b mx ret rm n0 k j T h) {x y : Int32} {o o2 : Int} {pc2 pc3 pj : Nat} (d : Brn b pc (.if_icmp .ge o) o pc' tg) (d1 : Isn b pc' (.iconst 1) 1 pc2) (d2 : Brn b pc2 (.goto o2) o2 pc3 pj) (d3 : Isn b tg (.iconst 0) 1 pj) (g : Go K n0 kc kj Q T pj Ls (.int (if x < y then 1 else 0) :: rest)) : Go K n0 kc kj Q T pc Ls (.int y :: .int x :: rest) := by
  refine o_icmp_ge X d (fun q => o_iconst 0 X d3 rfl ?_) (fun q => o_iconst 1 X d1 rfl (o_goto X d2 ?_))
  · simpa only [q, if_true, if_false] using g
  · simpa only [q, if_true, if_false] using g
theorem o_bool_if_ge (X : St K Z own b mx ret rm n0 k j T h) {x : Int32} {o o2 : Int} {pc2 pc3 pj : Nat} (d : Brn b pc (.ifCond .ge o) o pc' tg) (d1 : Isn b pc' (.iconst 1) 1 pc2) (d2 : Brn b pc2 (.goto o2) o2 pc3 pj) (d3 : Isn b tg (.iconst 0) 1 pj) (g : Go K n0 kc kj Q T pj Ls (.int (if x < 0 then 1 else 0) :: rest)) : Go K n0 kc kj Q T pc Ls (.int x :: rest) := by
  refine o_if_ge X d (fun q => o_iconst 0 X d3 rfl ?_) (fun q => o_iconst 1 X d1 rfl (o_goto X d2 ?_))
  · simpa only [q, if_true, if_false] using g
  · simpa only [q, if_true, if_false] using g
theorem o_bool_lif_ge (X : St K Z own b mx ret rm n0 k j T h) {x y : Int64} {o o2 : Int} {pc2 pc3 pj : Nat} (d : Brn b pc (.ifCond .ge o) o pc' tg) (d1 : Isn b pc' (.iconst 1) 1 pc2) (d2 : Brn b pc2 (.goto o2) o2 pc3 pj) (d3 : Isn b tg (.iconst 0) 1 pj) (g : Go K n0 kc kj Q T pj Ls (.int (if x < y then 1 else 0) :: rest)) : Go K n0 kc kj Q T pc Ls (.int (XT.cmpL x y) :: rest) := by
  refine o_lif_ge X d (fun q => o_iconst 0 X d3 rfl ?_) (fun q => o_iconst 1 X d1 rfl (o_goto X d2 ?_))
  · simpa only [q, if_true, if_false] using g
  · simpa only [q, if_true, if_false] using g
theorem o_bool_icmp_gt (X : St K Z own b mx ret rm n0 k j T h) {x y : Int32} {o o2 : Int} {pc2 pc3 pj : Nat} (d : Brn b pc (.if_icmp .gt o) o pc' tg) (d1 : Isn b pc' (.iconst 1) 1 pc2) (d2 : Brn b pc2 (.goto o2) o2 pc3 pj) (d3 : Isn b tg (.iconst 0) 1 pj) (g : Go K n0 kc kj Q T pj Ls (.int (if y < x then 0 else 1) :: rest)) : Go K n0 kc kj Q T pc Ls (.int y :: .int x :: rest) := by
  refine o_icmp_gt X d (fun q => o_iconst 0 X d3 rfl ?_) (fun q => o_iconst 1 X d1 rfl (o_goto X d2 ?_))
  · simpa only [q, if_true, if_false] using g
  · simpa only [q, if_true, if_false] using g
theorem o_bool_if_gt (X : St K Z own b mx ret rm n0 k j T h) {x : Int32} {o o2 : Int} {pc2 pc3 pj : Nat} (d : Brn b pc (.ifCond .gt o) o pc' tg) (d1 : Isn b pc' (.iconst 1) 1 pc2) (d2 : Brn b pc2 (.goto o2) o2 pc3 pj) (d3 : Isn b tg (.iconst 0) 1 pj) (g : Go K n0 kc kj Q T pj Ls (.int (if 0 < x then 0 else 1) :: rest)) : Go K n0 kc kj Q T pc Ls (.int x :: rest) := by
  refine o_if_gt X d (fun q => o_iconst 0 X d3 rfl ?_) (fun q => o_iconst 1 X d1 rfl (o_goto X d2 ?_))
  · simpa only [q, if_true, if_false] using g
  · simpa only [q, if_true, if_false] using g
theorem o_bool_lif_gt (X : St K Z own b mx ret rm n0 k j T h) {x y : Int64} {o o2 : Int} {pc2 pc3 pj : Nat} (d : Brn b pc (.ifCond .gt o) o pc' tg) (d1 : Isn b pc' (.iconst 1) 1 pc2) (d2 : Brn b pc2 (.goto o2) o2 pc3 pj) (d3 : Isn b tg (.iconst 0) 1 pj) (g : Go K n0 kc kj Q T pj Ls (.int (if y < x then 0 else 1) :: rest)) : Go K n0 kc kj Q T pc Ls (.int (XT.cmpL x y) :: rest) := by
  refine o_lif_gt X d (fun q => o_iconst 0 X d3 rfl ?_) (fun q => o_iconst 1 X d1 rfl (o_goto X d2 ?_))
  · simpa only [q, if_true, if_false] using g
  · simpa only [q, if_true, if_false] using g
theorem o_bool_icmp_le (X : St K Z own b mx ret rm n0 k j T h) {x y : Int32} {o o2 : Int} {pc2 pc3 pj : Nat} (d : Brn b pc (.if_icmp .le o) o pc' tg) (d1 : Isn b pc' (.iconst 1) 1 pc2) (d2 : Brn b pc2 (.goto o2) o2 pc3 pj) (d3 : Isn b tg (.iconst 0) 1 pj) (g : Go K n0 kc kj Q T pj Ls (.int (if y < x then 1 else 0) :: rest)) : Go K n0 kc kj Q T pc Ls (.int y :: .int x :: rest) := by
  refine o_icmp_le X d (fun q => o_iconst 0 X d3 rfl ?_) (fun q => o_iconst 1 X d1 rfl (o_goto X d2 ?_))
  · simpa only [q, if_true, if_false] using g
  · simpa only [q, if_true, if_false] using g
theorem o_bool_if_le (X : St K Z own b mx ret rm n0 k j T h) {x : Int32} {o o2 : Int} {pc2 pc3 pj : Nat} (d : Brn b pc (.ifCond .le o) o pc' tg) (d1 : Isn b pc' (.iconst 1) 1 pc2) (d2 : Brn b pc2 (.goto o2) o2 pc3 pj) (d3 : Isn b tg (.iconst 0) 1 pj) (g : Go K n0 kc kj Q T pj Ls (.int (if 0 < x then 1 else 0) :: rest)) : Go K n0 kc kj Q T pc Ls (.int x :: rest) := by
  refine o_if_le X d (fun q => o_iconst 0 X d3 rfl ?_) (fun q => o_iconst 1 X d1 rfl (o_goto X d2 ?_))
  · simpa only [q, if_true, if_false] using g
  · simpa only [q, if_true, if_false] using g
theorem o_bool_lif_le (X : St K Z own b mx ret rm n0 k j T h) {x y : Int64} {o o2 : Int} {pc2 pc3 pj : Nat} (d : Brn b pc (.ifCond .le o) o pc' tg) (d1 : Isn b pc' (.iconst 1) 1 pc2) (d2 : Brn b pc2 (.goto o2) o2 pc3 pj) (d3 : Isn b tg (.iconst 0) 1 pj) (g : Go K n0 kc kj Q T pj Ls (.int (if y < x then 1 else 0) :: rest)) : Go K n0 kc kj Q T pc Ls (.int (XT.cmpL x y) :: rest) := by
  refine o_lif_le X d (fun q => o_iconst 0 X d3 rfl ?_) (fun q => o_iconst 1 X d1 rfl (o_goto X d2 ?_))
  · simpa only [q, if_true, if_false] using g
  · simpa only [q, if_true, if_false] using g
theorem o_ifnonnull_r (X : St K Z own b mx ret rm n0 k j T h) {a : Addr} {o : Int} (d : Brn b pc (.ifnonnull o) o pc' tg) (g : Go K n0 kc kj Q T tg Ls (rest)) : Go K n0 kc kj Q T pc Ls (.ref a :: rest) := by
  obtain ⟨d, rfl, h1, h2⟩ := d; exact o_go (fun t k => XT.ifnonnullYes X.here X.ex rfl rfl (X.dec d) rfl h1 h2 k) g
theorem o_ifnonnull_0 (X : St K Z own b mx ret rm n0 k j T h) {o : Int} (d : Brn b pc (.ifnonnull o) o pc' tg) (g : Go K n0 kc kj Q T pc' Ls (rest)) : Go K n0 kc kj Q T pc Ls (.null :: rest) := by
  obtain ⟨d, rfl, h1, h2⟩ := d; exact o_go (fun t k => XT.ifnonnullNo X.here X.ex rfl (X.dec d) rfl k) g
theorem o_ifnull_r (X : St K Z own b mx ret rm n0 k j T h) {a : Addr} {o : Int} (d : Brn b pc (.ifnull o) o pc' tg) (g : Go K n0 kc kj Q T pc' Ls (rest)) : Go K n0 kc kj Q T pc Ls (.ref a :: rest) := by
  obtain ⟨d, rfl, h1, h2⟩ := d; exact o_go (fun t k => XS.ifnullNo X.here X.ex rfl (X.dec d) rfl k) g
theorem o_ifnull_0 (X : St K Z own b mx ret rm n0 k j T h) {o : Int} (d : Brn b pc (.ifnull o) o pc' tg) (g : Go K n0 kc kj Q T tg Ls (rest)) : Go K n0 kc kj Q T pc Ls (.null :: rest) := by
  obtain ⟨d, rfl, h1, h2⟩ := d; exact o_go (fun t k => XS.ifnullYes X.here X.ex rfl rfl (X.dec d) rfl h1 h2 k) g
theorem o_leave (X : St K Z own b mx ret rm n0 k j T h) {v : Option Value} (hv : ret = none → v = none) (hk : k ≤ kc) (hj : j ≤ kj) (q : Q v h)
    (f : ∀ fs, (∀ (f : JFrame) (acts : List Action), f.method = K.m → f.locked = none → f.entered = [] → (doReturn K.e (T.setTop f) acts v).1 = T.setFrames fs) → Steps K.p.tables K.e K.below (T.setTop (mkF K.m pc Ls st)) (T.setFrames fs)) : Go K n0 kc kj Q T pc Ls (st) := by
  obtain ⟨locs, S, N⟩ := X.sd
  obtain ⟨fs, hr, hrun, hended, hW, hsame⟩ := S.leave (v := v) (fun q => hv (X.rt.symm.trans q)) X.nl
  have e : (T.setFrames fs).heap = h := X.hp
  exact ⟨_, _, f fs hr, hrun, hended, v, locs, rfl, ⟨e ▸ q, N⟩, ⟨v, rfl⟩, hW, hsame.mono hk hj⟩
theorem o_retI (X : St K Z own b mx (some .int) rm n0 k j T h) {z : Int32} (d : Isn b pc .ireturn 1 pc') (hk : k ≤ kc) (hj : j ≤ kj) (q : Q (some (.int z)) h) : Go K n0 kc kj Q T pc Ls (.int z :: rest) := by
  obtain ⟨_, S, _⟩ := X.sd
  exact o_leave X (fun q => nomatch q) hk hj q fun fs hr => retOut S X.ex X.rt rfl (Or.inl ⟨rfl, Or.inl rfl, z, rfl⟩) (X.dec d.1) hr
theorem o_retL (X : St K Z own b mx (some .long) rm n0 k j T h) {z : Int64} (d : Isn b pc .lreturn 1 pc') (hk : k ≤ kc) (hj : j ≤ kj) (q : Q (some (.long z)) h) : Go K n0 kc kj Q T pc Ls (.long z :: rest) := by
  obtain ⟨_, S, _⟩ := X.sd
  exact o_leave X (fun q => nomatch q) hk hj q fun fs hr => retOut S X.ex X.rt rfl (Or.inr (Or.inl ⟨rfl, rfl, z, rfl⟩)) (X.dec d.1) hr
theorem o_retA {t : FieldType} (X : St K Z own b mx (some t) rm n0 k j T h) {z : Value} (ht : t.isReference = true) (hn : narrow t z = z) (hz : z.isRef = true) (d : Isn b pc .areturn 1 pc') (hk : k ≤ kc) (hj : j ≤ kj) (q : Q (some z) h) : Go K n0 kc kj Q T pc Ls (z :: rest) := by
  obtain ⟨_, S, _⟩ := X.sd
  exact o_leave X (fun q => nomatch q) hk hj q fun fs hr => retOut S X.ex X.rt hn (Or.inr (Or.inr (Or.inr (Or.inr ⟨rfl, ht, hz⟩)))) (X.dec d.1) hr
theorem o_retN {t : FieldType} (X : St K Z own b mx (some t) rm n0 k j T h) {z : Int32} (ht : t = .boolean ∨ t = .byte ∨ t = .char ∨ t = .short) (d : Isn b pc .ireturn 1 pc') (hk : k ≤ kc) (hj : j ≤ kj) (q : Q (some (.int (nar t z))) h) : Go K n0 kc kj Q T pc Ls (.int z :: rest) := by
  obtain ⟨_, S, _⟩ := X.sd
  exact o_leave X (fun q => nomatch q) hk hj q fun fs hr => retN S X.ex X.rt ht (X.dec d.1) hr
theorem o_retZ (X : St K Z own b mx (some .boolean) rm n0 k j T h) {z : Int32} (d : Isn b pc .ireturn 1 pc') (hk : k ≤ kc) (hj : j ≤ kj) (q : Q (some (.int (z &&& 1))) h) : Go K n0 kc kj Q T pc Ls (.int z :: rest) := o_retN X (Or.inl rfl) d hk hj q
theorem o_ret0 (X : St K Z own b mx none rm n0 k j T h) (d : Isn b pc .return_ 1 pc') (hk : k ≤ kc) (hj : j ≤ kj) (q : Q none h) : Go K n0 kc kj Q T pc Ls ([]) := by
  obtain ⟨_, S, _⟩ := X.sd
  exact o_leave X (fun _ => rfl) hk hj q fun fs hr => S.returnOut X.ex X.rt (X.dec d.1) hr
theorem CtrW.intro {l : Launch} {y : MethodName} {ws : List Jvm.Cond} {as' : List Value} (pn : plainFor y = true) (ho : y.cls = own) (Ls : Array Slot) (hE : Jvm.Sym.laidSlots as' ++ List.replicate (mx - (Jvm.Sym.laidSlots as').length) .unset = Ls.toList)
    (body : ∀ (K : Cx) (T : State), K.meth.name = y.name → K.l = l → St K Z own b mx ret rm n0 0 0 T h → Go K n0 kc kj Q T 0 Ls []) : CtrW l Z y b mx ret ws rm kc kj as' h n0 Q := by
  refine MetFree.of_bodySF pn hisR ?_
  intro p e s m args below meth c s₁ Bd hml0 hP hK
  obtain ⟨rfl, hZ, hh⟩ := hP
  subst ho
  have X0 : Stand p l e rm s m as'.toArray below meth c s₁ [] 0 0 := Stand.of_body Bd
  have e0 : s₁.heap = h := by rw [← hh, Bd.state]; rfl
  obtain ⟨t, o, h1, h2, h3, h4⟩ := body (p, l, e, rm, s, m, as'.toArray, below, meth, c) s₁ (name_of_methodNamed Bd.named Bd.method).1 rfl ⟨Bd.exec, hZ, findClass_of_methodNamed Bd.named, Bd.bytes, hml0, Bd.returns, Bd.notSynchronized, rfl, e0, [], X0, Fr.nil n0⟩
  exact ⟨t, o, (XT.entry hE).trans h1, h2, h3, h4⟩
theorem o_callS (X : St K Z own b mx ret rm n0 k j T h) (W : Nat) {i : Nat} {y : MethodName} {by' : ByteArray} {my : Nat} {ry : Option FieldType} {rmy : Room} {as' : List Value} {Qy : Option Value → Heap → Prop} (d : Isn b pc (.invokestatic i) 3 pc')
    (w1 : (Jvm.Cond.methodLink own i y).before a0 Z = true) (w2 : (Jvm.Cond.static y).before a0 Z = true) (w3 : (Jvm.Cond.initialized y.cls).before a0 Z = true) (w4 : (Jvm.Cond.code y by' my ry).before a0 Z = true)
    (hy : y.cls ≠ "java/lang/invoke/MethodHandle" ∧ y.cls ≠ "java/lang/invoke/VarHandle") (C : Ctr K.l Z y by' my ry rmy as' h n0 Qy) (hn : ∀ sig, parseMethodDescriptor y.desc = some sig → as'.length = sig.parameters.length)
    (hs : st = as'.reverse ++ rest) (hsz : Ls.size = mx) (hW : (rest.map fun v => v.category).sum ≤ W) (hr : rmy.frames + 1 ≤ rm.frames ∧ W + (my + 11) + rmy.locals ≤ rm.locals ∧ k + rmy.cells ≤ rm.cells ∧ j + rmy.slots ≤ rm.slots)
    (g : ∀ T' h' v, Qy v h' → St K Z own b mx ret rm n0 (k + rmy.cells) (j + rmy.slots) T' h' → Go K n0 kc kj Q T' pc' Ls (v.toList ++ rest)) : Go K n0 kc kj Q T pc Ls (st) := by
  obtain ⟨d, rfl⟩ := d; obtain ⟨locs, S, N⟩ := X.sd; have hR := X.rmE
  obtain ⟨v, _, ⟨T', L', k', j'⟩, -, S', ⟨Lc, ⟨hQ, NL⟩, l1, l2, l3⟩, st'⟩ := Jvm.LawKit.callS S X.ex (y := y) X.ow (mvT X.wZ w1) (mvT X.wZ w2) (mvT X.wZ w3) (mvT X.wZ w4) hy (backOf (W := W) (Q := fun v h L => Qy v h ∧ Fr n0 L) C X.wZ w4 w3 (by rw [hR]; exact hr.1) (by rw [hR]; exact hr.2.1)) (g := mkF K.m pc Ls st) rfl (hsz.trans X.ml.symm) (argsL := as') (rest := rest) hn hs (by show 2 * 0 + _ ≤ _; omega) (X.dec d) (fun _ _ => ⟨rfl, X.hp, by rw [hR]; exact hr.2.2.1, by rw [hR]; exact hr.2.2.2⟩)
  dsimp only [Pt.U, Pt.locs, Pt.cells, Pt.slots] at S' l1 l2 l3 st' hQ
  subst l1 l2 l3
  exact o_go (fun t k => st' t k) (g T' T'.heap v hQ (X.mk' S' (Fr.app N NL) rfl))
theorem o_callV (X : St K Z own b mx ret rm n0 k j T h) (W : Nat) {i : Nat} {y z : MethodName} {C' : String} {by' : ByteArray} {my : Nat} {ry : Option FieldType} {rmy : Room} {a : Addr} {as' : List Value} {Qy : Option Value → Heap → Prop} (d : Isn b pc (.invokevirtual i) 3 pc')
    (w1 : (Jvm.Cond.methodLink own i y).before a0 Z = true) (w2 : (Jvm.Cond.declares y).before a0 Z = true) (w3 : (Jvm.Cond.selects y.cls y y).before a0 Z = true) (w5 : (Jvm.Cond.selects C' y z).before a0 Z = true) (w6 : (Jvm.Cond.instanceMethod z).before a0 Z = true)
    (hy : y.cls ≠ "java/lang/invoke/MethodHandle" ∧ y.cls ≠ "java/lang/invoke/VarHandle") (w4 : (Jvm.Cond.code z by' my ry).before a0 Z = true) (w7 : (Jvm.Cond.initialized z.cls).before a0 Z = true) (C : Ctr K.l Z z by' my ry rmy (.ref a :: as') h n0 Qy) (E : Exa Z h a C') (hn : ∀ sig, parseMethodDescriptor y.desc = some sig → as'.length = sig.parameters.length)
    (hs : st = as'.reverse ++ .ref a :: rest) (hsz : Ls.size = mx) (hW : (rest.map fun v => v.category).sum ≤ W) (hr : rmy.frames + 1 ≤ rm.frames ∧ W + (my + 11) + rmy.locals ≤ rm.locals ∧ k + rmy.cells ≤ rm.cells ∧ j + rmy.slots ≤ rm.slots)
    (g : ∀ T' h' v, Qy v h' → St K Z own b mx ret rm n0 (k + rmy.cells) (j + rmy.slots) T' h' → Go K n0 kc kj Q T' pc' Ls (v.toList ++ rest)) : Go K n0 kc kj Q T pc Ls (st) := by
  obtain ⟨d, rfl⟩ := d; obtain ⟨locs, S, N⟩ := X.sd; have hR := X.rmE
  obtain ⟨cq, kq, q1, q2, q3⟩ := isOf (s := K.s) X.wZ X.hp E
  obtain ⟨v, _, ⟨T', L', k', j'⟩, -, S', ⟨Lc, ⟨hQ, NL⟩, l1, l2, l3⟩, st'⟩ := S.virtualBack X.ex (y := y) (z := z) X.ow (mvT X.wZ w1) (mvT X.wZ w2) (notFace_of_selects (args := #[]) (mvT X.wZ w3)) (mvT X.wZ w5) (mvT X.wZ w6) hy (backOf (W := W) (Q := fun v h L => Qy v h ∧ Fr n0 L) C X.wZ w4 w7 (by rw [hR]; exact hr.1) (by rw [hR]; exact hr.2.1)) q1 q3 (g := mkF K.m pc Ls st) rfl (hsz.trans X.ml.symm) (Steps.refl _) (argsL := as') (rest := rest) hn hs (by show 2 * 0 + _ ≤ _; omega) (X.dec d) (fun _ _ => ⟨rfl, X.hp, by rw [hR]; exact hr.2.2.1, by rw [hR]; exact hr.2.2.2⟩)
  dsimp only [Pt.U, Pt.locs, Pt.cells, Pt.slots] at S' l1 l2 l3 st' hQ
  subst l1 l2 l3
  exact o_go (fun t k => st'.trans k) (g T' T'.heap v hQ (X.mk' S' (Fr.app N NL) rfl))
theorem o_callN (X : St K Z own b mx ret rm n0 k j T h) (W : Nat) {i : Nat} {y : MethodName} {by' : ByteArray} {my : Nat} {rmy : Room} {a : Addr} {as' : List Value} {Qy : Option Value → Heap → Prop} (d : Isn b pc (.invokespecial i) 3 pc') (hy1 : y.name = "<init>")
    (w1 : (Jvm.Cond.methodLink own i y).before a0 Z = true) (w2 : (Jvm.Cond.instanceMethod y).before a0 Z = true) (w4 : (Jvm.Cond.code y by' my none).before a0 Z = true) (w3 : (Jvm.Cond.initialized y.cls).before a0 Z = true)
    (hy : y.cls ≠ "java/lang/invoke/MethodHandle" ∧ y.cls ≠ "java/lang/invoke/VarHandle") (C : Ctr K.l Z y by' my none rmy (.ref a :: as') h n0 Qy) (hn : ∀ sig, parseMethodDescriptor y.desc = some sig → as'.length = sig.parameters.length)
    (hs : st = as'.reverse ++ .ref a :: rest) (hsz : Ls.size = mx) (hW : (rest.map fun v => v.category).sum ≤ W) (hr : rmy.frames + 1 ≤ rm.frames ∧ W + (my + 11) + rmy.locals ≤ rm.locals ∧ k + rmy.cells ≤ rm.cells ∧ j + rmy.slots ≤ rm.slots)
    (g : ∀ T' h' v, Qy v h' → St K Z own b mx ret rm n0 (k + rmy.cells) (j + rmy.slots) T' h' → Go K n0 kc kj Q T' pc' Ls (v.toList ++ rest)) : Go K n0 kc kj Q T pc Ls (st) := by
  obtain ⟨d, rfl⟩ := d; obtain ⟨locs, S, N⟩ := X.sd; have hR := X.rmE
  obtain ⟨v, _, ⟨T', L', k', j'⟩, -, S', ⟨Lc, ⟨hQ, NL⟩, l1, l2, l3⟩, st'⟩ := S.specialBack X.ex (y := y) hy1 X.ow (mvT X.wZ w1) (mvT X.wZ w2) (mvT X.wZ w4) hy (backOf (W := W) (Q := fun v h L => Qy v h ∧ Fr n0 L) C X.wZ w4 w3 (by rw [hR]; exact hr.1) (by rw [hR]; exact hr.2.1)) (g := mkF K.m pc Ls st) rfl (hsz.trans X.ml.symm) (Steps.refl _) (a := a) (argsL := as') (rest := rest) hn hs (by show 2 * 0 + _ ≤ _; omega) (X.dec d) (fun _ _ => ⟨rfl, X.hp, by rw [hR]; exact hr.2.2.1, by rw [hR]; exact hr.2.2.2⟩)
  dsimp only [Pt.U, Pt.locs, Pt.cells, Pt.slots] at S' l1 l2 l3 st' hQ
  subst l1 l2 l3
  exact o_go (fun t k => st'.trans k) (g T' T'.heap v hQ (X.mk' S' (Fr.app N NL) rfl))
theorem o_initO (X : St K Z own b mx ret rm n0 k j T h) (W : Nat) {i : Nat} {a : Addr} (d : Isn b pc (.invokespecial i) 3 pc') (w1 : (Jvm.Cond.methodLink own i Lib.objectInit).before a0 Z = true) (w2 : (Jvm.Cond.instanceMethod Lib.objectInit).before a0 Z = true) (w3 : (Jvm.Cond.code Lib.objectInit ⟨#[0xb1]⟩ 1 none).before a0 Z = true)
    (hsz : Ls.size = mx) (hW : (rest.map fun v => v.category).sum ≤ W) (hr : 1 ≤ rm.frames ∧ W + 12 ≤ rm.locals) (g : ∀ T', St K Z own b mx ret rm n0 k j T' h → Go K n0 kc kj Q T' pc' Ls (rest)) : Go K n0 kc kj Q T pc Ls (.ref a :: rest) := by
  obtain ⟨d, rfl⟩ := d; obtain ⟨locs, S, N⟩ := X.sd; have hR := X.rmE
  obtain ⟨T', S', e', st'⟩ := initO S X.ex X.wZ X.ow w1 w2 w3 X.hp (g := mkF K.m pc Ls (.ref a :: rest)) rfl (hsz.trans X.ml.symm) rfl (X.dec d) (by rw [hR]; exact hr.1) (W := W) (by show 2 * 0 + _ ≤ _; omega) (by rw [hR]; exact hr.2)
  exact o_go (fun t k => st' t k) (g T' (X.mk' S' N e'))
theorem o_getF (X : St K Z own b mx ret rm n0 k j T h) {i : Nat} {O n dd : String} {a : Addr} {v : Value} (d : Isn b pc (.getfield i) 3 pc') (wd : (Jvm.Cond.fieldLink own i O n dd).before a0 Z = true) (F : Fld Z h a O n dd v)
    (g : ∀ T', St K Z own b mx ret rm n0 k j T' h → Go K n0 kc kj Q T' pc' Ls (v :: rest)) : Go K n0 kc kj Q T pc Ls (.ref a :: rest) := by
  obtain ⟨d, rfl⟩ := d; obtain ⟨locs, S, N⟩ := X.sd
  obtain ⟨T', S', e', st'⟩ := getF S X.ex X.wZ X.ow (host := "") (Or.inl wd) Via.refl X.hp F (g := mkF K.m pc Ls (.ref a :: rest)) rfl rfl (X.dec d)
  exact o_go (fun t k => st' t k) (g T' (X.mk' S' N e'))
theorem o_putF (X : St K Z own b mx ret rm n0 k j T h) {i kk : Nat} {O n dd C' : String} {ty : FieldType} {a : Addr} {v ov : Value} (d : Isn b pc (.putfield i) 3 pc') (wd : (Jvm.Cond.fieldLink own i O n dd).before a0 Z = true) (F : Fld Z h a O n dd ov) (E : Exa Z h a C')
    (Lf : (Jvm.Cond.lays C' O n dd).before a0 Z = true ∨ ((Jvm.Cond.laysFinal C' O n dd).before a0 Z = true ∧ own = O ∧ K.meth.name = "<init>")) (wi : (Jvm.Cond.instantiable C' kk).before a0 Z = true) (hty : parseFieldDescriptor dd = some ty) (hn : narrow ty v = v) (hf : fits ty v = true) (ha : n0 ≤ a)
    (g : ∀ T' h', St K Z own b mx ret rm n0 k j T' h' → Wr h h' a (Jvm.RoadKit.slotOf Z O n dd) v → Go K n0 kc kj Q T' pc' Ls (rest)) : Go K n0 kc kj Q T pc Ls (v :: .ref a :: rest) := by
  obtain ⟨d, rfl⟩ := d; obtain ⟨locs, S, N⟩ := X.sd
  obtain ⟨T', h', S', e', W', st'⟩ := putF S X.ex X.wZ X.ow (host := "") (Or.inl wd) Via.refl X.hp F E Lf wi hty hn hf (g := mkF K.m pc Ls (v :: .ref a :: rest)) rfl rfl (X.dec d)
  exact o_go (fun t k => st' t k) (g T' h' (X.mk' S' (Fr.snoc S' N ha) e') W')
theorem o_new (X : St K Z own b mx ret rm n0 k j T h) {i nn : Nat} {C' : String} (d : Isn b pc (.new i) 3 pc') (w1 : (Jvm.Cond.classLink own i C').before a0 Z = true) (w2 : (Jvm.Cond.instantiable C' nn).before a0 Z = true) (w3 : (Jvm.Cond.initialized C').before a0 Z = true) (hr : k + 1 ≤ rm.cells ∧ j + nn ≤ rm.slots)
    (g : ∀ T' h' a, a = h.size → St K Z own b mx ret rm n0 (k + 1) (j + nn) T' h' → Ext h h' → Exa Z h' a C' → (∀ {O nm dd : String} {ty : FieldType}, Laid Z a0 C' O nm dd → parseFieldDescriptor dd = some ty → Fld Z h' a O nm dd (defaultValue ty)) → Go K n0 kc kj Q T' pc' Ls (.ref a :: st)) : Go K n0 kc kj Q T pc Ls (st) := by
  obtain ⟨d, rfl⟩ := d; obtain ⟨locs, S, N⟩ := X.sd; have hR := X.rmE
  obtain ⟨T', h', S', e', E', A', D', -, st'⟩ := newO S X.ex X.wZ X.ow w1 w2 w3 X.hp (g := mkF K.m pc Ls st) rfl (X.dec d) (by rw [hR]; exact hr.1) (by rw [hR]; exact hr.2)
  exact o_go (fun t k => st' t k) (g T' h' h.size rfl (X.mk' S' N e') E' A' D')
/-- an array, by all its values -/
def AL (Z : State) (h : Heap) (a : Addr) (ty : FieldType) (vs : List Value) : Prop := ∃ c : Cell, Arr Z h a c ty ∧ c.slots = vs.toArray ∧ vs.length < 2 ^ 31
theorem AL.lt {a : Addr} {ty : FieldType} {vs : List Value} (A : AL Z h a ty vs) : a < h.size := by obtain ⟨c, q, -⟩ := A; exact q.lt
theorem AL.ext {h' : Heap} {a : Addr} {ty : FieldType} {vs : List Value} (A : AL Z h a ty vs) (E : Ext h h') : AL Z h' a ty vs := by obtain ⟨c, q, r⟩ := A; exact ⟨c, q.ext E, r⟩
theorem AL.other {h' : Heap} {a a' : Addr} {sl : Nat} {v : Value} {ty : FieldType} {vs : List Value} (A : AL Z h a ty vs) (W : Wr h h' a' sl v) (ne : a ≠ a') : AL Z h' a ty vs := by obtain ⟨c, q, r⟩ := A; exact ⟨c, q.other W ne, r⟩
theorem AL.keep {h' : Heap} {a : Addr} {ws : List Addr} {ty : FieldType} {vs : List Value} (A : AL Z h a ty vs) (Kp : Keep h h' ws) (q : a ∉ ws) : AL Z h' a ty vs := by obtain ⟨c, A1, r⟩ := A; exact ⟨c, ⟨Kp.2.1 a c A1.1 q, A1.2⟩, r⟩
theorem AL.set {h' : Heap} {a : Addr} {sl : Nat} {v : Value} {ty : FieldType} {vs : List Value} (A : AL Z h a ty vs) (W : Wr h h' a sl v) : AL Z h' a ty (vs.set sl v) := by
  obtain ⟨c, q, r, s⟩ := A
  exact ⟨_, q.same W, by simp [Cell.setSlot, r], by simpa using s⟩
theorem AL.inb {a : Addr} {ty : FieldType} {vs : List Value} {i : Int32} {c : Cell} (r : c.slots = vs.toArray) (hi : ¬ i < 0) (hl : i.toNatClampNeg < vs.length) : ¬ (i < 0 ∨ c.slots.size ≤ i.toNatClampNeg) := by
  rw [r]; rintro (q | q)
  · exact hi q
  · simp at q; omega
theorem o_arraylength (X : St K Z own b mx ret rm n0 k j T h) {a : Addr} {ty : FieldType} {vs : List Value} (n : Int32) (d : Isn b pc .arraylength 1 pc') (A : AL Z h a ty vs) (hn : vs.length.toInt32 = n) (g : Go K n0 kc kj Q T pc' Ls (.int n :: rest)) : Go K n0 kc kj Q T pc Ls (.ref a :: rest) := by
  obtain ⟨d, rfl⟩ := d; obtain ⟨locs, S, N⟩ := X.sd; obtain ⟨c, q, r, s⟩ := A
  have e : c.slots.size.toInt32 = n := by rw [r, ← hn]; simp
  exact o_go (fun t k => S.arraylength X.ex (cell := c) (by rw [X.hp]; exact q.1) (State.isArrayOf_alike X.wZ.alike q.2.1) (g := mkF K.m pc Ls (.ref a :: rest)) rfl (rest := rest) rfl (X.dec d) t (by rw [e]; exact k)) g
theorem o_iaload (X : St K Z own b mx ret rm n0 k j T h) {a : Addr} {vs : List Value} {i : Int32} {v : Int32} (d : Isn b pc .iaload 1 pc') (A : AL Z h a .int vs) (hi : ¬ i < 0) (hv : vs[i.toNatClampNeg]? = some (.int v)) (g : Go K n0 kc kj Q T pc' Ls (.int v :: rest)) : Go K n0 kc kj Q T pc Ls (.int i :: .ref a :: rest) := by
  obtain ⟨d, rfl⟩ := d; obtain ⟨locs, S, N⟩ := X.sd; obtain ⟨c, q, r, s⟩ := A
  have hl : i.toNatClampNeg < vs.length := (List.getElem?_eq_some_iff.mp hv).1
  exact o_go (fun t k => S.iaload X.ex (j := i) (v := .int v) (by rw [X.hp]; exact q.1) (State.isArrayOf_alike X.wZ.alike q.2.1) q.2.2 (AL.inb (a := a) (ty := .int) r hi hl) (by rw [r]; simpa using hv) (g := mkF K.m pc Ls (.int i :: .ref a :: rest)) rfl rfl (X.dec d) t k) g
theorem o_laload (X : St K Z own b mx ret rm n0 k j T h) {a : Addr} {vs : List Value} {i : Int32} {v : Int64} (d : Isn b pc .laload 1 pc') (A : AL Z h a .long vs) (hi : ¬ i < 0) (hv : vs[i.toNatClampNeg]? = some (.long v)) (g : Go K n0 kc kj Q T pc' Ls (.long v :: rest)) : Go K n0 kc kj Q T pc Ls (.int i :: .ref a :: rest) := by
  obtain ⟨d, rfl⟩ := d; obtain ⟨locs, S, N⟩ := X.sd; obtain ⟨c, q, r, s⟩ := A
  have hl : i.toNatClampNeg < vs.length := (List.getElem?_eq_some_iff.mp hv).1
  exact o_go (fun t k => S.laload X.ex (j := i) (v := .long v) (by rw [X.hp]; exact q.1) (State.isArrayOf_alike X.wZ.alike q.2.1) q.2.2 (AL.inb (a := a) (ty := .long) r hi hl) (by rw [r]; simpa using hv) (g := mkF K.m pc Ls (.int i :: .ref a :: rest)) rfl rfl (X.dec d) t k) g
theorem o_caload (X : St K Z own b mx ret rm n0 k j T h) {a : Addr} {vs : List Value} {i : Int32} {v : Int32} (d : Isn b pc .caload 1 pc') (A : AL Z h a .char vs) (hi : ¬ i < 0) (hv : vs[i.toNatClampNeg]? = some (.int v)) (g : Go K n0 kc kj Q T pc' Ls (.int v :: rest)) : Go K n0 kc kj Q T pc Ls (.int i :: .ref a :: rest) := by
  obtain ⟨d, rfl⟩ := d; obtain ⟨locs, S, N⟩ := X.sd; obtain ⟨c, q, r, s⟩ := A
  have hl : i.toNatClampNeg < vs.length := (List.getElem?_eq_some_iff.mp hv).1
  exact o_go (fun t k => S.caload X.ex (j := i) (v := .int v) (by rw [X.hp]; exact q.1) (State.isArrayOf_alike X.wZ.alike q.2.1) q.2.2 (AL.inb (a := a) (ty := .char) r hi hl) (by rw [r]; simpa using hv) (g := mkF K.m pc Ls (.int i :: .ref a :: rest)) rfl rfl (X.dec d) t k) g
theorem o_baload (X : St K Z own b mx ret rm n0 k j T h) {a : Addr} {vs : List Value} {i : Int32} {v : Int32} (d : Isn b pc .baload 1 pc') (A : AL Z h a .byte vs) (hi : ¬ i < 0) (hv : vs[i.toNatClampNeg]? = some (.int v)) (g : Go K n0 kc kj Q T pc' Ls (.int v :: rest)) : Go K n0 kc kj Q T pc Ls (.int i :: .ref a :: rest) := by
  obtain ⟨d, rfl⟩ := d; obtain ⟨locs, S, N⟩ := X.sd; obtain ⟨c, q, r, s⟩ := A
  have hl : i.toNatClampNeg < vs.length := (List.getElem?_eq_some_iff.mp hv).1
  exact o_go (fun t k => S.baloadBytes X.ex (j := i) (v := .int v) (by rw [X.hp]; exact q.1) (State.isArrayOf_alike X.wZ.alike q.2.1) q.2.2 (AL.inb (a := a) (ty := .byte) r hi hl) (by rw [r]; simpa using hv) (g := mkF K.m pc Ls (.int i :: .ref a :: rest)) rfl rfl (X.dec d) t k) g
theorem o_iastore (X : St K Z own b mx ret rm n0 k j T h) {a : Addr} {vs vs' : List Value} {i : Int32} {v : Int32} (d : Isn b pc .iastore 1 pc') (A : AL Z h a .int vs) (hi : ¬ i < 0) (hl : i.toNatClampNeg < vs.length) (ha : n0 ≤ a) (hv : vs.set i.toNatClampNeg (.int v) = vs')
    (g : ∀ T' h', St K Z own b mx ret rm n0 k j T' h' → Wr h h' a i.toNatClampNeg (.int v) → AL Z h' a .int vs' → Go K n0 kc kj Q T' pc' Ls (rest)) : Go K n0 kc kj Q T pc Ls (.int v :: .int i :: .ref a :: rest) := by
  obtain ⟨d, rfl⟩ := d; obtain ⟨locs, S, N⟩ := X.sd; obtain ⟨c, q, r, s⟩ := A
  obtain ⟨T', h', S', e', W', st'⟩ := stI S X.ex X.wZ X.hp q (j := i) (x := v) (AL.inb (a := a) (ty := .int) r hi hl) (g := mkF K.m pc Ls (.int v :: .int i :: .ref a :: rest)) rfl rfl (X.dec d)
  exact o_go (fun t k => st' t k) (g T' h' (X.mk' S' (Fr.snoc S' N ha) e') W' (hv ▸ AL.set ⟨c, q, r, s⟩ W'))
theorem o_lastore (X : St K Z own b mx ret rm n0 k j T h) {a : Addr} {vs vs' : List Value} {i : Int32} {v : Int64} (d : Isn b pc .lastore 1 pc') (A : AL Z h a .long vs) (hi : ¬ i < 0) (hl : i.toNatClampNeg < vs.length) (ha : n0 ≤ a) (hv : vs.set i.toNatClampNeg (.long v) = vs')
    (g : ∀ T' h', St K Z own b mx ret rm n0 k j T' h' → Wr h h' a i.toNatClampNeg (.long v) → AL Z h' a .long vs' → Go K n0 kc kj Q T' pc' Ls (rest)) : Go K n0 kc kj Q T pc Ls (.long v :: .int i :: .ref a :: rest) := by
  obtain ⟨d, rfl⟩ := d; obtain ⟨locs, S, N⟩ := X.sd; obtain ⟨c, q, r, s⟩ := A
  obtain ⟨T', h', S', e', W', st'⟩ := stJ S X.ex X.wZ X.hp q (j := i) (x := v) (AL.inb (a := a) (ty := .long) r hi hl) (g := mkF K.m pc Ls (.long v :: .int i :: .ref a :: rest)) rfl rfl (X.dec d)
  exact o_go (fun t k => st' t k) (g T' h' (X.mk' S' (Fr.snoc S' N ha) e') W' (hv ▸ AL.set ⟨c, q, r, s⟩ W'))
theorem o_castore (X : St K Z own b mx ret rm n0 k j T h) {a : Addr} {vs vs' : List Value} {i : Int32} {v : Int32} (d : Isn b pc .castore 1 pc') (A : AL Z h a .char vs) (hi : ¬ i < 0) (hl : i.toNatClampNeg < vs.length) (ha : n0 ≤ a) (hv : vs.set i.toNatClampNeg (.int (nar .char v)) = vs')
    (g : ∀ T' h', St K Z own b mx ret rm n0 k j T' h' → Wr h h' a i.toNatClampNeg (.int (nar .char v)) → AL Z h' a .char vs' → Go K n0 kc kj Q T' pc' Ls (rest)) : Go K n0 kc kj Q T pc Ls (.int v :: .int i :: .ref a :: rest) := by
  obtain ⟨d, rfl⟩ := d; obtain ⟨locs, S, N⟩ := X.sd; obtain ⟨c, q, r, s⟩ := A
  obtain ⟨T', h', S', e', W', st'⟩ := stC S X.ex X.wZ X.hp q (j := i) (x := v) (AL.inb (a := a) (ty := .char) r hi hl) (g := mkF K.m pc Ls (.int v :: .int i :: .ref a :: rest)) rfl rfl (X.dec d)
  exact o_go (fun t k => st' t k) (g T' h' (X.mk' S' (Fr.snoc S' N ha) e') W' (hv ▸ AL.set ⟨c, q, r, s⟩ W'))
theorem o_bastore (X : St K Z own b mx ret rm n0 k j T h) {a : Addr} {vs vs' : List Value} {i : Int32} {v : Int32} (d : Isn b pc .bastore 1 pc') (A : AL Z h a .byte vs) (hi : ¬ i < 0) (hl : i.toNatClampNeg < vs.length) (ha : n0 ≤ a) (hv : vs.set i.toNatClampNeg (.int (nar .byte v)) = vs')
    (g : ∀ T' h', St K Z own b mx ret rm n0 k j T' h' → Wr h h' a i.toNatClampNeg (.int (nar .byte v)) → AL Z h' a .byte vs' → Go K n0 kc kj Q T' pc' Ls (rest)) : Go K n0 kc kj Q T pc Ls (.int v :: .int i :: .ref a :: rest) := by
  obtain ⟨d, rfl⟩ := d; obtain ⟨locs, S, N⟩ := X.sd; obtain ⟨c, q, r, s⟩ := A
  obtain ⟨T', h', S', e', W', st'⟩ := stB S X.ex X.wZ X.hp q (j := i) (x := v) (AL.inb (a := a) (ty := .byte) r hi hl) (g := mkF K.m pc Ls (.int v :: .int i :: .ref a :: rest)) rfl rfl (X.dec d)
  exact o_go (fun t k => st' t k) (g T' h' (X.mk' S' (Fr.snoc S' N ha) e') W' (hv ▸ AL.set ⟨c, q, r, s⟩ W'))
theorem o_newarray (X : St K Z own b mx ret rm n0 k j T h) (cap : Nat) {aty : ArrayType} {n : Int32} {vs : List Value} (d : Isn b pc (.newarray aty) 2 pc') (wd : (Jvm.Cond.arrayClass (newarray.typeOf aty)).before a0 Z = true) (hn : ¬ n < 0) (hcap : n.toNatClampNeg ≤ cap) (hvs : List.replicate n.toNatClampNeg (defaultValue (newarray.typeOf aty)) = vs) (hr : cap * 8 ≤ 536870912 ∧ k + 1 ≤ rm.cells ∧ j + cap ≤ rm.slots)
    (g : ∀ T' h' a, a = h.size → St K Z own b mx ret rm n0 (k + 1) (j + cap) T' h' → Ext h h' → AL Z h' a (newarray.typeOf aty) vs → Go K n0 kc kj Q T' pc' Ls (.ref a :: rest)) : Go K n0 kc kj Q T pc Ls (.int n :: rest) := by
  obtain ⟨d, rfl⟩ := d; obtain ⟨locs, S, N⟩ := X.sd; have hR := X.rmE
  obtain ⟨T', h', cA, S', e', E', A', st'⟩ := newP S X.ex X.wZ wd X.hp (g := mkF K.m pc Ls (.int n :: rest)) rfl (X.dec d) rfl hn hcap hr.1 (by rw [hR]; exact hr.2.1) (by rw [hR]; exact hr.2.2)
  refine o_go (fun t k => st' t k) (g T' h' h.size rfl (X.mk' S' N e') E' ⟨_, A', ?_, ?_⟩)
  · rw [← hvs]; simp [newA]
  · rw [← hvs]; simp; have := (back32 hn).2; omega
/-- the array at a takes objects of class C -/
def AO (Z : State) (h : Heap) (a : Addr) (C : String) : Prop := ∃ c : Cell, h[a]? = some c ∧ Ovr Z c.cls C
theorem AO.ext {h' : Heap} {a : Addr} {C : String} (A : AO Z h a C) (E : Ext h h') : AO Z h' a C := by obtain ⟨c, q, r⟩ := A; exact ⟨c, E.2 _ _ q, r⟩
theorem AO.wr {h' : Heap} {a a' : Addr} {C : String} {sl : Nat} {v : Value} (A : AO Z h a C) (W : Wr h h' a' sl v) : AO Z h' a C := by
  obtain ⟨c, q, r⟩ := A; obtain ⟨c', q1, q2, -⟩ := wr_at W q; exact ⟨c', q1, by rw [q2]; exact r⟩
theorem o_anewarray (X : St K Z own b mx ret rm n0 k j T h) (cap : Nat) {i : Nat} {C' : String} {n : Int32} {vs : List Value} (d : Isn b pc (.anewarray i) 3 pc') (w1 : (Jvm.Cond.classLink own i C').before a0 Z = true) (w2 : (Jvm.Cond.arrayOver (.object C')).before a0 Z = true) (hn : ¬ n < 0) (hcap : n.toNatClampNeg ≤ cap) (hvs : List.replicate n.toNatClampNeg Value.null = vs) (hr : cap * 8 ≤ 536870912 ∧ k + 1 ≤ rm.cells ∧ j + cap ≤ rm.slots)
    (g : ∀ T' h' a, a = h.size → St K Z own b mx ret rm n0 (k + 1) (j + cap) T' h' → Ext h h' → AL Z h' a (.object C') vs → AO Z h' a C' → Go K n0 kc kj Q T' pc' Ls (.ref a :: rest)) : Go K n0 kc kj Q T pc Ls (.int n :: rest) := by
  obtain ⟨d, rfl⟩ := d; obtain ⟨locs, S, N⟩ := X.sd; have hR := X.rmE
  obtain ⟨T', h', cA, S', e', E', A', O', st'⟩ := newR S X.ex X.wZ X.ow w1 w2 X.hp (g := mkF K.m pc Ls (.int n :: rest)) rfl (X.dec d) rfl hn hcap hr.1 (by rw [hR]; exact hr.2.1) (by rw [hR]; exact hr.2.2)
  refine o_go (fun t k => st' t k) (g T' h' h.size rfl (X.mk' S' N e') E' ⟨_, A', ?_, ?_⟩ ⟨_, A'.1, O'⟩)
  · rw [← hvs]; simp [newA, defaultValue]
  · rw [← hvs]; simp; have := (back32 hn).2; omega
theorem o_aaload (X : St K Z own b mx ret rm n0 k j T h) {a : Addr} {ty : FieldType} {vs : List Value} {i : Int32} {v : Value} (hty : ty.isReference = true) (d : Isn b pc .aaload 1 pc') (A : AL Z h a ty vs) (hi : ¬ i < 0) (hv : vs[i.toNatClampNeg]? = some v) (g : Go K n0 kc kj Q T pc' Ls (v :: rest)) : Go K n0 kc kj Q T pc Ls (.int i :: .ref a :: rest) := by
  obtain ⟨d, rfl⟩ := d; obtain ⟨locs, S, N⟩ := X.sd; obtain ⟨c, q, r, s⟩ := A
  have hl : i.toNatClampNeg < vs.length := (List.getElem?_eq_some_iff.mp hv).1
  exact o_go (fun t k => S.aaload X.ex (j := i) (v := v) (by rw [X.hp]; exact q.1) (State.isArrayOf_alike X.wZ.alike q.2.1) hty q.2.2 (AL.inb (a := a) (ty := ty) r hi hl) (by rw [r]; simpa using hv) (g := mkF K.m pc Ls (.int i :: .ref a :: rest)) rfl rfl (X.dec d) t k) g
theorem o_aastore (X : St K Z own b mx ret rm n0 k j T h) {a y : Addr} {C' : String} {vs vs' : List Value} {i : Int32} (d : Isn b pc .aastore 1 pc') (A : AL Z h a (.object C') vs) (O : AO Z h a C') (I : Jvm.RoadKit.Ins Z h y C' true) (hi : ¬ i < 0) (hl : i.toNatClampNeg < vs.length) (ha : n0 ≤ a) (hv : vs.set i.toNatClampNeg (.ref y) = vs')
    (g : ∀ T' h', St K Z own b mx ret rm n0 k j T' h' → Wr h h' a i.toNatClampNeg (.ref y) → AL Z h' a (.object C') vs' → Go K n0 kc kj Q T' pc' Ls (rest)) : Go K n0 kc kj Q T pc Ls (.ref y :: .int i :: .ref a :: rest) := by
  obtain ⟨d, rfl⟩ := d; obtain ⟨locs, S, N⟩ := X.sd; obtain ⟨c, q, r, s⟩ := A
  obtain ⟨c2, q2, r2⟩ := O
  have hO : Ovr Z c.cls C' := by cases q.1.symm.trans q2; exact r2
  obtain ⟨T', h', S', e', W', st'⟩ := stR S X.ex X.wZ X.hp q (j := i) (v := .ref y) (AL.inb (a := a) (ty := .object C') r hi hl) rfl (Sto.of q hO I) (g := mkF K.m pc Ls (.ref y :: .int i :: .ref a :: rest)) rfl rfl (X.dec d)
  exact o_go (fun t k => st' t k) (g T' h' (X.mk' S' (Fr.snoc S' N ha) e') W' (hv ▸ AL.set ⟨c, q, r, s⟩ W'))
/-- an array of ints, booleans, bytes or chars, by a function of the place -/
def AN (Z : State) (h : Heap) (a : Addr) (ty : FieldType) (n : Nat) (f : Nat → Int32) : Prop := ∃ c : Cell, Arr Z h a c ty ∧ c.slots.size = n ∧ n < 2 ^ 31 ∧ ∀ i, i < n → c.slots[i]? = some (.int (f i))
theorem AN.lt {a : Addr} {ty : FieldType} {n : Nat} {f : Nat → Int32} (A : AN Z h a ty n f) : a < h.size := by obtain ⟨c, q, -⟩ := A; exact q.lt
theorem AN.ext {h' : Heap} {a : Addr} {ty : FieldType} {n : Nat} {f : Nat → Int32} (A : AN Z h a ty n f) (E : Ext h h') : AN Z h' a ty n f := by obtain ⟨c, q, r⟩ := A; exact ⟨c, q.ext E, r⟩
theorem AN.other {h' : Heap} {a a' : Addr} {sl : Nat} {v : Value} {ty : FieldType} {n : Nat} {f : Nat → Int32} (A : AN Z h a ty n f) (W : Wr h h' a' sl v) (ne : a ≠ a') : AN Z h' a ty n f := by obtain ⟨c, q, r⟩ := A; exact ⟨c, q.other W ne, r⟩
theorem AN.keep {h' : Heap} {a : Addr} {ws : List Addr} {ty : FieldType} {n : Nat} {f : Nat → Int32} (A : AN Z h a ty n f) (Kp : Keep h h' ws) (q : a ∉ ws) : AN Z h' a ty n f := by obtain ⟨c, A1, r⟩ := A; exact ⟨c, ⟨Kp.2.1 a c A1.1 q, A1.2⟩, r⟩
theorem AN.set {h' : Heap} {a : Addr} {sl : Nat} {v : Int32} {ty : FieldType} {n : Nat} {f : Nat → Int32} (A : AN Z h a ty n f) (W : Wr h h' a sl (.int v)) : AN Z h' a ty n (fun i => if i = sl then v else f i) := by
  obtain ⟨c, q, r, s, t⟩ := A
  refine ⟨_, q.same W, by simpa [Cell.setSlot] using r, s, fun i hi => ?_⟩
  have e := t i hi
  by_cases p : i = sl
  · subst p; have : i < c.slots.size := r ▸ hi
    simp [Cell.setSlot, this]
  · have p' : ¬ sl = i := fun q => p q.symm
    simp [Cell.setSlot, Array.getElem?_setIfInBounds, p, p', e]
theorem AN.inb {n : Nat} {i : Int32} {c : Cell} (r : c.slots.size = n) (hi : ¬ i < 0) (hl : i.toNatClampNeg < n) : ¬ (i < 0 ∨ c.slots.size ≤ i.toNatClampNeg) := by
  rw [r]; rintro (q | q)
  · exact hi q
  · omega
theorem o_alenN (X : St K Z own b mx ret rm n0 k j T h) {a : Addr} {ty : FieldType} {n : Nat} {f : Nat → Int32} (z : Int32) (d : Isn b pc .arraylength 1 pc') (A : AN Z h a ty n f) (hn : n.toInt32 = z) (g : Go K n0 kc kj Q T pc' Ls (.int z :: rest)) : Go K n0 kc kj Q T pc Ls (.ref a :: rest) := by
  obtain ⟨d, rfl⟩ := d; obtain ⟨locs, S, N⟩ := X.sd; obtain ⟨c, q, r, s⟩ := A
  have e : c.slots.size.toInt32 = z := by rw [r, ← hn]
  exact o_go (fun t k => S.arraylength X.ex (cell := c) (by rw [X.hp]; exact q.1) (State.isArrayOf_alike X.wZ.alike q.2.1) (g := mkF K.m pc Ls (.ref a :: rest)) rfl (rest := rest) rfl (X.dec d) t (by rw [e]; exact k)) g

theorem o_ialoadN (X : St K Z own b mx ret rm n0 k j T h) {a : Addr} {n : Nat} {f : Nat → Int32} {i : Int32} (d : Isn b pc .iaload 1 pc') (A : AN Z h a .int n f) (hi : ¬ i < 0) (hl : i.toNatClampNeg < n) (g : Go K n0 kc kj Q T pc' Ls (.int (f i.toNatClampNeg) :: rest)) : Go K n0 kc kj Q T pc Ls (.int i :: .ref a :: rest) := by
  obtain ⟨d, rfl⟩ := d; obtain ⟨locs, S, N⟩ := X.sd; obtain ⟨c, q, r, s, t⟩ := A
  exact o_go (fun t' k => S.iaload X.ex (j := i) (v := .int (f i.toNatClampNeg)) (by rw [X.hp]; exact q.1) (State.isArrayOf_alike X.wZ.alike q.2.1) q.2.2 (AN.inb r hi hl) (t _ hl) (g := mkF K.m pc Ls (.int i :: .ref a :: rest)) rfl rfl (X.dec d) t' k) g
theorem o_caloadN (X : St K Z own b mx ret rm n0 k j T h) {a : Addr} {n : Nat} {f : Nat → Int32} {i : Int32} (d : Isn b pc .caload 1 pc') (A : AN Z h a .char n f) (hi : ¬ i < 0) (hl : i.toNatClampNeg < n) (g : Go K n0 kc kj Q T pc' Ls (.int (f i.toNatClampNeg) :: rest)) : Go K n0 kc kj Q T pc Ls (.int i :: .ref a :: rest) := by
  obtain ⟨d, rfl⟩ := d; obtain ⟨locs, S, N⟩ := X.sd; obtain ⟨c, q, r, s, t⟩ := A
  exact o_go (fun t' k => S.caload X.ex (j := i) (v := .int (f i.toNatClampNeg)) (by rw [X.hp]; exact q.1) (State.isArrayOf_alike X.wZ.alike q.2.1) q.2.2 (AN.inb r hi hl) (t _ hl) (g := mkF K.m pc Ls (.int i :: .ref a :: rest)) rfl rfl (X.dec d) t' k) g
theorem o_baloadN (X : St K Z own b mx ret rm n0 k j T h) {a : Addr} {n : Nat} {f : Nat → Int32} {i : Int32} (d : Isn b pc .baload 1 pc') (A : AN Z h a .byte n f) (hi : ¬ i < 0) (hl : i.toNatClampNeg < n) (g : Go K n0 kc kj Q T pc' Ls (.int (f i.toNatClampNeg) :: rest)) : Go K n0 kc kj Q T pc Ls (.int i :: .ref a :: rest) := by
  obtain ⟨d, rfl⟩ := d; obtain ⟨locs, S, N⟩ := X.sd; obtain ⟨c, q, r, s, t⟩ := A
  exact o_go (fun t' k => S.baloadBytes X.ex (j := i) (v := .int (f i.toNatClampNeg)) (by rw [X.hp]; exact q.1) (State.isArrayOf_alike X.wZ.alike q.2.1) q.2.2 (AN.inb r hi hl) (t _ hl) (g := mkF K.m pc Ls (.int i :: .ref a :: rest)) rfl rfl (X.dec d) t' k) g
theorem o_zaloadN (X : St K Z own b mx ret rm n0 k j T h) {a : Addr} {n : Nat} {f : Nat → Int32} {i : Int32} (d : Isn b pc .baload 1 pc') (A : AN Z h a .boolean n f) (hi : ¬ i < 0) (hl : i.toNatClampNeg < n) (g : Go K n0 kc kj Q T pc' Ls (.int (f i.toNatClampNeg) :: rest)) : Go K n0 kc kj Q T pc Ls (.int i :: .ref a :: rest) := by
  obtain ⟨d, rfl⟩ := d; obtain ⟨locs, S, N⟩ := X.sd; obtain ⟨c, q, r, s, t⟩ := A
  exact o_go (fun t' k => S.baloadBooleans X.ex (j := i) (v := .int (f i.toNatClampNeg)) (by rw [X.hp]; exact q.1) (State.isArrayOf_alike X.wZ.alike q.2.1) q.2.2 (AN.inb r hi hl) (t _ hl) (g := mkF K.m pc Ls (.int i :: .ref a :: rest)) rfl rfl (X.dec d) t' k) g
theorem o_iastoreN (X : St K Z own b mx ret rm n0 k j T h) {a : Addr} {n : Nat} {f : Nat → Int32} {i v : Int32} (d : Isn b pc .iastore 1 pc') (A : AN Z h a .int n f) (hi : ¬ i < 0) (hl : i.toNatClampNeg < n) (ha : n0 ≤ a)
    (g : ∀ T' h', St K Z own b mx ret rm n0 k j T' h' → Wr h h' a i.toNatClampNeg (.int (v)) → AN Z h' a .int n (fun q => if q = i.toNatClampNeg then v else f q) → Go K n0 kc kj Q T' pc' Ls (rest)) : Go K n0 kc kj Q T pc Ls (.int v :: .int i :: .ref a :: rest) := by
  obtain ⟨d, rfl⟩ := d; obtain ⟨locs, S, N⟩ := X.sd; have A0 := A; obtain ⟨c, q, r, s⟩ := A
  obtain ⟨T', h', S', e', W', st'⟩ := stI S X.ex X.wZ X.hp q (j := i) (x := v) (AN.inb r hi hl) (g := mkF K.m pc Ls (.int v :: .int i :: .ref a :: rest)) rfl rfl (X.dec d)
  exact o_go (fun t k => st' t k) (g T' h' (X.mk' S' (Fr.snoc S' N ha) e') W' (A0.set W'))
theorem o_castoreN (X : St K Z own b mx ret rm n0 k j T h) {a : Addr} {n : Nat} {f : Nat → Int32} {i v : Int32} (d : Isn b pc .castore 1 pc') (A : AN Z h a .char n f) (hi : ¬ i < 0) (hl : i.toNatClampNeg < n) (ha : n0 ≤ a)
    (g : ∀ T' h', St K Z own b mx ret rm n0 k j T' h' → Wr h h' a i.toNatClampNeg (.int (nar .char v)) → AN Z h' a .char n (fun q => if q = i.toNatClampNeg then nar .char v else f q) → Go K n0 kc kj Q T' pc' Ls (rest)) : Go K n0 kc kj Q T pc Ls (.int v :: .int i :: .ref a :: rest) := by
  obtain ⟨d, rfl⟩ := d; obtain ⟨locs, S, N⟩ := X.sd; have A0 := A; obtain ⟨c, q, r, s⟩ := A
  obtain ⟨T', h', S', e', W', st'⟩ := stC S X.ex X.wZ X.hp q (j := i) (x := v) (AN.inb r hi hl) (g := mkF K.m pc Ls (.int v :: .int i :: .ref a :: rest)) rfl rfl (X.dec d)
  exact o_go (fun t k => st' t k) (g T' h' (X.mk' S' (Fr.snoc S' N ha) e') W' (A0.set W'))
theorem o_bastoreN (X : St K Z own b mx ret rm n0 k j T h) {a : Addr} {n : Nat} {f : Nat → Int32} {i v : Int32} (d : Isn b pc .bastore 1 pc') (A : AN Z h a .byte n f) (hi : ¬ i < 0) (hl : i.toNatClampNeg < n) (ha : n0 ≤ a)
    (g : ∀ T' h', St K Z own b mx ret rm n0 k j T' h' → Wr h h' a i.toNatClampNeg (.int (nar .byte v)) → AN Z h' a .byte n (fun q => if q = i.toNatClampNeg then nar .byte v else f q) → Go K n0 kc kj Q T' pc' Ls (rest)) : Go K n0 kc kj Q T pc Ls (.int v :: .int i :: .ref a :: rest) := by
  obtain ⟨d, rfl⟩ := d; obtain ⟨locs, S, N⟩ := X.sd; have A0 := A; obtain ⟨c, q, r, s⟩ := A
  obtain ⟨T', h', S', e', W', st'⟩ := stB S X.ex X.wZ X.hp q (j := i) (x := v) (AN.inb r hi hl) (g := mkF K.m pc Ls (.int v :: .int i :: .ref a :: rest)) rfl rfl (X.dec d)
  exact o_go (fun t k => st' t k) (g T' h' (X.mk' S' (Fr.snoc S' N ha) e') W' (A0.set W'))
theorem o_zastoreN (X : St K Z own b mx ret rm n0 k j T h) {a : Addr} {n : Nat} {f : Nat → Int32} {i v : Int32} (d : Isn b pc .bastore 1 pc') (A : AN Z h a .boolean n f) (hi : ¬ i < 0) (hl : i.toNatClampNeg < n) (ha : n0 ≤ a)
    (g : ∀ T' h', St K Z own b mx ret rm n0 k j T' h' → Wr h h' a i.toNatClampNeg (.int (nar .boolean v)) → AN Z h' a .boolean n (fun q => if q = i.toNatClampNeg then nar .boolean v else f q) → Go K n0 kc kj Q T' pc' Ls (rest)) : Go K n0 kc kj Q T pc Ls (.int v :: .int i :: .ref a :: rest) := by
  obtain ⟨d, rfl⟩ := d; obtain ⟨locs, S, N⟩ := X.sd; have A0 := A; obtain ⟨c, q, r, s⟩ := A
  obtain ⟨T', h', S', e', W', st'⟩ := stZ S X.ex X.wZ X.hp q (j := i) (x := v) (AN.inb r hi hl) (g := mkF K.m pc Ls (.int v :: .int i :: .ref a :: rest)) rfl rfl (X.dec d)
  exact o_go (fun t k => st' t k) (g T' h' (X.mk' S' (Fr.snoc S' N ha) e') W' (A0.set W'))
theorem o_newarrayN (X : St K Z own b mx ret rm n0 k j T h) (cap : Nat) {aty : ArrayType} {n : Int32} (m : Nat) (d : Isn b pc (.newarray aty) 2 pc') (wd : (Jvm.Cond.arrayClass (newarray.typeOf aty)).before a0 Z = true) (hn : ¬ n < 0) (hm : n.toNatClampNeg = m) (hcap : m ≤ cap) (hdv : defaultValue (newarray.typeOf aty) = .int 0) (hr : cap * 8 ≤ 536870912 ∧ k + 1 ≤ rm.cells ∧ j + cap ≤ rm.slots)
    (g : ∀ T' h' a, a = h.size → St K Z own b mx ret rm n0 (k + 1) (j + cap) T' h' → Ext h h' → AN Z h' a (newarray.typeOf aty) m (fun _ => 0) → Go K n0 kc kj Q T' pc' Ls (.ref a :: rest)) : Go K n0 kc kj Q T pc Ls (.int n :: rest) := by
  obtain ⟨d, rfl⟩ := d; obtain ⟨locs, S, N⟩ := X.sd; have hR := X.rmE
  obtain ⟨T', h', cA, S', e', E', A', st'⟩ := newP S X.ex X.wZ wd X.hp (g := mkF K.m pc Ls (.int n :: rest)) rfl (X.dec d) rfl hn (hm ▸ hcap) hr.1 (by rw [hR]; exact hr.2.1) (by rw [hR]; exact hr.2.2)
  refine o_go (fun t k => st' t k) (g T' h' h.size rfl (X.mk' S' N e') E' ⟨_, A', ?_, ?_, fun i hi => ?_⟩)
  · simpa [newA] using hm
  · have := (back32 hn).2; omega
  · simp [newA, hm, hi, hdv]
/-- a long array, by a function of the place -/
def LN (Z : State) (h : Heap) (a : Addr) (n : Nat) (f : Nat → Int64) : Prop := ∃ c : Cell, Arr Z h a c .long ∧ c.slots.size = n ∧ n < 2 ^ 31 ∧ ∀ i, i < n → c.slots[i]? = some (.long (f i))
theorem LN.lt {a : Addr} {n : Nat} {f : Nat → Int64} (A : LN Z h a n f) : a < h.size := by obtain ⟨c, q, -⟩ := A; exact q.lt
theorem LN.ext {h' : Heap} {a : Addr} {n : Nat} {f : Nat → Int64} (A : LN Z h a n f) (E : Ext h h') : LN Z h' a n f := by obtain ⟨c, q, r⟩ := A; exact ⟨c, q.ext E, r⟩
theorem LN.other {h' : Heap} {a a' : Addr} {sl : Nat} {v : Value} {n : Nat} {f : Nat → Int64} (A : LN Z h a n f) (W : Wr h h' a' sl v) (ne : a ≠ a') : LN Z h' a n f := by obtain ⟨c, q, r⟩ := A; exact ⟨c, q.other W ne, r⟩
theorem LN.set {h' : Heap} {a : Addr} {sl : Nat} {v : Int64} {n : Nat} {f : Nat → Int64} (A : LN Z h a n f) (W : Wr h h' a sl (.long v)) : LN Z h' a n (fun i => if i = sl then v else f i) := by
  obtain ⟨c, q, r, s, t⟩ := A
  refine ⟨_, q.same W, by simpa [Cell.setSlot] using r, s, fun i hi => ?_⟩
  have e := t i hi
  by_cases p : i = sl
  · subst p; have : i < c.slots.size := r ▸ hi
    simp [Cell.setSlot, this]
  · have p' : ¬ sl = i := fun q => p q.symm
    simp [Cell.setSlot, Array.getElem?_setIfInBounds, p, p', e]
theorem o_alenL (X : St K Z own b mx ret rm n0 k j T h) {a : Addr} {n : Nat} {f : Nat → Int64} (z : Int32) (d : Isn b pc .arraylength 1 pc') (A : LN Z h a n f) (hn : n.toInt32 = z) (g : Go K n0 kc kj Q T pc' Ls (.int z :: rest)) : Go K n0 kc kj Q T pc Ls (.ref a :: rest) := by
  obtain ⟨d, rfl⟩ := d; obtain ⟨locs, S, N⟩ := X.sd; obtain ⟨c, q, r, s⟩ := A
  have e : c.slots.size.toInt32 = z := by rw [r, ← hn]
  exact o_go (fun t k => S.arraylength X.ex (cell := c) (by rw [X.hp]; exact q.1) (State.isArrayOf_alike X.wZ.alike q.2.1) (g := mkF K.m pc Ls (.ref a :: rest)) rfl (rest := rest) rfl (X.dec d) t (by rw [e]; exact k)) g
theorem o_laloadN (X : St K Z own b mx ret rm n0 k j T h) {a : Addr} {n : Nat} {f : Nat → Int64} {i : Int32} (d : Isn b pc .laload 1 pc') (A : LN Z h a n f) (hi : ¬ i < 0) (hl : i.toNatClampNeg < n) (g : Go K n0 kc kj Q T pc' Ls (.long (f i.toNatClampNeg) :: rest)) : Go K n0 kc kj Q T pc Ls (.int i :: .ref a :: rest) := by
  obtain ⟨d, rfl⟩ := d; obtain ⟨locs, S, N⟩ := X.sd; obtain ⟨c, q, r, s, t⟩ := A
  exact o_go (fun t' k => S.laload X.ex (j := i) (v := .long (f i.toNatClampNeg)) (by rw [X.hp]; exact q.1) (State.isArrayOf_alike X.wZ.alike q.2.1) q.2.2 (AN.inb r hi hl) (t _ hl) (g := mkF K.m pc Ls (.int i :: .ref a :: rest)) rfl rfl (X.dec d) t' k) g
theorem o_lastoreN (X : St K Z own b mx ret rm n0 k j T h) {a : Addr} {n : Nat} {f : Nat → Int64} {i : Int32} {v : Int64} (d : Isn b pc .lastore 1 pc') (A : LN Z h a n f) (hi : ¬ i < 0) (hl : i.toNatClampNeg < n) (ha : n0 ≤ a)
    (g : ∀ T' h', St K Z own b mx ret rm n0 k j T' h' → Wr h h' a i.toNatClampNeg (.long v) → LN Z h' a n (fun q => if q = i.toNatClampNeg then v else f q) → Go K n0 kc kj Q T' pc' Ls (rest)) : Go K n0 kc kj Q T pc Ls (.long v :: .int i :: .ref a :: rest) := by
  obtain ⟨d, rfl⟩ := d; obtain ⟨locs, S, N⟩ := X.sd; have A0 := A; obtain ⟨c, q, r, s⟩ := A
  obtain ⟨T', h', S', e', W', st'⟩ := stJ S X.ex X.wZ X.hp q (j := i) (x := v) (AN.inb r hi hl) (g := mkF K.m pc Ls (.long v :: .int i :: .ref a :: rest)) rfl rfl (X.dec d)
  exact o_go (fun t k => st' t k) (g T' h' (X.mk' S' (Fr.snoc S' N ha) e') W' (A0.set W'))
theorem o_newarrayL (X : St K Z own b mx ret rm n0 k j T h) (cap : Nat) {n : Int32} (m : Nat) (d : Isn b pc (.newarray .long) 2 pc') (wd : (Jvm.Cond.arrayClass .long).before a0 Z = true) (hn : ¬ n < 0) (hm : n.toNatClampNeg = m) (hcap : m ≤ cap) (hr : cap * 8 ≤ 536870912 ∧ k + 1 ≤ rm.cells ∧ j + cap ≤ rm.slots)
    (g : ∀ T' h' a, a = h.size → St K Z own b mx ret rm n0 (k + 1) (j + cap) T' h' → Ext h h' → LN Z h' a m (fun _ => 0) → Go K n0 kc kj Q T' pc' Ls (.ref a :: rest)) : Go K n0 kc kj Q T pc Ls (.int n :: rest) := by
  obtain ⟨d, rfl⟩ := d; obtain ⟨locs, S, N⟩ := X.sd; have hR := X.rmE
  obtain ⟨T', h', cA, S', e', E', A', st'⟩ := newP S X.ex X.wZ (aty := .long) wd X.hp (g := mkF K.m pc Ls (.int n :: rest)) rfl (X.dec d) rfl hn (hm ▸ hcap) hr.1 (by rw [hR]; exact hr.2.1) (by rw [hR]; exact hr.2.2)
  refine o_go (fun t k => st' t k) (g T' h' h.size rfl (X.mk' S' N e') E' ⟨_, A', ?_, ?_, fun i hi => ?_⟩)
  · simpa [newA] using hm
  · have := (back32 hn).2; omega
  · have e : defaultValue (newarray.typeOf .long) = .long 0 := rfl
    simp [newA, hm, hi, e]
/-- an object, by all the values of these fields of its class -/
def Obj (Z : State) (h : Heap) (a : Addr) (C : String) (ns : List (String × String)) (vs : List Value) : Prop := Exa Z h a C ∧ ns.length = vs.length ∧ ∀ (i : Nat) (n d : String) (v : Value), ns[i]? = some (n, d) → vs[i]? = some v → Fld Z h a C n d v
def LdAll (Z : State) (a0 : Array Value) (C : String) (ns : List (String × String)) : Prop := (ns.map Prod.fst).Nodup ∧ ∀ q ∈ ns, Laid Z a0 C C q.1 q.2 ∧ ∃ t, parseFieldDescriptor q.2 = some t
variable {h' : Heap} {a a' : Addr} {C : String} {ns : List (String × String)} {vs : List Value} {sl : Nat} {v : Value}
theorem Obj.lt (O : Obj Z h a C ns vs) : a < h.size := O.1.lt
theorem Obj.exa (O : Obj Z h a C ns vs) : Exa Z h a C := O.1
theorem Obj.ext (O : Obj Z h a C ns vs) (E : Ext h h') : Obj Z h' a C ns vs := ⟨O.1.ext E, O.2.1, fun i n d v q r => (O.2.2 i n d v q r).ext E⟩
theorem Obj.other (O : Obj Z h a C ns vs) (W : Wr h h' a' sl v) (ne : a ≠ a') : Obj Z h' a C ns vs := ⟨O.1.wr W, O.2.1, fun i n d v q r => (O.2.2 i n d v q r).other W (Or.inl ne)⟩
theorem Obj.keep {ws : List Addr} (O : Obj Z h a C ns vs) (Kp : Keep h h' ws) (ne : a ∉ ws) : Obj Z h' a C ns vs := ⟨O.1.keep Kp, O.2.1, fun i n d v q r => (O.2.2 i n d v q r).keep Kp ne⟩
theorem Obj.new (E : Exa Z h a C) (D : ∀ {O nm dd : String} {ty : FieldType}, Laid Z a0 C O nm dd → parseFieldDescriptor dd = some ty → Fld Z h a O nm dd (defaultValue ty)) (LA : LdAll Z a0 C ns) (ts : List FieldType) (ht : ns.map (fun q => parseFieldDescriptor q.2) = ts.map some) (hv : ts.map defaultValue = vs) : Obj Z h a C ns vs := by
  refine ⟨E, by rw [← hv]; simpa using congrArg List.length ht, fun i n d v q r => ?_⟩
  subst hv
  obtain ⟨t, ht1, rfl⟩ : ∃ t, ts[i]? = some t ∧ defaultValue t = v := by simpa using r
  have q2 := congrArg (fun L => L[i]?) ht
  simp [q, ht1] at q2
  exact D (LA.2 (n, d) (List.mem_of_getElem? q)).1 q2
theorem Obj.set (O : Obj Z h a C ns vs) (LA : LdAll Z a0 C ns) {n d : String} (W : Wr h h' a (Jvm.RoadKit.slotOf Z C n d) v) (i : Nat) (hi : ns[i]? = some (n, d)) : Obj Z h' a C ns (vs.set i v) := by
  refine ⟨O.1.wr W, by simpa using O.2.1, fun j n' d' v' q r => ?_⟩
  have hil : i < ns.length := (List.getElem?_eq_some_iff.mp hi).1
  by_cases e : i = j
  · subst e
    cases hi.symm.trans q
    have hiv : i < vs.length := O.2.1 ▸ hil
    obtain ⟨w, hw⟩ : ∃ w, vs[i]? = some w := ⟨_, List.getElem?_eq_getElem hiv⟩
    have : v = v' := by simpa [List.getElem?_set, hiv] using r
    subst this
    exact (O.2.2 i n d w hi hw).same W
  · have r' : vs[j]? = some v' := by rw [List.getElem?_set_ne e] at r; exact r
    refine (O.2.2 j n' d' v' q r').other W (Or.inr ?_)
    obtain ⟨l1, t1, p1⟩ := LA.2 _ (List.mem_of_getElem? q)
    obtain ⟨l2, t2, p2⟩ := LA.2 _ (List.mem_of_getElem? hi)
    refine slot_ne l1 l2 (fun eq => e ?_) p1 p2
    have hjl : j < ns.length := (List.getElem?_eq_some_iff.mp q).1
    have e1 : (ns.map Prod.fst)[i]? = some n := by simp [hi]
    have e2 : (ns.map Prod.fst)[j]? = some n' := by simp [q]
    have eq' : n' = n := eq
    subst eq'
    obtain ⟨x1, y1⟩ := List.getElem?_eq_some_iff.mp e1
    obtain ⟨x2, y2⟩ := List.getElem?_eq_some_iff.mp e2
    have P := List.pairwise_iff_getElem.mp LA.1
    rcases Nat.lt_trichotomy i j with z | z | z
    · exact absurd (y1.trans y2.symm) (P i j x1 x2 z)
    · exact z
    · exact absurd (y2.trans y1.symm) (P j i x2 x1 z)
theorem o_getO (X : St K Z own b mx ret rm n0 k j T h) {q : Nat} {n dd : String} (i : Nat) (d : Isn b pc (.getfield q) 3 pc') (wd : (Jvm.Cond.fieldLink own q C n dd).before a0 Z = true) (O : Obj Z h a C ns vs) (hi : ns[i]? = some (n, dd)) (hv : vs[i]? = some v)
    (g : ∀ T', St K Z own b mx ret rm n0 k j T' h → Go K n0 kc kj Q T' pc' Ls (v :: rest)) : Go K n0 kc kj Q T pc Ls (.ref a :: rest) := o_getF X d wd (O.2.2 i n dd v hi hv) g
theorem o_putO (X : St K Z own b mx ret rm n0 k j T h) {q kk : Nat} {n dd : String} {ty : FieldType} {vs' : List Value} (i : Nat) (d : Isn b pc (.putfield q) 3 pc') (wd : (Jvm.Cond.fieldLink own q C n dd).before a0 Z = true) (O : Obj Z h a C ns vs) (LA : LdAll Z a0 C ns) (hi : ns[i]? = some (n, dd))
    (Lf : (Jvm.Cond.lays C C n dd).before a0 Z = true ∨ ((Jvm.Cond.laysFinal C C n dd).before a0 Z = true ∧ own = C ∧ K.meth.name = "<init>")) (wi : (Jvm.Cond.instantiable C kk).before a0 Z = true) (hty : parseFieldDescriptor dd = some ty) (hn : narrow ty v = v) (hf : fits ty v = true) (ha : n0 ≤ a) (hv : vs.set i v = vs')
    (g : ∀ T' h', St K Z own b mx ret rm n0 k j T' h' → Wr h h' a (Jvm.RoadKit.slotOf Z C n dd) v → Obj Z h' a C ns vs' → Go K n0 kc kj Q T' pc' Ls (rest)) : Go K n0 kc kj Q T pc Ls (v :: .ref a :: rest) := by
  have hil : i < vs.length := O.2.1 ▸ (List.getElem?_eq_some_iff.mp hi).1
  exact o_putF X d wd (O.2.2 i n dd _ hi (List.getElem?_eq_getElem hil)) O.1 Lf wi hty hn hf ha fun T' h' X' W => g T' h' X' W (hv ▸ O.set LA W i hi)
end OwnKit
theorem pd0 : parseMethodDescriptor "(I)I" = some ⟨[.int], some .int⟩ := by decide +kernel
theorem pd1 : parseMethodDescriptor "(JJII)B" = some ⟨[.long, .long, .int, .int], some .byte⟩ := by decide +kernel
theorem pd2 : parseMethodDescriptor "([BIII)Z" = some ⟨[(.array .byte), .int, .int, .int], some .boolean⟩ := by decide +kernel
theorem pd3 : parseMethodDescriptor "([BII)I" = some ⟨[(.array .byte), .int, .int], some .int⟩ := by decide +kernel
theorem pd4 : parseMethodDescriptor "([BIII)I" = some ⟨[(.array .byte), .int, .int, .int], some .int⟩ := by decide +kernel
theorem pn0 : plainName "com/example/kartoteka/kartoteka/core/Iso2709NumberPinLaw" = true := by first | (simp [plainName, overriddenIn]; done) | decide +kernel
theorem pn1 : plainName "com/example/kartoteka/kartoteka/core/Iso2709" = true := by first | (simp [plainName, overriddenIn]; done) | decide +kernel
theorem own_zero : (0 : Int32).toInt = 0 := by decide
theorem own_one : (1 : Int32).toInt = 1 := by decide
def own_b1 (b : Int32) : Int32 := if b < 48 then 1 else if 57 < b then 1 else 0
def own_bad (B : Int32 → Int32) (a d j : Int32) : Int32 := if j < d then own_b1 (B (a + j)) else 0
def own_p10 (e : Int32) : Int32 := if e = 0 then 1 else if e = 1 then 10 else if e = 2 then 100 else if e = 3 then 1000 else 10000
def own_term (B : Int32 → Int32) (a d j : Int32) : Int32 := if j < d then (B (a + j) - 48) * own_p10 (d - 1 - j) else 0
def own_lp (B : Int32 → Int32) : Nat → Int32 → Int32 → Int32
  | 0, v, _ => v
  | n + 1, v, i => if own_b1 (B i) = 0 then own_lp B n (v * 10 + B i - 48) (i + 1) else -1
/-- the array's places, all eight of them -/
def own_A (B : Int32 → Int32) (vs : List Value) : Prop := ∀ i : Int32, 0 ≤ i.toInt → i.toInt < 8 → ¬ i < 0 ∧ vs[i.toNatClampNeg]? = some (.int (B i))
def own_B (vs : List Value) (i : Int32) : Int32 := match vs[i.toNatClampNeg]? with | some (.int z) => z | _ => 0
theorem own_AB (z0 z1 z2 z3 z4 z5 z6 z7 : Int32) : own_A (own_B [.int z0, .int z1, .int z2, .int z3, .int z4, .int z5, .int z6, .int z7]) [.int z0, .int z1, .int z2, .int z3, .int z4, .int z5, .int z6, .int z7] := by
  intro i h0 h1
  have k : ∀ c : Int32, i.toInt = c.toInt → i = c := fun c hc => Int32.toInt_inj.mp hc
  have cs : i.toInt = 0 ∨ i.toInt = 1 ∨ i.toInt = 2 ∨ i.toInt = 3 ∨ i.toInt = 4 ∨ i.toInt = 5 ∨ i.toInt = 6 ∨ i.toInt = 7 := by omega
  rcases cs with q | q | q | q | q | q | q | q
  · obtain rfl := k 0 q; exact ⟨by decide, rfl⟩
  · obtain rfl := k 1 q; exact ⟨by decide, rfl⟩
  · obtain rfl := k 2 q; exact ⟨by decide, rfl⟩
  · obtain rfl := k 3 q; exact ⟨by decide, rfl⟩
  · obtain rfl := k 4 q; exact ⟨by decide, rfl⟩
  · obtain rfl := k 5 q; exact ⟨by decide, rfl⟩
  · obtain rfl := k 6 q; exact ⟨by decide, rfl⟩
  · obtain rfl := k 7 q; exact ⟨by decide, rfl⟩
theorem own_add {x y : Int32} (h1 : -1000 ≤ x.toInt) (h2 : x.toInt ≤ 1000) (h3 : -1000 ≤ y.toInt) (h4 : y.toInt ≤ 1000) : (x + y).toInt = x.toInt + y.toInt := XT.add32 ⟨by omega, by omega⟩
theorem own_sub {x y : Int32} (h1 : -1000 ≤ x.toInt) (h2 : x.toInt ≤ 1000) (h3 : -1000 ≤ y.toInt) (h4 : y.toInt ≤ 1000) : (x - y).toInt = x.toInt - y.toInt := XT.sub32 ⟨by omega, by omega⟩
theorem own_b01 (b : Int32) : own_b1 b = 0 ∨ own_b1 b = 1 := by unfold own_b1; split; exact Or.inr rfl; split; exact Or.inr rfl; exact Or.inl rfl
theorem own_dg (x : Int32) : 0 ≤ ((x &&& 2147483647) % 6).toInt ∧ ((x &&& 2147483647) % 6).toInt < 6 := by
  have e : (x &&& 2147483647).toInt = x.toInt % (2 ^ 31 : Nat) := c_mask x 2147483647 31 (by decide) (by decide)
  have c : (6 : Int32).toInt = 6 := by decide
  have r := (c_iremV (x &&& 2147483647) 6).1 (by omega) (by omega)
  omega
theorem own_at (x y : Int32) (hy : 0 < y.toInt) : 0 ≤ ((x &&& 65535) % y).toInt ∧ ((x &&& 65535) % y).toInt < y.toInt := by
  have e : (x &&& 65535).toInt = x.toInt % (2 ^ 16 : Nat) := c_mask x 65535 16 (by decide) (by decide)
  have r := (c_iremV (x &&& 65535) y).1 (by omega) hy
  exact ⟨r.1, r.2.1⟩
theorem own_ne {x : Int32} (h : 1 ≤ x.toInt) : x ≠ 0 := fun q => by rw [q, own_zero] at h; omega
theorem own_ix (a : Int32) : a + 0 = a ∧ a + 1 + 1 = a + 2 ∧ a + 2 + 1 = a + 3 ∧ a + 3 + 1 = a + 4 := by
  refine ⟨Int32.add_zero a, ?_, ?_, ?_⟩ <;> rw [Int32.add_assoc] <;> rfl
theorem own_r5 (a b c d e : Int32) : ((((0 * 10 + a - 48) * 10 + b - 48) * 10 + c - 48) * 10 + d - 48) * 10 + e - 48 = (a - 48) * 10000 + (b - 48) * 1000 + (c - 48) * 100 + (d - 48) * 10 + (e - 48) * 1 := by grind
theorem own_r4 (a b c d : Int32) : (((0 * 10 + a - 48) * 10 + b - 48) * 10 + c - 48) * 10 + d - 48 = (a - 48) * 1000 + (b - 48) * 100 + (c - 48) * 10 + (d - 48) * 1 + 0 := by grind
theorem own_r3 (a b c : Int32) : ((0 * 10 + a - 48) * 10 + b - 48) * 10 + c - 48 = (a - 48) * 100 + (b - 48) * 10 + (c - 48) * 1 + 0 + 0 := by grind
theorem own_r2 (a b : Int32) : (0 * 10 + a - 48) * 10 + b - 48 = (a - 48) * 10 + (b - 48) * 1 + 0 + 0 + 0 := by grind
theorem own_r1 (a : Int32) : 0 * 10 + a - 48 = (a - 48) * 1 + 0 + 0 + 0 + 0 := by grind
theorem own_main (B : Int32 → Int32) (a d : Int32) (h0 : 0 ≤ d.toInt) (h1 : d.toInt < 6) :
    own_lp B d.toInt.toNat 0 a = if own_bad B a d 0 = 0 ∧ own_bad B a d 1 = 0 ∧ own_bad B a d 2 = 0 ∧ own_bad B a d 3 = 0 ∧ own_bad B a d 4 = 0 then own_term B a d 0 + own_term B a d 1 + own_term B a d 2 + own_term B a d 3 + own_term B a d 4 else -1 := by
  have k : ∀ c : Int32, d.toInt = c.toInt → d = c := fun c hc => Int32.toInt_inj.mp hc
  obtain ⟨x0, x2, x3, x4⟩ := own_ix a
  have cs : d.toInt = 0 ∨ d.toInt = 1 ∨ d.toInt = 2 ∨ d.toInt = 3 ∨ d.toInt = 4 ∨ d.toInt = 5 := by omega
  rcases cs with q | q | q | q | q | q
  · obtain rfl := k 0 q
    simp only [show ((0 : Int32).toInt.toNat) = 0 from rfl, own_lp]
    rw [if_pos (by refine ⟨?_, ?_, ?_, ?_, ?_⟩ <;> rfl)]; rfl
  · obtain rfl := k 1 q
    simp only [show ((1 : Int32).toInt.toNat) = 1 from rfl, own_lp]
    have t0 : own_term B a 1 0 = (B a - 48) * 1 := by rw [← x0]; rw [x0]; show (B (a + 0) - 48) * _ = _; rw [x0]; rfl
    have g0 : own_bad B a 1 0 = own_b1 (B a) := by show own_b1 (B (a + 0)) = _; rw [x0]
    have g1 : own_bad B a 1 1 = 0 := rfl
    have g2 : own_bad B a 1 2 = 0 := rfl
    have g3 : own_bad B a 1 3 = 0 := rfl
    have g4 : own_bad B a 1 4 = 0 := rfl
    have t1 : own_term B a 1 1 = 0 := rfl
    have t2 : own_term B a 1 2 = 0 := rfl
    have t3 : own_term B a 1 3 = 0 := rfl
    have t4 : own_term B a 1 4 = 0 := rfl
    rw [g0, g1, g2, g3, g4, t0, t1, t2, t3, t4, own_r1]
    rcases own_b01 (B a) with p | p <;> simp [p]
  · obtain rfl := k 2 q
    simp only [show ((2 : Int32).toInt.toNat) = 2 from rfl, own_lp]
    have t0 : own_term B a 2 0 = (B a - 48) * 10 := by show (B (a + 0) - 48) * _ = _; rw [x0]; rfl
    have g0 : own_bad B a 2 0 = own_b1 (B a) := by show own_b1 (B (a + 0)) = _; rw [x0]
    have g1 : own_bad B a 2 1 = own_b1 (B (a + 1)) := rfl
    have g2 : own_bad B a 2 2 = 0 := rfl
    have g3 : own_bad B a 2 3 = 0 := rfl
    have g4 : own_bad B a 2 4 = 0 := rfl
    have t1 : own_term B a 2 1 = (B (a + 1) - 48) * 1 := rfl
    have t2 : own_term B a 2 2 = 0 := rfl
    have t3 : own_term B a 2 3 = 0 := rfl
    have t4 : own_term B a 2 4 = 0 := rfl
    rw [g0, g1, g2, g3, g4, t0, t1, t2, t3, t4, own_r2]
    rcases own_b01 (B a) with p | p <;> rcases own_b01 (B (a + 1)) with p1 | p1 <;> simp [p, p1]
  · obtain rfl := k 3 q
    simp only [show ((3 : Int32).toInt.toNat) = 3 from rfl, own_lp, x2]
    have t0 : own_term B a 3 0 = (B a - 48) * 100 := by show (B (a + 0) - 48) * _ = _; rw [x0]; rfl
    have g0 : own_bad B a 3 0 = own_b1 (B a) := by show own_b1 (B (a + 0)) = _; rw [x0]
    have g1 : own_bad B a 3 1 = own_b1 (B (a + 1)) := rfl
    have g2 : own_bad B a 3 2 = own_b1 (B (a + 2)) := rfl
    have g3 : own_bad B a 3 3 = 0 := rfl
    have g4 : own_bad B a 3 4 = 0 := rfl
    have t1 : own_term B a 3 1 = (B (a + 1) - 48) * 10 := rfl
    have t2 : own_term B a 3 2 = (B (a + 2) - 48) * 1 := rfl
    have t3 : own_term B a 3 3 = 0 := rfl
    have t4 : own_term B a 3 4 = 0 := rfl
    rw [g0, g1, g2, g3, g4, t0, t1, t2, t3, t4, own_r3]
    rcases own_b01 (B a) with p | p <;> rcases own_b01 (B (a + 1)) with p1 | p1 <;> rcases own_b01 (B (a + 2)) with p2 | p2 <;> simp [p, p1, p2]
  · obtain rfl := k 4 q
    simp only [show ((4 : Int32).toInt.toNat) = 4 from rfl, own_lp, x2, x3]
    have t0 : own_term B a 4 0 = (B a - 48) * 1000 := by show (B (a + 0) - 48) * _ = _; rw [x0]; rfl
    have g0 : own_bad B a 4 0 = own_b1 (B a) := by show own_b1 (B (a + 0)) = _; rw [x0]
    have g1 : own_bad B a 4 1 = own_b1 (B (a + 1)) := rfl
    have g2 : own_bad B a 4 2 = own_b1 (B (a + 2)) := rfl
    have g3 : own_bad B a 4 3 = own_b1 (B (a + 3)) := rfl
    have g4 : own_bad B a 4 4 = 0 := rfl
    have t1 : own_term B a 4 1 = (B (a + 1) - 48) * 100 := rfl
    have t2 : own_term B a 4 2 = (B (a + 2) - 48) * 10 := rfl
    have t3 : own_term B a 4 3 = (B (a + 3) - 48) * 1 := rfl
    have t4 : own_term B a 4 4 = 0 := rfl
    rw [g0, g1, g2, g3, g4, t0, t1, t2, t3, t4, own_r4]
    rcases own_b01 (B a) with p | p <;> rcases own_b01 (B (a + 1)) with p1 | p1 <;> rcases own_b01 (B (a + 2)) with p2 | p2 <;> rcases own_b01 (B (a + 3)) with p3 | p3 <;> simp [p, p1, p2, p3]
  · obtain rfl := k 5 q
    simp only [show ((5 : Int32).toInt.toNat) = 5 from rfl, own_lp, x2, x3, x4]
    have t0 : own_term B a 5 0 = (B a - 48) * 10000 := by show (B (a + 0) - 48) * _ = _; rw [x0]; rfl
    have g0 : own_bad B a 5 0 = own_b1 (B a) := by show own_b1 (B (a + 0)) = _; rw [x0]
    have g1 : own_bad B a 5 1 = own_b1 (B (a + 1)) := rfl
    have g2 : own_bad B a 5 2 = own_b1 (B (a + 2)) := rfl
    have g3 : own_bad B a 5 3 = own_b1 (B (a + 3)) := rfl
    have g4 : own_bad B a 5 4 = own_b1 (B (a + 4)) := rfl
    have t1 : own_term B a 5 1 = (B (a + 1) - 48) * 1000 := rfl
    have t2 : own_term B a 5 2 = (B (a + 2) - 48) * 100 := rfl
    have t3 : own_term B a 5 3 = (B (a + 3) - 48) * 10 := rfl
    have t4 : own_term B a 5 4 = (B (a + 4) - 48) * 1 := rfl
    rw [g0, g1, g2, g3, g4, t0, t1, t2, t3, t4, own_r5]
    rcases own_b01 (B a) with p | p <;> rcases own_b01 (B (a + 1)) with p1 | p1 <;> rcases own_b01 (B (a + 2)) with p2 | p2 <;> rcases own_b01 (B (a + 3)) with p3 | p3 <;> rcases own_b01 (B (a + 4)) with p4 | p4 <;> simp [p, p1, p2, p3, p4]

theorem f1_0 : Isn method_2_code 0 (.iload 4) 2 2 := ⟨by decide +kernel, rfl⟩
theorem f1_2 : Isn method_2_code 2 (.iload 5) 2 4 := ⟨by decide +kernel, rfl⟩
theorem f1_4 : Isn method_2_code 4 (.iushr) 1 5 := ⟨by decide +kernel, rfl⟩
theorem f1_5 : Isn method_2_code 5 (.iconst 1) 1 6 := ⟨by decide +kernel, rfl⟩
theorem f1_6 : Isn method_2_code 6 (.iand) 1 7 := ⟨by decide +kernel, rfl⟩
theorem f1_7 : Brn method_2_code 7 (.ifCond .eq 13) 13 10 20 := ⟨by decide +kernel, rfl, by decide, by decide⟩
theorem f1_10 : Isn method_2_code 10 (.lload_n 0) 1 11 := ⟨by decide +kernel, rfl⟩
theorem f1_11 : Isn method_2_code 11 (.bipush 8) 2 13 := ⟨by decide +kernel, rfl⟩
theorem f1_13 : Isn method_2_code 13 (.iload 5) 2 15 := ⟨by decide +kernel, rfl⟩
theorem f1_15 : Isn method_2_code 15 (.imul) 1 16 := ⟨by decide +kernel, rfl⟩
theorem f1_16 : Isn method_2_code 16 (.lushr) 1 17 := ⟨by decide +kernel, rfl⟩
theorem f1_17 : Isn method_2_code 17 (.l2i) 1 18 := ⟨by decide +kernel, rfl⟩
theorem f1_18 : Isn method_2_code 18 (.i2b) 1 19 := ⟨by decide +kernel, rfl⟩
theorem f1_19 : Isn method_2_code 19 (.ireturn) 1 20 := ⟨by decide +kernel, rfl⟩
theorem f1_20 : Isn method_2_code 20 (.bipush 48) 2 22 := ⟨by decide +kernel, rfl⟩
theorem f1_22 : Isn method_2_code 22 (.lload_n 2) 1 23 := ⟨by decide +kernel, rfl⟩
theorem f1_23 : Isn method_2_code 23 (.bipush 8) 2 25 := ⟨by decide +kernel, rfl⟩
theorem f1_25 : Isn method_2_code 25 (.iload 5) 2 27 := ⟨by decide +kernel, rfl⟩
theorem f1_27 : Isn method_2_code 27 (.imul) 1 28 := ⟨by decide +kernel, rfl⟩
theorem f1_28 : Isn method_2_code 28 (.lushr) 1 29 := ⟨by decide +kernel, rfl⟩
theorem f1_29 : Isn method_2_code 29 (.ldc2_w 7) 3 32 := ⟨by decide +kernel, rfl⟩
theorem f1_32 : Isn method_2_code 32 (.land) 1 33 := ⟨by decide +kernel, rfl⟩
theorem f1_33 : Isn method_2_code 33 (.ldc2_w 9) 3 36 := ⟨by decide +kernel, rfl⟩
theorem f1_36 : Isn method_2_code 36 (.lrem) 1 37 := ⟨by decide +kernel, rfl⟩
theorem f1_37 : Isn method_2_code 37 (.l2i) 1 38 := ⟨by decide +kernel, rfl⟩
theorem f1_38 : Isn method_2_code 38 (.iadd) 1 39 := ⟨by decide +kernel, rfl⟩
theorem f1_39 : Isn method_2_code 39 (.i2b) 1 40 := ⟨by decide +kernel, rfl⟩
theorem f1_40 : Isn method_2_code 40 (.ireturn) 1 41 := ⟨by decide +kernel, rfl⟩
theorem f2_0 : Isn method_3_code 0 (.iload_n 3) 1 1 := ⟨by decide +kernel, rfl⟩
theorem f2_1 : Isn method_3_code 1 (.iload_n 2) 1 2 := ⟨by decide +kernel, rfl⟩
theorem f2_2 : Brn method_3_code 2 (.if_icmp .lt 5) 5 5 7 := ⟨by decide +kernel, rfl, by decide, by decide⟩
theorem f2_5 : Isn method_3_code 5 (.iconst 0) 1 6 := ⟨by decide +kernel, rfl⟩
theorem f2_6 : Isn method_3_code 6 (.ireturn) 1 7 := ⟨by decide +kernel, rfl⟩
theorem f2_7 : Isn method_3_code 7 (.aload_n 0) 1 8 := ⟨by decide +kernel, rfl⟩
theorem f2_8 : Isn method_3_code 8 (.iload_n 1) 1 9 := ⟨by decide +kernel, rfl⟩
theorem f2_9 : Isn method_3_code 9 (.iload_n 3) 1 10 := ⟨by decide +kernel, rfl⟩
theorem f2_10 : Isn method_3_code 10 (.iadd) 1 11 := ⟨by decide +kernel, rfl⟩
theorem f2_11 : Isn method_3_code 11 (.baload) 1 12 := ⟨by decide +kernel, rfl⟩
theorem f2_12 : Isn method_3_code 12 (.istore 4) 2 14 := ⟨by decide +kernel, rfl⟩
theorem f2_14 : Isn method_3_code 14 (.iload 4) 2 16 := ⟨by decide +kernel, rfl⟩
theorem f2_16 : Isn method_3_code 16 (.bipush 48) 2 18 := ⟨by decide +kernel, rfl⟩
theorem f2_18 : Brn method_3_code 18 (.if_icmp .lt 10) 10 21 28 := ⟨by decide +kernel, rfl, by decide, by decide⟩
theorem f2_21 : Isn method_3_code 21 (.iload 4) 2 23 := ⟨by decide +kernel, rfl⟩
theorem f2_23 : Isn method_3_code 23 (.bipush 57) 2 25 := ⟨by decide +kernel, rfl⟩
theorem f2_25 : Brn method_3_code 25 (.if_icmp .le 7) 7 28 32 := ⟨by decide +kernel, rfl, by decide, by decide⟩
theorem f2_28 : Isn method_3_code 28 (.iconst 1) 1 29 := ⟨by decide +kernel, rfl⟩
theorem f2_29 : Brn method_3_code 29 (.goto 4) 4 32 33 := ⟨by decide +kernel, rfl, by decide, by decide⟩
theorem f2_32 : Isn method_3_code 32 (.iconst 0) 1 33 := ⟨by decide +kernel, rfl⟩
theorem f2_33 : Isn method_3_code 33 (.ireturn) 1 34 := ⟨by decide +kernel, rfl⟩
theorem f3_0 : Isn method_5_code 0 (.iload_n 3) 1 1 := ⟨by decide +kernel, rfl⟩
theorem f3_1 : Isn method_5_code 1 (.iload_n 2) 1 2 := ⟨by decide +kernel, rfl⟩
theorem f3_2 : Brn method_5_code 2 (.if_icmp .lt 5) 5 5 7 := ⟨by decide +kernel, rfl, by decide, by decide⟩
theorem f3_5 : Isn method_5_code 5 (.iconst 0) 1 6 := ⟨by decide +kernel, rfl⟩
theorem f3_6 : Isn method_5_code 6 (.ireturn) 1 7 := ⟨by decide +kernel, rfl⟩
theorem f3_7 : Isn method_5_code 7 (.aload_n 0) 1 8 := ⟨by decide +kernel, rfl⟩
theorem f3_8 : Isn method_5_code 8 (.iload_n 1) 1 9 := ⟨by decide +kernel, rfl⟩
theorem f3_9 : Isn method_5_code 9 (.iload_n 3) 1 10 := ⟨by decide +kernel, rfl⟩
theorem f3_10 : Isn method_5_code 10 (.iadd) 1 11 := ⟨by decide +kernel, rfl⟩
theorem f3_11 : Isn method_5_code 11 (.baload) 1 12 := ⟨by decide +kernel, rfl⟩
theorem f3_12 : Isn method_5_code 12 (.bipush 48) 2 14 := ⟨by decide +kernel, rfl⟩
theorem f3_14 : Isn method_5_code 14 (.isub) 1 15 := ⟨by decide +kernel, rfl⟩
theorem f3_15 : Isn method_5_code 15 (.iload_n 2) 1 16 := ⟨by decide +kernel, rfl⟩
theorem f3_16 : Isn method_5_code 16 (.iconst 1) 1 17 := ⟨by decide +kernel, rfl⟩
theorem f3_17 : Isn method_5_code 17 (.isub) 1 18 := ⟨by decide +kernel, rfl⟩
theorem f3_18 : Isn method_5_code 18 (.iload_n 3) 1 19 := ⟨by decide +kernel, rfl⟩
theorem f3_19 : Isn method_5_code 19 (.isub) 1 20 := ⟨by decide +kernel, rfl⟩
theorem f3_20 : Isn method_5_code 20 (.invokestatic 11) 3 23 := ⟨by decide +kernel, rfl⟩
theorem f3_23 : Isn method_5_code 23 (.imul) 1 24 := ⟨by decide +kernel, rfl⟩
theorem f3_24 : Isn method_5_code 24 (.ireturn) 1 25 := ⟨by decide +kernel, rfl⟩
theorem f4_0 : Isn method_4_code 0 (.iload_n 0) 1 1 := ⟨by decide +kernel, rfl⟩
theorem f4_1 : Brn method_4_code 1 (.ifCond .ne 5) 5 4 6 := ⟨by decide +kernel, rfl, by decide, by decide⟩
theorem f4_4 : Isn method_4_code 4 (.iconst 1) 1 5 := ⟨by decide +kernel, rfl⟩
theorem f4_5 : Isn method_4_code 5 (.ireturn) 1 6 := ⟨by decide +kernel, rfl⟩
theorem f4_6 : Isn method_4_code 6 (.iload_n 0) 1 7 := ⟨by decide +kernel, rfl⟩
theorem f4_7 : Isn method_4_code 7 (.iconst 1) 1 8 := ⟨by decide +kernel, rfl⟩
theorem f4_8 : Brn method_4_code 8 (.if_icmp .ne 6) 6 11 14 := ⟨by decide +kernel, rfl, by decide, by decide⟩
theorem f4_11 : Isn method_4_code 11 (.bipush 10) 2 13 := ⟨by decide +kernel, rfl⟩
theorem f4_13 : Isn method_4_code 13 (.ireturn) 1 14 := ⟨by decide +kernel, rfl⟩
theorem f4_14 : Isn method_4_code 14 (.iload_n 0) 1 15 := ⟨by decide +kernel, rfl⟩
theorem f4_15 : Isn method_4_code 15 (.iconst 2) 1 16 := ⟨by decide +kernel, rfl⟩
theorem f4_16 : Brn method_4_code 16 (.if_icmp .ne 6) 6 19 22 := ⟨by decide +kernel, rfl, by decide, by decide⟩
theorem f4_19 : Isn method_4_code 19 (.bipush 100) 2 21 := ⟨by decide +kernel, rfl⟩
theorem f4_21 : Isn method_4_code 21 (.ireturn) 1 22 := ⟨by decide +kernel, rfl⟩
theorem f4_22 : Isn method_4_code 22 (.iload_n 0) 1 23 := ⟨by decide +kernel, rfl⟩
theorem f4_23 : Isn method_4_code 23 (.iconst 3) 1 24 := ⟨by decide +kernel, rfl⟩
theorem f4_24 : Brn method_4_code 24 (.if_icmp .ne 7) 7 27 31 := ⟨by decide +kernel, rfl, by decide, by decide⟩
theorem f4_27 : Isn method_4_code 27 (.sipush 1000) 3 30 := ⟨by decide +kernel, rfl⟩
theorem f4_30 : Isn method_4_code 30 (.ireturn) 1 31 := ⟨by decide +kernel, rfl⟩
theorem f4_31 : Isn method_4_code 31 (.sipush 10000) 3 34 := ⟨by decide +kernel, rfl⟩
theorem f4_34 : Isn method_4_code 34 (.ireturn) 1 35 := ⟨by decide +kernel, rfl⟩
theorem f5_0 : Isn prog_17_method_3_code 0 (.iconst 0) 1 1 := ⟨by decide +kernel, rfl⟩
theorem f5_1 : Isn prog_17_method_3_code 1 (.istore_n 3) 1 2 := ⟨by decide +kernel, rfl⟩
theorem f5_2 : Isn prog_17_method_3_code 2 (.iload_n 1) 1 3 := ⟨by decide +kernel, rfl⟩
theorem f5_3 : Isn prog_17_method_3_code 3 (.istore 4) 2 5 := ⟨by decide +kernel, rfl⟩
theorem f5_5 : Isn prog_17_method_3_code 5 (.iload 4) 2 7 := ⟨by decide +kernel, rfl⟩
theorem f5_7 : Isn prog_17_method_3_code 7 (.iload_n 1) 1 8 := ⟨by decide +kernel, rfl⟩
theorem f5_8 : Isn prog_17_method_3_code 8 (.iload_n 2) 1 9 := ⟨by decide +kernel, rfl⟩
theorem f5_9 : Isn prog_17_method_3_code 9 (.iadd) 1 10 := ⟨by decide +kernel, rfl⟩
theorem f5_10 : Brn prog_17_method_3_code 10 (.if_icmp .ge 42) 42 13 52 := ⟨by decide +kernel, rfl, by decide, by decide⟩
theorem f5_13 : Isn prog_17_method_3_code 13 (.aload_n 0) 1 14 := ⟨by decide +kernel, rfl⟩
theorem f5_14 : Isn prog_17_method_3_code 14 (.iload 4) 2 16 := ⟨by decide +kernel, rfl⟩
theorem f5_16 : Isn prog_17_method_3_code 16 (.baload) 1 17 := ⟨by decide +kernel, rfl⟩
theorem f5_17 : Isn prog_17_method_3_code 17 (.bipush 48) 2 19 := ⟨by decide +kernel, rfl⟩
theorem f5_19 : Brn prog_17_method_3_code 19 (.if_icmp .lt 12) 12 22 31 := ⟨by decide +kernel, rfl, by decide, by decide⟩
theorem f5_22 : Isn prog_17_method_3_code 22 (.aload_n 0) 1 23 := ⟨by decide +kernel, rfl⟩
theorem f5_23 : Isn prog_17_method_3_code 23 (.iload 4) 2 25 := ⟨by decide +kernel, rfl⟩
theorem f5_25 : Isn prog_17_method_3_code 25 (.baload) 1 26 := ⟨by decide +kernel, rfl⟩
theorem f5_26 : Isn prog_17_method_3_code 26 (.bipush 57) 2 28 := ⟨by decide +kernel, rfl⟩
theorem f5_28 : Brn prog_17_method_3_code 28 (.if_icmp .le 5) 5 31 33 := ⟨by decide +kernel, rfl, by decide, by decide⟩
theorem f5_31 : Isn prog_17_method_3_code 31 (.iconst (-1)) 1 32 := ⟨by decide +kernel, rfl⟩
theorem f5_32 : Isn prog_17_method_3_code 32 (.ireturn) 1 33 := ⟨by decide +kernel, rfl⟩
theorem f5_33 : Isn prog_17_method_3_code 33 (.iload_n 3) 1 34 := ⟨by decide +kernel, rfl⟩
theorem f5_34 : Isn prog_17_method_3_code 34 (.bipush 10) 2 36 := ⟨by decide +kernel, rfl⟩
theorem f5_36 : Isn prog_17_method_3_code 36 (.imul) 1 37 := ⟨by decide +kernel, rfl⟩
theorem f5_37 : Isn prog_17_method_3_code 37 (.aload_n 0) 1 38 := ⟨by decide +kernel, rfl⟩
theorem f5_38 : Isn prog_17_method_3_code 38 (.iload 4) 2 40 := ⟨by decide +kernel, rfl⟩
theorem f5_40 : Isn prog_17_method_3_code 40 (.baload) 1 41 := ⟨by decide +kernel, rfl⟩
theorem f5_41 : Isn prog_17_method_3_code 41 (.iadd) 1 42 := ⟨by decide +kernel, rfl⟩
theorem f5_42 : Isn prog_17_method_3_code 42 (.bipush 48) 2 44 := ⟨by decide +kernel, rfl⟩
theorem f5_44 : Isn prog_17_method_3_code 44 (.isub) 1 45 := ⟨by decide +kernel, rfl⟩
theorem f5_45 : Isn prog_17_method_3_code 45 (.istore_n 3) 1 46 := ⟨by decide +kernel, rfl⟩
theorem f5_46 : Isn prog_17_method_3_code 46 (.iinc 4 1) 3 49 := ⟨by decide +kernel, rfl⟩
theorem f5_49 : Brn prog_17_method_3_code 49 (.goto (-44)) (-44) 52 5 := ⟨by decide +kernel, rfl, by decide, by decide⟩
theorem f5_52 : Isn prog_17_method_3_code 52 (.iload_n 3) 1 53 := ⟨by decide +kernel, rfl⟩
theorem f5_53 : Isn prog_17_method_3_code 53 (.ireturn) 1 54 := ⟨by decide +kernel, rfl⟩
theorem f0_0 : Isn code 0 (.iload 5) 2 2 := ⟨at_0, rfl⟩
theorem f0_2 : Isn code 2 (.ldc 17) 2 4 := ⟨at_2, rfl⟩
theorem f0_4 : Isn code 4 (.iand) 1 5 := ⟨at_4, rfl⟩
theorem f0_5 : Isn code 5 (.bipush 6) 2 7 := ⟨at_5, rfl⟩
theorem f0_7 : Isn code 7 (.irem) 1 8 := ⟨at_7, rfl⟩
theorem f0_8 : Isn code 8 (.istore 6) 2 10 := ⟨at_8, rfl⟩
theorem f0_10 : Isn code 10 (.iload 5) 2 12 := ⟨at_10, rfl⟩
theorem f0_12 : Isn code 12 (.bipush 8) 2 14 := ⟨at_12, rfl⟩
theorem f0_14 : Isn code 14 (.iushr) 1 15 := ⟨at_14, rfl⟩
theorem f0_15 : Isn code 15 (.ldc 18) 2 17 := ⟨at_15, rfl⟩
theorem f0_17 : Isn code 17 (.iand) 1 18 := ⟨at_17, rfl⟩
theorem f0_18 : Isn code 18 (.bipush 9) 2 20 := ⟨at_18, rfl⟩
theorem f0_20 : Isn code 20 (.iload 6) 2 22 := ⟨at_20, rfl⟩
theorem f0_22 : Isn code 22 (.isub) 1 23 := ⟨at_22, rfl⟩
theorem f0_23 : Isn code 23 (.irem) 1 24 := ⟨at_23, rfl⟩
theorem f0_24 : Isn code 24 (.istore 7) 2 26 := ⟨at_24, rfl⟩
theorem f0_26 : Isn code 26 (.bipush 8) 2 28 := ⟨at_26, rfl⟩
theorem f0_28 : Isn code 28 (.newarray .byte) 2 30 := ⟨at_28, rfl⟩
theorem f0_30 : Isn code 30 (.astore 8) 2 32 := ⟨at_30, rfl⟩
theorem f0_32 : Isn code 32 (.aload 8) 2 34 := ⟨at_32, rfl⟩
theorem f0_34 : Isn code 34 (.iconst 0) 1 35 := ⟨at_34, rfl⟩
theorem f0_35 : Isn code 35 (.lload_n 0) 1 36 := ⟨at_35, rfl⟩
theorem f0_36 : Isn code 36 (.lload_n 2) 1 37 := ⟨at_36, rfl⟩
theorem f0_37 : Isn code 37 (.iload 4) 2 39 := ⟨at_37, rfl⟩
theorem f0_39 : Isn code 39 (.iconst 0) 1 40 := ⟨at_39, rfl⟩
theorem f0_40 : Isn code 40 (.invokestatic 19) 3 43 := ⟨at_40, rfl⟩
theorem f0_43 : Isn code 43 (.bastore) 1 44 := ⟨at_43, rfl⟩
theorem f0_44 : Isn code 44 (.aload 8) 2 46 := ⟨at_44, rfl⟩
theorem f0_46 : Isn code 46 (.iconst 1) 1 47 := ⟨at_46, rfl⟩
theorem f0_47 : Isn code 47 (.lload_n 0) 1 48 := ⟨at_47, rfl⟩
theorem f0_48 : Isn code 48 (.lload_n 2) 1 49 := ⟨at_48, rfl⟩
theorem f0_49 : Isn code 49 (.iload 4) 2 51 := ⟨at_49, rfl⟩
theorem f0_51 : Isn code 51 (.iconst 1) 1 52 := ⟨at_51, rfl⟩
theorem f0_52 : Isn code 52 (.invokestatic 19) 3 55 := ⟨at_52, rfl⟩
theorem f0_55 : Isn code 55 (.bastore) 1 56 := ⟨at_55, rfl⟩
theorem f0_56 : Isn code 56 (.aload 8) 2 58 := ⟨at_56, rfl⟩
theorem f0_58 : Isn code 58 (.iconst 2) 1 59 := ⟨at_58, rfl⟩
theorem f0_59 : Isn code 59 (.lload_n 0) 1 60 := ⟨at_59, rfl⟩
theorem f0_60 : Isn code 60 (.lload_n 2) 1 61 := ⟨at_60, rfl⟩
theorem f0_61 : Isn code 61 (.iload 4) 2 63 := ⟨at_61, rfl⟩
theorem f0_63 : Isn code 63 (.iconst 2) 1 64 := ⟨at_63, rfl⟩
theorem f0_64 : Isn code 64 (.invokestatic 19) 3 67 := ⟨at_64, rfl⟩
theorem f0_67 : Isn code 67 (.bastore) 1 68 := ⟨at_67, rfl⟩
theorem f0_68 : Isn code 68 (.aload 8) 2 70 := ⟨at_68, rfl⟩
theorem f0_70 : Isn code 70 (.iconst 3) 1 71 := ⟨at_70, rfl⟩
theorem f0_71 : Isn code 71 (.lload_n 0) 1 72 := ⟨at_71, rfl⟩
theorem f0_72 : Isn code 72 (.lload_n 2) 1 73 := ⟨at_72, rfl⟩
theorem f0_73 : Isn code 73 (.iload 4) 2 75 := ⟨at_73, rfl⟩
theorem f0_75 : Isn code 75 (.iconst 3) 1 76 := ⟨at_75, rfl⟩
theorem f0_76 : Isn code 76 (.invokestatic 19) 3 79 := ⟨at_76, rfl⟩
theorem f0_79 : Isn code 79 (.bastore) 1 80 := ⟨at_79, rfl⟩
theorem f0_80 : Isn code 80 (.aload 8) 2 82 := ⟨at_80, rfl⟩
theorem f0_82 : Isn code 82 (.iconst 4) 1 83 := ⟨at_82, rfl⟩
theorem f0_83 : Isn code 83 (.lload_n 0) 1 84 := ⟨at_83, rfl⟩
theorem f0_84 : Isn code 84 (.lload_n 2) 1 85 := ⟨at_84, rfl⟩
theorem f0_85 : Isn code 85 (.iload 4) 2 87 := ⟨at_85, rfl⟩
theorem f0_87 : Isn code 87 (.iconst 4) 1 88 := ⟨at_87, rfl⟩
theorem f0_88 : Isn code 88 (.invokestatic 19) 3 91 := ⟨at_88, rfl⟩
theorem f0_91 : Isn code 91 (.bastore) 1 92 := ⟨at_91, rfl⟩
theorem f0_92 : Isn code 92 (.aload 8) 2 94 := ⟨at_92, rfl⟩
theorem f0_94 : Isn code 94 (.iconst 5) 1 95 := ⟨at_94, rfl⟩
theorem f0_95 : Isn code 95 (.lload_n 0) 1 96 := ⟨at_95, rfl⟩
theorem f0_96 : Isn code 96 (.lload_n 2) 1 97 := ⟨at_96, rfl⟩
theorem f0_97 : Isn code 97 (.iload 4) 2 99 := ⟨at_97, rfl⟩
theorem f0_99 : Isn code 99 (.iconst 5) 1 100 := ⟨at_99, rfl⟩
theorem f0_100 : Isn code 100 (.invokestatic 19) 3 103 := ⟨at_100, rfl⟩
theorem f0_103 : Isn code 103 (.bastore) 1 104 := ⟨at_103, rfl⟩
theorem f0_104 : Isn code 104 (.aload 8) 2 106 := ⟨at_104, rfl⟩
theorem f0_106 : Isn code 106 (.bipush 6) 2 108 := ⟨at_106, rfl⟩
theorem f0_108 : Isn code 108 (.lload_n 0) 1 109 := ⟨at_108, rfl⟩
theorem f0_109 : Isn code 109 (.lload_n 2) 1 110 := ⟨at_109, rfl⟩
theorem f0_110 : Isn code 110 (.iload 4) 2 112 := ⟨at_110, rfl⟩
theorem f0_112 : Isn code 112 (.bipush 6) 2 114 := ⟨at_112, rfl⟩
theorem f0_114 : Isn code 114 (.invokestatic 19) 3 117 := ⟨at_114, rfl⟩
theorem f0_117 : Isn code 117 (.bastore) 1 118 := ⟨at_117, rfl⟩
theorem f0_118 : Isn code 118 (.aload 8) 2 120 := ⟨at_118, rfl⟩
theorem f0_120 : Isn code 120 (.bipush 7) 2 122 := ⟨at_120, rfl⟩
theorem f0_122 : Isn code 122 (.lload_n 0) 1 123 := ⟨at_122, rfl⟩
theorem f0_123 : Isn code 123 (.lload_n 2) 1 124 := ⟨at_123, rfl⟩
theorem f0_124 : Isn code 124 (.iload 4) 2 126 := ⟨at_124, rfl⟩
theorem f0_126 : Isn code 126 (.bipush 7) 2 128 := ⟨at_126, rfl⟩
theorem f0_128 : Isn code 128 (.invokestatic 19) 3 131 := ⟨at_128, rfl⟩
theorem f0_131 : Isn code 131 (.bastore) 1 132 := ⟨at_131, rfl⟩
theorem f0_132 : Isn code 132 (.aload 8) 2 134 := ⟨at_132, rfl⟩
theorem f0_134 : Isn code 134 (.iload 7) 2 136 := ⟨at_134, rfl⟩
theorem f0_136 : Isn code 136 (.iload 6) 2 138 := ⟨at_136, rfl⟩
theorem f0_138 : Isn code 138 (.iconst 0) 1 139 := ⟨at_138, rfl⟩
theorem f0_139 : Isn code 139 (.invokestatic 23) 3 142 := ⟨at_139, rfl⟩
theorem f0_142 : Brn code 142 (.ifCond .ne 55) 55 145 197 := ⟨at_142, rfl, by decide, by decide⟩
theorem f0_145 : Isn code 145 (.aload 8) 2 147 := ⟨at_145, rfl⟩
theorem f0_147 : Isn code 147 (.iload 7) 2 149 := ⟨at_147, rfl⟩
theorem f0_149 : Isn code 149 (.iload 6) 2 151 := ⟨at_149, rfl⟩
theorem f0_151 : Isn code 151 (.iconst 1) 1 152 := ⟨at_151, rfl⟩
theorem f0_152 : Isn code 152 (.invokestatic 23) 3 155 := ⟨at_152, rfl⟩
theorem f0_155 : Brn code 155 (.ifCond .ne 42) 42 158 197 := ⟨at_155, rfl, by decide, by decide⟩
theorem f0_158 : Isn code 158 (.aload 8) 2 160 := ⟨at_158, rfl⟩
theorem f0_160 : Isn code 160 (.iload 7) 2 162 := ⟨at_160, rfl⟩
theorem f0_162 : Isn code 162 (.iload 6) 2 164 := ⟨at_162, rfl⟩
theorem f0_164 : Isn code 164 (.iconst 2) 1 165 := ⟨at_164, rfl⟩
theorem f0_165 : Isn code 165 (.invokestatic 23) 3 168 := ⟨at_165, rfl⟩
theorem f0_168 : Brn code 168 (.ifCond .ne 29) 29 171 197 := ⟨at_168, rfl, by decide, by decide⟩
theorem f0_171 : Isn code 171 (.aload 8) 2 173 := ⟨at_171, rfl⟩
theorem f0_173 : Isn code 173 (.iload 7) 2 175 := ⟨at_173, rfl⟩
theorem f0_175 : Isn code 175 (.iload 6) 2 177 := ⟨at_175, rfl⟩
theorem f0_177 : Isn code 177 (.iconst 3) 1 178 := ⟨at_177, rfl⟩
theorem f0_178 : Isn code 178 (.invokestatic 23) 3 181 := ⟨at_178, rfl⟩
theorem f0_181 : Brn code 181 (.ifCond .ne 16) 16 184 197 := ⟨at_181, rfl, by decide, by decide⟩
theorem f0_184 : Isn code 184 (.aload 8) 2 186 := ⟨at_184, rfl⟩
theorem f0_186 : Isn code 186 (.iload 7) 2 188 := ⟨at_186, rfl⟩
theorem f0_188 : Isn code 188 (.iload 6) 2 190 := ⟨at_188, rfl⟩
theorem f0_190 : Isn code 190 (.iconst 4) 1 191 := ⟨at_190, rfl⟩
theorem f0_191 : Isn code 191 (.invokestatic 23) 3 194 := ⟨at_191, rfl⟩
theorem f0_194 : Brn code 194 (.ifCond .eq 9) 9 197 203 := ⟨at_194, rfl, by decide, by decide⟩
theorem f0_197 : Isn code 197 (.iconst (-1)) 1 198 := ⟨at_197, rfl⟩
theorem f0_198 : Isn code 198 (.istore 9) 2 200 := ⟨at_198, rfl⟩
theorem f0_200 : Brn code 200 (.goto 59) 59 203 259 := ⟨at_200, rfl, by decide, by decide⟩
theorem f0_203 : Isn code 203 (.aload 8) 2 205 := ⟨at_203, rfl⟩
theorem f0_205 : Isn code 205 (.iload 7) 2 207 := ⟨at_205, rfl⟩
theorem f0_207 : Isn code 207 (.iload 6) 2 209 := ⟨at_207, rfl⟩
theorem f0_209 : Isn code 209 (.iconst 0) 1 210 := ⟨at_209, rfl⟩
theorem f0_210 : Isn code 210 (.invokestatic 27) 3 213 := ⟨at_210, rfl⟩
theorem f0_213 : Isn code 213 (.aload 8) 2 215 := ⟨at_213, rfl⟩
theorem f0_215 : Isn code 215 (.iload 7) 2 217 := ⟨at_215, rfl⟩
theorem f0_217 : Isn code 217 (.iload 6) 2 219 := ⟨at_217, rfl⟩
theorem f0_219 : Isn code 219 (.iconst 1) 1 220 := ⟨at_219, rfl⟩
theorem f0_220 : Isn code 220 (.invokestatic 27) 3 223 := ⟨at_220, rfl⟩
theorem f0_223 : Isn code 223 (.iadd) 1 224 := ⟨at_223, rfl⟩
theorem f0_224 : Isn code 224 (.aload 8) 2 226 := ⟨at_224, rfl⟩
theorem f0_226 : Isn code 226 (.iload 7) 2 228 := ⟨at_226, rfl⟩
theorem f0_228 : Isn code 228 (.iload 6) 2 230 := ⟨at_228, rfl⟩
theorem f0_230 : Isn code 230 (.iconst 2) 1 231 := ⟨at_230, rfl⟩
theorem f0_231 : Isn code 231 (.invokestatic 27) 3 234 := ⟨at_231, rfl⟩
theorem f0_234 : Isn code 234 (.iadd) 1 235 := ⟨at_234, rfl⟩
theorem f0_235 : Isn code 235 (.aload 8) 2 237 := ⟨at_235, rfl⟩
theorem f0_237 : Isn code 237 (.iload 7) 2 239 := ⟨at_237, rfl⟩
theorem f0_239 : Isn code 239 (.iload 6) 2 241 := ⟨at_239, rfl⟩
theorem f0_241 : Isn code 241 (.iconst 3) 1 242 := ⟨at_241, rfl⟩
theorem f0_242 : Isn code 242 (.invokestatic 27) 3 245 := ⟨at_242, rfl⟩
theorem f0_245 : Isn code 245 (.iadd) 1 246 := ⟨at_245, rfl⟩
theorem f0_246 : Isn code 246 (.aload 8) 2 248 := ⟨at_246, rfl⟩
theorem f0_248 : Isn code 248 (.iload 7) 2 250 := ⟨at_248, rfl⟩
theorem f0_250 : Isn code 250 (.iload 6) 2 252 := ⟨at_250, rfl⟩
theorem f0_252 : Isn code 252 (.iconst 4) 1 253 := ⟨at_252, rfl⟩
theorem f0_253 : Isn code 253 (.invokestatic 27) 3 256 := ⟨at_253, rfl⟩
theorem f0_256 : Isn code 256 (.iadd) 1 257 := ⟨at_256, rfl⟩
theorem f0_257 : Isn code 257 (.istore 9) 2 259 := ⟨at_257, rfl⟩
theorem f0_259 : Isn code 259 (.aload 8) 2 261 := ⟨at_259, rfl⟩
theorem f0_261 : Isn code 261 (.iload 7) 2 263 := ⟨at_261, rfl⟩
theorem f0_263 : Isn code 263 (.iload 6) 2 265 := ⟨at_263, rfl⟩
theorem f0_265 : Isn code 265 (.invokestatic 31) 3 268 := ⟨at_265, rfl⟩
theorem f0_268 : Isn code 268 (.iload 9) 2 270 := ⟨at_268, rfl⟩
theorem f0_270 : Brn code 270 (.if_icmp .ne 7) 7 273 277 := ⟨at_270, rfl, by decide, by decide⟩
theorem f0_273 : Isn code 273 (.iconst 1) 1 274 := ⟨at_273, rfl⟩
theorem f0_274 : Brn code 274 (.goto 4) 4 277 278 := ⟨at_274, rfl, by decide, by decide⟩
theorem f0_277 : Isn code 277 (.iconst 0) 1 278 := ⟨at_277, rfl⟩
theorem f0_278 : Isn code 278 (.ireturn) 1 279 := ⟨at_278, rfl⟩
set_option maxRecDepth 65536 in
set_option maxHeartbeats 40000000 in
theorem rm1 (l : Launch) (Z : State) (a0 : Array Value) (hw : ∀ d ∈ tables_1, d.before a0 Z = true) (x0 : Int64) (x1 : Int64) (x2 : Int32) (x3 : Int32) (h : Heap) (n0 : Nat) :
    Ctr l Z (⟨"com/example/kartoteka/kartoteka/core/Iso2709NumberPinLaw", "pick", "(JJII)B"⟩ : MethodName) method_2_code 6 (some (.byte)) ({ frames := 0, cells := 0, slots := 0, locals := 0 } : Room) [.long x0, .long x1, .int x2, .int x3] h n0 (fun v h' => (∃ z, v = some (.int z)) ∧ h' = h) := by
  refine CtrW.intro (plainFor_of_name pn0) rfl #[.val (.long x0), .second, .val (.long x1), .second, .val (.int x2), .val (.int x3)] rfl ?_
  intro K T hnm hl X
  subst hl
  refine o_iload X f1_0 rfl ?_
  refine o_iload X f1_2 rfl ?_
  refine o_iushr X f1_4 ?_
  refine o_iconst 1 X f1_5 rfl ?_
  refine o_iand X f1_6 ?_
  refine o_if_eq X f1_7 (fun q7 => ?_) (fun q7 => ?_)
  · refine o_bipush 48 X f1_20 rfl ?_
    refine o_lload_n X f1_22 rfl ?_
    refine o_bipush 8 X f1_23 rfl ?_
    refine o_iload X f1_25 rfl ?_
    refine o_imul X f1_27 ?_
    refine o_lushr X f1_28 ?_
    refine o_ldc2 X f1_29 (hw _ (List.mem_of_getElem? (i := 7) rfl)) ?_
    refine o_land X f1_32 ?_
    refine o_ldc2 X f1_33 (hw _ (List.mem_of_getElem? (i := 8) rfl)) ?_
    refine o_lrem X f1_36 (by decide) ?_
    refine o_l2i X f1_37 ?_
    refine o_iadd X f1_38 ?_
    refine o_i2b X f1_39 ?_
    refine o_retN X (by simp) f1_40 (by decide) (by decide) ?_
    exact ⟨⟨_, rfl⟩, rfl⟩
  · refine o_lload_n X f1_10 rfl ?_
    refine o_bipush 8 X f1_11 rfl ?_
    refine o_iload X f1_13 rfl ?_
    refine o_imul X f1_15 ?_
    refine o_lushr X f1_16 ?_
    refine o_l2i X f1_17 ?_
    refine o_i2b X f1_18 ?_
    refine o_retN X (by simp) f1_19 (by decide) (by decide) ?_
    exact ⟨⟨_, rfl⟩, rfl⟩
set_option maxRecDepth 65536 in
set_option maxHeartbeats 40000000 in
theorem rm4 (l : Launch) (Z : State) (a0 : Array Value) (hw : ∀ d ∈ tables_1, d.before a0 Z = true) (x0 : Int32) (h : Heap) (n0 : Nat) :
    Ctr l Z (⟨"com/example/kartoteka/kartoteka/core/Iso2709NumberPinLaw", "pow10", "(I)I"⟩ : MethodName) method_4_code 1 (some (.int)) ({ frames := 0, cells := 0, slots := 0, locals := 0 } : Room) [.int x0] h n0 (fun v h' => v = some (.int (own_p10 x0)) ∧ h' = h) := by
  refine CtrW.intro (plainFor_of_name pn0) rfl #[.val (.int x0)] rfl ?_
  intro K T hnm hl X
  subst hl
  refine o_iload_n X f4_0 rfl ?_
  refine o_if_ne X f4_1 (fun q1 => ?_) (fun q1 => ?_)
  · refine o_iload_n X f4_6 rfl ?_
    refine o_iconst 1 X f4_7 rfl ?_
    refine o_icmp_ne X f4_8 (fun q8 => ?_) (fun q8 => ?_)
    · refine o_iload_n X f4_14 rfl ?_
      refine o_iconst 2 X f4_15 rfl ?_
      refine o_icmp_ne X f4_16 (fun q16 => ?_) (fun q16 => ?_)
      · refine o_iload_n X f4_22 rfl ?_
        refine o_iconst 3 X f4_23 rfl ?_
        refine o_icmp_ne X f4_24 (fun q24 => ?_) (fun q24 => ?_)
        · refine o_sipush 10000 X f4_31 rfl ?_
          refine o_retI X f4_34 (by decide) (by decide) ?_
          exact ⟨by simp only [own_p10, q1, q8, q16, q24, ↓reduceIte, if_true, if_false] <;> rfl, rfl⟩
        · refine o_sipush 1000 X f4_27 rfl ?_
          refine o_retI X f4_30 (by decide) (by decide) ?_
          exact ⟨by simp only [own_p10, q1, q8, q16, q24, ↓reduceIte, if_true, if_false] <;> rfl, rfl⟩
      · refine o_bipush 100 X f4_19 rfl ?_
        refine o_retI X f4_21 (by decide) (by decide) ?_
        exact ⟨by simp only [own_p10, q1, q8, q16, ↓reduceIte, if_true, if_false] <;> rfl, rfl⟩
    · refine o_bipush 10 X f4_11 rfl ?_
      refine o_retI X f4_13 (by decide) (by decide) ?_
      exact ⟨by simp only [own_p10, q1, q8, ↓reduceIte, if_true, if_false] <;> rfl, rfl⟩
  · refine o_iconst 1 X f4_4 rfl ?_
    refine o_retI X f4_5 (by decide) (by decide) ?_
    exact ⟨by simp only [own_p10, q1, ↓reduceIte, if_true, if_false] <;> rfl, rfl⟩
set_option maxRecDepth 65536 in
set_option maxHeartbeats 40000000 in
theorem rm2 (l : Launch) (Z : State) (a0 : Array Value) (hw : ∀ d ∈ tables_1, d.before a0 Z = true) (a : Addr) (x1 : Int32) (x2 : Int32) (x3 : Int32) (h : Heap) (n0 : Nat) (B : Int32 → Int32) (vs : List Value) (A : AL Z h a .byte vs) (HA : own_A B vs) (ha0 : 0 ≤ x1.toInt) (hd0 : 0 ≤ x2.toInt) (hd1 : x2.toInt < 6) (hs : x1.toInt + x2.toInt ≤ 8) (hj0 : 0 ≤ x3.toInt) (hj1 : x3.toInt ≤ 4) :
    Ctr l Z (⟨"com/example/kartoteka/kartoteka/core/Iso2709NumberPinLaw", "bad", "([BIII)Z"⟩ : MethodName) method_3_code 5 (some (.boolean)) ({ frames := 0, cells := 0, slots := 0, locals := 0 } : Room) [.ref a, .int x1, .int x2, .int x3] h n0 (fun v h' => v = some (.int (own_bad B x1 x2 x3)) ∧ h' = h) := by
  refine CtrW.intro (plainFor_of_name pn0) rfl #[.val (.ref a), .val (.int x1), .val (.int x2), .val (.int x3), .unset] rfl ?_
  intro K T hnm hl X
  subst hl
  have eaj : (x1 + x3).toInt = x1.toInt + x3.toInt := own_add (by omega) (by omega) (by omega) (by omega)
  refine o_iload_n X f2_0 rfl ?_
  refine o_iload_n X f2_1 rfl ?_
  refine o_icmp_lt X f2_2 (fun q2 => ?_) (fun q2 => ?_)
  · refine o_aload_n X f2_7 rfl rfl ?_
    refine o_iload_n X f2_8 rfl ?_
    refine o_iload_n X f2_9 rfl ?_
    refine o_iadd X f2_10 ?_
    obtain ⟨i1, i2⟩ := HA _ (by rw [eaj]; omega) (by rw [eaj]; rw [Int32.lt_iff_toInt_lt] at q2; omega)
    refine o_baload X f2_11 A i1 i2 ?_
    refine o_istore X f2_12 (Ls' := #[_, _, _, _, _]) rfl ?_
    refine o_iload X f2_14 rfl ?_
    refine o_bipush 48 X f2_16 rfl ?_
    refine o_icmp_lt X f2_18 (fun q18 => ?_) (fun q18 => ?_)
    · refine o_iconst 1 X f2_28 rfl ?_
      refine o_goto X f2_29 ?_
      refine o_retZ X f2_33 (by decide) (by decide) ?_
      exact ⟨by simp only [own_bad, own_b1, q2, q18, ↓reduceIte, if_true, if_false] <;> rfl, rfl⟩
    · refine o_iload X f2_21 rfl ?_
      refine o_bipush 57 X f2_23 rfl ?_
      refine o_icmp_le X f2_25 (fun q25 => ?_) (fun q25 => ?_)
      · refine o_iconst 0 X f2_32 rfl ?_
        refine o_retZ X f2_33 (by decide) (by decide) ?_
        exact ⟨by simp only [own_bad, own_b1, q2, q18, q25, ↓reduceIte, if_true, if_false] <;> rfl, rfl⟩
      · refine o_iconst 1 X f2_28 rfl ?_
        refine o_goto X f2_29 ?_
        refine o_retZ X f2_33 (by decide) (by decide) ?_
        exact ⟨by simp only [own_bad, own_b1, q2, q18, q25, ↓reduceIte, if_true, if_false] <;> rfl, rfl⟩
  · refine o_iconst 0 X f2_5 rfl ?_
    refine o_retZ X f2_6 (by decide) (by decide) ?_
    exact ⟨by simp only [own_bad, own_b1, q2, ↓reduceIte, if_true, if_false] <;> rfl, rfl⟩
set_option maxRecDepth 65536 in
set_option maxHeartbeats 40000000 in
theorem rm3 (l : Launch) (Z : State) (a0 : Array Value) (hw : ∀ d ∈ tables_1, d.before a0 Z = true) (a : Addr) (x1 : Int32) (x2 : Int32) (x3 : Int32) (h : Heap) (n0 : Nat) (B : Int32 → Int32) (vs : List Value) (A : AL Z h a .byte vs) (HA : own_A B vs) (ha0 : 0 ≤ x1.toInt) (hd0 : 0 ≤ x2.toInt) (hd1 : x2.toInt < 6) (hs : x1.toInt + x2.toInt ≤ 8) (hj0 : 0 ≤ x3.toInt) (hj1 : x3.toInt ≤ 4) :
    Ctr l Z (⟨"com/example/kartoteka/kartoteka/core/Iso2709NumberPinLaw", "term", "([BIII)I"⟩ : MethodName) method_5_code 4 (some (.int)) ({ frames := 1, cells := 0, slots := 0, locals := 18 } : Room) [.ref a, .int x1, .int x2, .int x3] h n0 (fun v h' => v = some (.int (own_term B x1 x2 x3)) ∧ h' = h) := by
  refine CtrW.intro (plainFor_of_name pn0) rfl #[.val (.ref a), .val (.int x1), .val (.int x2), .val (.int x3)] rfl ?_
  intro K T hnm hl X
  subst hl
  have eaj : (x1 + x3).toInt = x1.toInt + x3.toInt := own_add (by omega) (by omega) (by omega) (by omega)
  refine o_iload_n X f3_0 rfl ?_
  refine o_iload_n X f3_1 rfl ?_
  refine o_icmp_lt X f3_2 (fun q2 => ?_) (fun q2 => ?_)
  · refine o_aload_n X f3_7 rfl rfl ?_
    refine o_iload_n X f3_8 rfl ?_
    refine o_iload_n X f3_9 rfl ?_
    refine o_iadd X f3_10 ?_
    obtain ⟨i1, i2⟩ := HA _ (by rw [eaj]; omega) (by rw [eaj]; rw [Int32.lt_iff_toInt_lt] at q2; omega)
    refine o_baload X f3_11 A i1 i2 ?_
    refine o_bipush 48 X f3_12 rfl ?_
    refine o_isub X f3_14 ?_
    refine o_iload_n X f3_15 rfl ?_
    refine o_iconst 1 X f3_16 rfl ?_
    refine o_isub X f3_17 ?_
    refine o_iload_n X f3_18 rfl ?_
    refine o_isub X f3_19 ?_
    refine o_callS X 6 f3_20 (hw _ (List.mem_of_getElem? (i := 15) rfl)) (hw _ (List.mem_of_getElem? (i := 16) rfl)) (hw _ (List.mem_of_getElem? (i := 5) rfl)) (hw _ (List.mem_of_getElem? (i := 17) rfl)) (by decide) (rm4 K.l Z a0 hw _ _ _) (lenOf pd0 rfl) rfl rfl (by first | exact Nat.zero_le _ | simp [Value.category]) (by decide) ?_
    rintro T1 h1 v1 ⟨rfl, rfl⟩ X1
    refine o_v1 ?_
    refine o_imul X1 f3_23 ?_
    refine o_retI X1 f3_24 (by decide) (by decide) ?_
    exact ⟨by simp only [own_term, q2, ↓reduceIte, if_true, if_false] <;> rfl, rfl⟩
  · refine o_iconst 0 X f3_5 rfl ?_
    refine o_retI X f3_6 (by decide) (by decide) ?_
    exact ⟨by simp only [own_term, q2, ↓reduceIte, if_true, if_false] <;> rfl, rfl⟩
set_option maxRecDepth 65536 in
set_option maxHeartbeats 40000000 in
theorem rm5 (l : Launch) (Z : State) (a0 : Array Value) (hw : ∀ d ∈ tables_1, d.before a0 Z = true) (a : Addr) (x1 : Int32) (x2 : Int32) (h : Heap) (n0 : Nat) (B : Int32 → Int32) (vs : List Value) (A : AL Z h a .byte vs) (HA : own_A B vs) (ha0 : 0 ≤ x1.toInt) (hd0 : 0 ≤ x2.toInt) (hd1 : x2.toInt < 6) (hs : x1.toInt + x2.toInt ≤ 8) :
    Ctr l Z (⟨"com/example/kartoteka/kartoteka/core/Iso2709", "number", "([BII)I"⟩ : MethodName) prog_17_method_3_code 5 (some (.int)) ({ frames := 0, cells := 0, slots := 0, locals := 0 } : Room) [.ref a, .int x1, .int x2] h n0 (fun v h' => v = some (.int (own_lp B x2.toInt.toNat 0 x1)) ∧ h' = h) := by
  refine CtrW.intro (plainFor_of_name pn1) rfl #[.val (.ref a), .val (.int x1), .val (.int x2), .unset, .unset] rfl ?_
  intro K T hnm hl X
  subst hl
  have ead : (x1 + x2).toInt = x1.toInt + x2.toInt := own_add (by omega) (by omega) (by omega) (by omega)
  have loop : ∀ (n : Nat) (vv i : Int32) (T : State), St K Z "com/example/kartoteka/kartoteka/core/Iso2709" prog_17_method_3_code 5 (some (.int)) ({ frames := 0, cells := 0, slots := 0, locals := 0 } : Room) n0 0 0 T h → 0 ≤ i.toInt → i.toInt + n = x1.toInt + x2.toInt → Go K n0 0 0 (fun v h' => v = some (.int (own_lp B n vv i)) ∧ h' = h) T 5 #[.val (.ref a), .val (.int x1), .val (.int x2), .val (.int vv), .val (.int i)] [] := by
    intro n
    induction n with
    | zero =>
      intro vv i T X h1 h2
      refine o_iload X f5_5 rfl ?_
      refine o_iload_n X f5_7 rfl ?_
      refine o_iload_n X f5_8 rfl ?_
      refine o_iadd X f5_9 ?_
      refine o_icmp_ge_t X f5_10 (by rw [Int32.lt_iff_toInt_lt, ead]; omega) ?_
      refine o_iload_n X f5_52 rfl ?_
      refine o_retI X f5_53 (by decide) (by decide) ?_
      exact ⟨rfl, rfl⟩
    | succ n ih =>
      intro vv i T X h1 h2
      have ei : (i + 1).toInt = i.toInt + 1 := own_add (by omega) (by omega) (by decide) (by decide)
      refine o_iload X f5_5 rfl ?_
      refine o_iload_n X f5_7 rfl ?_
      refine o_iload_n X f5_8 rfl ?_
      refine o_iadd X f5_9 ?_
      refine o_icmp_ge_f X f5_10 (by rw [Int32.lt_iff_toInt_lt, ead]; omega) ?_
      refine o_aload_n X f5_13 rfl rfl ?_
      refine o_iload X f5_14 rfl ?_
      obtain ⟨i1, i2⟩ := HA _ (by omega) (by omega)
      refine o_baload X f5_16 A i1 i2 ?_
      refine o_bipush 48 X f5_17 rfl ?_
      refine o_icmp_lt X f5_19 (fun q19 => ?_) (fun q19 => ?_)
      · refine o_iconst (-1) X f5_31 rfl ?_
        refine o_retI X f5_32 (by decide) (by decide) ?_
        exact ⟨by simp only [own_lp, own_b1, q19, ↓reduceIte, if_true, if_false] <;> rfl, rfl⟩
      · refine o_aload_n X f5_22 rfl rfl ?_
        refine o_iload X f5_23 rfl ?_
        obtain ⟨i1, i2⟩ := HA _ (by omega) (by omega)
        refine o_baload X f5_25 A i1 i2 ?_
        refine o_bipush 57 X f5_26 rfl ?_
        refine o_icmp_le X f5_28 (fun q28 => ?_) (fun q28 => ?_)
        · refine o_iload_n X f5_33 rfl ?_
          refine o_bipush 10 X f5_34 rfl ?_
          refine o_imul X f5_36 ?_
          refine o_aload_n X f5_37 rfl rfl ?_
          refine o_iload X f5_38 rfl ?_
          obtain ⟨i1, i2⟩ := HA _ (by omega) (by omega)
          refine o_baload X f5_40 A i1 i2 ?_
          refine o_iadd X f5_41 ?_
          refine o_bipush 48 X f5_42 rfl ?_
          refine o_isub X f5_44 ?_
          refine o_istore_n X f5_45 (Ls' := #[_, _, _, _, _]) rfl ?_
          refine o_iinc 1 X f5_46 rfl rfl (Ls' := #[_, _, _, _, _]) rfl ?_
          refine o_goto X f5_49 ?_
          refine Go.imp (ih _ _ _ X (by rw [ei]; omega) (by rw [ei]; omega)) fun v h q => ⟨?_, q.2⟩
          rw [q.1]; simp only [own_lp, own_b1, q19, q28, ↓reduceIte, if_true, if_false]
        · refine o_iconst (-1) X f5_31 rfl ?_
          refine o_retI X f5_32 (by decide) (by decide) ?_
          exact ⟨by simp only [own_lp, own_b1, q19, q28, ↓reduceIte, if_true, if_false] <;> rfl, rfl⟩
  refine o_iconst 0 X f5_0 rfl ?_
  refine o_istore_n X f5_1 (Ls' := #[_, _, _, _, _]) rfl ?_
  refine o_iload_n X f5_2 rfl ?_
  refine o_istore X f5_3 (Ls' := #[_, _, _, _, _]) rfl ?_
  exact loop x2.toInt.toNat _ _ _ X (by omega) (by omega)
set_option maxRecDepth 65536 in
set_option maxHeartbeats 40000000 in
theorem rm0 (l : Launch) (Z : State) (a0 : Array Value) (hw : ∀ d ∈ tables_1, d.before a0 Z = true) (x0 : Int64) (x1 : Int64) (x2 : Int32) (x3 : Int32) (h : Heap) (n0 : Nat) (hn0 : n0 ≤ h.size) :
    CtrW l Z x code 10 (some .boolean) tables_1 room_1 16 128 [.long x0, .long x1, .int x2, .int x3] h n0 (fun v _ => v = some (.int 1)) := by
  refine CtrW.intro (plainFor_of_name pn0) rfl #[.val (.long x0), .second, .val (.long x1), .second, .val (.int x2), .val (.int x3), .unset, .unset, .unset, .unset] rfl ?_
  intro K T hnm hl X
  subst hl
  refine o_iload X f0_0 rfl ?_
  refine o_ldc X f0_2 (hw _ (List.mem_of_getElem? (i := 0) rfl)) ?_
  refine o_iand X f0_4 ?_
  refine o_bipush 6 X f0_5 rfl ?_
  refine o_irem X f0_7 (by decide) ?_
  refine o_gen fun d e_d => ?_
  have hd0 : 0 ≤ d.toInt := by rw [e_d]; exact (own_dg x3).1
  have hd1 : d.toInt < 6 := by rw [e_d]; exact (own_dg x3).2
  have e9 : (9 - d).toInt = 9 - d.toInt := own_sub (by decide) (by decide) (by omega) (by omega)
  clear e_d
  refine o_istore X f0_8 (Ls' := #[_, _, _, _, _, _, _, _, _, _]) rfl ?_
  refine o_iload X f0_10 rfl ?_
  refine o_bipush 8 X f0_12 rfl ?_
  refine o_iushr X f0_14 ?_
  refine o_ldc X f0_15 (hw _ (List.mem_of_getElem? (i := 1) rfl)) ?_
  refine o_iand X f0_17 ?_
  refine o_bipush 9 X f0_18 rfl ?_
  refine o_iload X f0_20 rfl ?_
  refine o_isub X f0_22 ?_
  refine o_irem X f0_23 (own_ne (by omega)) ?_
  refine o_gen fun a e_a => ?_
  have rr := own_at (XT.ushr x3 8) (9 - d) (by omega)
  rw [← e_a] at rr
  have ha0 : 0 ≤ a.toInt := rr.1
  have hs : a.toInt + d.toInt ≤ 8 := by omega
  clear e_a
  refine o_istore X f0_24 (Ls' := #[_, _, _, _, _, _, _, _, _, _]) rfl ?_
  refine o_bipush 8 X f0_26 rfl ?_
  refine o_newarray X 8 f0_28 (hw _ (List.mem_of_getElem? (i := 2) rfl)) (by decide) (by decide) (vs := [.int 0, .int 0, .int 0, .int 0, .int 0, .int 0, .int 0, .int 0]) rfl (by decide) ?_
  intro T1 h1 ar e1 X1 E1 arF1
  have ha_ar : n0 ≤ ar := e1 ▸ hn0
  have z1 := Nat.le_trans hn0 E1.1
  refine o_astore X1 f0_30 rfl (Ls' := #[_, _, _, _, _, _, _, _, _, _]) rfl ?_
  refine o_aload X1 f0_32 rfl rfl ?_
  refine o_iconst 0 X1 f0_34 rfl ?_
  refine o_lload_n X1 f0_35 rfl ?_
  refine o_lload_n X1 f0_36 rfl ?_
  refine o_iload X1 f0_37 rfl ?_
  refine o_iconst 0 X1 f0_39 rfl ?_
  refine o_callS X1 8 f0_40 (hw _ (List.mem_of_getElem? (i := 3) rfl)) (hw _ (List.mem_of_getElem? (i := 4) rfl)) (hw _ (List.mem_of_getElem? (i := 5) rfl)) (hw _ (List.mem_of_getElem? (i := 6) rfl)) (by decide) (rm1 K.l Z a0 hw _ _ _ _ _ _) (lenOf pd1 rfl) rfl rfl (by first | exact Nat.zero_le _ | simp [Value.category]) (by decide) ?_
  rintro T2 h2 v2 ⟨⟨z2, rfl⟩, rfl⟩ X2
  refine o_v1 ?_
  refine o_bastore X2 f0_43 arF1 (by decide) (Nat.le_of_ble_eq_true rfl) ha_ar (vs' := [_, _, _, _, _, _, _, _]) rfl ?_
  intro T3 h3 X3 W3 arF3
  have z3 := Nat.le_trans z1 (Keep.of_wr W3).1
  refine o_aload X3 f0_44 rfl rfl ?_
  refine o_iconst 1 X3 f0_46 rfl ?_
  refine o_lload_n X3 f0_47 rfl ?_
  refine o_lload_n X3 f0_48 rfl ?_
  refine o_iload X3 f0_49 rfl ?_
  refine o_iconst 1 X3 f0_51 rfl ?_
  refine o_callS X3 8 f0_52 (hw _ (List.mem_of_getElem? (i := 3) rfl)) (hw _ (List.mem_of_getElem? (i := 4) rfl)) (hw _ (List.mem_of_getElem? (i := 5) rfl)) (hw _ (List.mem_of_getElem? (i := 6) rfl)) (by decide) (rm1 K.l Z a0 hw _ _ _ _ _ _) (lenOf pd1 rfl) rfl rfl (by first | exact Nat.zero_le _ | simp [Value.category]) (by decide) ?_
  rintro T4 h4 v4 ⟨⟨z4, rfl⟩, rfl⟩ X4
  refine o_v1 ?_
  refine o_bastore X4 f0_55 arF3 (by decide) (Nat.le_of_ble_eq_true rfl) ha_ar (vs' := [_, _, _, _, _, _, _, _]) rfl ?_
  intro T5 h5 X5 W5 arF5
  have z5 := Nat.le_trans z3 (Keep.of_wr W5).1
  refine o_aload X5 f0_56 rfl rfl ?_
  refine o_iconst 2 X5 f0_58 rfl ?_
  refine o_lload_n X5 f0_59 rfl ?_
  refine o_lload_n X5 f0_60 rfl ?_
  refine o_iload X5 f0_61 rfl ?_
  refine o_iconst 2 X5 f0_63 rfl ?_
  refine o_callS X5 8 f0_64 (hw _ (List.mem_of_getElem? (i := 3) rfl)) (hw _ (List.mem_of_getElem? (i := 4) rfl)) (hw _ (List.mem_of_getElem? (i := 5) rfl)) (hw _ (List.mem_of_getElem? (i := 6) rfl)) (by decide) (rm1 K.l Z a0 hw _ _ _ _ _ _) (lenOf pd1 rfl) rfl rfl (by first | exact Nat.zero_le _ | simp [Value.category]) (by decide) ?_
  rintro T6 h6 v6 ⟨⟨z6, rfl⟩, rfl⟩ X6
  refine o_v1 ?_
  refine o_bastore X6 f0_67 arF5 (by decide) (Nat.le_of_ble_eq_true rfl) ha_ar (vs' := [_, _, _, _, _, _, _, _]) rfl ?_
  intro T7 h7 X7 W7 arF7
  have z7 := Nat.le_trans z5 (Keep.of_wr W7).1
  refine o_aload X7 f0_68 rfl rfl ?_
  refine o_iconst 3 X7 f0_70 rfl ?_
  refine o_lload_n X7 f0_71 rfl ?_
  refine o_lload_n X7 f0_72 rfl ?_
  refine o_iload X7 f0_73 rfl ?_
  refine o_iconst 3 X7 f0_75 rfl ?_
  refine o_callS X7 8 f0_76 (hw _ (List.mem_of_getElem? (i := 3) rfl)) (hw _ (List.mem_of_getElem? (i := 4) rfl)) (hw _ (List.mem_of_getElem? (i := 5) rfl)) (hw _ (List.mem_of_getElem? (i := 6) rfl)) (by decide) (rm1 K.l Z a0 hw _ _ _ _ _ _) (lenOf pd1 rfl) rfl rfl (by first | exact Nat.zero_le _ | simp [Value.category]) (by decide) ?_
  rintro T8 h8 v8 ⟨⟨z8, rfl⟩, rfl⟩ X8
  refine o_v1 ?_
  refine o_bastore X8 f0_79 arF7 (by decide) (Nat.le_of_ble_eq_true rfl) ha_ar (vs' := [_, _, _, _, _, _, _, _]) rfl ?_
  intro T9 h9 X9 W9 arF9
  have z9 := Nat.le_trans z7 (Keep.of_wr W9).1
  refine o_aload X9 f0_80 rfl rfl ?_
  refine o_iconst 4 X9 f0_82 rfl ?_
  refine o_lload_n X9 f0_83 rfl ?_
  refine o_lload_n X9 f0_84 rfl ?_
  refine o_iload X9 f0_85 rfl ?_
  refine o_iconst 4 X9 f0_87 rfl ?_
  refine o_callS X9 8 f0_88 (hw _ (List.mem_of_getElem? (i := 3) rfl)) (hw _ (List.mem_of_getElem? (i := 4) rfl)) (hw _ (List.mem_of_getElem? (i := 5) rfl)) (hw _ (List.mem_of_getElem? (i := 6) rfl)) (by decide) (rm1 K.l Z a0 hw _ _ _ _ _ _) (lenOf pd1 rfl) rfl rfl (by first | exact Nat.zero_le _ | simp [Value.category]) (by decide) ?_
  rintro T10 h10 v10 ⟨⟨z10, rfl⟩, rfl⟩ X10
  refine o_v1 ?_
  refine o_bastore X10 f0_91 arF9 (by decide) (Nat.le_of_ble_eq_true rfl) ha_ar (vs' := [_, _, _, _, _, _, _, _]) rfl ?_
  intro T11 h11 X11 W11 arF11
  have z11 := Nat.le_trans z9 (Keep.of_wr W11).1
  refine o_aload X11 f0_92 rfl rfl ?_
  refine o_iconst 5 X11 f0_94 rfl ?_
  refine o_lload_n X11 f0_95 rfl ?_
  refine o_lload_n X11 f0_96 rfl ?_
  refine o_iload X11 f0_97 rfl ?_
  refine o_iconst 5 X11 f0_99 rfl ?_
  refine o_callS X11 8 f0_100 (hw _ (List.mem_of_getElem? (i := 3) rfl)) (hw _ (List.mem_of_getElem? (i := 4) rfl)) (hw _ (List.mem_of_getElem? (i := 5) rfl)) (hw _ (List.mem_of_getElem? (i := 6) rfl)) (by decide) (rm1 K.l Z a0 hw _ _ _ _ _ _) (lenOf pd1 rfl) rfl rfl (by first | exact Nat.zero_le _ | simp [Value.category]) (by decide) ?_
  rintro T12 h12 v12 ⟨⟨z12, rfl⟩, rfl⟩ X12
  refine o_v1 ?_
  refine o_bastore X12 f0_103 arF11 (by decide) (Nat.le_of_ble_eq_true rfl) ha_ar (vs' := [_, _, _, _, _, _, _, _]) rfl ?_
  intro T13 h13 X13 W13 arF13
  have z13 := Nat.le_trans z11 (Keep.of_wr W13).1
  refine o_aload X13 f0_104 rfl rfl ?_
  refine o_bipush 6 X13 f0_106 rfl ?_
  refine o_lload_n X13 f0_108 rfl ?_
  refine o_lload_n X13 f0_109 rfl ?_
  refine o_iload X13 f0_110 rfl ?_
  refine o_bipush 6 X13 f0_112 rfl ?_
  refine o_callS X13 8 f0_114 (hw _ (List.mem_of_getElem? (i := 3) rfl)) (hw _ (List.mem_of_getElem? (i := 4) rfl)) (hw _ (List.mem_of_getElem? (i := 5) rfl)) (hw _ (List.mem_of_getElem? (i := 6) rfl)) (by decide) (rm1 K.l Z a0 hw _ _ _ _ _ _) (lenOf pd1 rfl) rfl rfl (by first | exact Nat.zero_le _ | simp [Value.category]) (by decide) ?_
  rintro T14 h14 v14 ⟨⟨z14, rfl⟩, rfl⟩ X14
  refine o_v1 ?_
  refine o_bastore X14 f0_117 arF13 (by decide) (Nat.le_of_ble_eq_true rfl) ha_ar (vs' := [_, _, _, _, _, _, _, _]) rfl ?_
  intro T15 h15 X15 W15 arF15
  have z15 := Nat.le_trans z13 (Keep.of_wr W15).1
  refine o_aload X15 f0_118 rfl rfl ?_
  refine o_bipush 7 X15 f0_120 rfl ?_
  refine o_lload_n X15 f0_122 rfl ?_
  refine o_lload_n X15 f0_123 rfl ?_
  refine o_iload X15 f0_124 rfl ?_
  refine o_bipush 7 X15 f0_126 rfl ?_
  refine o_callS X15 8 f0_128 (hw _ (List.mem_of_getElem? (i := 3) rfl)) (hw _ (List.mem_of_getElem? (i := 4) rfl)) (hw _ (List.mem_of_getElem? (i := 5) rfl)) (hw _ (List.mem_of_getElem? (i := 6) rfl)) (by decide) (rm1 K.l Z a0 hw _ _ _ _ _ _) (lenOf pd1 rfl) rfl rfl (by first | exact Nat.zero_le _ | simp [Value.category]) (by decide) ?_
  rintro T16 h16 v16 ⟨⟨z16, rfl⟩, rfl⟩ X16
  refine o_v1 ?_
  refine o_bastore X16 f0_131 arF15 (by decide) (Nat.le_of_ble_eq_true rfl) ha_ar (vs' := [_, _, _, _, _, _, _, _]) rfl ?_
  intro T17 h17 X17 W17 arF17
  have z17 := Nat.le_trans z15 (Keep.of_wr W17).1
  refine o_aload X17 f0_132 rfl rfl ?_
  refine o_iload X17 f0_134 rfl ?_
  refine o_iload X17 f0_136 rfl ?_
  refine o_iconst 0 X17 f0_138 rfl ?_
  obtain ⟨B, HA⟩ : ∃ B, own_A B _ := ⟨_, own_AB (nar .byte z2) (nar .byte z4) (nar .byte z6) (nar .byte z8) (nar .byte z10) (nar .byte z12) (nar .byte z14) (nar .byte z16)⟩
  refine o_callS X17 8 f0_139 (hw _ (List.mem_of_getElem? (i := 9) rfl)) (hw _ (List.mem_of_getElem? (i := 10) rfl)) (hw _ (List.mem_of_getElem? (i := 5) rfl)) (hw _ (List.mem_of_getElem? (i := 11) rfl)) (by decide) (rm2 K.l Z a0 hw _ _ _ _ _ n0 B _ arF17 HA ha0 hd0 hd1 hs (by decide) (by decide)) (lenOf pd2 rfl) rfl rfl (by first | exact Nat.zero_le _ | simp [Value.category]) (by decide) ?_
  rintro T18 h18 v18 ⟨rfl, rfl⟩ X18
  refine o_v1 ?_
  refine o_if_ne X18 f0_142 (fun q142 => ?_) (fun q142 => ?_)
  · refine o_iconst (-1) X18 f0_197 rfl ?_
    refine o_istore X18 f0_198 (Ls' := #[_, _, _, _, _, _, _, _, _, _]) rfl ?_
    refine o_goto X18 f0_200 ?_
    refine o_aload X18 f0_259 rfl rfl ?_
    refine o_iload X18 f0_261 rfl ?_
    refine o_iload X18 f0_263 rfl ?_
    refine o_callS X18 8 f0_265 (hw _ (List.mem_of_getElem? (i := 18) rfl)) (hw _ (List.mem_of_getElem? (i := 19) rfl)) (hw _ (List.mem_of_getElem? (i := 20) rfl)) (hw _ (List.mem_of_getElem? (i := 21) rfl)) (by decide) (rm5 K.l Z a0 hw _ _ _ _ n0 B _ arF17 HA ha0 hd0 hd1 hs) (lenOf pd3 rfl) rfl rfl (by first | exact Nat.zero_le _ | simp [Value.category]) (by decide) ?_
    rintro T19 h19 v19 ⟨rfl, rfl⟩ X19
    refine o_v1 ?_
    refine o_iload X19 f0_268 rfl ?_
    refine o_icmp_ne_f X19 f0_270 (by rw [own_main B _ _ hd0 hd1]; simp [q142]) ?_
    refine o_iconst 1 X19 f0_273 rfl ?_
    refine o_goto X19 f0_274 ?_
    refine o_retZ X19 f0_278 (by decide) (by decide) ?_
    rfl
  · refine o_aload X18 f0_145 rfl rfl ?_
    refine o_iload X18 f0_147 rfl ?_
    refine o_iload X18 f0_149 rfl ?_
    refine o_iconst 1 X18 f0_151 rfl ?_
    refine o_callS X18 8 f0_152 (hw _ (List.mem_of_getElem? (i := 9) rfl)) (hw _ (List.mem_of_getElem? (i := 10) rfl)) (hw _ (List.mem_of_getElem? (i := 5) rfl)) (hw _ (List.mem_of_getElem? (i := 11) rfl)) (by decide) (rm2 K.l Z a0 hw _ _ _ _ _ n0 B _ arF17 HA ha0 hd0 hd1 hs (by decide) (by decide)) (lenOf pd2 rfl) rfl rfl (by first | exact Nat.zero_le _ | simp [Value.category]) (by decide) ?_
    rintro T20 h20 v20 ⟨rfl, rfl⟩ X20
    refine o_v1 ?_
    refine o_if_ne X20 f0_155 (fun q155 => ?_) (fun q155 => ?_)
    · refine o_iconst (-1) X20 f0_197 rfl ?_
      refine o_istore X20 f0_198 (Ls' := #[_, _, _, _, _, _, _, _, _, _]) rfl ?_
      refine o_goto X20 f0_200 ?_
      refine o_aload X20 f0_259 rfl rfl ?_
      refine o_iload X20 f0_261 rfl ?_
      refine o_iload X20 f0_263 rfl ?_
      refine o_callS X20 8 f0_265 (hw _ (List.mem_of_getElem? (i := 18) rfl)) (hw _ (List.mem_of_getElem? (i := 19) rfl)) (hw _ (List.mem_of_getElem? (i := 20) rfl)) (hw _ (List.mem_of_getElem? (i := 21) rfl)) (by decide) (rm5 K.l Z a0 hw _ _ _ _ n0 B _ arF17 HA ha0 hd0 hd1 hs) (lenOf pd3 rfl) rfl rfl (by first | exact Nat.zero_le _ | simp [Value.category]) (by decide) ?_
      rintro T21 h21 v21 ⟨rfl, rfl⟩ X21
      refine o_v1 ?_
      refine o_iload X21 f0_268 rfl ?_
      refine o_icmp_ne_f X21 f0_270 (by rw [own_main B _ _ hd0 hd1]; simp [q142, q155]) ?_
      refine o_iconst 1 X21 f0_273 rfl ?_
      refine o_goto X21 f0_274 ?_
      refine o_retZ X21 f0_278 (by decide) (by decide) ?_
      rfl
    · refine o_aload X20 f0_158 rfl rfl ?_
      refine o_iload X20 f0_160 rfl ?_
      refine o_iload X20 f0_162 rfl ?_
      refine o_iconst 2 X20 f0_164 rfl ?_
      refine o_callS X20 8 f0_165 (hw _ (List.mem_of_getElem? (i := 9) rfl)) (hw _ (List.mem_of_getElem? (i := 10) rfl)) (hw _ (List.mem_of_getElem? (i := 5) rfl)) (hw _ (List.mem_of_getElem? (i := 11) rfl)) (by decide) (rm2 K.l Z a0 hw _ _ _ _ _ n0 B _ arF17 HA ha0 hd0 hd1 hs (by decide) (by decide)) (lenOf pd2 rfl) rfl rfl (by first | exact Nat.zero_le _ | simp [Value.category]) (by decide) ?_
      rintro T22 h22 v22 ⟨rfl, rfl⟩ X22
      refine o_v1 ?_
      refine o_if_ne X22 f0_168 (fun q168 => ?_) (fun q168 => ?_)
      · refine o_iconst (-1) X22 f0_197 rfl ?_
        refine o_istore X22 f0_198 (Ls' := #[_, _, _, _, _, _, _, _, _, _]) rfl ?_
        refine o_goto X22 f0_200 ?_
        refine o_aload X22 f0_259 rfl rfl ?_
        refine o_iload X22 f0_261 rfl ?_
        refine o_iload X22 f0_263 rfl ?_
        refine o_callS X22 8 f0_265 (hw _ (List.mem_of_getElem? (i := 18) rfl)) (hw _ (List.mem_of_getElem? (i := 19) rfl)) (hw _ (List.mem_of_getElem? (i := 20) rfl)) (hw _ (List.mem_of_getElem? (i := 21) rfl)) (by decide) (rm5 K.l Z a0 hw _ _ _ _ n0 B _ arF17 HA ha0 hd0 hd1 hs) (lenOf pd3 rfl) rfl rfl (by first | exact Nat.zero_le _ | simp [Value.category]) (by decide) ?_
        rintro T23 h23 v23 ⟨rfl, rfl⟩ X23
        refine o_v1 ?_
        refine o_iload X23 f0_268 rfl ?_
        refine o_icmp_ne_f X23 f0_270 (by rw [own_main B _ _ hd0 hd1]; simp [q142, q155, q168]) ?_
        refine o_iconst 1 X23 f0_273 rfl ?_
        refine o_goto X23 f0_274 ?_
        refine o_retZ X23 f0_278 (by decide) (by decide) ?_
        rfl
      · refine o_aload X22 f0_171 rfl rfl ?_
        refine o_iload X22 f0_173 rfl ?_
        refine o_iload X22 f0_175 rfl ?_
        refine o_iconst 3 X22 f0_177 rfl ?_
        refine o_callS X22 8 f0_178 (hw _ (List.mem_of_getElem? (i := 9) rfl)) (hw _ (List.mem_of_getElem? (i := 10) rfl)) (hw _ (List.mem_of_getElem? (i := 5) rfl)) (hw _ (List.mem_of_getElem? (i := 11) rfl)) (by decide) (rm2 K.l Z a0 hw _ _ _ _ _ n0 B _ arF17 HA ha0 hd0 hd1 hs (by decide) (by decide)) (lenOf pd2 rfl) rfl rfl (by first | exact Nat.zero_le _ | simp [Value.category]) (by decide) ?_
        rintro T24 h24 v24 ⟨rfl, rfl⟩ X24
        refine o_v1 ?_
        refine o_if_ne X24 f0_181 (fun q181 => ?_) (fun q181 => ?_)
        · refine o_iconst (-1) X24 f0_197 rfl ?_
          refine o_istore X24 f0_198 (Ls' := #[_, _, _, _, _, _, _, _, _, _]) rfl ?_
          refine o_goto X24 f0_200 ?_
          refine o_aload X24 f0_259 rfl rfl ?_
          refine o_iload X24 f0_261 rfl ?_
          refine o_iload X24 f0_263 rfl ?_
          refine o_callS X24 8 f0_265 (hw _ (List.mem_of_getElem? (i := 18) rfl)) (hw _ (List.mem_of_getElem? (i := 19) rfl)) (hw _ (List.mem_of_getElem? (i := 20) rfl)) (hw _ (List.mem_of_getElem? (i := 21) rfl)) (by decide) (rm5 K.l Z a0 hw _ _ _ _ n0 B _ arF17 HA ha0 hd0 hd1 hs) (lenOf pd3 rfl) rfl rfl (by first | exact Nat.zero_le _ | simp [Value.category]) (by decide) ?_
          rintro T25 h25 v25 ⟨rfl, rfl⟩ X25
          refine o_v1 ?_
          refine o_iload X25 f0_268 rfl ?_
          refine o_icmp_ne_f X25 f0_270 (by rw [own_main B _ _ hd0 hd1]; simp [q142, q155, q168, q181]) ?_
          refine o_iconst 1 X25 f0_273 rfl ?_
          refine o_goto X25 f0_274 ?_
          refine o_retZ X25 f0_278 (by decide) (by decide) ?_
          rfl
        · refine o_aload X24 f0_184 rfl rfl ?_
          refine o_iload X24 f0_186 rfl ?_
          refine o_iload X24 f0_188 rfl ?_
          refine o_iconst 4 X24 f0_190 rfl ?_
          refine o_callS X24 8 f0_191 (hw _ (List.mem_of_getElem? (i := 9) rfl)) (hw _ (List.mem_of_getElem? (i := 10) rfl)) (hw _ (List.mem_of_getElem? (i := 5) rfl)) (hw _ (List.mem_of_getElem? (i := 11) rfl)) (by decide) (rm2 K.l Z a0 hw _ _ _ _ _ n0 B _ arF17 HA ha0 hd0 hd1 hs (by decide) (by decide)) (lenOf pd2 rfl) rfl rfl (by first | exact Nat.zero_le _ | simp [Value.category]) (by decide) ?_
          rintro T26 h26 v26 ⟨rfl, rfl⟩ X26
          refine o_v1 ?_
          refine o_if_eq X26 f0_194 (fun q194 => ?_) (fun q194 => ?_)
          · refine o_aload X26 f0_203 rfl rfl ?_
            refine o_iload X26 f0_205 rfl ?_
            refine o_iload X26 f0_207 rfl ?_
            refine o_iconst 0 X26 f0_209 rfl ?_
            refine o_callS X26 8 f0_210 (hw _ (List.mem_of_getElem? (i := 12) rfl)) (hw _ (List.mem_of_getElem? (i := 13) rfl)) (hw _ (List.mem_of_getElem? (i := 5) rfl)) (hw _ (List.mem_of_getElem? (i := 14) rfl)) (by decide) (rm3 K.l Z a0 hw _ _ _ _ _ n0 B _ arF17 HA ha0 hd0 hd1 hs (by decide) (by decide)) (lenOf pd4 rfl) rfl rfl (by first | exact Nat.zero_le _ | simp [Value.category]) (by decide) ?_
            rintro T27 h27 v27 ⟨rfl, rfl⟩ X27
            refine o_v1 ?_
            refine o_aload X27 f0_213 rfl rfl ?_
            refine o_iload X27 f0_215 rfl ?_
            refine o_iload X27 f0_217 rfl ?_
            refine o_iconst 1 X27 f0_219 rfl ?_
            refine o_callS X27 8 f0_220 (hw _ (List.mem_of_getElem? (i := 12) rfl)) (hw _ (List.mem_of_getElem? (i := 13) rfl)) (hw _ (List.mem_of_getElem? (i := 5) rfl)) (hw _ (List.mem_of_getElem? (i := 14) rfl)) (by decide) (rm3 K.l Z a0 hw _ _ _ _ _ n0 B _ arF17 HA ha0 hd0 hd1 hs (by decide) (by decide)) (lenOf pd4 rfl) rfl rfl (by first | exact Nat.zero_le _ | simp [Value.category]) (by decide) ?_
            rintro T28 h28 v28 ⟨rfl, rfl⟩ X28
            refine o_v1 ?_
            refine o_iadd X28 f0_223 ?_
            refine o_aload X28 f0_224 rfl rfl ?_
            refine o_iload X28 f0_226 rfl ?_
            refine o_iload X28 f0_228 rfl ?_
            refine o_iconst 2 X28 f0_230 rfl ?_
            refine o_callS X28 8 f0_231 (hw _ (List.mem_of_getElem? (i := 12) rfl)) (hw _ (List.mem_of_getElem? (i := 13) rfl)) (hw _ (List.mem_of_getElem? (i := 5) rfl)) (hw _ (List.mem_of_getElem? (i := 14) rfl)) (by decide) (rm3 K.l Z a0 hw _ _ _ _ _ n0 B _ arF17 HA ha0 hd0 hd1 hs (by decide) (by decide)) (lenOf pd4 rfl) rfl rfl (by first | exact Nat.zero_le _ | simp [Value.category]) (by decide) ?_
            rintro T29 h29 v29 ⟨rfl, rfl⟩ X29
            refine o_v1 ?_
            refine o_iadd X29 f0_234 ?_
            refine o_aload X29 f0_235 rfl rfl ?_
            refine o_iload X29 f0_237 rfl ?_
            refine o_iload X29 f0_239 rfl ?_
            refine o_iconst 3 X29 f0_241 rfl ?_
            refine o_callS X29 8 f0_242 (hw _ (List.mem_of_getElem? (i := 12) rfl)) (hw _ (List.mem_of_getElem? (i := 13) rfl)) (hw _ (List.mem_of_getElem? (i := 5) rfl)) (hw _ (List.mem_of_getElem? (i := 14) rfl)) (by decide) (rm3 K.l Z a0 hw _ _ _ _ _ n0 B _ arF17 HA ha0 hd0 hd1 hs (by decide) (by decide)) (lenOf pd4 rfl) rfl rfl (by first | exact Nat.zero_le _ | simp [Value.category]) (by decide) ?_
            rintro T30 h30 v30 ⟨rfl, rfl⟩ X30
            refine o_v1 ?_
            refine o_iadd X30 f0_245 ?_
            refine o_aload X30 f0_246 rfl rfl ?_
            refine o_iload X30 f0_248 rfl ?_
            refine o_iload X30 f0_250 rfl ?_
            refine o_iconst 4 X30 f0_252 rfl ?_
            refine o_callS X30 8 f0_253 (hw _ (List.mem_of_getElem? (i := 12) rfl)) (hw _ (List.mem_of_getElem? (i := 13) rfl)) (hw _ (List.mem_of_getElem? (i := 5) rfl)) (hw _ (List.mem_of_getElem? (i := 14) rfl)) (by decide) (rm3 K.l Z a0 hw _ _ _ _ _ n0 B _ arF17 HA ha0 hd0 hd1 hs (by decide) (by decide)) (lenOf pd4 rfl) rfl rfl (by first | exact Nat.zero_le _ | simp [Value.category]) (by decide) ?_
            rintro T31 h31 v31 ⟨rfl, rfl⟩ X31
            refine o_v1 ?_
            refine o_iadd X31 f0_256 ?_
            refine o_istore X31 f0_257 (Ls' := #[_, _, _, _, _, _, _, _, _, _]) rfl ?_
            refine o_aload X31 f0_259 rfl rfl ?_
            refine o_iload X31 f0_261 rfl ?_
            refine o_iload X31 f0_263 rfl ?_
            refine o_callS X31 8 f0_265 (hw _ (List.mem_of_getElem? (i := 18) rfl)) (hw _ (List.mem_of_getElem? (i := 19) rfl)) (hw _ (List.mem_of_getElem? (i := 20) rfl)) (hw _ (List.mem_of_getElem? (i := 21) rfl)) (by decide) (rm5 K.l Z a0 hw _ _ _ _ n0 B _ arF17 HA ha0 hd0 hd1 hs) (lenOf pd3 rfl) rfl rfl (by first | exact Nat.zero_le _ | simp [Value.category]) (by decide) ?_
            rintro T32 h32 v32 ⟨rfl, rfl⟩ X32
            refine o_v1 ?_
            refine o_iload X32 f0_268 rfl ?_
            refine o_icmp_ne_f X32 f0_270 (by rw [own_main B _ _ hd0 hd1]; simp [q142, q155, q168, q181, q194]) ?_
            refine o_iconst 1 X32 f0_273 rfl ?_
            refine o_goto X32 f0_274 ?_
            refine o_retZ X32 f0_278 (by decide) (by decide) ?_
            rfl
          · refine o_iconst (-1) X26 f0_197 rfl ?_
            refine o_istore X26 f0_198 (Ls' := #[_, _, _, _, _, _, _, _, _, _]) rfl ?_
            refine o_goto X26 f0_200 ?_
            refine o_aload X26 f0_259 rfl rfl ?_
            refine o_iload X26 f0_261 rfl ?_
            refine o_iload X26 f0_263 rfl ?_
            refine o_callS X26 8 f0_265 (hw _ (List.mem_of_getElem? (i := 18) rfl)) (hw _ (List.mem_of_getElem? (i := 19) rfl)) (hw _ (List.mem_of_getElem? (i := 20) rfl)) (hw _ (List.mem_of_getElem? (i := 21) rfl)) (by decide) (rm5 K.l Z a0 hw _ _ _ _ n0 B _ arF17 HA ha0 hd0 hd1 hs) (lenOf pd3 rfl) rfl rfl (by first | exact Nat.zero_le _ | simp [Value.category]) (by decide) ?_
            rintro T33 h33 v33 ⟨rfl, rfl⟩ X33
            refine o_v1 ?_
            refine o_iload X33 f0_268 rfl ?_
            refine o_icmp_ne_f X33 f0_270 (by rw [own_main B _ _ hd0 hd1]; simp [q142, q155, q168, q181, q194]) ?_
            refine o_iconst 1 X33 f0_273 rfl ?_
            refine o_goto X33 f0_274 ?_
            refine o_retZ X33 f0_278 (by decide) (by decide) ?_
            rfl
set_option maxRecDepth 65536 in
set_option maxHeartbeats 40000000 in
theorem comes_1 {Post : Tables → Env → Array Value → State → Outcome → State → Prop} (hpost : ∀ tb e args s v u, (limb_1_1.after args s (.returned v) u = true ∧ limb_1_2.after args s (.returned v) u = true ∧ True) → FrameEnd s (.returned v) u (Jvm.fieldLocs frame_1_writes args s ++ Jvm.arrayLocs frame_1_arrays args s ++ Jvm.staticLocs frame_1_statics s) 16 128 → Post tb e args s (.returned v) u) :
    ArmFor flags0 classFile x code maxLocals ret World_1 tables_1 room_1 Calls_1 rest_1 Pre_1 Post := by
  intro l hfl _ _ p e ha hc hk s m args below hf hA hF happ hP
  obtain ⟨hcalls, hrest, hpre⟩ := hP
  obtain ⟨-, -, -, hnamed, -, -, -, hat⟩ := (Spec.applies_iff hf).mp happ
  obtain ⟨hg, hn⟩ := and_e (Cond.before_iff.mp (show (Jvm.Cond.and given_1 narrow_1).before args s = true from hpre))
  obtain ⟨g0, r0⟩ := and_e hg
  obtain ⟨p0, r1⟩ := and_e r0
  obtain ⟨p1, r2⟩ := and_e r1
  obtain ⟨p2, r3⟩ := and_e r2
  obtain ⟨w0, w1, w2, w3, rfl⟩ : ∃ w0 w1 w2 w3 : Value, args = #[w0, w1, w2, w3] := by
    have hs : args.size = 4 := by simpa [Cond.value, given_1] using g0
    obtain ⟨L⟩ := args
    match L, hs with
    | [w0, w1, w2, w3], _ => exact ⟨w0, w1, w2, w3, rfl⟩
  have hw := fun d (hd : d ∈ tables_1) => atoms_spec (ws := Jvm.Cond.code x code maxLocals ret :: tables_1) hat d (List.mem_cons_of_mem _ hd)
  obtain ⟨i0, e0⟩ := isL_v p0
  obtain rfl : w0 = (.long i0) := Option.some.inj e0
  obtain ⟨i1, e1⟩ := isL_v p1
  obtain rfl : w1 = (.long i1) := Option.some.inj e1
  obtain ⟨i2, e2⟩ := is_v p2
  obtain rfl : w2 = (.int i2) := Option.some.inj e2
  obtain ⟨i3, e3⟩ := is_v r3
  obtain rfl : w3 = (.int i3) := Option.some.inj e3
  obtain ⟨n, o, h1, h2, h3, _, L, rfl, ⟨rfl, N⟩, hq⟩ := rm0 l s _ hw i0 i1 i2 i3 s.heap s.heap.size (Nat.le_refl _) p e ha hc hk s m _ below hf ((Spec.applies_iff_loose hf).mp happ).1 ⟨rfl, State.Warmed39.refl s, rfl⟩ trivial
  refine ⟨n, _, h1, h2, h3, hpost _ _ _ _ _ _ ⟨Cond.after_iff.mpr rfl, Cond.after_iff.mpr (eq_i res_at (Term.int_eval (1)) rfl), trivial⟩ ⟨hq.1, hq.2.1, (hq.2.2.sift fun y hy => Or.inr (N y hy)).mono (by decide) (by decide)⟩⟩
theorem main_1_1 : Claimed_1_1 := comes_1 fun _ _ _ _ _ _ h hF => ⟨h.1, hF⟩
theorem main_1_2 : Claimed_1_2 := comes_1 fun _ _ _ _ _ _ h hF => ⟨h.2.1, hF⟩
end Jvm.Pilot.@@N@@
namespace Jvm.Pilot.@@N@@
open Jvm Jvm.ClassFile Sem Op Lib Jvm.Free Jvm.Stand Jvm.Pilot.@@N@@.Jvm.D
/-! MADE BY PROGRAM (witnessworld.py) out of the Statement's table words and the real class files: 9 classes; the members and pool entries that the words name. The judged class is class 1, her method 5. -/
namespace start1
open Jvm.ClassFile
def u (s : String) : CpInfo := .utf8 (stringToUtf16 s)
/-- a pool by its gaps: so many unusable entries, then the entry; so many at the end -/
def gap : Nat → List CpInfo → List CpInfo
  | 0, r => r
  | n + 1, r => .unusable :: gap n r
def poolList (es : List (Nat × CpInfo)) (last : Nat) : List CpInfo := es.foldr (fun e r => gap e.1 (e.2 :: r)) (gap last [])
def pool (es : List (Nat × CpInfo)) (last : Nat) : Array CpInfo := ⟨poolList es last⟩
def fileOf (pool : Array CpInfo) (this : Nat) (attrs : Array Attribute := #[]) (ms : Array MethodInfo := #[]) (fl : Nat := 33) (sup : Nat := 0) (ifs : Array Nat := #[]) (fds : Array FieldInfo := #[]) : ClassFile where
  minorVersion := 0
  majorVersion := 65
  constantPool := pool
  accessFlags := fl
  thisClass := this
  superClass := sup
  interfaces := ifs
  fields := fds
  methods := ms
  attributes := attrs
def plain (name : String) (sup : Option ClassId) : Class where
  name := name
  kind := .ordinary
  loader := none
  accessFlags := 33
  super := sup
  interfaces := #[]
  cf := none
  fields := #[]
  methods := #[]
  instanceTypes := #[]
  staticTypes := #[]
  resolved := #[]
  callSites := []
  init := .initialized
  statics := none
  mirror := none

def pool0 : Array CpInfo := pool [(5, u "<init>"), (0, u "()V"), (1, .class_ 10), (1, u "java/lang/Object")] 113

def k0m0 : Method := { name := "<init>", desc := "()V", sig := { parameters := [], returnType := none }, accessFlags := 1, code := none }
/-- java/lang/Object -/
def k0 : Class := { plain "java/lang/Object" none with
  accessFlags := 33
  interfaces := #[]
  cf := some (fileOf pool0 8 #[] #[{ accessFlags := 1, nameIndex := 5, descriptorIndex := 6, attributes := #[] }] 33 0 #[] #[])
  fields := #[]
  methods := #[k0m0]
  instanceTypes := #[]
  staticTypes := #[]
  resolved := Array.replicate 124 none
  statics := none }

def pool1 : Array CpInfo := pool [(2, .class_ 4), (1, u "java/lang/Object"), (0, u "<init>"), (0, u "()V"), (0, .long 255), (1, .long 10), (1, .methodref 12 13), (0, .class_ 14), (0, .nameAndType 15 16), (0, u "com/example/kartoteka/kartoteka/core/Iso2709NumberPinLaw"), (0, u "pow10"), (0, u "(I)I"), (0, .integer 2147483647), (0, .integer 65535), (0, .methodref 12 20), (0, .nameAndType 21 22), (0, u "pick"), (0, u "(JJII)B"), (0, .methodref 12 24), (0, .nameAndType 25 26), (0, u "bad"), (0, u "([BIII)Z"), (0, .methodref 12 28), (0, .nameAndType 29 30), (0, u "term"), (0, u "([BIII)I"), (0, .methodref 32 33), (0, .class_ 34), (0, .nameAndType 35 36), (0, u "com/example/kartoteka/kartoteka/core/Iso2709"), (0, u "number"), (0, u "([BII)I"), (3, u "law"), (0, u "(JJII)Z")] 4

def k1m0 : Method := { name := "<init>", desc := "()V", sig := { parameters := [], returnType := none }, accessFlags := 1, code := none }
def k1c1 : Code := { maxStack := 5, maxLocals := 6, code := method_2_code, exceptionTable := #[], attributes := #[] }
def k1m1 : Method := { name := "pick", desc := "(JJII)B", sig := { parameters := [.long, .long, .int, .int], returnType := some .byte }, accessFlags := 10, code := some k1c1 }
def k1c2 : Code := { maxStack := 3, maxLocals := 5, code := method_3_code, exceptionTable := #[], attributes := #[] }
def k1m2 : Method := { name := "bad", desc := "([BIII)Z", sig := { parameters := [(.array .byte), .int, .int, .int], returnType := some .boolean }, accessFlags := 10, code := some k1c2 }
def k1c3 : Code := { maxStack := 2, maxLocals := 1, code := method_4_code, exceptionTable := #[], attributes := #[] }
def k1m3 : Method := { name := "pow10", desc := "(I)I", sig := { parameters := [.int], returnType := some .int }, accessFlags := 10, code := some k1c3 }
def k1c4 : Code := { maxStack := 3, maxLocals := 4, code := method_5_code, exceptionTable := #[], attributes := #[] }
def k1m4 : Method := { name := "term", desc := "([BIII)I", sig := { parameters := [(.array .byte), .int, .int, .int], returnType := some .int }, accessFlags := 10, code := some k1c4 }
def k1c5 : Code := { maxStack := 8, maxLocals := 10, code := code, exceptionTable := #[], attributes := #[] }
def k1m5 : Method := { name := "law", desc := "(JJII)Z", sig := { parameters := [.long, .long, .int, .int], returnType := some .boolean }, accessFlags := 9, code := some k1c5 }
/-- com/example/kartoteka/kartoteka/core/Iso2709NumberPinLaw -/
def k1 : Class := { plain "com/example/kartoteka/kartoteka/core/Iso2709NumberPinLaw" (some 0) with
  accessFlags := 49
  interfaces := #[]
  cf := some (fileOf pool1 12 #[] #[{ accessFlags := 1, nameIndex := 5, descriptorIndex := 6, attributes := #[] }, { accessFlags := 10, nameIndex := 21, descriptorIndex := 22, attributes := #[] }, { accessFlags := 10, nameIndex := 25, descriptorIndex := 26, attributes := #[] }, { accessFlags := 10, nameIndex := 15, descriptorIndex := 16, attributes := #[] }, { accessFlags := 10, nameIndex := 29, descriptorIndex := 30, attributes := #[] }, { accessFlags := 9, nameIndex := 40, descriptorIndex := 41, attributes := #[] }] 49 2 #[] #[])
  fields := #[]
  methods := #[k1m0, k1m1, k1m2, k1m3, k1m4, k1m5]
  instanceTypes := #[]
  staticTypes := #[]
  resolved := Array.replicate 46 none
  statics := none }

def pool2 : Array CpInfo := pool [(1, .class_ 2), (0, u "com/example/kartoteka/kartoteka/core/Iso2709"), (1, .class_ 6), (1, u "java/lang/Object"), (0, u "<init>"), (0, u "()V"), (6, u "RECORD_TERMINATOR"), (0, u "B"), (2, u "FIELD_TERMINATOR"), (1, u "SUBFIELD_DELIMITER"), (1, u "LEADER_LENGTH"), (0, u "I"), (1, u "RECORD_LENGTH_AT"), (1, u "BASE_ADDRESS_AT"), (1, u "LEADER_NUMBER_DIGITS"), (1, u "MAX_RECORD_LENGTH"), (1, u "FIELD_LENGTH_DIGITS"), (1, u "FIELD_START_DIGITS"), (0, u "CODING_SCHEME_AT"), (1, u "MARC21_UNICODE"), (1, u "MARC21_UNDECLARED"), (1, u "ENTRY_MAP_AT"), (1, u "MARC21_ENTRY_MAP"), (0, u "Ljava/lang/String;"), (2, u "MAX_FIELD_LENGTH"), (1, u "INDICATORS"), (1, u "TAG_LENGTH"), (1, u "ENTRY_LENGTH"), (7, u "number"), (0, u "([BII)I")] 2

def k2m0 : Method := { name := "<init>", desc := "()V", sig := { parameters := [], returnType := none }, accessFlags := 2, code := none }
def k2c1 : Code := { maxStack := 3, maxLocals := 5, code := prog_17_method_3_code, exceptionTable := #[], attributes := #[] }
def k2m1 : Method := { name := "number", desc := "([BII)I", sig := { parameters := [(.array .byte), .int, .int], returnType := some .int }, accessFlags := 8, code := some k2c1 }
/-- com/example/kartoteka/kartoteka/core/Iso2709 -/
def k2 : Class := { plain "com/example/kartoteka/kartoteka/core/Iso2709" (some 0) with
  accessFlags := 48
  interfaces := #[]
  cf := some (fileOf pool2 1 #[] #[{ accessFlags := 2, nameIndex := 7, descriptorIndex := 8, attributes := #[] }, { accessFlags := 8, nameIndex := 63, descriptorIndex := 64, attributes := #[] }] 48 4 #[] #[{ accessFlags := 24, nameIndex := 15, descriptorIndex := 16, attributes := #[] }, { accessFlags := 24, nameIndex := 19, descriptorIndex := 16, attributes := #[] }, { accessFlags := 24, nameIndex := 21, descriptorIndex := 16, attributes := #[] }, { accessFlags := 24, nameIndex := 23, descriptorIndex := 24, attributes := #[] }, { accessFlags := 24, nameIndex := 26, descriptorIndex := 24, attributes := #[] }, { accessFlags := 24, nameIndex := 28, descriptorIndex := 24, attributes := #[] }, { accessFlags := 24, nameIndex := 30, descriptorIndex := 24, attributes := #[] }, { accessFlags := 24, nameIndex := 32, descriptorIndex := 24, attributes := #[] }, { accessFlags := 24, nameIndex := 34, descriptorIndex := 24, attributes := #[] }, { accessFlags := 24, nameIndex := 36, descriptorIndex := 24, attributes := #[] }, { accessFlags := 24, nameIndex := 37, descriptorIndex := 24, attributes := #[] }, { accessFlags := 24, nameIndex := 39, descriptorIndex := 16, attributes := #[] }, { accessFlags := 24, nameIndex := 41, descriptorIndex := 16, attributes := #[] }, { accessFlags := 24, nameIndex := 43, descriptorIndex := 24, attributes := #[] }, { accessFlags := 24, nameIndex := 45, descriptorIndex := 46, attributes := #[] }, { accessFlags := 24, nameIndex := 49, descriptorIndex := 24, attributes := #[] }, { accessFlags := 24, nameIndex := 51, descriptorIndex := 24, attributes := #[] }, { accessFlags := 24, nameIndex := 53, descriptorIndex := 24, attributes := #[] }, { accessFlags := 24, nameIndex := 55, descriptorIndex := 24, attributes := #[] }])
  fields := #[{ name := "RECORD_TERMINATOR", type := .byte, accessFlags := 24, slot := 0, constantValue := 0 }, { name := "FIELD_TERMINATOR", type := .byte, accessFlags := 24, slot := 1, constantValue := 0 }, { name := "SUBFIELD_DELIMITER", type := .byte, accessFlags := 24, slot := 2, constantValue := 0 }, { name := "LEADER_LENGTH", type := .int, accessFlags := 24, slot := 3, constantValue := 0 }, { name := "RECORD_LENGTH_AT", type := .int, accessFlags := 24, slot := 4, constantValue := 0 }, { name := "BASE_ADDRESS_AT", type := .int, accessFlags := 24, slot := 5, constantValue := 0 }, { name := "LEADER_NUMBER_DIGITS", type := .int, accessFlags := 24, slot := 6, constantValue := 0 }, { name := "MAX_RECORD_LENGTH", type := .int, accessFlags := 24, slot := 7, constantValue := 0 }, { name := "FIELD_LENGTH_DIGITS", type := .int, accessFlags := 24, slot := 8, constantValue := 0 }, { name := "FIELD_START_DIGITS", type := .int, accessFlags := 24, slot := 9, constantValue := 0 }, { name := "CODING_SCHEME_AT", type := .int, accessFlags := 24, slot := 10, constantValue := 0 }, { name := "MARC21_UNICODE", type := .byte, accessFlags := 24, slot := 11, constantValue := 0 }, { name := "MARC21_UNDECLARED", type := .byte, accessFlags := 24, slot := 12, constantValue := 0 }, { name := "ENTRY_MAP_AT", type := .int, accessFlags := 24, slot := 13, constantValue := 0 }, { name := "MARC21_ENTRY_MAP", type := (.object "java/lang/String"), accessFlags := 24, slot := 14, constantValue := 0 }, { name := "MAX_FIELD_LENGTH", type := .int, accessFlags := 24, slot := 15, constantValue := 0 }, { name := "INDICATORS", type := .int, accessFlags := 24, slot := 16, constantValue := 0 }, { name := "TAG_LENGTH", type := .int, accessFlags := 24, slot := 17, constantValue := 0 }, { name := "ENTRY_LENGTH", type := .int, accessFlags := 24, slot := 18, constantValue := 0 }]
  methods := #[k2m0, k2m1]
  instanceTypes := #[]
  staticTypes := #[.byte, .byte, .byte, .int, .int, .int, .int, .int, .int, .int, .int, .byte, .byte, .int, (.object "java/lang/String"), .int, .int, .int, .int]
  resolved := Array.replicate 67 none
  statics := none }

def pool3 : Array CpInfo := pool [(1, u "java/lang/Cloneable"), (0, .class_ 1), (0, u "java/lang/Object"), (0, .class_ 3)] 3

/-- java/lang/Cloneable -/
def k3 : Class := { plain "java/lang/Cloneable" (some 0) with
  accessFlags := 1537
  interfaces := #[]
  cf := some (fileOf pool3 2 #[] #[] 1537 4 #[] #[])
  fields := #[]
  methods := #[]
  instanceTypes := #[]
  staticTypes := #[]
  resolved := Array.replicate 8 none
  statics := none }

def pool4 : Array CpInfo := pool [(1, u "java/io/Serializable"), (0, .class_ 1), (0, u "java/lang/Object"), (0, .class_ 3)] 3

/-- java/io/Serializable -/
def k4 : Class := { plain "java/io/Serializable" (some 0) with
  accessFlags := 1537
  interfaces := #[]
  cf := some (fileOf pool4 2 #[] #[] 1537 4 #[] #[])
  fields := #[]
  methods := #[]
  instanceTypes := #[]
  staticTypes := #[]
  resolved := Array.replicate 8 none
  statics := none }

/-- the primitive byte -/
def k5 : Class := { plain "byte" none with kind := .primitive 'B', accessFlags := 0x411 }
/-- [B -/
def k6 : Class := { plain "[B" (some 0) with kind := .array 5 .byte, interfaces := #[3, 4], accessFlags := 1041 }

/-- the primitive int -/
def k7 : Class := { plain "int" none with kind := .primitive 'I', accessFlags := 0x411 }
/-- [I -/
def k8 : Class := { plain "[I" (some 0) with kind := .array 7 .int, interfaces := #[3, 4], accessFlags := 1041 }

def heap : Heap := #[]
def classes : Array Class := #[k0, k1, k2, k3, k4, k5, k6, k7, k8]
def interned : List (Array UInt16 × Addr) := []
def slotsUsed : Nat := 0
def theMethod : MethodId := ⟨1, 5⟩
def args0 : Array Value := #[.long 5, .long 7, .int 9, .int 3]
def aboutOver (below : List Frame) : State where
  vm := { classes := classes, interned := interned.toArray }
  heap := heap
  slotsUsed := slotsUsed
  threads := #[{ frames := .invoking theMethod args0 :: below }]
def below0 : List Frame := [.native { method := ⟨0, 0⟩, args := #[] }]
def about1 : State := aboutOver below0
def p0 : Program := .bare "" "" ""
def e0 : Env := launch0.env 0 0 0
theorem w_frames : about1.frames = Frame.invoking theMethod args0 :: below0 := rfl
set_option maxRecDepth 65536 in
theorem w_args : argsFit about1.vm theMethod args0 = true := by decide +kernel
set_option maxRecDepth 65536 in
theorem w_heap : heapFits about1 = true := by decide +kernel
set_option maxRecDepth 65536 in
theorem w_runnable : about1.curStatus? = some .runnable := by decide +kernel
set_option maxRecDepth 65536 in
theorem w_alone : about1.alone = true := by decide +kernel
set_option maxRecDepth 65536 in
theorem w_named : about1.methodNamed? x = some theMethod := by decide +kernel
set_option maxRecDepth 65536 in
theorem w_hears : about1.hears theMethod below0 = true := by decide +kernel
set_option maxRecDepth 65536 in
theorem w_ripe : about1.ripe theMethod args0 below0 = true := by decide +kernel
theorem w_running : about1.status = .running := rfl
set_option maxRecDepth 65536 in
theorem w_room : about1.hasRoom e0.platform room_1 = true :=
  launch0.hasRoom_least _ room_1 (by decide +kernel) (by decide +kernel) (by decide +kernel) (by decide +kernel) (by decide +kernel) (by decide +kernel)
theorem allAtoms_all (ts : List Jvm.Cond) (a : Array Jvm.Value) (st : Jvm.State) : (allAtoms ts).before a st = ts.all (fun c => c.before a st) := by
  induction ts with
  | nil => rfl
  | cons c t ih =>
    show (Jvm.Cond.and c (allAtoms t)).before a st = _
    rw [Jvm.Cond.before_and, ih, List.all_cons]
def words1 : List Jvm.Cond := Jvm.Cond.code x code maxLocals ret :: tables_1
/-- a 'code' word, met by the world's own term for the bytes: nothing is compared byte by byte -/
theorem code_word {y : MethodName} {bytes : ByteArray} {mx : Nat} {rt : Option FieldType} {a : Array Value} {s : State} {m : MethodId} {meth : Method} {c : Code} (h1 : s.methodNamed? y = some m) (h2 : s.vm.method? m = some meth) (h3 : meth.code = some c) (h4 : c.code = bytes)
    (h5 : (c.maxLocals == mx && c.exceptionTable.isEmpty && decide (c.maxStack ≤ mostOperands) && decide (meth.sig.returnType = rt) && !meth.locks && decide (parseMethodDescriptor y.desc = some meth.sig)) = true) : (Jvm.Cond.code y bytes mx rt).before a s = true := by
  simp only [Bool.and_eq_true, beq_iff_eq, Bool.not_eq_true', decide_eq_true_eq] at h5
  obtain ⟨⟨⟨⟨⟨g1, g2⟩, g3⟩, g4⟩, g5⟩, g6⟩ := h5
  simp [Cond.before, Cond.holds, Cond.value, h1, h2, h3, h4, g1, g2, g3, g4, g5, g6]
def isCode : Jvm.Cond → Bool
  | .code _ _ _ _ => true
  | _ => false
theorem all_split {L : List Jvm.Cond} {P : Jvm.Cond → Bool} (h1 : L.all (fun c => isCode c || P c) = true) (h2 : ∀ c ∈ L.filter isCode, P c = true) : L.all P = true := by
  refine List.all_eq_true.mpr fun c hc => ?_
  have h := List.all_eq_true.mp h1 c hc
  rcases Bool.eq_false_or_eq_true (isCode c) with hi | hi
  · exact h2 c (List.mem_filter.mpr ⟨hc, hi⟩)
  · simpa [hi] using h
set_option maxRecDepth 65536 in
theorem w_c0 : (Jvm.Cond.code x code maxLocals ret).before args0 about1 = true := code_word (m := ⟨1, 5⟩) (meth := k1m5) (c := k1c5) (by decide +kernel) rfl rfl rfl (by decide +kernel)
set_option maxRecDepth 65536 in
theorem w_c1 : (Jvm.Cond.code ({ cls := "com/example/kartoteka/kartoteka/core/Iso2709NumberPinLaw", name := "pick", desc := "(JJII)B" } : Jvm.MethodName) method_2_code (6 : Nat) (Option.some Jvm.ClassFile.FieldType.byte)).before args0 about1 = true := code_word (m := ⟨1, 1⟩) (meth := k1m1) (c := k1c1) (by decide +kernel) rfl rfl rfl (by decide +kernel)
set_option maxRecDepth 65536 in
theorem w_c2 : (Jvm.Cond.code ({ cls := "com/example/kartoteka/kartoteka/core/Iso2709NumberPinLaw", name := "bad", desc := "([BIII)Z" } : Jvm.MethodName) method_3_code (5 : Nat) (Option.some Jvm.ClassFile.FieldType.boolean)).before args0 about1 = true := code_word (m := ⟨1, 2⟩) (meth := k1m2) (c := k1c2) (by decide +kernel) rfl rfl rfl (by decide +kernel)
set_option maxRecDepth 65536 in
theorem w_c3 : (Jvm.Cond.code ({ cls := "com/example/kartoteka/kartoteka/core/Iso2709NumberPinLaw", name := "term", desc := "([BIII)I" } : Jvm.MethodName) method_5_code (4 : Nat) (Option.some Jvm.ClassFile.FieldType.int)).before args0 about1 = true := code_word (m := ⟨1, 4⟩) (meth := k1m4) (c := k1c4) (by decide +kernel) rfl rfl rfl (by decide +kernel)
set_option maxRecDepth 65536 in
theorem w_c4 : (Jvm.Cond.code ({ cls := "com/example/kartoteka/kartoteka/core/Iso2709NumberPinLaw", name := "pow10", desc := "(I)I" } : Jvm.MethodName) method_4_code (1 : Nat) (Option.some Jvm.ClassFile.FieldType.int)).before args0 about1 = true := code_word (m := ⟨1, 3⟩) (meth := k1m3) (c := k1c3) (by decide +kernel) rfl rfl rfl (by decide +kernel)
set_option maxRecDepth 65536 in
theorem w_c5 : (Jvm.Cond.code ({ cls := "com/example/kartoteka/kartoteka/core/Iso2709", name := "number", desc := "([BII)I" } : Jvm.MethodName) prog_17_method_3_code (5 : Nat) (Option.some Jvm.ClassFile.FieldType.int)).before args0 about1 = true := code_word (m := ⟨2, 1⟩) (meth := k2m1) (c := k2c1) (by decide +kernel) rfl rfl rfl (by decide +kernel)
def codes1 : List Jvm.Cond := [Jvm.Cond.code x code maxLocals ret, Jvm.Cond.code ({ cls := "com/example/kartoteka/kartoteka/core/Iso2709NumberPinLaw", name := "pick", desc := "(JJII)B" } : Jvm.MethodName) method_2_code (6 : Nat) (Option.some Jvm.ClassFile.FieldType.byte), Jvm.Cond.code ({ cls := "com/example/kartoteka/kartoteka/core/Iso2709NumberPinLaw", name := "bad", desc := "([BIII)Z" } : Jvm.MethodName) method_3_code (5 : Nat) (Option.some Jvm.ClassFile.FieldType.boolean), Jvm.Cond.code ({ cls := "com/example/kartoteka/kartoteka/core/Iso2709NumberPinLaw", name := "term", desc := "([BIII)I" } : Jvm.MethodName) method_5_code (4 : Nat) (Option.some Jvm.ClassFile.FieldType.int), Jvm.Cond.code ({ cls := "com/example/kartoteka/kartoteka/core/Iso2709NumberPinLaw", name := "pow10", desc := "(I)I" } : Jvm.MethodName) method_4_code (1 : Nat) (Option.some Jvm.ClassFile.FieldType.int), Jvm.Cond.code ({ cls := "com/example/kartoteka/kartoteka/core/Iso2709", name := "number", desc := "([BII)I" } : Jvm.MethodName) prog_17_method_3_code (5 : Nat) (Option.some Jvm.ClassFile.FieldType.int)]
set_option maxRecDepth 65536 in
theorem codes_eq : words1.filter isCode = codes1 := rfl
theorem w_codes : ∀ c ∈ words1.filter isCode, c.before args0 about1 = true := by
  rw [codes_eq]
  intro c hc
  simp only [codes1, List.mem_cons, List.not_mem_nil, or_false] at hc
  rcases hc with rfl | rfl | rfl | rfl | rfl | rfl
  · exact w_c0
  · exact w_c1
  · exact w_c2
  · exact w_c3
  · exact w_c4
  · exact w_c5
set_option maxRecDepth 65536 in
theorem w_t1 : words1.all (fun c => isCode c || c.before args0 about1) = true := by decide +kernel
theorem w_tables : (allAtoms (Jvm.Cond.code x code maxLocals ret :: tables_1)).before args0 about1 = true := by
  rw [allAtoms_all]
  show words1.all (fun c => c.before args0 about1) = true
  refine all_split ?_ w_codes
  rw [w_t1]
set_option maxRecDepth 65536 in
theorem w_case : (Jvm.Cond.and given_1 narrow_1).before args0 about1 = true := by decide +kernel
theorem w_applies : (headSpec (Jvm.Cond.code x code maxLocals ret :: tables_1) room_1).applies x e0.platform about1 = true :=
  (Spec.applies_iff w_frames).mpr ⟨w_running, w_runnable, w_alone, w_named, w_hears, w_ripe, w_room, w_tables⟩
theorem atStart : AtStart classFile x code maxLocals ret World_1 tables_1 room_1 Calls_1 rest_1 Pre_1 launch0 p0 e0 about1 theMethod args0 below0 :=
  ⟨lists_1, trivial, launch0.admits_env _ _ _, launch0.least_env, fairChoices_fair.cas, fairChoices_fair.clock, w_frames, w_args, w_heap, w_applies, trivial, trivial, w_case⟩
end start1
theorem witness_1 : WitnessClaimed_1 := ⟨start1.p0, start1.e0, start1.about1, start1.theMethod, start1.args0, start1.below0, start1.atStart⟩
end Jvm.Pilot.@@N@@
