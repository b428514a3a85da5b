import PyProof.Rows.All
import Wide.All
import OpenK.AllK
import Wide.FinOn
import KE.KBits
import KE.KCallOwn
import KE.KItem
import KE.KNest
import KE.KRevIter
import KE.KStar
import KE.KSuper
import OpenK.KOps
import PyProof.AttrMissHeap
import PyProof.AutoIntOps
import PyProof.CompFree
import PyProof.EqAt
import PyProof.FactsAll.list
import PyProof.FactsAll.str
import PyProof.JoinWalk
import PyProof.ListMulRoad
import PyProof.NeKinds
import PyProof.Rows.RuleN_abs
import PyProof.Rows.StrNews
import PyProof.StrCalls2
import PyProof.StrOps2
import PyProof.SumAny
import PyProof.WalksPairs
import PySem.Challenge.RW_sr0073_02
set_option Elab.async false
set_option linter.unusedVariables false
set_option maxRecDepth 100000
set_option bootstrap.genMatcherCode false
set_option maxHeartbeats 4000000
set_option tactic.hygienic false
namespace Mine
def tA : Lean.Syntax:=.node .none `Lean.Parser.Tactic.tacticSeq #[.node .none `Lean.Parser.Tactic.tacticSeq1Indented #[.node .none `null #[.node .none `Lean.Parser.Tactic.assumption #[.atom .none "assumption"]]]]
def tR : Lean.Syntax:=Lean.Unhygienic.run `(Lean.Parser.Tactic.tacticSeq| intros;rfl)
section
variable {a b c d e f g x y : Nat}
private theorem na0 (h : autoParam (a < b) tA) : a ≤ b:=Nat.le_of_lt h
private theorem naa (h : autoParam (a < b) tA) (q : autoParam (b ≤ c) tA) : a < c:=Nat.lt_of_lt_of_le h q
private theorem nac (h : autoParam (a ≤ b) tA) (q : autoParam (b ≤ c) tA) : a ≤ c:=Nat.le_trans h q
private theorem nad (q : b ≤ c) (h : autoParam (a ≤ b) tA) : a ≤ c:=Nat.le_trans h q
private theorem nae (q : b < c) (h : autoParam (a ≤ b) tA) : a < c:=Nat.lt_of_le_of_lt h q
private theorem naf (q : b ≤ c) (h : autoParam (a = b) tA) : a ≤ c:=h ▸ q
private theorem nag (q : b < c) (h : autoParam (a = b) tA) : a < c:=h ▸ q
private theorem na1 (h : autoParam (a - b = c) tA) : a - (b + 1) = c - 1:=h ▸ rfl
private theorem na2 (h : autoParam (a - b = c) tA) (q : autoParam (b < a) tA) : c - 1 < c:=Nat.sub_lt (h ▸ Nat.sub_pos_of_lt q) Nat.zero_lt_one
private theorem na3 (h : autoParam (b < a) tA) : a - b = a - (b + 1) + 1:=(Nat.succ_pred_eq_of_pos (Nat.sub_pos_of_lt h)).symm
private theorem na4 (h : autoParam (0 < a) tA) : a = a - 1 + 1:=(Nat.succ_pred_eq_of_pos h).symm
private theorem na5 (h : autoParam (a - b ≤ c + 1) tA) (q : autoParam (b < d) tA) : a - d ≤ c:=Nat.le_trans (Nat.sub_le_sub_left q a) (Nat.pred_le_pred h)
private theorem na6 (h : autoParam (a - b ≤ c + 1) tA) (q : autoParam (b ≤ d) tA) : a - (d + 1) ≤ c:=na5 h (Nat.lt_succ_of_le q)
private theorem na7 (h : autoParam (a - b ≤ c + 1) tA) (q : autoParam (b ≤ d) tA) (r : autoParam (1 ≤ e) tA) : a - (d + e) ≤ c:=na5 h (Nat.lt_of_le_of_lt q (Nat.lt_add_of_pos_right r))
private theorem na8 (h : autoParam (b < a) tA) : a - (b + 1) < a - b:=Nat.sub_lt_sub_left h (Nat.lt_succ_self b)
private theorem nb3 (h : autoParam (a ≤ c) tA) : a - b ≤ c:=Nat.le_trans (Nat.sub_le _ _) h
private theorem nb4 (h : autoParam (a ≤ b) tA) (q : autoParam (b ≤ c) tA) : c - a = b - a + (c - b):=by rw [Nat.add_comm,Nat.sub_add_sub_cancel q h]
private theorem nb5 (h : autoParam (a ≤ c) tA) : min (a - b) (c - b) = a - b:=Nat.min_eq_left (Nat.sub_le_sub_right h b)
private theorem nb7 (h : a < b) : min a b + 1 + (b - (a + 1)) = b:=by rw [Nat.min_eq_left (Nat.le_of_lt h)];exact Nat.add_sub_cancel' h
private theorem nb9 (h : autoParam (a - b = c + 1) tA) : a - (b + 1) = c:=(na1 h).trans rfl
private theorem nc3 (h : autoParam (0 < a) tA) : a - 1 < a:=Nat.sub_lt h Nat.zero_lt_one
private theorem nc4 (h : autoParam (a ≤ b) tA) : b = a + (b - a):=(Nat.add_sub_cancel' h).symm
private theorem nc5 (h : autoParam (b < a) tA) : a - 1 - b < a:=Nat.lt_of_le_of_lt (Nat.sub_le _ _) (nc3 (Nat.lt_of_le_of_lt (Nat.zero_le _) h))
private theorem nd1 (h : autoParam (b + 1 = a + a) tA) (q : autoParam (2 ≤ b) tA) : a + a - 1 = Nat.succ (b - 1):=h ▸ (Nat.sub_add_cancel (Nat.le_of_lt q)).symm
private theorem nd2 (h : autoParam (a < b) tA) (q : autoParam (b ≤ d) tA) (r : autoParam (d < 5) tA) : min a b + 1 + (b - (a + 1)) ≤ 2 ^ 20:=by
 rw [nb7 h]
 exact Nat.le_trans q (Nat.le_trans (Nat.le_of_lt r) (by decide))
private theorem nd3 (h : autoParam (a < b) tA) (q : autoParam (b ≤ d) tA) (r : autoParam (d < 5) tA) : min a b + 1 ≤ 2 ^ 20:=Nat.le_trans (Nat.le_add_right _ _) (nd2 h q r)
private theorem nd4 (z : e + f ≤ c) (h : autoParam (x ≤ d + a - 1) tA) (p : autoParam (d ≤ e) tA) (q : autoParam (a ≤ f) tA) : x ≤ c:=Nat.le_trans h (Nat.le_trans (Nat.sub_le _ _) (Nat.le_trans (Nat.add_le_add p q) z))
private theorem ne1 (h : autoParam (a < b) tA) (q : autoParam (c = (a + b) / 2) tA) : a ≤ c:=q ▸ (Nat.le_div_iff_mul_le (by decide)).2 (Nat.mul_two a ▸ Nat.add_le_add_left (Nat.le_of_lt h) a)
private theorem ne2 (h : autoParam (a < b) tA) (q : autoParam (c = (a + b) / 2) tA) : c < b:=q ▸ (Nat.div_lt_iff_lt_mul (by decide)).2 (Nat.mul_two b ▸ Nat.add_lt_add_right h b)
private theorem ne3 (h : autoParam (a < b) tA) (q : autoParam (c = (a + b) / 2) tA) : c ≤ b:=Nat.le_of_lt (ne2 h q)
private theorem ne4 (h : autoParam (a < b) tA) (q : autoParam (c = (a + b) / 2) tA) : b - a = c - a + (b - c):=nb4 (ne1 h q) (ne3 h q)
private theorem ne5 (h : autoParam (a < b) tA) (r : autoParam (¬a + 1 = b) tA) (q : autoParam (c = (a + b) / 2) tA) : a < c:=
 q ▸ (Nat.le_div_iff_mul_le (by decide)).2 (by rw [Nat.succ_mul,Nat.mul_two,Nat.add_assoc];exact Nat.add_le_add_left (Nat.lt_of_le_of_ne h r) a)
private theorem ne9 (h : autoParam (a < b) tA) (q : autoParam (c = (a + b) / 2) tA) (r : autoParam (b ≤ d) tA) : b - c + (c - a) ≤ d:=by
 rw [Nat.add_comm,← ne4 h q]
 exact nb3 r
private theorem nf0 : -1 + ((a + 1 : Nat) : Int) = a:=by
 show -1 + ((a : Int) + 1) = a
 rw [Int.add_comm (a : Int) 1,Int.neg_add_cancel_left]
private theorem nf2 (h : autoParam (a - 1 < a) tA) : (0 ≤ -1 + (a : Int) ∧ -1 + (a : Int) < a) ∧ (-1 + (a : Int)).toNat = a - 1:=by
 cases a with
 | zero => cases h
 | succ a =>
  rw [nf0]
  exact ⟨⟨Int.natCast_nonneg a,Int.ofNat_lt.2 h⟩,rfl⟩
private theorem nf4 (p : autoParam (x ≤ a) tA) (q : autoParam (b ≤ x) tA) : a = x - b + (a - x + b):=by rw [Nat.add_comm (a - x) b,← Nat.add_assoc,Nat.sub_add_cancel q,Nat.add_sub_cancel' p]
private theorem nf8 (h : autoParam (a ≤ b * a) tA) (q : autoParam (1 ≤ b) tA) : a + b - 1 ≤ b * a + (b - 1):=Nat.add_sub_assoc q a ▸ Nat.add_le_add_right h _
private theorem ng1 (h : autoParam (a - b = c) tA) (q : autoParam (b < a) tA) : 5 * (c - 1) + 5 + 1 ≤ 5 * c + 2:=(Nat.succ_pred_eq_of_pos (h ▸ Nat.sub_pos_of_lt q : 0 < c)).subst (motive:=fun z => 5 * (c - 1) + 5 + 1 ≤ 5 * z + 2) (Nat.le_succ _)
private theorem ng2 (h : autoParam (a + d ≤ b) tA) : min a b - c = a - c:=by rw [Nat.min_eq_left (Nat.le_trans (Nat.le_add_right _ _) h)]
private theorem ng3 (h : autoParam (a + b - 1 < x + b * 1) tA) : a ≤ x:=Nat.le_of_add_le_add_right (Nat.le_trans (Nat.le_succ_of_pred_le (Nat.le_refl _)) (Nat.mul_one b ▸ h))
private theorem ng4 (h : autoParam (a < b) tA) : a ≤ b - 1:=Nat.le_sub_one_of_lt h
private theorem ng6 (h : autoParam (a ≤ b) tA) (q : autoParam (0 < a) tA) : a - 1 < b:=Nat.lt_of_lt_of_le (nc3 q) h
private theorem nh2 : a + b + (a + b + c - (a + b)) = a + (b + c):=by rw [Nat.add_sub_cancel_left,Nat.add_assoc]
private theorem nh7 (h : autoParam (a + c ≤ b) tA) : min a b + (c + (b - (a + c))) = b:=by rw [Nat.min_eq_left (Nat.le_trans (Nat.le_add_right _ _) h),← Nat.add_assoc,Nat.add_sub_cancel' h]
private theorem nh9 (h : autoParam (b < a) tA) : a - b = a - b - 1 + 1:=na4 (Nat.sub_pos_of_lt h)
private theorem ni1 (h : autoParam (a ≠ 0) tA) : a = a - 1 + 1:=na4 (Nat.pos_of_ne_zero h)
private theorem ni2 (h : autoParam (a ≠ 0) tA) : a - 1 < a:=nc3 (Nat.pos_of_ne_zero h)
private theorem ni3 (h : autoParam (b ≤ c) tA) : min a b ≤ c:=Nat.le_trans (Nat.min_le_right _ _) h
private theorem ni4 (h : autoParam (b - c = a + 1) tA) : a < b:=Nat.le_trans (Nat.le_of_eq h.symm) (Nat.sub_le b c)
private theorem ni5 (h : autoParam (1 ≤ a) tA) : a ≤ a + a - 1:=Nat.le_sub_of_add_le (Nat.add_le_add_left h a)
private theorem ni6 (h : autoParam (c < b) tA) (q : autoParam (x + 1 * b ≤ y) tA) : x + c < y:=Nat.lt_of_lt_of_le (Nat.add_lt_add_left h x) (Nat.one_mul b ▸ q)
private theorem ni7 (h : autoParam (c < b) tA) (q : autoParam (x + 1 * b ≤ y) tA) : c + x < y:=Nat.add_comm .. ▸ ni6 h q
end
section
open PySem PySem.W PySem.Calls PyProof.Rows
private theorem lenS {α : Type} {l : List α} {n : Nat} (h : l.length = n + 1) : ∃ a r,l = a :: r ∧ r.length = n:=by
 cases l with
 | nil => cases h
 | cons a r => exact ⟨a,r,rfl,Nat.succ.inj h⟩
private theorem len1 {α : Type} {l : List α} (h : l.length = 1) : ∃ a,l = [a]:=by
 obtain ⟨a,r,rfl,h2⟩:=lenS h
 cases List.length_eq_zero_iff.mp h2
 exact ⟨a,rfl⟩
private theorem len2 {α : Type} {l : List α} (h : l.length = 2) : ∃ a b,l = [a,b]:=by
 obtain ⟨a,r,rfl,h2⟩:=lenS h
 obtain ⟨b,rfl⟩:=len1 h2
 exact ⟨a,b,rfl⟩
private theorem len3 {α : Type} {l : List α} (h : l.length = 3) : ∃ a b c,l = [a,b,c]:=by
 obtain ⟨a,r,rfl,h2⟩:=lenS h
 obtain ⟨b,c,rfl⟩:=len2 h2
 exact ⟨a,b,c,rfl⟩
private theorem len4 {α : Type} {l : List α} (h : l.length = 4) : ∃ a b c d,l = [a,b,c,d]:=by
 obtain ⟨a,r,rfl,h2⟩:=lenS h
 obtain ⟨b,c,d,rfl⟩:=len3 h2
 exact ⟨a,b,c,d,rfl⟩
private theorem len5 {α : Type} {l : List α} (h : l.length = 5) : ∃ a b c d e,l = [a,b,c,d,e]:=by
 obtain ⟨a,r,rfl,h2⟩:=lenS h
 obtain ⟨b,c,d,e,rfl⟩:=len4 h2
 exact ⟨a,b,c,d,e,rfl⟩
private theorem len6 {α : Type} {l : List α} (h : l.length = 6) : ∃ a b c d e f,l = [a,b,c,d,e,f]:=by
 obtain ⟨a,r,rfl,h2⟩:=lenS h
 obtain ⟨b,c,d,e,f,rfl⟩:=len5 h2
 exact ⟨a,b,c,d,e,f,rfl⟩
inductive PV where
 | none
 | bool (b : Bool)
 | int (i : Int)
 | str (s : PySem.Str)
 | tup (l : List PV)
 | lst (l : List PV)
 | val (v : Value)
inductive SeqAs (h : Heap) (mu : List Addr) (c : String) (S : List Value → Prop) (v : Value) : Prop
 | mk (a : Addr) (vs : List Value) (n : Nat) (e : v = .ref a) (hm : a ∉ mu) (ho : h.get? a = some { cls:=.type c,data:=.seq (List.toArray vs) n }) (hs : S vs) : SeqAs h mu c S v
inductive ConsAs (S : Value → Prop) (R : List Value → Prop) (vs : List Value) : Prop
 | mk (v : Value) (r : List Value) (e : vs = v :: r) (x : S v) (y : R r) : ConsAs S R vs
mutual
noncomputable def Sim (h : Heap) (mu : List Addr) : PV → Value → Prop
 | .none,v => v = .none
 | .bool b,v => v = .bool b
 | .int i,v => ∃ t,v = .int i t
 | .str x,v => ∃ t,v = .str x t
 | .tup l,v => SeqAs h mu "tuple" (fun vs => Sims h mu l vs) v
 | .lst l,v => SeqAs h mu "list" (fun vs => Sims h mu l vs) v
 | .val c,v => v = c
noncomputable def Sims (h : Heap) (mu : List Addr) : List PV → List Value → Prop
 | [],vs => vs = []
 | p :: ps,vs => ConsAs (fun v => Sim h mu p v) (fun r => Sims h mu ps r) vs
end
mutual
private theorem Sim.keeps {h h' : Heap} {mu mu' : List Addr} (hm : ∀ a o,a ∉ mu → h.get? a = some o → a ∉ mu') (k : ∀ a o,a ∉ mu → (o.cls = .type "list" ∨ o.cls = .type "tuple") → h.get? a = some o → h'.get? a = some o) :
  ∀ {p : PV} {v : Value},Sim h mu p v → Sim h' mu' p v
 | .none,_,x => x
 | .bool _,_,x => x
 | .int _,_,x => x
 | .str _,_,x => x
 | .val _,_,x => x
 | .tup l,_,⟨a,vs,n,e,ha,ho,hs⟩ => ⟨a,vs,n,e,hm a _ ha ho,k a _ ha (.inr rfl) ho,Sims.keeps hm k hs⟩
 | .lst l,_,⟨a,vs,n,e,ha,ho,hs⟩ => ⟨a,vs,n,e,hm a _ ha ho,k a _ ha (.inl rfl) ho,Sims.keeps hm k hs⟩
private theorem Sims.keeps {h h' : Heap} {mu mu' : List Addr} (hm : ∀ a o,a ∉ mu → h.get? a = some o → a ∉ mu') (k : ∀ a o,a ∉ mu → (o.cls = .type "list" ∨ o.cls = .type "tuple") → h.get? a = some o → h'.get? a = some o) :
  ∀ {l : List PV} {vs : List Value},Sims h mu l vs → Sims h' mu' l vs
 | [],_,x => x
 | _ :: _,_,⟨v,r,e,x,y⟩ => ⟨v,r,e,Sim.keeps hm k x,Sims.keeps hm k y⟩
end
private theorem Sims.length {h : Heap} {mu : List Addr} : ∀ {l : List PV} {vs : List Value},Sims h mu l vs → vs.length = l.length
 | [],_,x => by cases x;rfl
 | _ :: _,_,⟨_,_,e,_,y⟩ => by subst e;simp [Sims.length y]
private theorem Sims.get {h : Heap} {mu : List Addr} : ∀ {l : List PV} {vs : List Value},Sims h mu l vs → ∀ (i : Nat) (p : PV),l[i]? = some p → ∃ v,vs[i]? = some v ∧ Sim h mu p v
 | [],_,_,i,p,e => by simp at e
 | q :: l,_,⟨v,r,e,x,y⟩,i,p,hi => by
  subst e
  cases i with
  | zero => simp at hi;subst hi;exact ⟨v,by simp,x⟩
  | succ i => simp at hi ⊢;exact Sims.get y i p hi
private theorem Sims.nil {h : Heap} {mu : List Addr} : Sims h mu [] []:=rfl
private theorem Sims.cons {h : Heap} {mu : List Addr} {p : PV} {l : List PV} {v : Value} {vs : List Value} (x : Sim h mu p v) (y : Sims h mu l vs) : Sims h mu (p :: l) (v :: vs):=⟨v,vs,rfl,x,y⟩
private theorem Sims.append {h : Heap} {mu : List Addr} : ∀ {l l' : List PV} {vs vs' : List Value},Sims h mu l vs → Sims h mu l' vs' → Sims h mu (l ++ l') (vs ++ vs')
 | [],_,_,_,x,y => by cases x;exact y
 | _ :: _,_,_,_,⟨v,r,e,x,y⟩,z => by subst e;exact ⟨v,_,rfl,x,Sims.append y z⟩
private theorem Sims.take {h : Heap} {mu : List Addr} : ∀ (k : Nat) {l : List PV} {vs : List Value},Sims h mu l vs → Sims h mu (l.take k) (vs.take k)
 | 0,_,_,_ => rfl
 | _ + 1,[],_,x => by cases x;rfl
 | k + 1,_ :: _,_,⟨v,r,e,x,y⟩ => by subst e;exact ⟨v,_,rfl,x,Sims.take k y⟩
private theorem Sims.drop {h : Heap} {mu : List Addr} : ∀ (k : Nat) {l : List PV} {vs : List Value},Sims h mu l vs → Sims h mu (l.drop k) (vs.drop k)
 | 0,_,_,x => x
 | _ + 1,[],_,x => by cases x;rfl
 | k + 1,_ :: _,_,⟨v,r,e,x,y⟩ => by subst e;exact Sims.drop k y
noncomputable def TabOk (mu : List Addr) (h : Heap) (P : Addr) (q : PySem.Str) : Prop:=
 ∃ ps,h.get? P = some (tabObj ps) ∧ TriplesOk ps.toList ∧ ∀ pos c',codeAmong pos ps.toList = some c' → ∃ c,c' = .ref c ∧ c ∉ mu ∧ h.CodeRec c' q
structure Cfg where
 H : Heap
 T : List (Addr × Addr × PySem.Str)
 os : OsState
 K : Frag
 mg : PySem.Str → Option Value
noncomputable def Cfg.tabs (C : Cfg) : List Addr:=C.T.map (·.2.1)
structure Ok (C : Cfg) (mu : List Addr) (s : Shared) : Prop where
 old : ∀ b o,C.H.get? b = some o → b ∉ C.tabs → s.heap.get? b = some o
 tab : ∀ x ∈ C.T,TabOk mu s.heap x.2.1 x.2.2
 code : ∀ x ∈ C.T,CodeHd C.H x.1 x.2.1 ∧ x.1 ∉ C.tabs ∧ ∃ o,C.H.get? x.2.1 = some o
 live : ∀ a ∈ mu,C.H.get? a = none ∧ ∃ o,s.heap.get? a = some o
 gens : AllBare s.gens
 os : s.os = C.os
 kin : C.K.In C.H
 kt : ∀ a ∈ C.tabs,C.K.lookup a = none
 lim : C.H.NoLimit ∧ cStatics ∉ C.tabs
 glob : C.H.Ns mainGlobals C.mg ∧ mainGlobals ∉ C.tabs
 bmod : ∃ bm ob,C.mg "__builtins__" = some (.ref bm) ∧ bm ≠ builtinsNs ∧ bm ≠ mainGlobals ∧ bm ∉ C.tabs ∧ C.H.get? bm = some ob ∧ ob.cls = .type "module" ∧ ob.dict = some builtinsNs ∧ ob.data = .plain
structure Kp (C : Cfg) (mu : List Addr) (s s' : Shared) : Prop where
 keep : ∀ b o,b ∉ mu → b ∉ C.tabs → s.heap.get? b = some o → s'.heap.get? b = some o
section
variable {C : Cfg} {mu mu' : List Addr} {s s' s'' : Shared}
private theorem Kp.refl : Kp C mu s s:=⟨fun _ _ _ _ e => e⟩
private theorem Kp.trans (x : Kp C mu s s') (y : Kp C mu s' s'') : Kp C mu s s'':=⟨fun b o h1 h2 e => y.keep b o h1 h2 (x.keep b o h1 h2 e)⟩
private theorem Kp.mono (x : Kp C mu s s') (h : ∀ a ∈ mu,a ∈ mu') : Kp C mu' s s':=⟨fun b o h1 h2 e => x.keep b o (fun q => h1 (h b q)) h2 e⟩
private theorem Kp.of_keep {h' : Heap} {tk : Nat} (k : ∀ b o,s.heap.get? b = some o → h'.get? b = some o) : Kp C mu s { s with heap:=h',toks:=tk }:=⟨fun b o _ _ e => k b o e⟩
private theorem Ok.notTab (O : Ok C mu s) {a : Addr} (ha : a ∈ mu) : a ∉ C.tabs:=fun q => by
 obtain ⟨x,hx,rfl⟩:=List.mem_map.mp q
 obtain ⟨o,this⟩:=(O.code x hx).2.2
 rw [(O.live _ ha).1] at this;cases this
private theorem Ok.sub (O : Ok C mu s) (h : ∀ a ∈ mu',a ∈ mu) : Ok C mu' s:=
 ⟨O.old,fun x hx => let ⟨ps,a,b,c⟩:=O.tab x hx;⟨ps,a,b,fun pos c' e => let ⟨d,e1,e2,e3⟩:=c pos c' e;⟨d,e1,fun q => e2 (h _ q),e3⟩⟩,O.code,fun a ha => O.live a (h a ha),O.gens,O.os,O.kin,O.kt,O.lim,O.glob,O.bmod⟩
private theorem Ok.step {h' : Heap} {tk : Nat} (O : Ok C mu s) (k : ∀ b o,b ∉ mu → s.heap.get? b = some o → h'.get? b = some o) (hm : ∀ a ∈ mu,∃ o,h'.get? a = some o) : Ok C mu { s with heap:=h',toks:=tk } where
 old:=fun b o e ht => k b o (fun q => by rw [(O.live b q).1] at e;cases e) (O.old b o e ht)
 tab:=fun x hx => by
  obtain ⟨ps,a,b,c⟩:=O.tab x hx
  have hP : x.2.1 ∉ mu:=fun q => O.notTab q (List.mem_map_of_mem hx)
  refine ⟨ps,k _ _ hP a,b,fun pos c' e => ?_⟩
  obtain ⟨d,e1,e2,e3⟩:=c pos c' e
  refine ⟨d,e1,e2,?_⟩
  obtain ⟨c₁,o,vs,t,f1,f2,f3⟩:=e3
  subst e1
  cases f1
  exact ⟨_,o,vs,t,rfl,k _ _ e2 f2,f3⟩
 code:=O.code
 live:=fun a ha => ⟨(O.live a ha).1,hm a ha⟩
 gens:=O.gens
 os:=O.os
 kin:=O.kin
 kt:=O.kt
 lim:=O.lim
 glob:=O.glob
 bmod:=O.bmod
private theorem Ok.tok {tk : Nat} (O : Ok C mu s) : Ok C mu { s with toks:=tk }:=O.step (h':=s.heap) (fun _ _ _ e => e) fun a ha => (O.live a ha).2
private theorem Ok.keep {h' : Heap} {tk : Nat} (O : Ok C mu s) (k : ∀ b o,s.heap.get? b = some o → h'.get? b = some o) : Ok C mu { s with heap:=h',toks:=tk }:=
 O.step (fun b o _ e => k b o e) fun a ha => let ⟨o,e⟩:=(O.live a ha).2;⟨o,k a o e⟩
private theorem Ok.push {o : Obj} {tk : Nat} (O : Ok C mu s) : Ok C mu { s with heap:=s.heap.push o,toks:=tk }:=O.keep fun _ _ e => Heap.get?_push_of_some o e
private theorem Ok.add {a : Addr} (O : Ok C mu s) (hn : C.H.get? a = none) {o : Obj} (ha : s.heap.get? a = some o) (hc : ∀ x ∈ C.T,∀ ps,s.heap.get? x.2.1 = some (tabObj ps) → ∀ pos c',codeAmong pos ps.toList = some c' → c' ≠ .ref a) : Ok C (a :: mu) s where
 old:=O.old
 tab:=fun x hx => by
  obtain ⟨ps,h1,h2,h3⟩:=O.tab x hx
  refine ⟨ps,h1,h2,fun pos c' e => ?_⟩
  obtain ⟨d,e1,e2,e3⟩:=h3 pos c' e
  refine ⟨d,e1,fun q => ?_,e3⟩
  rcases List.mem_cons.mp q with rfl | q
  ·exact hc x hx ps h1 pos c' e e1
  ·exact e2 q
 code:=O.code
 live:=fun b hb => by
  rcases List.mem_cons.mp hb with rfl | hb
  ·exact ⟨hn,o,ha⟩
  ·exact O.live b hb
 gens:=O.gens
 os:=O.os
 kin:=O.kin
 kt:=O.kt
 lim:=O.lim
 glob:=O.glob
 bmod:=O.bmod
private theorem Ok.fresh {a : Addr} {h' : Heap} {tk : Nat} {o : Obj} (O : Ok C mu s) (ha : s.heap.get? a = none) (ho : h'.get? a = some o) (k : ∀ b o,s.heap.get? b = some o → h'.get? b = some o) (hT : a ∉ C.tabs) : Ok C (a :: mu) { s with heap:=h',toks:=tk }:=by
 refine (O.keep (tk:=tk) k).add ?_ ho ?_
 ·cases q : C.H.get? a with
  | none => rfl
  | some x => rw [O.old a x q hT] at ha;cases ha
 ·intro x hx ps hps pos c' e q
  subst q
  obtain ⟨ps',h1,h2,h3⟩:=O.tab x hx
  have:=k _ _ h1
  have e' : tabObj ps' = tabObj ps:=Option.some.inj (this.symm.trans hps)
  have : ps' = ps:=by injection e' with _ _ e3;injection e3
  subst this
  obtain ⟨d,e1,_,e3⟩:=h3 pos _ e
  cases e1
  obtain ⟨c₁,o₁,_,_,f1,f2,_⟩:=e3
  cases f1
  rw [f2] at ha;cases ha
private theorem Ok.tabAlive (O : Ok C mu s) {P : Addr} (h : P ∈ C.tabs) : ∃ o,s.heap.get? P = some o:=by
 obtain ⟨x,hx,rfl⟩:=List.mem_map.mp h
 obtain ⟨ps,e,_⟩:=O.tab x hx
 exact ⟨_,e⟩
private theorem Ok.fresh' {a : Addr} (O : Ok C mu s) (ha : s.heap.get? a = none) : a ∉ C.tabs ∧ a ∉ mu:=by
 constructor
 ·intro q
  obtain ⟨o,e⟩:=O.tabAlive q
  rw [ha] at e;cases e
 ·intro q
  obtain ⟨o,e⟩:=(O.live a q).2
  rw [ha] at e;cases e
private theorem Ok.K (O : Ok C mu s) : C.K.In s.heap:=fun a o e => O.old a o (O.kin a o e) fun q => by rw [O.kt a q] at e;cases e
private theorem Ok.nolimit (O : Ok C mu s) : s.heap.NoLimit:=by
 obtain ⟨mc,⟨o,es,ep,ho,r⟩,h⟩:=O.lim.1
 exact ⟨mc,⟨o,es,ep,O.old _ _ ho O.lim.2,r⟩,h⟩
private theorem Ok.globals (O : Ok C mu s) : s.heap.Ns mainGlobals C.mg:=by
 obtain ⟨⟨o,es,ep,ho,r⟩,h⟩:=O.glob
 exact ⟨o,es,ep,O.old _ _ ho h,r⟩
private theorem Ok.builtinsAt (O : Ok C mu s) {P : Addr} (hP : P ∈ C.tabs) : s.heap.BuiltinsAt C.mg P:=by
 obtain ⟨bm,ob,h1,h2,h3,h4,h5,h6⟩:=O.bmod
 exact ⟨bm,ob,h1,h2,h3,fun q => h4 (q ▸ hP),O.old _ _ h5 h4,h6⟩
private theorem Ok.size_none (s : Shared) : s.heap.get? s.heap.objs.size = none:=by
 cases q : s.heap.get? s.heap.objs.size with
 | none => rfl
 | some o => exact absurd (Heap.lt_size q) (Nat.lt_irrefl _)
private theorem Ok.seqNotTab (O : Ok C mu s) {a : Addr} {o : Obj} (h : o.cls = .type "list" ∨ o.cls = .type "tuple") (e : s.heap.get? a = some o) : a ∉ C.tabs:=fun q => by
 obtain ⟨x,hx,rfl⟩:=List.mem_map.mp q
 obtain ⟨ps,e',_⟩:=O.tab x hx
 rw [e] at e'
 cases e'
 rcases h with h | h <;> cases h
private theorem Sim.kp {p : PV} {v : Value} {nu : List Addr} (O : Ok C mu s) (hmu : ∀ a ∈ nu,a ∈ mu') (x : Sim s.heap mu' p v) (k : Kp C nu s s') : Sim s'.heap mu' p v:=
 x.keeps (fun _ _ h _ => h) fun a o h hc e => k.keep a o (fun q => h (hmu a q)) (O.seqNotTab hc e) e
private theorem Sims.kp {p : List PV} {v : List Value} {nu : List Addr} (O : Ok C mu s) (hmu : ∀ a ∈ nu,a ∈ mu') (x : Sims s.heap mu' p v) (k : Kp C nu s s') : Sims s'.heap mu' p v:=
 x.keeps (fun _ _ h _ => h) fun a o h hc e => k.keep a o (fun q => h (hmu a q)) (O.seqNotTab hc e) e
private theorem Sim.kp0 {p : PV} {v : Value} (O : Ok C mu s) (x : Sim s.heap mu' p v) (k : Kp C [] s s') : Sim s'.heap mu' p v:=x.kp (nu:=[]) O (fun _ h => nomatch h) k
private theorem Sims.kp0 {p : List PV} {v : List Value} (O : Ok C mu s) (x : Sims s.heap mu' p v) (k : Kp C [] s s') : Sims s'.heap mu' p v:=x.kp (nu:=[]) O (fun _ h => nomatch h) k
private theorem Sim.new {p : PV} {v : Value} {a : Addr} {h : Heap} (x : Sim h mu p v) (ha : h.get? a = none) : Sim h (a :: mu) p v:=
 x.keeps (fun b o hb e q => by rcases List.mem_cons.mp q with rfl | q;(rw [ha] at e;cases e);exact hb q) fun _ _ _ _ e => e
private theorem Sims.new {p : List PV} {v : List Value} {a : Addr} {h : Heap} (x : Sims h mu p v) (ha : h.get? a = none) : Sims h (a :: mu) p v:=
 x.keeps (fun b o hb e q => by rcases List.mem_cons.mp q with rfl | q;(rw [ha] at e;cases e);exact hb q) fun _ _ _ _ e => e
private theorem Sim.sub {p : PV} {v : Value} {h : Heap} (x : Sim h mu p v) (hm : ∀ a ∈ mu',a ∈ mu) : Sim h mu' p v:=x.keeps (fun b o hb _ q => hb (hm b q)) fun _ _ _ _ e => e
private theorem Sims.sub {p : List PV} {v : List Value} {h : Heap} (x : Sims h mu p v) (hm : ∀ a ∈ mu',a ∈ mu) : Sims h mu' p v:=x.keeps (fun b o hb _ q => hb (hm b q)) fun _ _ _ _ e => e
end
end
section
open PySem PySem.W PySem.Calls PyProof.Rows
variable {prog : Program} {w : World}
inductive MO where
 | seq (c : Value) (d : Option Addr) (l : List PV)
 | raw (o : Obj)
inductive MSeq (mu : List Addr) (h : Heap) (a : Addr) (c : Value) (d : Option Addr) (l : List PV) : Prop
 | mk (vs : List Value) (n : Nat) (e : h.get? a = some { cls:=c,dict:=d,data:=.seq (List.toArray vs) n }) (y : Sims h mu l vs) : MSeq mu h a c d l
noncomputable def MOAt (mu : List Addr) (h : Heap) (a : Addr) : MO → Prop
 | .seq c d l => MSeq mu h a c d l
 | .raw o => h.get? a = some o
private theorem MOAt.keeps {h h' : Heap} {mu mu' : List Addr} {a : Addr} {m : MO} (x : MOAt mu h a m) (ha : ∀ o,h.get? a = some o → h'.get? a = some o) (hm : ∀ a o,a ∉ mu → h.get? a = some o → a ∉ mu') (k : ∀ a o,a ∉ mu → (o.cls = .type "list" ∨ o.cls = .type "tuple") → h.get? a = some o → h'.get? a = some o) : MOAt mu' h' a m:=by
 cases m with
 | seq c d l => obtain ⟨vs,n,e,y⟩:=x;exact ⟨vs,n,ha _ e,y.keeps hm k⟩
 | raw o => exact ha _ x
noncomputable abbrev q0i (env : Env) : List Addr:=env.locals :: env.cells.map (·.2)
structure Act (env : Env) (mu : List Addr) (h : Heap) (ρ : List (PySem.Str × PV)) (σ : List (Addr × MO)) : Prop where
 st : ∀ a m,σ.lookup a = some m → a ∈ mu ∧ a ∉ q0i env ∧ MOAt mu h a m
 kind : env.scope.kind = .function
 gl : env.globals = mainGlobals
 bi : env.builtins = builtinsNs
 loc : env.locals ∈ mu
 ns : ∃ m,h.Ns env.locals m ∧ ∀ x p,ρ.lookup x = some p → env.kindOf x = some .local → ∃ v,m x = some v ∧ Sim h mu p v
 kinds : ∀ x p,ρ.lookup x = some p → env.kindOf x = some .local ∨ ((env.kindOf x = some .cell ∨ env.kindOf x = some .free) ∧ ∃ c,env.cells.lookup x = some c)
 cell : ∀ x c,x ≠ ("__class__" : PySem.Str) → env.kindOf x ≠ some .local → env.cells.lookup x = some c → c ∈ mu ∧ c ≠ env.locals ∧ ∃ ov,h.IsCell c ov ∧ ∀ p,ρ.lookup x = some p → ∃ v,ov = some v ∧ Sim h mu p v
 plain : ∀ x p,ρ.lookup x = some p → x ≠ ("__class__" : PySem.Str) ∧ (x == ("__classdict__" : PySem.Str)) = false
 inj : ∀ x y c,env.cells.lookup x = some c → env.cells.lookup y = some c → x = y
noncomputable def Pur (prog : Program) (w : World) (C : Cfg) (mu : List Addr) (A : Around) (t : Sem Value) (p : PV) (s : Shared) : Prop:=
 ∀ (Q : Value → Shared → Prop) (E : Value → Shared → Prop),(∀ v s',Ok C mu s' → Kp C [] s s' → Sim s'.heap mu p v → Q v s') → wpAny (model prog w) A t Q E s
noncomputable def PurT (prog : Program) (w : World) (C : Cfg) (mu : List Addr) (A : Around) (t : Sem Bool) (b : Bool) (s : Shared) : Prop:=
 ∀ (Q : Bool → Shared → Prop) (E : Value → Shared → Prop),(∀ s',Ok C mu s' → Kp C [] s s' → Q b s') → wpAny (model prog w) A t Q E s
noncomputable def Purs (prog : Program) (w : World) (C : Cfg) (mu : List Addr) (A : Around) (t : Sem (List Value)) (p : List PV) (s : Shared) : Prop:=
 ∀ (Q : List Value → Shared → Prop) (E : Value → Shared → Prop),(∀ v s',Ok C mu s' → Kp C [] s s' → Sims s'.heap mu p v → Q v s') → wpAny (model prog w) A t Q E s
noncomputable def PurE (prog : Program) (w : World) (C : Cfg) (mu : List Addr) (A : Around) (env : Env) (ρ : List (PySem.Str × PV)) (σ : List (Addr × MO)) (e : Expr) (p : PV) : Prop:=
 ∀ s,Ok C mu s → Act env mu s.heap ρ σ → Pur prog w C mu A (eval e env) p s
noncomputable def PurEs (prog : Program) (w : World) (C : Cfg) (mu : List Addr) (A : Around) (env : Env) (ρ : List (PySem.Str × PV)) (σ : List (Addr × MO)) (es : List Expr) (ps : List PV) : Prop:=
 ∀ pos s,Ok C mu s → Act env mu s.heap ρ σ → Purs prog w C mu A (spliced (backTo pos (starEach es env))) ps s
noncomputable def PurB (prog : Program) (w : World) (C : Cfg) (mu : List Addr) (A : Around) (env : Env) (ρ : List (PySem.Str × PV)) (σ : List (Addr × MO)) (e : Expr) (b : Bool) : Prop:=
 ∀ s,Ok C mu s → Act env mu s.heap ρ σ → PurT prog w C mu A (isTrue e env (eval e env)) b s
noncomputable def Op1 (prog : Program) (w : World) (C : Cfg) (mu : List Addr) (A : Around) (f : Value → Sem Value) (p z : PV) : Prop:=
 ∀ s a,Ok C mu s → Sim s.heap mu p a → Pur prog w C mu A (f a) z s
noncomputable def Op2 (prog : Program) (w : World) (C : Cfg) (mu : List Addr) (A : Around) (f : Value → Value → Sem Value) (p q z : PV) : Prop:=
 ∀ s a b,Ok C mu s → Sim s.heap mu p a → Sim s.heap mu q b → Pur prog w C mu A (f a b) z s
noncomputable def OpL (prog : Program) (w : World) (C : Cfg) (mu : List Addr) (A : Around) (f : List Value → Sem Value) (ps : List PV) (z : PV) : Prop:=
 ∀ s vs,Ok C mu s → Sims s.heap mu ps vs → Pur prog w C mu A (f vs) z s
noncomputable def OpT (prog : Program) (w : World) (C : Cfg) (mu : List Addr) (A : Around) (p : PV) (b : Bool) : Prop:=
 ∀ s a,Ok C mu s → Sim s.heap mu p a → PurT prog w C mu A (truthy a) b s
section
variable {C : Cfg} {mu : List Addr} {s s' : Shared} {env : Env} {ρ : List (PySem.Str × PV)} {σ : List (Addr × MO)} {A : Around}
private theorem Act.kp (a : Act env mu s.heap ρ σ) (O : Ok C mu s) (k : Kp C [] s s') : Act env mu s'.heap ρ σ where
 st:=fun b m e => by
  obtain ⟨h1,h2,h3⟩:=a.st b m e
  exact ⟨h1,h2,h3.keeps (fun o e => k.keep b o (fun h => nomatch h) (O.notTab h1) e) (fun _ _ h _ => h) fun c o _ hc e => k.keep c o (fun h => nomatch h) (O.seqNotTab hc e) e⟩
 kind:=a.kind
 gl:=a.gl
 bi:=a.bi
 loc:=a.loc
 ns:=by
  obtain ⟨m,hn,hv⟩:=a.ns
  refine ⟨m,?_,fun x p h1 h2 => let ⟨v,e,y⟩:=hv x p h1 h2;⟨v,e,y.kp0 O k⟩⟩
  obtain ⟨o,es,ep,ho,r⟩:=hn
  exact ⟨o,es,ep,k.keep _ _ (fun h => nomatch h) (O.notTab a.loc) ho,r⟩
 kinds:=a.kinds
 cell:=fun x c hx hl hc => by
  obtain ⟨h1,h2,ov,⟨o,ho,hd⟩,h4⟩:=a.cell x c hx hl hc
  exact ⟨h1,h2,ov,⟨o,k.keep _ _ (fun h => nomatch h) (O.notTab h1) ho,hd⟩,fun p hp => let ⟨v,e,y⟩:=h4 p hp;⟨v,e,y.kp0 O k⟩⟩
 plain:=a.plain
 inj:=a.inj
private theorem Pur.mk {t : Sem Value} {p : PV} (h : ∀ (Q : Value → Shared → Prop) (E : Value → Shared → Prop),(∀ v s',Ok C mu s' → Kp C [] s s' → Sim s'.heap mu p v → Q v s') → wpAny (model prog w) A t Q E s) : Pur prog w C mu A t p s:=h
private theorem Pur.here {t : Sem Value} {p : PV} (O : Ok C mu s) (h : ∀ (Q : Value → Shared → Prop) (E : Value → Shared → Prop),(∀ v tk,Sim s.heap mu p v → Q v { s with toks:=tk }) → wpAny (model prog w) A t Q E s) : Pur prog w C mu A t p s:=
 fun Q E k => h Q E fun v tk hv => k v _ O.tok ⟨fun _ _ _ _ e => e⟩ hv
private theorem Pur.newSeq {t : Sem Value} {ps : List PV} {tuple : Bool} (O : Ok C mu s) (h : ∀ (Q : Value → Shared → Prop) (E : Value → Shared → Prop),
   (∀ vs (n : Nat) tk h',Sims s.heap mu ps vs → (∀ b o,s.heap.get? b = some o → h'.get? b = some o) → ∀ a,s.heap.get? a = none → h'.get? a = some { cls:=.type (if tuple then "tuple" else "list"),data:=.seq (List.toArray vs) n } → Q (.ref a) { s with heap:=h',toks:=tk }) → wpAny (model prog w) A t Q E s) :
  Pur prog w C mu A t (if tuple then .tup ps else .lst ps) s:=
 fun Q E k => h Q E fun vs n tk h' hv hk a ha ho => by
  refine k _ _ (O.keep hk) (Kp.of_keep hk) ?_
  have hs : Sims h' mu ps vs:=hv.keeps (fun _ _ x _ => x) fun b o _ _ e => hk b o e
  cases tuple
  ·exact ⟨a,vs,n,rfl,(O.fresh' ha).2,ho,hs⟩
  ·exact ⟨a,vs,n,rfl,(O.fresh' ha).2,ho,hs⟩
private theorem q0b {x : PySem.Str} {p : PV} {pos : Pos} (h : ρ.lookup x = some p) (hd : autoParam ((x == ("__debug__" : PySem.Str)) = false) tR) : PurE prog w C mu A env ρ σ (.Name x pos) p:=fun s O a => by
 refine Pur.here O fun Q E k => wpAny_Name ?_ hd
 rcases a.kinds x p h with hl | ⟨hl,c,hc⟩
 ·obtain ⟨m,hn,hv⟩:=a.ns
  obtain ⟨v,e,y⟩:=hv x p h hl
  exact wpAny_loadName_local a.kind hl hn e (k v s.toks y)
 ·obtain ⟨hx,hx2⟩:=a.plain x p h
  obtain ⟨_,_,ov,hcell,hp⟩:=a.cell x c hx (by rcases hl with hl | hl <;> rw [hl] <;> nofun) hc
  obtain ⟨v,rfl,y⟩:=hp p h
  rcases hl with hl | hl
  ·exact wpAny_loadName_cell a.kind hl hc hcell (k v s.toks y)
  ·exact wpAny_loadName_free a.kind hl hc hcell (k v s.toks y) hx2
private theorem q3n {x : PySem.Str} {v : Value} {Q : Value → Shared → Prop} {E : Value → Shared → Prop} (O : Ok C mu s) (hk : env.scope.kind = .function) (hg : env.globals = mainGlobals) (hb : env.builtins = builtinsNs)
  (hl : env.kindOf x = some .globalImplicit) (hv : nsIn C.K mainGlobals x = some (some v) ∨ (nsIn C.K mainGlobals x = some none ∧ nsIn C.K builtinsNs x = some (some v))) (h : Q v s) : wpAny (model prog w) A (loadName env x) Q E s:=by
 have e : loadName env x = loadGlobal env x:=by
  unfold loadName Env.blockKind
  rw [hk,hl]
  rfl
 rw [e]
 unfold loadGlobal
 rw [hg,hb]
 rcases hv with hv | ⟨h1,h2⟩
 ·exact wpAny_bind ((looks_nsIn O.K hv).here (wpAny_pure h))
 ·exact wpAny_bind ((looks_nsIn O.K h1).here (wpAny_bind ((looks_nsIn O.K h2).here (wpAny_pure h))))
private theorem pur_glob {x : PySem.Str} {v : Value} {pos : Pos} (hl : env.kindOf x = some .globalImplicit) (hv : nsIn C.K mainGlobals x = some (some v) ∨ (nsIn C.K mainGlobals x = some none ∧ nsIn C.K builtinsNs x = some (some v)))
  (hd : autoParam ((x == ("__debug__" : PySem.Str)) = false) tR) : PurE prog w C mu A env ρ σ (.Name x pos) (.val v):=fun s O a =>
 Pur.here O fun Q E k => wpAny_Name (q3n O a.kind a.gl a.bi hl hv (k v s.toks rfl)) hd
private theorem q0k {i : Int} {n : Nat} {pos : Pos} : PurE prog w C mu A env ρ σ (.Constant (.int i) n pos) (.int i):=fun s O a => Pur.here O fun Q E k => wpAny_Constant_int (k _ _ ⟨_,rfl⟩)
private theorem q0r {i : Nat} {n : Nat} {pos : Pos} : PurE prog w C mu A env ρ σ (.Constant (.int (Int.ofNat i)) n pos) (.int (@OfNat.ofNat Int i (@instOfNat i))):=q0k (i:=Int.ofNat i)
private theorem q2t {x : PySem.Str} {n : Nat} {pos : Pos} : PurE prog w C mu A env ρ σ (.Constant (.str x) n pos) (.str x):=fun s O a => Pur.here O fun Q E k => Constant_str (k _ _ ⟨_,rfl⟩)
private theorem w2f {n : Nat} {pos : Pos} : PurE prog w C mu A env ρ σ (.Constant .none n pos) .none:=fun s O a => Pur.here O fun Q E k => wpAny_pure (k .none s.toks rfl)
private theorem w2g {b : Bool} {n : Nat} {pos : Pos} : PurE prog w C mu A env ρ σ (.Constant (.bool b) n pos) (.bool b):=fun s O a => Pur.here O fun Q E k => wpAny_pure (k (.bool b) s.toks rfl)
private theorem q0l {l r : Expr} {op : Operator} {pos : Pos} {p q z : PV} (hl : PurE prog w C mu A env ρ σ l p) (hr : PurE prog w C mu A env ρ σ r q)
  (ho : Op2 prog w C mu A (binaryOp op) p q z) : PurE prog w C mu A env ρ σ (.BinOp l op r pos) z:=fun s O a Q E k =>
 wpAny_BinOp (hl s O a _ _ fun v s₁ O₁ k₁ y₁ => hr s₁ O₁ (a.kp O k₁) _ _ fun u s₂ O₂ k₂ y₂ => ho s₂ v u O₂ (y₁.kp0 O₁ k₂) y₂ _ _ fun v' s' O' k' y' => k v' s' O' ((k₁.trans k₂).trans k') y')
private theorem q3k {x : Expr} {op : UnaryOp} {pos : Pos} {p z : PV} (hl : PurE prog w C mu A env ρ σ x p) (ho : Op1 prog w C mu A (unaryOp op) p z) : PurE prog w C mu A env ρ σ (.UnaryOp op x pos) z:=fun s O a Q E k => by
 show wpAny _ _ (do let v ← eval x env;standAt pos;holding [v] (unaryOp op v)) _ _ _
 exact wpAny_bind (hl s O a _ _ fun v s₁ O₁ k₁ y₁ => wpAny_bind (wpAny_standAt (wpAny_holding (ho s₁ v O₁ y₁ _ _ fun v' s' O' k' y' => k v' s' O' (k₁.trans k') y'))))
private theorem q4f {l r : Expr} {op : CmpOp} {pos : Pos} {p q z : PV} (hl : PurE prog w C mu A env ρ σ l p) (hr : PurE prog w C mu A env ρ σ r q)
  (ho : Op2 prog w C mu A (compareOp op) p q z) (hm : autoParam (behindInMarks op r = false) tR) : PurE prog w C mu A env ρ σ (.Compare l [op] [r] pos) z:=fun s O a Q E k =>
 wpAny_Compare1 (hl s O a _ _ fun v s₁ O₁ k₁ y₁ => hr s₁ O₁ (a.kp O k₁) _ _ fun u s₂ O₂ k₂ y₂ => ho s₂ v u O₂ (y₁.kp0 O₁ k₂) y₂ _ _ fun v' s' O' k' y' => k v' s' O' ((k₁.trans k₂).trans k') y') hm
private theorem q0g {l r : Expr} {op : CmpOp} {pos : Pos} {p q : PV} {b : Bool} (hl : PurE prog w C mu A env ρ σ l p) (hr : PurE prog w C mu A env ρ σ r q)
  (ho : Op2 prog w C mu A (compareOp op) p q (.bool b)) (hm : autoParam (behindInMarks op r = false) tR) : PurB prog w C mu A env ρ σ (.Compare l [op] [r] pos) b:=fun s O a Q E k =>
 wpAny_isTrue_Compare1 (hl s O a _ _ fun v s₁ O₁ k₁ y₁ => hr s₁ O₁ (a.kp O k₁) _ _ fun u s₂ O₂ k₂ y₂ => ho s₂ v u O₂ (y₁.kp0 O₁ k₂) y₂ _ _ fun v' s' O' k' y' => by
  cases (show v' = .bool b from y')
  exact wpAny_truthy_bool (k s' O' ((k₁.trans k₂).trans k'))) hm
private theorem w7o {x : Expr} {pos : Pos} {b : Bool} (h : PurB prog w C mu A env ρ σ x b) : PurB prog w C mu A env ρ σ (.UnaryOp .Not x pos) (!b):=fun s O a Q E k => isTrue_not (h s O a _ _ k)
private theorem q1h {e : Expr} {p : PV} {b : Bool} (h : PurE prog w C mu A env ρ σ e p) (ht : OpT prog w C mu A p b)
  (he : autoParam (∀ whole,PySem.isTrue e env whole = (do let v ← whole;standAt e.pos;holding [v] (truthy v))) tR) : PurB prog w C mu A env ρ σ e b:=fun s O a Q E k =>
 isTrue_plain (h s O a _ _ fun v s₁ O₁ k₁ y₁ => ht s₁ v O₁ y₁ _ _ fun s' O' k' => k s' O' (k₁.trans k')) (he _)
private theorem q2u {x : Expr} {xs : List Expr} {pos pos' : Pos} {b : Bool} (h : PurB prog w C mu A env ρ σ x b) {c : Bool} (hr : b = true → PurB prog w C mu A env ρ σ (.BoolOp .And xs pos') c) : PurB prog w C mu A env ρ σ (.BoolOp .And (x :: xs) pos) (b && c):=fun s O a Q E k => by
 show wpAny _ _ (do match BoolOp.And,← PySem.isTrue x env (eval x env) with | .And,false => pure false | .Or,true => pure true | _,_ => allTrue .And xs env) _ _ _
 refine wpAny_bind (h s O a _ _ fun s₁ O₁ k₁ => ?_)
 cases b with
 | false => exact wpAny_pure (k s₁ O₁ k₁)
 | true => exact hr rfl s₁ O₁ (a.kp O k₁) _ _ fun s' O' k' => k s' O' (k₁.trans k')
private theorem q6i {pos : Pos} : PurB prog w C mu A env ρ σ (.BoolOp .And [] pos) true:=fun s O a Q E k => wpAny_pure (k s O .refl)
private theorem purB_or {x : Expr} {xs : List Expr} {pos pos' : Pos} {b : Bool} (h : PurB prog w C mu A env ρ σ x b) {c : Bool} (hr : b = false → PurB prog w C mu A env ρ σ (.BoolOp .Or xs pos') c) : PurB prog w C mu A env ρ σ (.BoolOp .Or (x :: xs) pos) (b || c):=fun s O a Q E k => by
 show wpAny _ _ (do match BoolOp.Or,← PySem.isTrue x env (eval x env) with | .And,false => pure false | .Or,true => pure true | _,_ => allTrue .Or xs env) _ _ _
 refine wpAny_bind (h s O a _ _ fun s₁ O₁ k₁ => ?_)
 cases b with
 | true => exact wpAny_pure (k s₁ O₁ k₁)
 | false => exact hr rfl s₁ O₁ (a.kp O k₁) _ _ fun s' O' k' => k s' O' (k₁.trans k')
private theorem purB_or0 {pos : Pos} : PurB prog w C mu A env ρ σ (.BoolOp .Or [] pos) false:=fun s O a Q E k => wpAny_pure (k s O .refl)
private theorem pur_IfExp {t x y : Expr} {pos : Pos} {b : Bool} {p : PV} (ht : PurB prog w C mu A env ρ σ t b) (hx : b = true → PurE prog w C mu A env ρ σ x p) (hy : b = false → PurE prog w C mu A env ρ σ y p) : PurE prog w C mu A env ρ σ (.IfExp t x y pos) p:=fun s O a Q E k => by
 show wpAny _ _ (do if ← PySem.isTrue t env (eval t env) then eval x env else eval y env) _ _ _
 refine wpAny_bind (ht s O a _ _ fun s₁ O₁ k₁ => ?_)
 cases b with
 | true => exact hx rfl s₁ O₁ (a.kp O k₁) _ _ fun v s' O' k' y' => k v s' O' (k₁.trans k') y'
 | false => exact hy rfl s₁ O₁ (a.kp O k₁) _ _ fun v s' O' k' y' => k v s' O' (k₁.trans k') y'
private theorem q0d : PurEs prog w C mu A env ρ σ [] []:=fun pos s O a Q E k => spliced_nil (k [] s O .refl rfl)
private theorem q0c {e : Expr} {es : List Expr} {p : PV} {ps : List PV} (h : PurE prog w C mu A env ρ σ e p) (hr : PurEs prog w C mu A env ρ σ es ps)
  (he : autoParam (∀ env,starEach (e :: es) env = (false,eval e env) :: starEach es env) tR) : PurEs prog w C mu A env ρ σ (e :: es) (p :: ps):=fun pos s O a Q E k => by
 rw [he]
 exact spliced_cons (h s O a _ _ fun v s₁ O₁ k₁ y₁ => hr pos s₁ O₁ (a.kp O k₁) _ _ fun vs s₂ O₂ k₂ y₂ => k (v :: vs) s₂ O₂ (k₁.trans k₂) ⟨v,vs,rfl,y₁.kp0 O₁ k₂,y₂⟩)
private theorem q5c {es : List Expr} {ps : List PV} {pos : Pos} (h : PurEs prog w C mu A env ρ σ es ps) (hsz : ps.length ≤ sizeLine) : PurE prog w C mu A env ρ σ (.List es pos) (.lst ps):=fun s O a Q E k =>
 List_ (h pos s O a _ _ fun vs s₁ O₁ k₁ y₁ => (Pur.newSeq (tuple:=false) O₁ fun Q' E' k' => wpAny_newObj_type (k' vs 0 _ _ y₁ (fun b o e => Heap.get?_push_of_some _ e) _ (Ok.size_none s₁) (Heap.get?_push_size _ rfl)) (by show (List.toArray vs).size ≤ sizeLine;rw [List.size_toArray,y₁.length];exact hsz)) _ _
  fun v s' O' k' y' => k v s' O' (k₁.trans k') y')
private theorem pur_Tuple {es : List Expr} {ps : List PV} {n : Nat} {pos : Pos} (h : PurEs prog w C mu A env ρ σ es ps) (hsz : ps.length ≤ sizeLine) : PurE prog w C mu A env ρ σ (.Tuple es n pos) (.tup ps):=fun s O a Q E k =>
 Tuple_ (h pos s O a _ _ fun vs s₁ O₁ k₁ y₁ => (Pur.newSeq (tuple:=true) O₁ fun Q' E' k' => wpAny_newObj_type (k' vs 0 _ _ y₁ (fun b o e => Heap.get?_push_of_some _ e) _ (Ok.size_none s₁) (Heap.get?_push_size _ rfl)) (by show (List.toArray vs).size ≤ sizeLine;rw [List.size_toArray,y₁.length];exact hsz)) _ _
  fun v s' O' k' y' => k v s' O' (k₁.trans k') y')
section
variable {a b : Int}
private theorem op_add : Op2 prog w C mu A (binaryOp .Add) (.int a) (.int b) (.int (a + b)):=fun s x y O ⟨t,hx⟩ ⟨u,hy⟩ => by subst hx hy;exact Pur.here O fun Q E k => add_int (k _ _ ⟨_,rfl⟩)
private theorem op_sub : Op2 prog w C mu A (binaryOp .Sub) (.int a) (.int b) (.int (a - b)):=fun s x y O ⟨t,hx⟩ ⟨u,hy⟩ => by subst hx hy;exact Pur.here O fun Q E k => sub_int (k _ _ ⟨_,rfl⟩)
private theorem op_mul (hm : IntMulOk a b) : Op2 prog w C mu A (binaryOp .Mult) (.int a) (.int b) (.int (a * b)):=fun s x y O ⟨t,hx⟩ ⟨u,hy⟩ => by subst hx hy;exact Pur.here O fun Q E k => mul_int (k _ _ ⟨_,rfl⟩) hm
private theorem op_mod (hb : b ≠ 0) : Op2 prog w C mu A (binaryOp .Mod) (.int a) (.int b) (.int (a.fmod b)):=fun s x y O ⟨t,hx⟩ ⟨u,hy⟩ => by subst hx hy;exact Pur.here O fun Q E k => mod_int hb (k _ _ ⟨_,rfl⟩)
private theorem op_shl (hb : 0 ≤ b) (hs : (Builtin.Int.intBits a : Int) + b ≤ 2 ^ 27) : Op2 prog w C mu A (binaryOp .LShift) (.int a) (.int b) (.int (a * 2 ^ b.toNat)):=fun s x y O ⟨t,hx⟩ ⟨u,hy⟩ => by subst hx hy;exact Pur.here O fun Q E k => lshift_int hb hs (k _ _ ⟨_,rfl⟩)
private theorem op_shr (hb : 0 ≤ b) : Op2 prog w C mu A (binaryOp .RShift) (.int a) (.int b) (.int (a.fdiv (2 ^ b.toNat))):=fun s x y O ⟨t,hx⟩ ⟨u,hy⟩ => by subst hx hy;exact Pur.here O fun Q E k => rshift_int hb (k _ _ ⟨_,rfl⟩)
private theorem op_and : Op2 prog w C mu A (binaryOp .BitAnd) (.int a) (.int b) (.int (Builtin.bitAnd a b)):=fun s x y O ⟨t,hx⟩ ⟨u,hy⟩ => by subst hx hy;exact Pur.here O fun Q E k => and_int (k _ _ ⟨_,rfl⟩)
private theorem op_or : Op2 prog w C mu A (binaryOp .BitOr) (.int a) (.int b) (.int (Builtin.bitOr a b)):=fun s x y O ⟨t,hx⟩ ⟨u,hy⟩ => by subst hx hy;exact Pur.here O fun Q E k => or_int (k _ _ ⟨_,rfl⟩)
private theorem op_xor : Op2 prog w C mu A (binaryOp .BitXor) (.int a) (.int b) (.int (Builtin.bitXor a b)):=fun s x y O ⟨t,hx⟩ ⟨u,hy⟩ => by subst hx hy;exact Pur.here O fun Q E k => xor_int (k _ _ ⟨_,rfl⟩)
private theorem op_eq : Op2 prog w C mu A (compareOp .Eq) (.int a) (.int b) (.bool (a == b)):=fun s x y O ⟨t,hx⟩ ⟨u,hy⟩ => by subst hx hy;exact Pur.here O fun Q E k => eq_int (k _ s.toks rfl)
private theorem op_ne : Op2 prog w C mu A (compareOp .NotEq) (.int a) (.int b) (.bool (a != b)):=fun s x y O ⟨t,hx⟩ ⟨u,hy⟩ => by subst hx hy;exact Pur.here O fun Q E k => ne_int (k _ s.toks rfl)
private theorem op_lt : Op2 prog w C mu A (compareOp .Lt) (.int a) (.int b) (.bool (decide (a < b))):=fun s x y O ⟨t,hx⟩ ⟨u,hy⟩ => by subst hx hy;exact Pur.here O fun Q E k => lt_int (k _ s.toks rfl)
private theorem op_le : Op2 prog w C mu A (compareOp .LtE) (.int a) (.int b) (.bool (decide (a ≤ b))):=fun s x y O ⟨t,hx⟩ ⟨u,hy⟩ => by subst hx hy;exact Pur.here O fun Q E k => le_int (k _ s.toks rfl)
private theorem op_gt : Op2 prog w C mu A (compareOp .Gt) (.int a) (.int b) (.bool (decide (b < a))):=fun s x y O ⟨t,hx⟩ ⟨u,hy⟩ => by subst hx hy;exact Pur.here O fun Q E k => gt_int (k _ s.toks rfl)
private theorem op_neg : Op1 prog w C mu A (unaryOp .USub) (.int a) (.int (-a)):=fun s x O ⟨t,hx⟩ => by subst hx;exact Pur.here O fun Q E k => neg_int (k _ _ ⟨_,rfl⟩)
private theorem op_inv : Op1 prog w C mu A (unaryOp .Invert) (.int a) (.int (Builtin.bitNot a)):=fun s x O ⟨t,hx⟩ => by subst hx;exact Pur.here O fun Q E k => invert_int (k _ _ ⟨_,rfl⟩)
private theorem q3x {c : Bool} : OpT prog w C mu A (.bool c) c:=fun s x O hx Q E k => by cases (show x = .bool c from hx);exact wpAny_truthy_bool (k s O .refl)
private theorem q1j : OpT prog w C mu A (.int a) (a != 0):=fun s x O ⟨t,hx⟩ Q E k => by subst hx;exact truthy_int (k s O .refl)
end
end
end
section
open PySem PySem.W PySem.Calls PyProof.Rows
variable {prog : Program} {w : World}
structure Rm (A : Around) (n : Nat) : Prop where
 none : A.handled = none
 depth : A.depth + n ≤ 950
 units : A.units + 8 * n ≤ 9800
section
variable {A : Around} {n m : Nat}
private theorem Rm.mono (r : Rm A n) (h : m ≤ n) : Rm A m:=⟨r.none,by have:=r.depth;lia,by have:=r.units;lia⟩
private theorem Rm.deeper (r : Rm A (n + 1)) (env : Env) : Rm (A.deeper env) n:=⟨r.none,by have:=r.depth;simp only [Around.deeper];lia,by have:=r.units;simp only [Around.deeper];lia⟩
private theorem Rm.in1 (r : Rm A (n + 1)) : Rm A.in1 n:=⟨r.none,by have:=r.depth;simp only [];lia,by have:=r.units;simp only [];lia⟩
private theorem Rm.room (r : Rm A n) : A.depth < recursionLimit:=by have:=r.depth;unfold recursionLimit;lia
private theorem Rm.cu (r : Rm A n) : A.units < cLine:=by have:=r.units;unfold cLine;lia
end
structure In (C : Cfg) (mu nu : List Addr) (env : Env) (ρ : List (PySem.Str × PV)) (σ : List (Addr × MO)) (s₀ s : Shared) : Prop where
 ok : Ok C mu s
 act : Act env mu s.heap ρ σ
 kp : Kp C nu s₀ s
 sub : ∀ a ∈ nu,a ∈ mu
 cells : ∀ x ∈ env.cells,x.2 ∈ mu ∨ ∃ o,C.H.get? x.2 = some o
section
variable {C : Cfg} {mu nu : List Addr} {s₀ s s' : Shared} {env : Env} {ρ : List (PySem.Str × PV)} {σ : List (Addr × MO)} {A : Around} {E : Value → Shared → Prop}
private theorem In.next (I : In C mu nu env ρ σ s₀ s) (O : Ok C mu s') (k : Kp C [] s s') : In C mu nu env ρ σ s₀ s':=⟨O,I.act.kp I.ok k,I.kp.trans (k.mono fun _ h => nomatch h),I.sub,I.cells⟩
private theorem q1n {α : Type} {x : PySem.Str} {p : α} : ∀ {l : List (PySem.Str × α)},l.lookup x = some p → (x,p) ∈ l
 | [],e => by cases e
 | z :: l,e => by
  rw [List.lookup_cons] at e
  cases hz : x == z.1 with
  | true => rw [hz] at e;cases e;rw [eq_of_beq hz];exact .head _
  | false => rw [hz] at e;exact .tail _ (q1n e)
private theorem Act.store {x : PySem.Str} {p : PV} {v : Value} {h' : Heap} (a : Act env mu s.heap ρ σ) (hx : env.kindOf x = some .local) (hp : x ≠ ("__class__" : PySem.Str) ∧ (x == ("__classdict__" : PySem.Str)) = false)
  (hv : Sim s.heap mu p v) {m : PySem.Str → Option Value} (hm : ∀ y q,ρ.lookup y = some q → env.kindOf y = some .local → ∃ v,m y = some v ∧ Sim s.heap mu q v)
  (hn : h'.Ns env.locals fun y => if y = x then some v else m y) (hs : Heap.SameBut env.locals s.heap h') : Act env mu h' ((x,p) :: ρ) σ:=by
 have sk : ∀ {q : PV} {u : Value},Sim s.heap mu q u → Sim h' mu q u:=fun y => y.keeps (fun _ _ z _ => z) fun b o hb _ e => hs.extBut b o (fun q => hb (q ▸ a.loc)) e
 have lk : ∀ y q,((x,p) :: ρ).lookup y = some q → (y = x ∧ q = p) ∨ (y ≠ x ∧ ρ.lookup y = some q):=fun y q e => by
  rw [List.lookup_cons] at e
  cases hy : y == x with
  | true => rw [hy] at e;cases e;exact .inl ⟨eq_of_beq hy,rfl⟩
  | false => rw [hy] at e;exact .inr ⟨fun z => by rw [z] at hy;simp at hy,e⟩
 refine ⟨fun b m' e => let ⟨h1,h2,h3⟩:=a.st b m' e;⟨h1,h2,h3.keeps (fun o e => hs.extBut b o (fun q => h2 (q ▸ .head _)) e) (fun _ _ z _ => z) fun c o hb _ e => hs.extBut c o (fun q => hb (q ▸ a.loc)) e⟩,a.kind,a.gl,a.bi,a.loc,⟨_,hn,fun y q e hl => ?_⟩,fun y q e => ?_,fun y c hy hyl hc => ?_,fun y q e => ?_,a.inj⟩
 ·rcases lk y q e with ⟨rfl,rfl⟩ | ⟨h1,h2⟩
  ·exact ⟨v,by simp,sk hv⟩
  ·obtain ⟨u,e1,e2⟩:=hm y q h2 hl
   exact ⟨u,by simp [h1,e1],sk e2⟩
 ·rcases lk y q e with ⟨rfl,rfl⟩ | ⟨h1,h2⟩
  ·exact .inl hx
  ·exact a.kinds y q h2
 ·obtain ⟨h1,h2,ov,h3,h4⟩:=a.cell y c hy hyl hc
  refine ⟨h1,h2,ov,h3.sameBut hs h2,fun q e => ?_⟩
  rcases lk y q e with ⟨rfl,rfl⟩ | ⟨h5,h6⟩
  ·exact absurd hx hyl
  ·obtain ⟨u,e1,e2⟩:=h4 q h6
   exact ⟨u,e1,sk e2⟩
 ·rcases lk y q e with ⟨rfl,rfl⟩ | ⟨h1,h2⟩
  ·exact hp
  ·exact a.plain y q h2
private theorem Act.storeCell {x : PySem.Str} {c : Addr} {p : PV} {v : Value} {h' : Heap} (a : Act env mu s.heap ρ σ) (hx : env.kindOf x = some .cell) (hc : env.cells.lookup x = some c) (hp : x ≠ ("__class__" : PySem.Str) ∧ (x == ("__classdict__" : PySem.Str)) = false)
  (hv : Sim s.heap mu p v) (hcell : h'.IsCell c (some v)) (hs : Heap.SameBut c s.heap h') : Act env mu h' ((x,p) :: ρ) σ:=by
 have hnl : env.kindOf x ≠ some .local:=by rw [hx];nofun
 obtain ⟨hcm,hcl,_⟩:=a.cell x c hp.1 hnl hc
 have sk : ∀ {q : PV} {u : Value},Sim s.heap mu q u → Sim h' mu q u:=fun y => y.keeps (fun _ _ z _ => z) fun b o hb _ e => hs.extBut b o (fun q => hb (q ▸ hcm)) e
 have lk : ∀ y q,((x,p) :: ρ).lookup y = some q → (y = x ∧ q = p) ∨ (y ≠ x ∧ ρ.lookup y = some q):=fun y q e => by
  rw [List.lookup_cons] at e
  cases hy : y == x with
  | true => rw [hy] at e;cases e;exact .inl ⟨eq_of_beq hy,rfl⟩
  | false => rw [hy] at e;exact .inr ⟨fun z => by rw [z] at hy;simp at hy,e⟩
 obtain ⟨m,hn,hm⟩:=a.ns
 refine ⟨fun b m' e => let ⟨h1,h2,h3⟩:=a.st b m' e;⟨h1,h2,h3.keeps (fun o e => hs.extBut b o (fun q => h2 (q ▸ .tail _ (List.mem_map_of_mem (f:=(·.2)) (q1n hc)))) e) (fun _ _ z _ => z) fun d o hb _ e => hs.extBut d o (fun q => hb (q ▸ hcm)) e⟩,a.kind,a.gl,a.bi,a.loc,⟨m,hn.sameBut hs (Ne.symm hcl),fun y q e hl => ?_⟩,fun y q e => ?_,fun y d hy hyl hd => ?_,fun y q e => ?_,a.inj⟩
 ·rcases lk y q e with ⟨rfl,rfl⟩ | ⟨h1,h2⟩
  ·exact absurd hl hnl
  ·obtain ⟨u,e1,e2⟩:=hm y q h2 hl
   exact ⟨u,e1,sk e2⟩
 ·rcases lk y q e with ⟨rfl,rfl⟩ | ⟨h1,h2⟩
  ·exact .inr ⟨.inl hx,c,hc⟩
  ·exact a.kinds y q h2
 ·obtain ⟨h1,h2,ov,h3,h4⟩:=a.cell y d hy hyl hd
  by_cases hyx : y = x
  ·subst hyx
   rw [hc] at hd;cases hd
   refine ⟨h1,h2,_,hcell,fun q e => ?_⟩
   rcases lk y q e with ⟨_,rfl⟩ | ⟨h5,_⟩
   ·exact ⟨v,rfl,sk hv⟩
   ·exact absurd rfl h5
  ·have hdc : d ≠ c:=fun q => hyx (a.inj y x c (q ▸ hd) hc)
   refine ⟨h1,h2,ov,h3.sameBut hs hdc,fun q e => ?_⟩
   rcases lk y q e with ⟨rfl,_⟩ | ⟨_,h6⟩
   ·exact absurd rfl hyx
   ·obtain ⟨u,e1,e2⟩:=h4 q h6
    exact ⟨u,e1,sk e2⟩
 ·rcases lk y q e with ⟨rfl,rfl⟩ | ⟨h1,h2⟩
  ·exact hp
  ·exact a.plain y q h2
noncomputable def okName (x : PySem.Str) : Bool:=x != ("__class__" : PySem.Str) && !(x == ("__classdict__" : PySem.Str))
private theorem q1i {x : PySem.Str} (h : okName x = true) : x ≠ ("__class__" : PySem.Str) ∧ (x == ("__classdict__" : PySem.Str)) = false:=by
 unfold okName at h
 simp only [Bool.and_eq_true,bne_iff_ne,ne_eq,Bool.not_eq_true'] at h
 exact h
private theorem w1z {x : PySem.Str} {p : PV} {v : Value} {Q : Unit → Shared → Prop} (I : In C mu nu env ρ σ s₀ s) (hL : env.locals ∈ nu) (hv : Sim s.heap mu p v)
  (k : ∀ s',In C mu nu env ((x,p) :: ρ) σ s₀ s' → Kp C [env.locals] s s' → Q () s') (hx : autoParam (env.kindOf x = some .local) tR) (hn : autoParam (okName x = true) tR) : wpAny (model prog w) A (storeName env x v) Q E s:=by
 obtain ⟨m,hns,hm⟩:=I.act.ns
 refine wpAny_storeName_local hx hns (fun h' hn' hs => ?_) (by simp [I.act.kind])
 have kk : Kp C [env.locals] s { s with heap:=h',toks:=s.toks + 1 }:=⟨fun b o hb _ e => hs.extBut b o (fun q => hb (by simp [q])) e⟩
 refine k _ ⟨I.ok.step (fun b o hb e => hs.extBut b o (fun q => hb (q ▸ I.act.loc)) e) (fun a ha => ?_),I.act.store hx (q1i hn) hv hm hn' hs,I.kp.trans (kk.mono fun a ha => ?_),I.sub,I.cells⟩ kk
 ·by_cases q : a = env.locals
  ·subst q;obtain ⟨o,_,_,ho,_⟩:=hn';exact ⟨o,ho⟩
  ·obtain ⟨o,ho⟩:=(I.ok.live a ha).2;exact ⟨o,hs.extBut a o q ho⟩
 ·simp at ha;exact ha ▸ hL
private theorem st_cell {x : PySem.Str} {c : Addr} {p : PV} {v : Value} {Q : Unit → Shared → Prop} (I : In C mu nu env ρ σ s₀ s) (hc : env.cells.lookup x = some c) (hL : c ∈ nu) (hv : Sim s.heap mu p v)
  (k : ∀ s',In C mu nu env ((x,p) :: ρ) σ s₀ s' → Kp C [c] s s' → Q () s') (hx : autoParam (env.kindOf x = some .cell) tR) (hn : autoParam (okName x = true) tR) : wpAny (model prog w) A (storeName env x v) Q E s:=by
 have hnl : env.kindOf x ≠ some .local:=by rw [hx];nofun
 obtain ⟨hcm,hcl,ov,hcell,_⟩:=I.act.cell x c (q1i hn).1 hnl hc
 refine wpAny_storeName_cell I.act.kind hx hc hcell fun h' hcell' hs => ?_
 have kk : Kp C [c] s { s with heap:=h',toks:=s.toks }:=⟨fun b o hb _ e => hs.extBut b o (fun q => hb (by simp [q])) e⟩
 refine k _ ⟨I.ok.step (tk:=s.toks) (fun b o hb e => hs.extBut b o (fun q => hb (q ▸ hcm)) e) (fun a ha => ?_),I.act.storeCell hx hc (q1i hn) hv hcell' hs,I.kp.trans (kk.mono fun a ha => ?_),I.sub,I.cells⟩ kk
 ·by_cases q : a = c
  ·subst q;obtain ⟨o,ho,_⟩:=hcell';exact ⟨o,ho⟩
  ·obtain ⟨o,ho⟩:=(I.ok.live a ha).2;exact ⟨o,hs.extBut a o q ho⟩
 ·simp at ha;exact ha ▸ hL
private theorem q1u {x : PySem.Str} {px pos : Pos} {op : Operator} {e : Expr} {q p z : PV} {Q : Flow → Shared → Prop} (I : In C mu nu env ρ σ s₀ s) (hL : env.locals ∈ nu) (hq : ρ.lookup x = some q) (he : PurE prog w C mu A env ρ σ e p)
  (ho : Op2 prog w C mu A (inplaceOp op) q p z) (k : ∀ s',In C mu nu env ((x,z) :: ρ) σ s₀ s' → Q .next s') (hx : autoParam (env.kindOf x = some .local) tR) (hn : autoParam (okName x = true) tR) :
  wpAny (model prog w) A (exec (.AugAssign (.Name x px) op e pos) env) Q E s:=by
 refine wpAny_AugAssign_Name ?_
 obtain ⟨m,hns,hm⟩:=I.act.ns
 obtain ⟨v,e1,y⟩:=hm x q hq hx
 exact wpAny_loadName_local I.act.kind hx hns e1 (he s I.ok I.act _ _ fun u s₁ O₁ k₁ y₁ => ho s₁ v u O₁ (y.kp0 I.ok k₁) y₁ _ _ fun v' s₂ O₂ k₂ y₂ => w1z (I.next O₂ (k₁.trans k₂)) hL y₂ (fun s' I' _ => k s' I') hx hn)
private theorem st_If {t : Expr} {body els : List Stmt} {pos : Pos} {b : Bool} {Q : Flow → Shared → Prop} (I : In C mu nu env ρ σ s₀ s) (ht : PurB prog w C mu A env ρ σ t b)
  (k : ∀ s',In C mu nu env ρ σ s₀ s' → wpAny (model prog w) A (execs (if b then body else els) env) Q E s') : wpAny (model prog w) A (exec (.If t body els pos) env) Q E s:=
 wpAny_If (ht s I.ok I.act _ _ fun s' O' k' => by
  have:=k s' (I.next O' k')
  cases b <;> simpa using this)
private theorem st_IfN {t : Expr} {body : List Stmt} {pos : Pos} {Q : Flow → Shared → Prop} (I : In C mu nu env ρ σ s₀ s) (ht : PurB prog w C mu A env ρ σ t false) (k : ∀ s',In C mu nu env ρ σ s₀ s' → Q .next s') : wpAny (model prog w) A (exec (.If t body [] pos) env) Q E s:=
 st_If I ht fun s' I' => wpAny_execs_nil (k s' I')
private theorem st_IfT {t : Expr} {body els : List Stmt} {pos : Pos} {Q : Flow → Shared → Prop} (I : In C mu nu env ρ σ s₀ s) (ht : PurB prog w C mu A env ρ σ t true) (k : ∀ s',In C mu nu env ρ σ s₀ s' → wpAny (model prog w) A (execs body env) Q E s') : wpAny (model prog w) A (exec (.If t body els pos) env) Q E s:=st_If I ht k
private theorem st_IfE {t : Expr} {body els : List Stmt} {pos : Pos} {Q : Flow → Shared → Prop} (I : In C mu nu env ρ σ s₀ s) (ht : PurB prog w C mu A env ρ σ t false) (k : ∀ s',In C mu nu env ρ σ s₀ s' → wpAny (model prog w) A (execs els env) Q E s') : wpAny (model prog w) A (exec (.If t body els pos) env) Q E s:=st_If I ht k
private theorem q0n {e : Expr} {pos : Pos} {p : PV} {Q : Flow → Shared → Prop} (I : In C mu nu env ρ σ s₀ s) (he : PurE prog w C mu A env ρ σ e p)
  (k : ∀ v s',In C mu nu env ρ σ s₀ s' → Sim s'.heap mu p v → Q (.ret v) s') : wpAny (model prog w) A (exec (.Return (some e) pos) env) Q E s:=
 wpAny_Return_some (he s I.ok I.act _ _ fun v s' O' k' y' => k v s' (I.next O' k') y')
private theorem q1x {α : Type} {M : Model} {A : Around} {t : Sem α} {Q : α → Shared → Prop} {E : Value → Shared → Prop} {s : Shared} (h : ∀ K : α → Shared → Prop,(∀ f s',Q f s' → K f s') → wpAny M A t K E s) : wpAny M A t Q E s:=h Q fun _ _ q => q
noncomputable abbrev NextQ (M : Model) (A : Around) (rest : List Stmt) (env : Env) (Q : Flow → Shared → Prop) (E : Value → Shared → Prop) : Flow → Shared → Prop:=fun f s' => match f with | .next => wpAny M A (execs rest env) Q E s' | f => Q f s'
private theorem q0a {st : Stmt} {rest : List Stmt} {Q : Flow → Shared → Prop} (h : wpAny (model prog w) A (exec st env) (NextQ (model prog w) A rest env Q E) E s) : wpAny (model prog w) A (execs (st :: rest) env) Q E s:=wpAny_execs_cons h
private theorem st_While {t : Expr} {body : List Stmt} {pos : Pos} {Q : Flow → Shared → Prop} (J : Nat → List (PySem.Str × PV) → Prop)
  (step : ∀ n ρ s,J n ρ → In C mu nu env ρ σ s₀ s → ∃ b,PurB prog w C mu A env ρ σ t b ∧ (b = true → ∀ E' s,In C mu nu env ρ σ s₀ s → wpAny (model prog w) A (execs body env) (fun f s' => f = .next ∧ ∃ m ρ',m < n ∧ J m ρ' ∧ In C mu nu env ρ' σ s₀ s') E' s)
   ∧ (b = false → ∀ s,In C mu nu env ρ σ s₀ s → Q .next s))
  (n : Nat) (h0 : J n ρ) (I : In C mu nu env ρ σ s₀ s) : wpAny (model prog w) A (exec (.While t body [] pos) env) Q E s:=by
 refine wpAny_While (codeAny_whileLoop (fun n s => ∃ ρ,J n ρ ∧ In C mu nu env ρ σ s₀ s) ?_ n ⟨ρ,h0,I⟩)
 rintro n s ⟨ρ,hJ,I⟩
 obtain ⟨b,hb,h1,h2⟩:=step n ρ s hJ I
 refine hb s I.ok I.act _ _ fun s' O' k' => ?_
 have I':=I.next O' k'
 cases b with
 | true =>
  refine wpAny_mono (h1 rfl _ s' I') (fun f s'' h => ?_) fun _ _ e => e
  obtain ⟨rfl,m,ρ',hm,hJ',I''⟩:=h
  exact ⟨m,hm,ρ',hJ',I''⟩
 | false => exact wpAny_execs_nil (h2 rfl s' I')
end
end
section
open PySem PySem.W PySem.Calls PyProof.Rows
variable {prog : Program} {w : World}
noncomputable def FnOk (prog : Program) (w : World) (C : Cfg) (a : Addr) (n : Nat) (ps : List PV) (z : PV) : Prop:=
 ∀ A mu,Rm A n → OpL prog w C mu A (fun vs => call (.ref a) vs) ps z
structure DefAt (s : Shared) (a : Addr) (fd : FuncData) (body : List Stmt) : Prop where
 look : ∃ o,s.heap.get? a = some o ∧ o.data = .func fd
 body : fd.body = .stmts body
 code : s.heap.CodeRec fd.code fd.qualname
 co : fd.scope.isCoroutine = false
 gen : fd.scope.isGenerator = false
 kind : fd.scope.kind = .function
 gl : fd.globals = mainGlobals
 bi : fd.builtins = builtinsNs
noncomputable def Def (C : Cfg) (a : Addr) (fd : FuncData) (body : List Stmt) : Prop:=∀ mu s,Ok C mu s → DefAt s a fd body
private theorem Def.ofK {C : Cfg} {a : Addr} {fd : FuncData} {body : List Stmt} (look : ∃ o,C.K.lookup a = some o ∧ o.data = .func fd) (hb : fd.body = .stmts body) (code : codeIn C.K fd.code fd.qualname = true) (co : fd.scope.isCoroutine = false) (gen : fd.scope.isGenerator = false) (kind : fd.scope.kind = .function)
  (gl : fd.globals = mainGlobals) (bi : fd.builtins = builtinsNs) : Def C a fd body:=fun mu s O => ⟨let ⟨o,h1,h2⟩:=look;⟨o,O.K _ _ h1,h2⟩,hb,codeRec_of O.K code,co,gen,kind,gl,bi⟩
private theorem q0j {α : Type} {x : PySem.Str} {p : α} : ∀ {l : List (PySem.Str × α)},l.lookup x = some p → (x,p) ∈ l
 | [],e => by cases e
 | z :: l,e => by
  rw [List.lookup_cons] at e
  cases hz : x == z.1 with
  | true => rw [hz] at e;cases e;rw [eq_of_beq hz];exact .head _
  | false => rw [hz] at e;exact .tail _ (q0j e)
private theorem q3m {α : Type} {x : PySem.Str} {p : α} : ∀ {l : List (PySem.Str × α)},(x,p) ∈ l → ∃ q,l.lookup x = some q
 | [],e => by cases e
 | z :: l,e => by
  rw [List.lookup_cons]
  cases hz : x == z.1 with
  | true => exact ⟨_,rfl⟩
  | false =>
   rcases List.mem_cons.mp e with rfl | e
   ·simp at hz
   ·exact q3m e
private theorem q2a {h : Heap} {mu : List Addr} : ∀ (names : List PySem.Str) (ps : List PV) (vs : List Value),names.length = ps.length → Sims h mu ps vs → ∀ x p,(names.zip ps).reverse.lookup x = some p → ∃ v,(names.zip vs).reverse.lookup x = some v ∧ Sim h mu p v
 | [],_,_,_,_,x,p,e => by simp at e
 | nm :: names,[],_,hl,_,_,_,_ => by simp at hl
 | nm :: names,q :: ps,vs,hl,hs,x,p,e => by
  obtain ⟨v,rr,rfl,y1,y2⟩:=hs
  have hlen' : names.length = ps.length:=by simpa using hl
  simp only [List.zip_cons_cons,List.reverse_cons,List.lookup_append] at e ⊢
  cases hq : (names.zip ps).reverse.lookup x with
  | some p' =>
   rw [hq] at e
   simp at e
   subst e
   obtain ⟨u,e1,e2⟩:=q2a names ps rr hlen' y2 x p' hq
   exact ⟨u,by rw [e1];rfl,e2⟩
  | none =>
   rw [hq] at e
   have hq' : (names.zip rr).reverse.lookup x = none:=by
    cases hz : (names.zip rr).reverse.lookup x with
    | none => rfl
    | some u =>
     exfalso
     have hx : x ∈ names:=(List.of_mem_zip (List.mem_reverse.mp (q0j hz))).1
     have hm : ∃ p,(x,p) ∈ (names.zip ps).reverse:=by
      obtain ⟨i,hi,rfl⟩:=List.getElem_of_mem hx
      exact ⟨ps[i]'(by lia),by rw [List.mem_reverse,List.mem_iff_getElem];exact ⟨i,by simp;lia,by simp⟩⟩
     obtain ⟨p,hp⟩:=hm
     obtain ⟨q,hq2⟩:=q3m hp
     rw [hq] at hq2;cases hq2
   rw [hq']
   simp only [List.lookup_cons,List.lookup_nil] at e ⊢
   cases hx : x == nm with
   | true => simp [hx] at e ⊢;subst e;exact y1
   | false => simp [hx] at e
section
variable {C : Cfg} {mu nu : List Addr} {s₀ s s' : Shared} {env : Env} {ρ : List (PySem.Str × PV)} {σ : List (Addr × MO)} {A : Around} {E : Value → Shared → Prop}
private theorem Ok.fnNotTab (O : Ok C mu s) {f : Addr} {o : Obj} {fd : FuncData} (e : s.heap.get? f = some o) (hd : o.data = .func fd) : f ∉ C.tabs:=fun q => by
 obtain ⟨x,hx,rfl⟩:=List.mem_map.mp q
 obtain ⟨ps,e',_⟩:=O.tab x hx
 rw [e] at e'
 cases e'
 cases hd
private theorem Def.at {f : Addr} {fd : FuncData} {body : List Stmt} (D : Def C f fd body) (O : Ok C mu s) : DefAt s f fd body:=D mu s O
private theorem DefAt.keeps {f : Addr} {fd : FuncData} {body : List Stmt} (D : DefAt s f fd body) (k : ∀ b o,s.heap.get? b = some o → s'.heap.get? b = some o) : DefAt s' f fd body:=
 ⟨let ⟨o,h1,h2⟩:=D.look;⟨o,k _ _ h1,h2⟩,D.body,D.code.keeps k,D.co,D.gen,D.kind,D.gl,D.bi⟩
private theorem q0u {x : PySem.Str} {id : String} {px pos : Pos} {e : Expr} {es : List Expr} {ps : List PV} {z : PV} (hf : PurE prog w C mu A env ρ σ (.Name x px) (.val (.builtin id))) (hargs : PurEs prog w C mu A env ρ σ (e :: es) ps)
  (ho : OpL prog w C mu A (fun vs => call (.builtin id) vs) ps z) (he : autoParam (∀ env,starEach (e :: es) env = (false,eval e env) :: starEach es env) tR)
  (hplain : autoParam ((backTo pos (starEach es env)).any (·.1) = false) tR) : PurE prog w C mu A env ρ σ (.Call (.Name x px) (e :: es) [] pos) z:=fun s O a Q E k =>
 Call_ (hf s O a _ _ fun v s₁ O₁ k₁ y₁ => by
  cases (show v = .builtin id from y₁)
  exact PyProof.Rows.callWith_builtin1 (hargs pos s₁ O₁ (a.kp O k₁) _ _ fun vs s₂ O₂ k₂ y₂ => ho s₂ vs O₂ y₂ _ _ fun v' s' O' k' y' => k v' s' O' ((k₁.trans k₂).trans k') y') (he env) hplain)
private theorem q0t {x : PySem.Str} {f : Addr} {fd : FuncData} {body : List Stmt} {n : Nat} {px pos : Pos} {e : Expr} {es : List Expr} {ps : List PV} {z : PV} (hf : PurE prog w C mu A env ρ σ (.Name x px) (.val (.ref f))) (hargs : PurEs prog w C mu A env ρ σ (e :: es) ps)
  (D : Def C f fd body) (hfn : FnOk prog w C f n ps z) (r : Rm A n) (he : autoParam (∀ env,starEach (e :: es) env = (false,eval e env) :: starEach es env) tR) : PurE prog w C mu A env ρ σ (.Call (.Name x px) (e :: es) [] pos) z:=fun s O a Q E k =>
 Call_ (hf s O a _ _ fun v s₁ O₁ k₁ y₁ => by
  cases (show v = .ref f from y₁)
  obtain ⟨o,hl,hd⟩:=(D.at O₁).look
  refine callWith_function (o:=o) (fd:=fd) ?_
  have h:=hargs pos s₁ O₁ (a.kp O k₁)
  rw [he env] at h ⊢
  exact evalArgs_plain (h _ _ fun vs s₂ O₂ k₂ y₂ => ⟨⟨k₂.keep _ _ (fun h => nomatch h) (O₁.fnNotTab hl hd) hl,hd⟩,hfn A mu r s₂ vs O₂ y₂ _ _ fun v' s' O' k' y' => k v' s' O' ((k₁.trans k₂).trans k') y'⟩))
structure Clo (C : Cfg) (mu : List Addr) (h : Heap) (clo : List (PySem.Str × Addr)) (ρc : List (PySem.Str × PV)) (names : List (PySem.Str × NameKind)) : Prop where
 cell : ∀ x c,x ≠ ("__class__" : PySem.Str) → clo.lookup x = some c → c ∈ mu ∧ ∃ ov,h.IsCell c ov ∧ ∀ p,ρc.lookup x = some p → ∃ v,ov = some v ∧ Sim h mu p v
 has : ∀ x p,ρc.lookup x = some p → names.lookup x = some .free ∧ okName x = true ∧ ∃ c,clo.lookup x = some c
 inj : ∀ x y c,clo.lookup x = some c → clo.lookup y = some c → x = y
 alive : ∀ x ∈ clo,x.2 ∈ mu ∨ ∃ o,C.H.get? x.2 = some o
private theorem Clo.nil {names : List (PySem.Str × NameKind)} {h : Heap} : Clo C mu h [] [] names:=⟨fun _ _ _ e => (nomatch e),fun _ _ e => (nomatch e),fun _ _ _ e => (nomatch e),fun _ e => (nomatch e)⟩
private theorem q1f {f : Addr} {fd : FuncData} {body : List Stmt} {n : Nat} {names : List PySem.Str} {ps : List PV} {vs vs0 : List Value} {ρc : List (PySem.Str × PV)} {Q : Value → Shared → Prop} (D : DefAt s f fd body) (r : Rm A (n + 1)) (O : Ok C mu s)
  (hy : Sims s.heap mu ps vs) (hbind : BindsTo s fd ⟨vs0,[]⟩ (names.zip vs)) (hlen : names.length = ps.length) (hclo : Clo C mu s.heap fd.closure ρc fd.scope.names)
  (hloc : names.all (fun x => fd.scope.names.lookup x == some .local && okName x) = true) (hcell : fd.scope.names.all (fun x => x.2 != .cell) = true)
  (h : ∀ L s₁,s.heap.get? L = none → In C (L :: mu) [L] (callEnv fd L f) ((names.zip ps).reverse ++ ρc) [] s s₁ → Rm (A.deeper (callEnv fd L f)) n → (∀ b o,s.heap.get? b = some o → s₁.heap.get? b = some o) →
   wpAny (model prog w) (A.deeper (callEnv fd L f)) (execs body (callEnv fd L f)) (fun fl s' => match fl with | .ret v => Q v s' | _ => Q .none s') (fun _ _ => False) s₁) :
  wpAny (model prog w) A (call (.ref f) vs0) Q E s:=by
 obtain ⟨o,hl,hd⟩:=D.look
 have hvl : vs.length = ps.length:=hy.length
 have hln : ∀ x ∈ names,fd.scope.names.lookup x = some .local ∧ okName x = true:=fun x hx => by
  have:=List.all_eq_true.mp hloc x hx
  rw [Bool.and_eq_true,beq_iff_eq] at this
  exact this
 refine wpAny_call (codeAny_call_def (binds:=names.zip vs) r.room hl hd O.nolimit D.code D.body hbind (fun x hx => by simpa using List.all_eq_true.mp hcell x hx)
  (fun x hx => (hln x.1 (List.of_mem_zip hx).1).1) (fun h₀ hns hk => ?_) D.co D.gen D.kind)
 have hnone:=Ok.size_none s
 have hL : ∃ o,h₀.get? s.heap.objs.size = some o:=let ⟨o,_,_,ho,_⟩:=hns;⟨o,ho⟩
 obtain ⟨oL,hoL⟩:=hL
 have O₁ : Ok C (s.heap.objs.size :: mu) { s with heap:=h₀,toks:=s.toks + (names.zip vs).length }:=O.fresh hnone hoL hk (O.fresh' hnone).1
 have hy₁ : Sims h₀ (s.heap.objs.size :: mu) ps vs:=(hy.new hnone).keeps (fun _ _ z _ => z) fun b o _ _ e => hk b o e
 have memρ : ∀ x p,(names.zip ps).reverse.lookup x = some p → x ∈ names:=fun x p e => (List.of_mem_zip (List.mem_reverse.mp (q0j e))).1
 have split : ∀ x p,((names.zip ps).reverse ++ ρc).lookup x = some p → (names.zip ps).reverse.lookup x = some p ∨ ρc.lookup x = some p:=fun x p e => by
  rw [List.lookup_append] at e
  cases hq : (names.zip ps).reverse.lookup x with
  | some q => rw [hq] at e;left;simpa using e
  | none => rw [hq] at e;right;simpa using e
 have hLmu : s.heap.objs.size ∉ mu:=(O.fresh' hnone).2
 refine wpAny_mono (h s.heap.objs.size _ hnone ⟨O₁,⟨fun _ _ e => (nomatch e),D.kind,D.gl,D.bi,.head _,⟨_,hns,fun x p e hlc => ?_⟩,fun x p e => ?_,fun x c hx hxl hc => ?_,fun x p e => ?_,hclo.inj⟩,
  Kp.of_keep hk,fun a h => by simp at h;subst h;exact .head _,fun x hx => (hclo.alive x hx).imp (.tail _) id⟩ (r.deeper _) hk) (fun fl s' hq => ?_) fun _ _ f => f.elim
 ·rcases split x p e with e | e
  ·exact q2a names ps vs hlen hy₁ x p e
  ·have h1:=(hclo.has x p e).1
   rw [show (callEnv fd s.heap.objs.size f).kindOf x = fd.scope.names.lookup x from rfl,h1] at hlc;cases hlc
 ·rcases split x p e with e | e
  ·exact .inl (hln x (memρ x p e)).1
  ·obtain ⟨h1,h2,h3⟩:=hclo.has x p e
   exact .inr ⟨.inr h1,h3⟩
 ·obtain ⟨h1,ov,h2,h3⟩:=hclo.cell x c hx hc
  refine ⟨.tail _ h1,fun q => hLmu (show s.heap.objs.size ∈ mu from (show (callEnv fd s.heap.objs.size f).locals ∈ mu from q ▸ h1)),ov,h2.keeps hk,fun p e => ?_⟩
  rcases split x p e with e | e
  ·exact absurd (hln x (memρ x p e)).1 hxl
  ·obtain ⟨v,e1,e2⟩:=h3 p e
   exact ⟨v,e1,(e2.new hnone).keeps (fun _ _ z _ => z) fun b o _ _ e => hk b o e⟩
 ·rcases split x p e with e | e
  ·exact q1i (hln x (memρ x p e)).2
  ·exact q1i (hclo.has x p e).2.1
 ·cases fl <;> exact hq
private theorem In.out {L : Addr} (I : In C (L :: mu) [L] env ρ σ s s') (hL : s.heap.get? L = none) : Ok C mu s' ∧ Kp C [] s s':=
 ⟨I.ok.sub fun a h => .tail _ h,⟨fun b o _ ht e => I.kp.keep b o (fun q => by simp at q;subst q;rw [hL] at e;cases e) ht e⟩⟩
private theorem In.outs {Ls : List Addr} (I : In C (Ls ++ mu) (Ls ++ nu) env ρ σ s s') (hL : ∀ L ∈ Ls,s.heap.get? L = none) : Ok C mu s' ∧ Kp C nu s s':=
 ⟨I.ok.sub fun a h => List.mem_append_right _ h,⟨fun b o hb ht e => I.kp.keep b o (fun q => by
  rcases List.mem_append.mp q with q | q
  ·rw [hL b q] at e;cases e
  ·exact hb q) ht e⟩⟩
private theorem FnOk.of {f : Addr} {fd : FuncData} {body : List Stmt} {n : Nat} {names : List PySem.Str} {ps : List PV} {z : PV} (D : Def C f fd body)
  (hbind : ∀ vs,vs.length = names.length → bindArgs fd ⟨vs,[]⟩ = pure (names.zip vs)) (hlen : names.length = ps.length) (hclo : fd.closure = [])
  (hloc : names.all (fun x => fd.scope.names.lookup x == some .local && okName x) = true) (hcell : fd.scope.names.all (fun x => x.2 != .cell) = true)
  (h : ∀ A mu L s s₁,Rm A n → s.heap.get? L = none → In C (L :: mu) [L] (callEnv fd L f) (names.zip ps).reverse [] s s₁ →
   wpAny (model prog w) A (execs body (callEnv fd L f)) (fun fl s' => ∃ v ρ',fl = .ret v ∧ In C (L :: mu) [L] (callEnv fd L f) ρ' [] s s' ∧ Sim s'.heap (L :: mu) z v) (fun _ _ => False) s₁) : FnOk prog w C f (n + 1) ps z:=by
 intro A mu r s vs O hy Q E k
 refine q1f (ρc:=[]) (D.at O) r O hy (BindsTo.of_eq (hbind vs (by rw [hy.length,hlen]))) hlen (by rw [hclo];exact Clo.nil) hloc hcell fun L s₁ hL I r' _ => ?_
 rw [List.append_nil] at I
 refine wpAny_mono (h _ mu L s s₁ r' hL I) (fun fl s' hq => ?_) fun _ _ f => f
 obtain ⟨v,ρ',rfl,I',y⟩:=hq
 exact k v s' (I'.out hL).1 (I'.out hL).2 (y.sub fun a h => .tail _ h)
end
end
section
open PySem PySem.W PySem.Calls PyProof.Rows
variable {prog : Program} {w : World}
section
variable {C : Cfg} {mu nu : List Addr} {s₀ s s' : Shared} {env : Env} {ρ : List (PySem.Str × PV)} {σ : List (Addr × MO)} {A : Around} {E : Value → Shared → Prop}
noncomputable def Meth (prog : Program) (w : World) (C : Cfg) (mu : List Addr) (A : Around) (p : PV) (name : PySem.Str) (id : String) : Prop:=
 ∀ (pl : Sem Bool) s v (Q : Value × List Value → Shared → Prop) (E : Value → Shared → Prop),Ok C mu s → Sim s.heap mu p v → Q (.builtin id,[v]) s → wpAny (model prog w) A (getMethod v name pl) Q E s
private theorem q6h {o : Expr} {name : PySem.Str} {id : String} {apos pos : Pos} {p z : PV} {pl : Sem Bool} (ho : PurE prog w C mu A env ρ σ o p) (hm : Meth prog w C mu A p name id)
  (hc : Op1 prog w C mu A (fun v => call (.builtin id) [v]) p z)
  (he : autoParam (eval (.Call (.Attribute o name apos) [] [] pos) env = (do let ov ← eval o env;standAt apos.atName;let __x ← holding [ov] (getMethod ov name pl);match __x with | (f,first) => callWith pos f first (backTo pos (starEach [] env)) [])) tR) :
  PurE prog w C mu A env ρ σ (.Call (.Attribute o name apos) [] [] pos) z:=fun s O a Q E k =>
 MethodCall_ (pl:=pl) (ho s O a _ _ fun v s₁ O₁ k₁ y₁ => hm pl s₁ v _ _ O₁ y₁ (callWith_method0 (hc s₁ v O₁ y₁ _ _ fun v' s' O' k' y' => k v' s' O' (k₁.trans k') y'))) he
private theorem q4e {o e : Expr} {es : List Expr} {name : PySem.Str} {id : String} {apos pos : Pos} {p z : PV} {ps : List PV} {pl : Sem Bool} (ho : PurE prog w C mu A env ρ σ o p) (hm : Meth prog w C mu A p name id) (ha : PurEs prog w C mu A env ρ σ (e :: es) ps)
  (hc : OpL prog w C mu A (fun vs => call (.builtin id) vs) (p :: ps) z)
  (he : autoParam (eval (.Call (.Attribute o name apos) (e :: es) [] pos) env = (do let ov ← eval o env;standAt apos.atName;let __x ← holding [ov] (getMethod ov name pl);match __x with | (f,first) => callWith pos f first (backTo pos (starEach (e :: es) env)) [])) tR)
  (hs : autoParam (starEach (e :: es) env = (false,eval e env) :: starEach es env) tR) (hplain : autoParam ((backTo pos (starEach es env)).any (·.1) = false) tR) : PurE prog w C mu A env ρ σ (.Call (.Attribute o name apos) (e :: es) [] pos) z:=fun s O a Q E k =>
 MethodCall_ (pl:=pl) (ho s O a _ _ fun v s₁ O₁ k₁ y₁ => hm pl s₁ v _ _ O₁ y₁ (callWith_method1 (ha pos s₁ O₁ (a.kp O k₁) _ _ fun vs s₂ O₂ k₂ y₂ =>
  hc s₂ (v :: vs) O₂ ⟨v,vs,rfl,y₁.kp0 O₁ k₂,y₂⟩ _ _ fun v' s' O' k' y' => k v' s' O' ((k₁.trans k₂).trans k') y') hs hplain)) he
noncomputable def Glob (C : Cfg) (x : PySem.Str) (v : Value) : Prop:=nsIn C.K mainGlobals x = some (some v) ∨ (nsIn C.K mainGlobals x = some none ∧ nsIn C.K builtinsNs x = some (some v))
private theorem q0f {x : PySem.Str} {v : Value} {pos : Pos} (hv : Glob C x v) (hl : env.kindOf x = some .globalImplicit) (hd : (x == ("__debug__" : PySem.Str)) = false) : PurE prog w C mu A env ρ σ (.Name x pos) (.val v):=pur_glob hl hv hd
private theorem pur_gint {x : PySem.Str} {i : Int} {t : Tok} {pos : Pos} (hv : Glob C x (.int i t)) (hl : env.kindOf x = some .globalImplicit) (hd : (x == ("__debug__" : PySem.Str)) = false) : PurE prog w C mu A env ρ σ (.Name x pos) (.int i):=fun s O a =>
 Pur.here O fun Q E k => wpAny_Name (q3n O a.kind a.gl a.bi hl hv (k _ s.toks ⟨t,rfl⟩)) hd
private theorem w7n {x : PySem.Str} {y : PySem.Str} {t : Tok} {pos : Pos} (hv : Glob C x (.str y t)) (hl : env.kindOf x = some .globalImplicit) (hd : (x == ("__debug__" : PySem.Str)) = false) : PurE prog w C mu A env ρ σ (.Name x pos) (.str y):=fun s O a =>
 Pur.here O fun Q E k => wpAny_Name (q3n O a.kind a.gl a.bi hl hv (k _ s.toks ⟨t,rfl⟩)) hd
section
variable {a b : Int}
private theorem q9k {name : PySem.Str} (hn : name = PySem.Str.ofString "bit_length") : Meth prog w C mu A (.int a) name "int.bit_length":=fun pl s v Q E O ⟨t,hv⟩ h => by subst hv hn;exact getMethod_int_bit_length h
private theorem w2l : Op1 prog w C mu A (fun v => call (.builtin "int.bit_length") [v]) (.int a) (.int (Builtin.Int.intBits a)):=fun s v O ⟨t,hv⟩ => by subst hv;exact Pur.here O fun Q E k => call_int_bit_length (k _ _ ⟨_,rfl⟩)
private theorem op_divmod (hb : b ≠ 0) (hp : Builtin.divisionGoesByPylong a b = false) : OpL prog w C mu A (fun vs => call (.builtin "divmod") vs) [.int a,.int b] (.tup [.int (a.fdiv b),.int (a.fmod b)]):=fun s vs O hy => by
 obtain ⟨v,r,rfl,⟨t,rfl⟩,u,r',rfl,⟨t',rfl⟩,hn⟩:=hy
 cases (show r' = [] from hn)
 refine Pur.newSeq (tuple:=true) O fun Q E k => divmod_int hb ?_ (.inl hp)
 have hs : Sims s.heap mu [PV.int (a.fdiv b),PV.int (a.fmod b)] [Value.int (a.fdiv b) s.toks,Value.int (a.fmod b) (s.toks + 1)]:=⟨_,_,rfl,⟨_,rfl⟩,_,_,rfl,⟨_,rfl⟩,rfl⟩
 exact k [_,_] 0 _ _ hs (fun b o e => Heap.get?_push_of_some _ e) _ (Ok.size_none s) (Heap.get?_push_size _ rfl)
private theorem op_iadd : Op2 prog w C mu A (inplaceOp .Add) (.int a) (.int b) (.int (a + b)):=fun s x y O ⟨t,hx⟩ ⟨u,hy⟩ => by subst hx hy;exact Pur.here O fun Q E k => iadd_int (k _ _ ⟨_,rfl⟩)
private theorem op_isub : Op2 prog w C mu A (inplaceOp .Sub) (.int a) (.int b) (.int (a - b)):=fun s x y O ⟨t,hx⟩ ⟨u,hy⟩ => by subst hx hy;exact Pur.here O fun Q E k => isub_int (k _ _ ⟨_,rfl⟩)
private theorem op_ishl (hb : 0 ≤ b) (hs : (Builtin.Int.intBits a : Int) + b ≤ 2 ^ 27) : Op2 prog w C mu A (inplaceOp .LShift) (.int a) (.int b) (.int (a * 2 ^ b.toNat)):=fun s x y O ⟨t,hx⟩ ⟨u,hy⟩ => by subst hx hy;exact Pur.here O fun Q E k => ilshift_int hb hs (k _ _ ⟨_,rfl⟩)
private theorem op_ishr (hb : 0 ≤ b) : Op2 prog w C mu A (inplaceOp .RShift) (.int a) (.int b) (.int (a.fdiv (2 ^ b.toNat))):=fun s x y O ⟨t,hx⟩ ⟨u,hy⟩ => by subst hx hy;exact Pur.here O fun Q E k => irshift_int hb (k _ _ ⟨_,rfl⟩)
end
end
end
section
open PySem PySem.W PySem.Calls PyProof.Rows
variable {prog : Program} {w : World}
private theorem w8n (kindOf : PySem.Str → Option NameKind) (x : PySem.Str) : ∀ (binds : List (PySem.Str × Value)) (m : PySem.Str → Option Value),bindL kindOf binds m x = if kindOf x = some .local then (binds.reverse.lookup x).or (m x) else m x
 | [],m => by unfold bindL;simp
 | (n,v) :: r,m => by
  unfold bindL
  rw [w8n kindOf x r]
  by_cases hx : kindOf x = some .local
  ·rw [if_pos hx,if_pos hx]
   simp only [List.reverse_cons,List.lookup_append,List.lookup_cons,List.lookup_nil]
   cases hr : r.reverse.lookup x with
   | some u => simp
   | none =>
    by_cases hn : x = n
    ·subst hn;simp [hx]
    ·have : (x == n) = false:=by simpa using hn
     simp only [this,Option.none_or]
     by_cases hk : kindOf n = some .local
     ·simp [hk,hn]
     ·simp [hk]
  ·rw [if_neg hx,if_neg hx]
   by_cases hk : kindOf n = some .local
   ·rw [if_pos hk]
    have : x ≠ n:=fun q => hx (q ▸ hk)
    simp [this]
   ·rw [if_neg hk]
private theorem w8o (kindOf : PySem.Str → Option NameKind) (x : PySem.Str) : ∀ (binds : List (PySem.Str × Value)) (m : PySem.Str → Option Value),bindC kindOf binds m x = if kindOf x = some .local then m x else (binds.reverse.lookup x).or (m x)
 | [],m => by unfold bindC;simp
 | (n,v) :: r,m => by
  unfold bindC
  rw [w8o kindOf x r]
  by_cases hx : kindOf x = some .local
  ·rw [if_pos hx,if_pos hx]
   by_cases hk : kindOf n = some .local
   ·rw [if_pos hk]
   ·rw [if_neg hk]
    have : x ≠ n:=fun q => hk (q ▸ hx)
    simp [this]
  ·rw [if_neg hx,if_neg hx]
   simp only [List.reverse_cons,List.lookup_append,List.lookup_cons,List.lookup_nil]
   cases hr : r.reverse.lookup x with
   | some u => simp
   | none =>
    by_cases hn : x = n
    ·subst hn;simp [hx]
    ·have : (x == n) = false:=by simpa using hn
     simp only [this,Option.none_or]
     by_cases hk : kindOf n = some .local
     ·simp [hk]
     ·simp [hk,hn]
section
variable {C : Cfg} {mu nu : List Addr} {s₀ s s' : Shared} {env : Env} {ρ : List (PySem.Str × PV)} {A : Around} {E : Value → Shared → Prop}
private theorem Ok.freshs {h' : Heap} {tk : Nat} : ∀ {Ls : List Addr},Ok C mu s → (∀ a ∈ Ls,s.heap.get? a = none ∧ ∃ o,h'.get? a = some o) → (∀ b o,s.heap.get? b = some o → h'.get? b = some o) → Ok C (Ls ++ mu) { s with heap:=h',toks:=tk }
 | [],O,_,k => O.keep k
 | a :: Ls,O,hL,k => by
  have O' : Ok C (Ls ++ mu) { s with heap:=h',toks:=tk }:=Ok.freshs O (fun b hb => hL b (.tail _ hb)) k
  obtain ⟨hn,o,ho⟩:=hL a (.head _)
  refine O'.add ?_ ho ?_
  ·cases q : C.H.get? a with
   | none => rfl
   | some x => rw [O.old a x q (O.fresh' hn).1] at hn;cases hn
  ·intro x hx ps hps pos c' e q
   subst q
   obtain ⟨ps',h1,h2,h3⟩:=O.tab x hx
   have e' : tabObj ps' = tabObj ps:=Option.some.inj ((k _ _ h1).symm.trans hps)
   have : ps' = ps:=by injection e' with _ _ e3;injection e3
   subst this
   obtain ⟨d,e1,_,e3⟩:=h3 pos _ e
   cases e1
   obtain ⟨c₁,o₁,_,_,f1,f2,_⟩:=e3
   cases f1
   rw [f2] at hn;cases hn
private theorem Sims.news {p : List PV} {v : List Value} {h : Heap} {Ls : List Addr} (x : Sims h mu p v) (ha : ∀ a ∈ Ls,h.get? a = none) : Sims h (Ls ++ mu) p v:=
 x.keeps (fun b o hb e q => by
  rcases List.mem_append.mp q with q | q
  ·rw [ha b q] at e;cases e
  ·exact hb q) fun _ _ _ _ e => e
private theorem Sim.news {p : PV} {v : Value} {h : Heap} {Ls : List Addr} (x : Sim h mu p v) (ha : ∀ a ∈ Ls,h.get? a = none) : Sim h (Ls ++ mu) p v:=
 x.keeps (fun b o hb e q => by
  rcases List.mem_append.mp q with q | q
  ·rw [ha b q] at e;cases e
  ·exact hb q) fun _ _ _ _ e => e
private theorem fn_enterC {f : Addr} {fd : FuncData} {body : List Stmt} {n : Nat} {names : List PySem.Str} {ps : List PV} {vs : List Value} {Q : Value → Shared → Prop} (D : DefAt s f fd body) (r : Rm A (n + 1)) (O : Ok C mu s)
  (hy : Sims s.heap mu ps vs) (hbind : bindArgs fd ⟨vs,[]⟩ = pure (names.zip vs)) (hlen : names.length = ps.length) (hclo : fd.closure = [])
  (hloc : names.all (fun x => (fd.scope.names.lookup x == some .local || (fd.scope.names.lookup x == some .cell && ((cellsFrom 0 fd.scope.names []).lookup x).isSome)) && okName x) = true)
  (hnd : ((cellsFrom 0 fd.scope.names []).map (·.1)).Nodup)
  (h : ∀ L s₁,s.heap.objs.size = L → (∀ a ∈ q0i (callEnvC fd L f),s.heap.get? a = none) → In C (q0i (callEnvC fd L f) ++ mu) (q0i (callEnvC fd L f)) (callEnvC fd L f) (names.zip ps).reverse [] s s₁ → Rm (A.deeper (callEnvC fd L f)) n → (∀ b o,s.heap.get? b = some o → s₁.heap.get? b = some o) →
   wpAny (model prog w) (A.deeper (callEnvC fd L f)) (execs body (callEnvC fd L f)) (fun fl s' => match fl with | .ret v => Q v s' | _ => Q .none s') (fun _ _ => False) s₁) :
  wpAny (model prog w) A (call (.ref f) vs) Q E s:=by
 obtain ⟨o,hl,hd⟩:=D.look
 have hvl : vs.length = ps.length:=hy.length
 have hcells : ∀ m,∀ x,((cellsFrom 0 fd.scope.names []).lookup x).isSome = true → ((cellsFrom m fd.scope.names []).lookup x).isSome = true:=fun m x hx => by
  have e:=cellsFrom_names fd.scope.names 0 m [] [] rfl
  obtain ⟨c,hc⟩:=Option.isSome_iff_exists.mp hx
  have hm : x ∈ (cellsFrom m fd.scope.names []).map (·.1):=e ▸ List.mem_map_of_mem (f:=(·.1)) (q0j hc)
  obtain ⟨⟨x',c'⟩,hm',rfl⟩:=List.mem_map.mp hm
  obtain ⟨q,hq⟩:=q3m hm'
  exact Option.isSome_iff_exists.mpr ⟨q,hq⟩
 have hln : ∀ x ∈ names,(fd.scope.names.lookup x = some .local ∨ (fd.scope.names.lookup x = some .cell ∧ ((cellsFrom 0 fd.scope.names []).lookup x).isSome = true)) ∧ okName x = true:=fun x hx => by
  have:=List.all_eq_true.mp hloc x hx
  simpa [Bool.and_eq_true,Bool.or_eq_true] using this
 refine wpAny_call (codeAny_call_cells (binds:=names.zip vs) r.room hl hd O.nolimit D.code D.body hbind hclo (fun x hx => ?_) (fun s₁ X => ?_) D.co D.gen D.kind)
 ·rcases (hln x.1 (List.of_mem_zip hx).1).1 with h1 | ⟨h1,h2⟩
  ·exact .inl h1
  ·exact .inr ⟨h1,hcells _ _ h2⟩
 obtain ⟨h₁,tk,rfl⟩:=X.toInCall.same
 generalize hL : s.heap.objs.size = L at X
 have hab : ∀ a ∈ q0i (callEnvC fd L f),L ≤ a:=fun a ha => by
  rcases List.mem_cons.mp ha with rfl | ha
  ·exact Nat.le_refl _
  ·obtain ⟨⟨x,c⟩,hm,rfl⟩:=List.mem_map.mp ha
   exact Nat.le_of_lt (X.above x c hm)
 have hnone : ∀ a ∈ q0i (callEnvC fd L f),s.heap.get? a = none:=fun a ha => Heap.get?_none_of_le (by rw [hL];exact hab a ha)
 have hndc : ((callEnvC fd L f).cells.map (·.1)).Nodup:=by
  have e:=cellsFrom_names fd.scope.names 0 (L + 1) [] [] rfl
  show ((cellsFrom (L + 1) fd.scope.names []).map (·.1)).Nodup
  rw [← e];exact hnd
 have hlk : ∀ x c,(x,c) ∈ (callEnvC fd L f).cells → (callEnvC fd L f).cells.lookup x = some c:=fun x c hm => lookup_of_mem_nodup hndc hm
 have hex : ∀ a ∈ q0i (callEnvC fd L f),∃ o,h₁.get? a = some o:=fun a ha => by
  rcases List.mem_cons.mp ha with rfl | ha
  ·obtain ⟨o,_,_,ho,_⟩:=X.toInCall.ns;exact ⟨o,ho⟩
  ·obtain ⟨⟨x,c⟩,hm,rfl⟩:=List.mem_map.mp ha
   obtain ⟨o,ho,_⟩:=X.cell x c (hlk x c hm)
   exact ⟨o,ho⟩
 have hk : ∀ b o,s.heap.get? b = some o → h₁.get? b = some o:=X.toInCall.keep
 have O₁ : Ok C (q0i (callEnvC fd L f) ++ mu) { s with heap:=h₁,toks:=tk }:=O.freshs (fun a ha => ⟨hnone a ha,hex a ha⟩) hk
 have hy₁ : Sims h₁ (q0i (callEnvC fd L f) ++ mu) ps vs:=(hy.news hnone).keeps (fun _ _ z _ => z) fun b o _ _ e => hk b o e
 have memρ : ∀ x p,(names.zip ps).reverse.lookup x = some p → x ∈ names:=fun x p e => (List.of_mem_zip (List.mem_reverse.mp (q0j e))).1
 refine wpAny_mono (h L _ hL hnone ⟨O₁,⟨fun _ _ e => (nomatch e),D.kind,D.gl,D.bi,.head _,⟨_,X.toInCall.ns,fun x p e hlc => ?_⟩,fun x p e => ?_,fun x c hx hxl hc => ?_,fun x p e => q1i (hln x (memρ x p e)).2,fun x y c h1 h2 => ?_⟩,
  Kp.of_keep hk,fun a h => List.mem_append_left _ h,fun x hx => .inl (List.mem_append_left _ (.tail _ (List.mem_map_of_mem (f:=(·.2)) hx)))⟩ (r.deeper _) hk) (fun fl s' hq => ?_) fun _ _ f => f.elim
 ·rw [w8n,if_pos hlc]
  obtain ⟨v,e1,e2⟩:=q2a names ps vs hlen hy₁ x p e
  exact ⟨v,by rw [e1];rfl,e2⟩
 ·rcases (hln x (memρ x p e)).1 with h1 | ⟨h1,h2⟩
  ·exact .inl h1
  ·exact .inr ⟨.inl h1,Option.isSome_iff_exists.mp (hcells (L + 1) x h2)⟩
 ·refine ⟨.tail _ (List.mem_append_left _ (List.mem_map_of_mem (f:=(·.2)) (q0j hc))),Nat.ne_of_gt (X.above x c (q0j hc)),_,X.cell x c hc,fun p e => ?_⟩
  obtain ⟨v,e1,e2⟩:=q2a names ps vs hlen hy₁ x p e
  rw [w8o,if_neg hxl]
  exact ⟨v,by rw [e1];rfl,e2⟩
 ·by_cases q : x = y
  ·exact q
  ·exfalso
   have hp:=X.apart
   have m1:=q0j h1
   have m2:=q0j h2
   exact q (name_of_addr hp m1 m2)
 ·cases fl <;> exact hq
end
end
section
set_option tactic.hygienic true
open PySem PySem.W PySem.Calls PyProof.Rows
variable {prog : Program} {w : World}
private theorem q7z {pos : Pos} {a b : Int} {ta tb : Tok} {c : Value} (l : List Value) (h : TriplesOk l) : ∀ v,codeAmong pos (l ++ [.int a ta,.int b tb,c]) = some v → codeAmong pos l = some v ∨ v = c:=by
 fun_induction TriplesOk l with
 | case1 =>
  intro v e
  simp only [List.nil_append,codeAmong] at e
  split at e
  ·right;cases e;rfl
  ·cases e
 | case2 x t y u z rest ih =>
  intro v e
  simp only [List.cons_append,codeAmong] at e ⊢
  split at e
  ·rename_i hc
   left;rw [if_pos hc];exact e
  ·rename_i hc
   rw [if_neg hc]
   exact ih h v e
 | case3 l h1 h2 => exact h.elim
section
variable {C : Cfg} {mu nu : List Addr} {s₀ s s' : Shared} {env : Env} {ρ : List (PySem.Str × PV)} {A : Around} {E : Value → Shared → Prop}
private theorem Ok.grow {P c' : Addr} {q : PySem.Str} {ps : Array Value} {pos : Pos} {h' : Heap} {tk : Nat} {x : Addr × Addr × PySem.Str} (O : Ok C mu s) (hx : x ∈ C.T) (hP : x.2.1 = P) (hq : x.2.2 = q) (hT : ∀ y ∈ C.T,y.2.1 = P → y.2.2 = q)
  (hps : s.heap.get? P = some (tabObj ps)) (hx' : Heap.ExtBut P s.heap h') (hc : s.heap.objs.size ≤ c') (hrec : h'.CodeRec (.ref c') q) (hP' : h'.get? P = some (tabObj (ps ++ #[rawInt pos.line,rawInt pos.col,.ref c']))) : Ok C mu { s with heap:=h',toks:=tk } where
 old:=fun b o e ht => hx' b o (fun z => ht (z ▸ hP ▸ List.mem_map_of_mem hx)) (O.old b o e ht)
 tab:=fun y hy => by
  obtain ⟨ps',h1,h2,h3⟩:=O.tab y hy
  have hPmu : P ∉ mu:=fun z => O.notTab z (hP ▸ List.mem_map_of_mem hx)
  by_cases e : y.2.1 = P
  ·rw [e,hps] at h1
   have : ps = ps':=by have:=Option.some.inj h1;injection this with _ _ e3;injection e3
   subst this
   have hyq:=hT y hy e
   rw [e,hyq]
   have hl : (ps ++ #[rawInt pos.line,rawInt pos.col,Value.ref c']).toList = ps.toList ++ [rawInt pos.line,rawInt pos.col,.ref c']:=by simp
   refine ⟨_,hP',by rw [hl];exact TriplesOk_snoc _ _ _ _ h2,fun pos' cv ecv => ?_⟩
   rw [hl] at ecv
   have hc'mu : c' ∉ mu:=fun z => by
    obtain ⟨o,ho⟩:=(O.live _ z).2
    exact Nat.lt_irrefl _ (Nat.lt_of_lt_of_le (Heap.lt_size ho) hc)
   rcases q7z ps.toList h2 cv ecv with e1 | e1
   ·obtain ⟨d,f1,f2,f3⟩:=h3 pos' cv e1
    refine ⟨d,f1,f2,?_⟩
    rw [hyq] at f3
    obtain ⟨c₁,o,vs,t,g1,g2,g3,g4⟩:=f3
    refine ⟨c₁,o,vs,t,g1,hx' _ _ (fun z => ?_) g2,g3,g4⟩
    rw [z,hps] at g2;cases g2
    cases g3;
    have e5 : (tabObj ps).data = .fields ps:=rfl
    -- a table is no code record: its second field is no str
    have hsnd : ps[1]? = some (.str q t):=g4
    have htr:=h2
    have : ps.toList[1]? = some (.str q t):=by simpa using hsnd
    cases hl2 : ps.toList with
    | nil => rw [hl2] at this;cases this
    | cons a r =>
     cases r with
     | nil => rw [hl2] at this;cases this
     | cons b r =>
      rw [hl2] at this htr
      simp at this
      subst this
      cases a <;> exact htr.elim
   ·exact ⟨c',e1,hc'mu,e1 ▸ hrec⟩
  ·refine ⟨ps',hx' _ _ e h1,h2,fun pos' cv ecv => ?_⟩
   obtain ⟨d,f1,f2,f3⟩:=h3 pos' cv ecv
   refine ⟨d,f1,f2,?_⟩
   obtain ⟨c₁,o,vs,t,g1,g2,g3,g4⟩:=f3
   refine ⟨c₁,o,vs,t,g1,hx' _ _ (fun z => ?_) g2,g3,g4⟩
   rw [z,hps] at g2;cases g2
   cases g3
   have hthis : ps.toList[1]? = some (.str y.2.2 t):=by simpa using g4
   obtain ⟨ps₂,k1,k2,_⟩:=O.tab x hx
   rw [hP,hps] at k1
   have : ps = ps₂:=by have:=Option.some.inj k1;injection this with _ _ e3;injection e3
   subst this
   cases hl2 : ps.toList with
   | nil => rw [hl2] at hthis;cases hthis
   | cons a r =>
    cases r with
    | nil => rw [hl2] at hthis;cases hthis
    | cons b r =>
     rw [hl2] at hthis k2
     simp at hthis
     subst hthis
     cases a <;> exact k2.elim
 code:=O.code
 live:=fun a ha => ⟨(O.live a ha).1,let ⟨o,ho⟩:=(O.live a ha).2;⟨o,hx' a o (fun z => O.notTab ha (z ▸ hP ▸ List.mem_map_of_mem hx)) ho⟩⟩
 gens:=O.gens
 os:=O.os
 kin:=O.kin
 kt:=O.kt
 lim:=O.lim
 glob:=O.glob
 bmod:=O.bmod
end
end
section
open PySem PySem.W PySem.Calls PyProof.Rows
variable {prog : Program} {w : World}
section
variable {C : Cfg} {mu nu : List Addr} {s₀ s s' : Shared} {env : Env} {ρ : List (PySem.Str × PV)} {σ : List (Addr × MO)} {A : Around} {E : Value → Shared → Prop}
noncomputable abbrev Mlst (l : List PV) : MO:=.seq (.type "list") none l
noncomputable def notRec (o : Obj) : Prop:=∀ vs,o.data ≠ .fields vs
private theorem Ok.add' {a : Addr} (O : Ok C mu s) (hn : C.H.get? a = none) {o : Obj} (ha : s.heap.get? a = some o) (ho : notRec o) : Ok C (a :: mu) s:=
 O.add hn ha fun x hx ps hps pos c' e q => by
  subst q
  obtain ⟨ps',h1,h2,h3⟩:=O.tab x hx
  have e' : tabObj ps' = tabObj ps:=Option.some.inj (h1.symm.trans hps)
  have : ps' = ps:=by injection e' with _ _ e3;injection e3
  subst this
  obtain ⟨d,e1,_,e3⟩:=h3 pos _ e
  obtain ⟨c₁,o₁,vs,_,f1,f2,f3,_⟩:=e3
  cases e1;cases f1
  rw [ha] at f2;cases f2
  exact ho vs f3
private theorem In.unborn (I : In C mu nu env ρ σ s₀ s) {a : Addr} (h : s.heap.get? a = none) : s₀.heap.get? a = none:=by
 cases q : s₀.heap.get? a with
 | none => rfl
 | some o =>
  have hf:=I.ok.fresh' h
  rw [I.kp.keep a o (fun q => hf.2 (I.sub a q)) hf.1 q] at h;cases h
private theorem Ok.unborn (O : Ok C mu s) {a : Addr} (h : s.heap.get? a = none) : C.H.get? a = none:=by
 cases q : C.H.get? a with
 | none => rfl
 | some o => rw [O.old a o q (O.fresh' h).1] at h;cases h
private theorem In.grow {a : Addr} {m : MO} {o : Obj} (I : In C mu nu env ρ σ s₀ s) (O' : Ok C mu s') (k : Kp C [] s s') (ha : s.heap.get? a = none) (hm : MOAt (a :: mu) s'.heap a m) (ho : s'.heap.get? a = some o) (hr : notRec o) :
  In C (a :: mu) (a :: nu) env ρ ((a,m) :: σ) s₀ s':=by
 have hamu:=(I.ok.fresh' ha).2
 have up : ∀ {p : PV} {v : Value},Sim s.heap mu p v → Sim s'.heap (a :: mu) p v:=fun x => (x.new ha).keeps (fun _ _ z _ => z) fun b o hb hc e => k.keep b o (fun h => nomatch h) (I.ok.seqNotTab hc e) e
 have hown : a ∉ q0i env:=fun q => by
  rcases List.mem_cons.mp q with rfl | q
  ·exact hamu I.act.loc
  ·obtain ⟨x,h1,h2⟩:=List.mem_map.mp q
   rcases I.cells x h1 with h3 | ⟨o,h3⟩
   ·exact hamu (h2 ▸ h3)
   ·rw [h2,I.ok.unborn ha] at h3;cases h3
 have upM : ∀ {b : Addr} {m : MO},b ∈ mu → MOAt mu s.heap b m → MOAt (a :: mu) s'.heap b m:=fun hb x => x.keeps (fun o e => k.keep _ o (fun h => nomatch h) (I.ok.notTab hb) e)
  (fun c o hc e q => by rcases List.mem_cons.mp q with rfl | q;(rw [ha] at e;cases e);exact hc q) fun c o _ hc e => k.keep c o (fun h => nomatch h) (I.ok.seqNotTab hc e) e
 refine ⟨O'.add' (I.ok.unborn ha) ho hr,⟨fun b m' e => ?_,I.act.kind,I.act.gl,I.act.bi,.tail _ I.act.loc,?_,I.act.kinds,fun x c hx hl hc => ?_,I.act.plain,I.act.inj⟩,(I.kp.trans (k.mono fun _ h => nomatch h)).mono fun _ h => .tail _ h,fun b hb => ?_,fun x hx => (I.cells x hx).imp (.tail _) id⟩
 ·rw [List.lookup_cons] at e
  cases hb : b == a with
  | true =>
   rw [hb] at e;cases e
   rw [eq_of_beq hb]
   exact ⟨.head _,hown,hm⟩
  | false =>
   rw [hb] at e
   obtain ⟨h1,h2,h3⟩:=I.act.st b m' e
   exact ⟨.tail _ h1,h2,upM h1 h3⟩
 ·obtain ⟨m,⟨o,es,ep,ho,r⟩,hv⟩:=I.act.ns
  exact ⟨m,⟨o,es,ep,k.keep _ _ (fun h => nomatch h) (I.ok.notTab I.act.loc) ho,r⟩,fun x p h1 h2 => let ⟨v,e,y⟩:=hv x p h1 h2;⟨v,e,up y⟩⟩
 ·obtain ⟨h1,h2,ov,⟨o,ho,hd⟩,h4⟩:=I.act.cell x c hx hl hc
  exact ⟨.tail _ h1,h2,ov,⟨o,k.keep _ _ (fun h => nomatch h) (I.ok.notTab h1) ho,hd⟩,fun p hp => let ⟨v,e,y⟩:=h4 p hp;⟨v,e,up y⟩⟩
 ·rcases List.mem_cons.mp hb with rfl | hb
  ·exact .head _
  ·exact .tail _ (I.sub b hb)
private theorem In.mut {a : Addr} {m m' : MO} {h' : Heap} {tk : Nat} (I : In C mu nu env ρ σ s₀ s) (hl : σ.lookup a = some m) (hnu : a ∈ nu) (hs : Heap.ExtBut a s.heap h') (hm : MOAt mu h' a m') :
  In C mu nu env ρ ((a,m') :: σ) s₀ { s with heap:=h',toks:=tk }:=by
 obtain ⟨hamu,hown,_⟩:=I.act.st a m hl
 have sk : ∀ {q : PV} {u : Value},Sim s.heap mu q u → Sim h' mu q u:=fun y => y.keeps (fun _ _ z _ => z) fun b o hb _ e => hs b o (fun q => hb (q ▸ hamu)) e
 refine ⟨I.ok.step (fun b o hb e => hs b o (fun q => hb (q ▸ hamu)) e) (fun b hb => ?_),⟨fun b m₂ e => ?_,I.act.kind,I.act.gl,I.act.bi,I.act.loc,?_,I.act.kinds,fun x c hx hl hc => ?_,I.act.plain,I.act.inj⟩,I.kp.trans ⟨fun b o hb _ e => hs b o (fun q => hb (q ▸ hnu)) e⟩,I.sub,I.cells⟩
 ·by_cases q : b = a
  ·subst q
   cases m' with
   | seq c d l => obtain ⟨vs,n,e,_⟩:=hm;exact ⟨_,e⟩
   | raw o => exact ⟨o,hm⟩
  ·obtain ⟨o,ho⟩:=(I.ok.live b hb).2;exact ⟨o,hs b o q ho⟩
 ·rw [List.lookup_cons] at e
  cases hb : b == a with
  | true =>
   rw [hb] at e;cases e
   rw [eq_of_beq hb]
   exact ⟨hamu,hown,hm⟩
  | false =>
   rw [hb] at e
   obtain ⟨h1,h2,h3⟩:=I.act.st b m₂ e
   have hba : b ≠ a:=fun q => by rw [q] at hb;simp at hb
   exact ⟨h1,h2,h3.keeps (fun o e => hs b o hba e) (fun _ _ z _ => z) fun c o hc _ e => hs c o (fun q => hc (q ▸ hamu)) e⟩
 ·obtain ⟨m,⟨o,es,ep,ho,r⟩,hv⟩:=I.act.ns
  exact ⟨m,⟨o,es,ep,hs _ _ (fun q => hown (q ▸ .head _)) ho,r⟩,fun x p h1 h2 => let ⟨v,e,y⟩:=hv x p h1 h2;⟨v,e,sk y⟩⟩
 ·obtain ⟨h1,h2,ov,⟨o,ho,hd⟩,h4⟩:=I.act.cell x c hx hl hc
  exact ⟨h1,h2,ov,⟨o,hs _ _ (fun q => hown (q ▸ .tail _ (List.mem_map_of_mem (f:=(·.2)) (q1n hc)))) ho,hd⟩,fun p hp => let ⟨v,e,y⟩:=h4 p hp;⟨v,e,sk y⟩⟩
private theorem In.freeze {a : Addr} {l : List PV} {x : PySem.Str} {σ' : List (Addr × MO)} (I : In C (a :: mu) (a :: nu) env ρ σ s₀ s) (h₀ : s₀.heap.get? a = none) (hamu : a ∉ mu) (hl : σ.lookup a = some (Mlst l)) (hx : ρ.lookup x = some (.val (.ref a)))
  (hσ : ∀ b m,σ'.lookup b = some m → σ.lookup b = some m ∧ b ≠ a) (hnu : ∀ b ∈ nu,b ∈ mu) : In C mu nu env ((x,.lst l) :: ρ) σ' s₀ s:=by
 obtain ⟨_,hown,vs,n,ho,hv⟩:=I.act.st a _ hl
 have hm : ∀ b ∈ mu,b ∈ a :: mu:=fun b h => .tail _ h
 have hne : ∀ {b : Addr},b ∈ a :: mu → b ≠ a → b ∈ mu:=fun h q => by rcases List.mem_cons.mp h with h | h;exact absurd h q;exact h
 have lk : ∀ y q,((x,PV.lst l) :: ρ).lookup y = some q → (y = x ∧ q = .lst l) ∨ (y ≠ x ∧ ρ.lookup y = some q):=fun y q e => by
  rw [List.lookup_cons] at e
  cases hy : y == x with
  | true => rw [hy] at e;cases e;exact .inl ⟨eq_of_beq hy,rfl⟩
  | false => rw [hy] at e;exact .inr ⟨fun z => by rw [z] at hy;simp at hy,e⟩
 have hlst : Sim s.heap mu (.lst l) (.ref a):=⟨a,vs,n,rfl,hamu,ho,hv.sub hm⟩
 refine ⟨I.ok.sub hm,⟨fun b m e => ?_,I.act.kind,I.act.gl,I.act.bi,hne I.act.loc (fun q => hown (q ▸ .head _)),?_,fun y q e => ?_,fun y c hy hyl hc => ?_,fun y q e => ?_,I.act.inj⟩,⟨fun b o hb ht e => I.kp.keep b o (fun q => ?_) ht e⟩,hnu,fun y hy => ?_⟩
 ·obtain ⟨e1,hb⟩:=hσ b m e
  obtain ⟨h1,h2,h3⟩:=I.act.st b m e1
  refine ⟨hne h1 hb,h2,h3.keeps (fun _ e => e) (fun c o hc _ q => hc (.tail _ q)) fun _ _ _ _ e => e⟩
 ·obtain ⟨m,hn,hv'⟩:=I.act.ns
  refine ⟨m,hn,fun y q e hl' => ?_⟩
  rcases lk y q e with ⟨rfl,rfl⟩ | ⟨_,h2⟩
  ·obtain ⟨v,e1,e2⟩:=hv' y _ hx hl'
   cases (show v = .ref a from e2)
   exact ⟨_,e1,hlst⟩
  ·obtain ⟨v,e1,e2⟩:=hv' y q h2 hl'
   exact ⟨v,e1,e2.sub hm⟩
 ·rcases lk y q e with ⟨rfl,rfl⟩ | ⟨_,h2⟩
  ·exact I.act.kinds y _ hx
  ·exact I.act.kinds y q h2
 ·obtain ⟨h1,h2,ov,h3,h4⟩:=I.act.cell y c hy hyl hc
  refine ⟨hne h1 (fun q => hown (q ▸ .tail _ (List.mem_map_of_mem (f:=(·.2)) (q1n hc)))),h2,ov,h3,fun q e => ?_⟩
  rcases lk y q e with ⟨rfl,rfl⟩ | ⟨_,h5⟩
  ·obtain ⟨v,e1,e2⟩:=h4 _ hx
   cases (show v = .ref a from e2)
   exact ⟨_,e1,hlst⟩
  ·obtain ⟨v,e1,e2⟩:=h4 q h5
   exact ⟨v,e1,e2.sub hm⟩
 ·rcases lk y q e with ⟨rfl,rfl⟩ | ⟨_,h2⟩
  ·exact I.act.plain y _ hx
  ·exact I.act.plain y q h2
 ·rcases List.mem_cons.mp q with rfl | q
  ·rw [h₀] at e;cases e
  ·exact hb q
 ·rcases I.cells y hy with h1 | h1
  ·exact .inl (hne h1 fun q => hown (q ▸ .tail _ (List.mem_map_of_mem (f:=(·.2)) hy)))
  ·exact .inr h1
private theorem In.forget {ρ' : List (PySem.Str × PV)} {σ' : List (Addr × MO)} (I : In C mu nu env ρ σ s₀ s) (hρ : ∀ x p,ρ'.lookup x = some p → ρ.lookup x = some p) (hσ : ∀ b m,σ'.lookup b = some m → σ.lookup b = some m) : In C mu nu env ρ' σ' s₀ s:=
 ⟨I.ok,⟨fun b m e => I.act.st b m (hσ b m e),I.act.kind,I.act.gl,I.act.bi,I.act.loc,let ⟨m,hn,hv⟩:=I.act.ns;⟨m,hn,fun x p h1 h2 => hv x p (hρ x p h1) h2⟩,fun x p h => I.act.kinds x p (hρ x p h),
  fun x c hx hl hc => let ⟨h1,h2,ov,h3,h4⟩:=I.act.cell x c hx hl hc;⟨h1,h2,ov,h3,fun p hp => h4 p (hρ x p hp)⟩,fun x p h => I.act.plain x p (hρ x p h),I.act.inj⟩,I.kp,I.sub,I.cells⟩
noncomputable def PurN (prog : Program) (w : World) (C : Cfg) (mu : List Addr) (A : Around) (t : Sem Value) (l : List PV) (s : Shared) : Prop:=
 ∀ (Q : Value → Shared → Prop) (E : Value → Shared → Prop),(∀ a s',Ok C mu s' → Kp C [] s s' → s.heap.get? a = none → MOAt (a :: mu) s'.heap a (Mlst l) → Q (.ref a) s') → wpAny (model prog w) A t Q E s
noncomputable def PurNE (prog : Program) (w : World) (C : Cfg) (mu : List Addr) (A : Around) (env : Env) (ρ : List (PySem.Str × PV)) (σ : List (Addr × MO)) (e : Expr) (l : List PV) : Prop:=
 ∀ s,Ok C mu s → Act env mu s.heap ρ σ → PurN prog w C mu A (eval e env) l s
private theorem PurN.pur {t : Sem Value} {l : List PV} (O : Ok C mu s) (h : PurN prog w C mu A t l s) : Pur prog w C mu A t (.lst l) s:=fun Q E k => h Q E fun a s' O' k' ha hm => by
 obtain ⟨vs,n,ho,hv⟩:=hm
 exact k _ s' O' k' ⟨a,vs,n,rfl,(O.fresh' ha).2,ho,hv.sub fun _ h => .tail _ h⟩
private theorem PurNE.pur {e : Expr} {l : List PV} (h : PurNE prog w C mu A env ρ σ e l) : PurE prog w C mu A env ρ σ e (.lst l):=fun s O a => (h s O a).pur O
private theorem PurN.alloc {t : Sem Value} {ps : List PV} (O : Ok C mu s) (h : ∀ (Q : Value → Shared → Prop) (E : Value → Shared → Prop),
   (∀ vs (n : Nat) tk h',Sims s.heap mu ps vs → (∀ b o,s.heap.get? b = some o → h'.get? b = some o) → ∀ a,s.heap.get? a = none → h'.get? a = some { cls:=.type "list",data:=.seq (List.toArray vs) n } → Q (.ref a) { s with heap:=h',toks:=tk }) → wpAny (model prog w) A t Q E s) :
  PurN prog w C mu A t ps s:=
 fun Q E k => h Q E fun vs n tk h' hv hk a ha ho => k a _ (O.keep hk) (Kp.of_keep hk) ha ⟨vs,n,ho,(hv.new ha).keeps (fun _ _ z _ => z) fun b o _ _ e => hk b o e⟩
private theorem w3z {es : List Expr} {ps : List PV} {pos : Pos} (h : PurEs prog w C mu A env ρ σ es ps) (hsz : ps.length ≤ sizeLine) : PurNE prog w C mu A env ρ σ (.List es pos) ps:=fun s O a Q E k =>
 List_ (h pos s O a _ _ fun vs s₁ O₁ k₁ y₁ => (PurN.alloc O₁ fun Q' E' k' => wpAny_newObj_type (k' vs 0 _ _ y₁ (fun b o e => Heap.get?_push_of_some _ e) _ (Ok.size_none s₁) (Heap.get?_push_size _ rfl)) (by show (List.toArray vs).size ≤ sizeLine;rw [List.size_toArray,y₁.length];exact hsz)) _ _
  fun a' s' O' k' ha hm => k a' s' O' (k₁.trans k') (by
   cases q : s.heap.get? a' with
   | none => rfl
   | some o =>
    have hf:=O₁.fresh' ha
    rw [k₁.keep a' o (fun h => nomatch h) hf.1 q] at ha;cases ha) hm)
noncomputable def Op2N (prog : Program) (w : World) (C : Cfg) (mu : List Addr) (A : Around) (f : Value → Value → Sem Value) (p q : PV) (l : List PV) : Prop:=
 ∀ s a b,Ok C mu s → Sim s.heap mu p a → Sim s.heap mu q b → PurN prog w C mu A (f a b) l s
private theorem q4y {a : Addr} (O : Ok C mu s') (k : Kp C [] s s') (ha : s'.heap.get? a = none) : s.heap.get? a = none:=by
 cases q : s.heap.get? a with
 | none => rfl
 | some o =>
  rw [k.keep a o (fun h => nomatch h) (O.fresh' ha).1 q] at ha;cases ha
private theorem q7d {l r : Expr} {op : Operator} {pos : Pos} {p q : PV} {z : List PV} (hl : PurE prog w C mu A env ρ σ l p) (hr : PurE prog w C mu A env ρ σ r q)
  (ho : Op2N prog w C mu A (binaryOp op) p q z) : PurNE prog w C mu A env ρ σ (.BinOp l op r pos) z:=fun s O a Q E k =>
 wpAny_BinOp (hl s O a _ _ fun v s₁ O₁ k₁ y₁ => hr s₁ O₁ (a.kp O k₁) _ _ fun u s₂ O₂ k₂ y₂ => ho s₂ v u O₂ (y₁.kp0 O₁ k₂) y₂ _ _ fun v' s' O' k' ha hm => k v' s' O' ((k₁.trans k₂).trans k') (q4y O₂ (k₁.trans k₂) ha) hm)
private theorem Mlst.notRec {h : Heap} {a : Addr} {l : List PV} (hm : MOAt mu h a (Mlst l)) : ∃ o,h.get? a = some o ∧ notRec o:=let ⟨_,_,e,_⟩:=hm;⟨_,e,fun _ q => nomatch q⟩
private theorem w9a {x : PySem.Str} {px pos : Pos} {e : Expr} {l : List PV} {Q : Flow → Shared → Prop} (I : In C mu nu env ρ σ s₀ s) (hL : env.locals ∈ nu) (he : PurNE prog w C mu A env ρ σ e l)
  (k : ∀ a s',s₀.heap.get? a = none → a ∉ mu → In C (a :: mu) (a :: nu) env ((x,.val (.ref a)) :: ρ) ((a,Mlst l) :: σ) s₀ s' → Q .next s') (hx : autoParam (env.kindOf x = some .local) tR) (hn : autoParam (okName x = true) tR) (hs : autoParam (swapsWith e (some (.Name x px)) pos.line env = pure false) tR) :
  wpAny (model prog w) A (exec (.Assign [.Name x px] e pos) env) Q E s:=
 wpAny_Assign_Name (he s I.ok I.act _ _ fun a s₁ O₁ k₁ ha hm => by
  obtain ⟨o,ho,hr⟩:=Mlst.notRec hm
  exact w1z (p:=.val (.ref a)) (I.grow O₁ k₁ ha hm ho hr) (.tail _ hL) rfl (fun s' I' _ => k a s' (I.unborn ha) (I.ok.fresh' ha).2 I') hx hn) hs
private theorem w5o {x : PySem.Str} {c : Addr} {px pos : Pos} {e : Expr} {l : List PV} {Q : Flow → Shared → Prop} (I : In C mu nu env ρ σ s₀ s) (hc : env.cells.lookup x = some c) (hL : c ∈ nu) (he : PurNE prog w C mu A env ρ σ e l)
  (k : ∀ a s',s₀.heap.get? a = none → a ∉ mu → In C (a :: mu) (a :: nu) env ((x,.val (.ref a)) :: ρ) ((a,Mlst l) :: σ) s₀ s' → Q .next s') (hx : autoParam (env.kindOf x = some .cell) tR) (hn : autoParam (okName x = true) tR) (hs : autoParam (swapsWith e (some (.Name x px)) pos.line env = pure false) tR) :
  wpAny (model prog w) A (exec (.Assign [.Name x px] e pos) env) Q E s:=
 wpAny_Assign_Name (he s I.ok I.act _ _ fun a s₁ O₁ k₁ ha hm => by
  obtain ⟨o,ho,hr⟩:=Mlst.notRec hm
  exact st_cell (p:=.val (.ref a)) (I.grow O₁ k₁ ha hm ho hr) hc (.tail _ hL) rfl (fun s' I' _ => k a s' (I.unborn ha) (I.ok.fresh' ha).2 I') hx hn) hs
end
end
section
open PySem PySem.W PySem.Calls PyProof.Rows
variable {prog : Program} {w : World}
noncomputable def NoBase (o : Obj) : Prop:=o.cls ≠ .type "list" ∧ o.cls ≠ .type "tuple" ∧ ∀ vs q t,o.data = .fields vs → vs[1]? ≠ some (.str q t)
section
variable {C : Cfg} {mu nu : List Addr} {s₀ s s' : Shared} {env : Env} {ρ : List (PySem.Str × PV)} {σ : List (Addr × MO)} {A : Around} {E : Value → Shared → Prop}
private theorem Sim.but {h h' : Heap} {p : PV} {v : Value} {it : Addr} (x : Sim h mu p v) (hk : ∀ b o,b ≠ it → h.get? b = some o → h'.get? b = some o) (hn : ∀ o,h.get? it = some o → NoBase o) : Sim h' mu p v:=
 x.keeps (fun _ _ z _ => z) fun b o _ hc e => hk b o (fun q => by subst q;rcases hc with hc | hc;exact (hn o e).1 hc;exact (hn o e).2.1 hc) e
private theorem Sims.but {h h' : Heap} {p : List PV} {v : List Value} {it : Addr} (x : Sims h mu p v) (hk : ∀ b o,b ≠ it → h.get? b = some o → h'.get? b = some o) (hn : ∀ o,h.get? it = some o → NoBase o) : Sims h' mu p v:=
 x.keeps (fun _ _ z _ => z) fun b o _ hc e => hk b o (fun q => by subst q;rcases hc with hc | hc;exact (hn o e).1 hc;exact (hn o e).2.1 hc) e
private theorem MOAt.but {h h' : Heap} {a : Addr} {m : MO} {it : Addr} (x : MOAt mu h a m) (ha : a ≠ it) (hk : ∀ b o,b ≠ it → h.get? b = some o → h'.get? b = some o) (hn : ∀ o,h.get? it = some o → NoBase o) : MOAt mu h' a m:=
 x.keeps (fun o e => hk a o ha e) (fun _ _ z _ => z) fun b o _ hc e => hk b o (fun q => by subst q;rcases hc with hc | hc;exact (hn o e).1 hc;exact (hn o e).2.1 hc) e
private theorem Ok.but {it : Addr} {h' : Heap} {tk : Nat} (O : Ok C mu s) (hk : ∀ b o,b ≠ it → s.heap.get? b = some o → h'.get? b = some o) (hn : ∀ o,s.heap.get? it = some o → NoBase o) (h1 : it ∉ mu) (h2 : it ∉ C.tabs) (h3 : C.H.get? it = none) : Ok C mu { s with heap:=h',toks:=tk } where
 old:=fun b o e ht => hk b o (fun q => by rw [q,h3] at e;cases e) (O.old b o e ht)
 tab:=fun x hx => by
  obtain ⟨ps,a,b,c⟩:=O.tab x hx
  refine ⟨ps,hk _ _ (fun q => h2 (q ▸ List.mem_map_of_mem hx)) a,b,fun pos c' e => ?_⟩
  obtain ⟨d,e1,e2,e3⟩:=c pos c' e
  refine ⟨d,e1,e2,?_⟩
  obtain ⟨c₁,o,vs,t,f1,f2,f3,f4⟩:=e3
  subst e1
  cases f1
  exact ⟨_,o,vs,t,rfl,hk _ _ (fun q => by rw [q] at f2;exact (hn o f2).2.2 vs _ t f3 f4) f2,f3,f4⟩
 code:=O.code
 live:=fun a ha => ⟨(O.live a ha).1,let ⟨o,e⟩:=(O.live a ha).2;⟨o,hk a o (fun (q : a = it) => h1 (q ▸ ha)) e⟩⟩
 gens:=O.gens
 os:=O.os
 kin:=O.kin
 kt:=O.kt
 lim:=O.lim
 glob:=O.glob
 bmod:=O.bmod
private theorem Act.but {it : Addr} {h' : Heap} (a : Act env mu s.heap ρ σ) (hk : ∀ b o,b ≠ it → s.heap.get? b = some o → h'.get? b = some o) (hn : ∀ o,s.heap.get? it = some o → NoBase o) (h1 : it ∉ mu) : Act env mu h' ρ σ where
 st:=fun b m e => let ⟨x1,x2,x3⟩:=a.st b m e;⟨x1,x2,x3.but (fun (q : b = it) => h1 (q ▸ x1)) hk hn⟩
 kind:=a.kind
 gl:=a.gl
 bi:=a.bi
 loc:=a.loc
 ns:=by
  obtain ⟨m,⟨o,es,ep,ho,r⟩,hv⟩:=a.ns
  exact ⟨m,⟨o,es,ep,hk _ _ (fun q => h1 (q ▸ a.loc)) ho,r⟩,fun x p e1 e2 => let ⟨v,e,y⟩:=hv x p e1 e2;⟨v,e,y.but hk hn⟩⟩
 kinds:=a.kinds
 cell:=fun x c hx hl hc => by
  obtain ⟨x1,x2,ov,⟨o,ho,hd⟩,x4⟩:=a.cell x c hx hl hc
  exact ⟨x1,x2,ov,⟨o,hk _ _ (fun q => h1 (q ▸ x1)) ho,hd⟩,fun p hp => let ⟨v,e,y⟩:=x4 p hp;⟨v,e,y.but hk hn⟩⟩
 plain:=a.plain
 inj:=a.inj
private theorem In.but {it : Addr} {h' : Heap} {tk : Nat} (I : In C mu nu env ρ σ s₀ s) (hk : ∀ b o,b ≠ it → s.heap.get? b = some o → h'.get? b = some o) (hn : ∀ o,s.heap.get? it = some o → NoBase o) (h1 : it ∉ mu) (h2 : it ∉ C.tabs) (h3 : C.H.get? it = none) (h4 : s₀.heap.get? it = none) :
  In C mu nu env ρ σ s₀ { s with heap:=h',toks:=tk }:=
 ⟨I.ok.but hk hn h1 h2 h3,I.act.but hk hn h1,⟨fun b o hb ht e => hk b o (fun q => by rw [q,h4] at e;cases e) (I.kp.keep b o hb ht e)⟩,I.sub,I.cells⟩
private theorem In.rebase (I : In C mu nu env ρ σ s₀ s) : In C mu nu env ρ σ s s:=⟨I.ok,I.act,.refl,I.sub,I.cells⟩
private theorem In.after (k : Kp C nu s₀ s) (I : In C mu nu env ρ σ s s') : In C mu nu env ρ σ s₀ s':=⟨I.ok,I.act,k.trans I.kp,I.sub,I.cells⟩
noncomputable abbrev q7e : List String:=["enumerate","zip","dict_itemiterator","dict_reverseitemiterator","odict_iterator","itertools.zip_longest","itertools.pairwise"]
noncomputable def q6d (o : Obj) : Prop:=NoBase o ∧ ∃ n vs,o.cls = .type n ∧ o.data = .fields vs ∧ q7e.contains n = false
noncomputable def OpIter (prog : Program) (w : World) (C : Cfg) (mu : List Addr) (p : PV) (l : List PV) : Prop:=
 ∀ (A : Around) (s : Shared) (v : Value),A.handled = none → Ok C mu s → Sim s.heap mu p v → ∀ (Q : Value → Shared → Prop) (E : Value → Shared → Prop),
  (∀ it h' tk fp P St,(∀ b o,s.heap.get? b = some o → h'.get? b = some o) → s.heap.get? it = none → (∀ A' : Around,A'.handled = none → Walks prog w A' it fp [it] l.length P St) → St 0 h' →
   (∀ i h,St i h → ∃ o,h.get? it = some o ∧ q6d o) → (∀ b ∈ fp,b ≠ it → b ∉ mu ∧ b ∉ C.tabs ∧ ∃ o,h'.get? b = some o) → (∀ i v,i < l.length → P i v → ∃ p,l[i]? = some p ∧ Sim h' mu p v) → Q (.ref it) { s with heap:=h',toks:=tk }) →
  wpAny (model prog w) A (pyIter v) Q E s
noncomputable def IterE (prog : Program) (w : World) (C : Cfg) (mu : List Addr) (A : Around) (env : Env) (ρ : List (PySem.Str × PV)) (σ : List (Addr × MO)) (e : Expr) (l : List PV) : Prop:=
 ∀ s,Ok C mu s → Act env mu s.heap ρ σ → ∀ (Q : Value → Shared → Prop) (E : Value → Shared → Prop),
  (∀ it s₁ fp P St,Ok C mu s₁ → Kp C [] s s₁ → s.heap.get? it = none → it ∉ mu → it ∉ C.tabs → (∀ A' : Around,A'.handled = none → Walks prog w A' it fp [it] l.length P St) → St 0 s₁.heap →
   (∀ i h,St i h → ∃ o,h.get? it = some o ∧ q6d o) → (∀ b ∈ fp,b ≠ it → b ∉ mu ∧ b ∉ C.tabs ∧ ∃ o,s₁.heap.get? b = some o) → (∀ i v,i < l.length → P i v → ∃ p,l[i]? = some p ∧ Sim s₁.heap mu p v) → Q (.ref it) s₁) →
  wpAny (model prog w) A (eval e env) (fun x s₁ => wpAny (model prog w) A (pyIter x) Q E s₁) E s
private theorem IterE.of {e : Expr} {p : PV} {l : List PV} (hA : A.handled = none) (he : PurE prog w C mu A env ρ σ e p) (hi : OpIter prog w C mu p l) : IterE prog w C mu A env ρ σ e l:=fun s O a Q E k =>
 he s O a _ _ fun v s₁ O₁ k₁ y₁ => hi A s₁ v hA O₁ y₁ _ _ fun it h' tk fp P St hk hit W hst hobj hfp hP =>
  k it { s₁ with heap:=h',toks:=tk } fp P St (O₁.keep hk) (k₁.trans (Kp.of_keep hk)) (by
   cases q : s.heap.get? it with
   | none => rfl
   | some o => rw [k₁.keep it o (fun h => nomatch h) (O₁.fresh' hit).1 q] at hit;cases hit) (O₁.fresh' hit).2 (O₁.fresh' hit).1 W hst hobj hfp hP
private theorem q6n {target : Expr} {it : Addr} {v : Value} {Q : Unit → Shared → Prop} (h : ∃ o,s.heap.get? it = some o ∧ q6d o) (k : Q () s) : wpAny (model prog w) A (letOwnedTupleGo target (.ref it) v) Q E s:=by
 obtain ⟨o,ho,_,n,vs,hc,hd,hn⟩:=h
 unfold letOwnedTupleGo
 cases target <;> first
  | exact wpAny_pure k
  | (cases v <;> first
    | exact wpAny_pure k
    | (refine wpAny_bind (wpAny_load ho ?_);rw [hc,hd];refine (congrArg (fun c : Bool => wpAny (model prog w) A (if c = true then _ else _ : Sem Unit) Q E s) ((congrArg (· && _) hn).trans (Bool.false_and _))).mpr ?_;exact wpAny_pure k))
noncomputable def IterI (prog : Program) (w : World) (C : Cfg) (mu nu : List Addr) (A : Around) (env : Env) (ρ : List (PySem.Str × PV)) (σ : List (Addr × MO)) (s₀ : Shared) (e : Expr) (l : List PV) (s : Shared) : Prop:=
 ∀ (Q : Value → Shared → Prop) (E : Value → Shared → Prop),
  (∀ sB it s₁ fp P St,In C mu nu env ρ σ s₀ sB → Ok C mu s₁ → Kp C [] sB s₁ → sB.heap.get? it = none → it ∉ mu → it ∉ C.tabs → (∀ A' : Around,A'.handled = none → Walks prog w A' it fp [it] l.length P St) → St 0 s₁.heap →
   (∀ i h,St i h → ∃ o,h.get? it = some o ∧ q6d o) → (∀ b ∈ fp,b ≠ it → b ∉ mu ∧ b ∉ C.tabs ∧ ∃ o,s₁.heap.get? b = some o) → (∀ i v,i < l.length → P i v → ∃ p,l[i]? = some p ∧ Sim s₁.heap mu p v) → Q (.ref it) s₁) →
  wpAny (model prog w) A (eval e env) (fun x s₁ => wpAny (model prog w) A (pyIter x) Q E s₁) E s
private theorem IterE.toI {e : Expr} {l : List PV} (I : In C mu nu env ρ σ s₀ s) (h : IterE prog w C mu A env ρ σ e l) : IterI prog w C mu nu A env ρ σ s₀ e l s:=fun Q E k =>
 h s I.ok I.act Q E fun it s₁ fp P St a1 a2 a3 a4 a5 a6 a7 a8 a9 a10 => k s it s₁ fp P St I a1 a2 a3 a4 a5 a6 a7 a8 a9 a10
private theorem IterI.ofX {e : Expr} {p : PV} {l : List PV} (hA : A.handled = none) (hi : OpIter prog w C mu p l) (h : ∀ (Q : Value → Shared → Prop) (E : Value → Shared → Prop),(∀ v s',In C mu nu env ρ σ s₀ s' → Sim s'.heap mu p v → Q v s') → wpAny (model prog w) A (eval e env) Q E s) : IterI prog w C mu nu A env ρ σ s₀ e l s:=fun Q E k =>
 h _ _ fun v s₁ I₁ y₁ => hi A s₁ v hA I₁.ok y₁ _ _ fun it h' tk fp P St hk hit W hst hobj hfp hP =>
  k s₁ it { s₁ with heap:=h',toks:=tk } fp P St I₁ (I₁.ok.keep hk) (Kp.of_keep hk) hit (I₁.ok.fresh' hit).2 (I₁.ok.fresh' hit).1 W hst hobj hfp hP
private theorem st_ForI {target iter : Expr} {body orelse : List Stmt} {pos : Pos} {l : List PV} {Q : Flow → Shared → Prop} (hA : A.handled = none) (hi : IterI prog w C mu nu A env ρ σ s₀ iter l s)
  (J : Nat → List (PySem.Str × PV) → List (Addr × MO) → Prop) (B : Flow → List (PySem.Str × PV) → List (Addr × MO) → Shared → Prop) (h0 : J 0 ρ σ)
  (turn : ∀ i p v ρ σ s,l[i]? = some p → J i ρ σ → In C mu nu env ρ σ s s → Sim s.heap mu p v → wpAny (model prog w) A (assign target env v) (fun _ s₂ => wpAny (model prog w) A (execs body env) (fun f s₃ => ∃ ρ' σ',In C mu nu env ρ' σ' s s₃ ∧
   match f with | .next | .cont => J (i + 1) ρ' σ' | f => B f ρ' σ' s₃) (fun _ _ => False) s₂) (fun _ _ => False) s)
  (kE : ∀ ρ σ s',J l.length ρ σ → In C mu nu env ρ σ s₀ s' → wpAny (model prog w) A (execs orelse env) Q (fun _ _ => False) s')
  (kB : ∀ f ρ σ s',B f ρ σ s' → In C mu nu env ρ σ s₀ s' → match f with | .brk => Q .next s' | .ret v => Q (.ret v) s' | _ => True)
  (hs : autoParam (∀ x,foldedSetIterable iter env x = pure x) tR) : wpAny (model prog w) A (exec (.For target iter body orelse pos) env) Q E s:=by
 refine wpAny_For (hi _ _ fun s it s₁ fp P St I O₁ k₁ hit₀ hmu htab W hst hobj hfp hP => ?_) hs
 have h00:=I.unborn hit₀
 have hH:=I.ok.unborn hit₀
 have I₂ : In C mu nu env ρ σ s₀ s₁:=I.next O₁ k₁
 -- the values that come stand as long as the lists stand
 refine codeAny_forLoop_any (fun n s' => ∃ i ρ σ,n = l.length - i ∧ i ≤ l.length ∧ J i ρ σ ∧ In C mu nu env ρ σ s₀ s' ∧ St i s'.heap ∧ Kp C (it :: nu) s₁ s') ?_ l.length ⟨0,ρ,σ,by simp,Nat.zero_le _,h0,I₂,hst,.refl⟩
 rintro n s' ⟨i,ρ',σ',rfl,hil,hJ,I',st,kk⟩
 have noB : ∀ o,s'.heap.get? it = some o → NoBase o:=fun o e => by
  obtain ⟨o',e',x⟩:=hobj i _ st
  rw [e] at e';cases e';exact x.1
 by_cases hlt : i < l.length
 ·refine (W A hA).item i s' _ _ hlt st fun v h₂ tk₂ hPv st₂ hk₂ => ?_
  have hb : ∀ b o,b ≠ it → s'.heap.get? b = some o → h₂.get? b = some o:=fun b o hb e => hk₂ b o (by simpa using hb) e
  have I₃ : In C mu nu env ρ' σ' s₀ { s' with heap:=h₂,toks:=tk₂ }:=I'.but hb noB hmu htab hH h00
  refine q6n (hobj _ _ st₂) ?_
  obtain ⟨p,hp,yp⟩:=hP i v hlt hPv
  have yp' : Sim s'.heap mu p v:=yp.keeps (fun _ _ z _ => z) fun b o hb hc e => kk.keep b o (fun q => by
   rcases List.mem_cons.mp q with rfl | q
   ·obtain ⟨o',e',x⟩:=hobj 0 _ hst
    rw [e] at e';cases e'
    rcases hc with hc | hc
    ·exact x.1.1 hc
    ·exact x.1.2.1 hc
   ·exact hb (I.sub b q)) (I₂.ok.seqNotTab hc e) e
  have yp₂ : Sim h₂ mu p v:=yp'.but hb noB
  refine wpAny_mono (turn i p v ρ' σ' _ hp hJ I₃.rebase yp₂) (fun _ s₄ h₄ => wpAny_mono h₄ (fun f s₅ h₅ => ?_) fun _ _ f => f.elim) fun _ _ f => f.elim
  obtain ⟨ρ₅,σ₅,I₅,hf⟩:=h₅
  have st₅ : St (i + 1) s₅.heap:=(W A hA).frame _ _ _ st₂ fun b hb o e => by
   refine I₅.kp.keep b o (fun q => ?_) ?_ e
   ·by_cases hbi : b = it
    ·exact hmu (I.sub it (hbi ▸ q))
    ·exact (hfp b hb hbi).1 (I.sub b q)
   ·by_cases hbi : b = it
    ·exact hbi ▸ htab
    ·exact (hfp b hb hbi).2.1
  have kk₅ : Kp C (it :: nu) s₁ s₅:=kk.trans (Kp.trans (s':={ s' with heap:=h₂,toks:=tk₂ }) ⟨fun b o h1 _ e => hb b o (fun q => h1 (q ▸ .head _)) e⟩ (I₅.kp.mono fun _ h => .tail _ h))
  have I₆:=I₅.after I₃.kp
  cases f with
  | next => exact ⟨l.length - (i + 1),by with_reducible exact na8,i + 1,ρ₅,σ₅,rfl,hlt,hf,I₆,st₅,kk₅⟩
  | cont => exact ⟨l.length - (i + 1),by with_reducible exact na8,i + 1,ρ₅,σ₅,rfl,hlt,hf,I₆,st₅,kk₅⟩
  | brk => exact kB .brk ρ₅ σ₅ s₅ hf I₆
  | ret v => exact kB (.ret v) ρ₅ σ₅ s₅ hf I₆
 ·have hie : i = l.length:=Nat.le_antisymm hil (Nat.le_of_not_lt hlt)
  subst hie
  refine (W A hA).done s' _ _ st fun h₂ tk₂ hk₂ => ?_
  have hb : ∀ b o,b ≠ it → s'.heap.get? b = some o → h₂.get? b = some o:=fun b o hb e => hk₂ b o (by simpa using hb) e
  have I₃ : In C mu nu env ρ' σ' s₀ { s' with heap:=h₂,toks:=tk₂ }:=I'.but hb noB hmu htab hH h00
  exact wpAny_mono (kE ρ' σ' _ hJ I₃) (fun _ _ q => q) fun _ _ f => f.elim
private theorem q4o {target iter : Expr} {body orelse : List Stmt} {pos : Pos} {l : List PV} {Q : Flow → Shared → Prop} (I : In C mu nu env ρ σ s₀ s) (hA : A.handled = none) (hi : IterE prog w C mu A env ρ σ iter l)
  (J : Nat → List (PySem.Str × PV) → List (Addr × MO) → Prop) (B : Flow → List (PySem.Str × PV) → List (Addr × MO) → Shared → Prop) (h0 : J 0 ρ σ)
  (turn : ∀ i p v ρ σ s,l[i]? = some p → J i ρ σ → In C mu nu env ρ σ s s → Sim s.heap mu p v → wpAny (model prog w) A (assign target env v) (fun _ s₂ => wpAny (model prog w) A (execs body env) (fun f s₃ => ∃ ρ' σ',In C mu nu env ρ' σ' s s₃ ∧
   match f with | .next | .cont => J (i + 1) ρ' σ' | f => B f ρ' σ' s₃) (fun _ _ => False) s₂) (fun _ _ => False) s)
  (kE : ∀ ρ σ s',J l.length ρ σ → In C mu nu env ρ σ s₀ s' → wpAny (model prog w) A (execs orelse env) Q (fun _ _ => False) s')
  (kB : ∀ f ρ σ s',B f ρ σ s' → In C mu nu env ρ σ s₀ s' → match f with | .brk => Q .next s' | .ret v => Q (.ret v) s' | _ => True)
  (hs : autoParam (∀ x,foldedSetIterable iter env x = pure x) tR) : wpAny (model prog w) A (exec (.For target iter body orelse pos) env) Q E s:=
 st_ForI hA (hi.toI I) J B h0 turn kE kB hs
private theorem st_For {target iter : Expr} {body orelse : List Stmt} {pos : Pos} {p : PV} {l : List PV} {Q : Flow → Shared → Prop} (I : In C mu nu env ρ σ s₀ s) (hA : A.handled = none) (he : PurE prog w C mu A env ρ σ iter p) (hi : OpIter prog w C mu p l)
  (J : Nat → List (PySem.Str × PV) → List (Addr × MO) → Prop) (B : Flow → List (PySem.Str × PV) → List (Addr × MO) → Shared → Prop) (h0 : J 0 ρ σ)
  (turn : ∀ i p v ρ σ s,l[i]? = some p → J i ρ σ → In C mu nu env ρ σ s s → Sim s.heap mu p v → wpAny (model prog w) A (assign target env v) (fun _ s₂ => wpAny (model prog w) A (execs body env) (fun f s₃ => ∃ ρ' σ',In C mu nu env ρ' σ' s s₃ ∧
   match f with | .next | .cont => J (i + 1) ρ' σ' | f => B f ρ' σ' s₃) (fun _ _ => False) s₂) (fun _ _ => False) s)
  (kE : ∀ ρ σ s',J l.length ρ σ → In C mu nu env ρ σ s₀ s' → wpAny (model prog w) A (execs orelse env) Q (fun _ _ => False) s')
  (kB : ∀ f ρ σ s',B f ρ σ s' → In C mu nu env ρ σ s₀ s' → match f with | .brk => Q .next s' | .ret v => Q (.ret v) s' | _ => True)
  (hs : autoParam (∀ x,foldedSetIterable iter env x = pure x) tR) : wpAny (model prog w) A (exec (.For target iter body orelse pos) env) Q E s:=
 q4o I hA (.of hA he hi) J B h0 turn kE kB hs
private theorem q2l {c : String} {a b : Value} {r : List Value} {o : Obj} (hc : o.cls = .type c) (hd : ∃ vs,o.data = .fields vs ∧ ∀ q t,vs[1]? ≠ some (.str q t)) (h : c ≠ "list" ∧ c ≠ "tuple" ∧ q7e.contains c = false) : q6d o:=by
 obtain ⟨vs,hd,hv⟩:=hd
 refine ⟨⟨by rw [hc];intro q;cases q;exact h.1 rfl,by rw [hc];intro q;cases q;exact h.2.1 rfl,fun vs' q t e => ?_⟩,c,vs,hc,hd,h.2.2⟩
 rw [hd] at e;cases e;exact hv q t
private theorem q1y {l : List PV} : OpIter prog w C mu (.lst l) l:=fun A s v hA O y Q E k => by
 obtain ⟨a,vs,n,rfl,ha,ho,hv⟩:=y
 have hl : s.heap.IsList a vs.toArray:=⟨_,ho,rfl,n,rfl⟩
 refine wpAny_pyIter_list hl ?_
 have hne : a ≠ s.heap.objs.size:=fun q => by rw [q,Ok.size_none] at ho;cases ho
 have hlen : vs.toArray.size = l.length:=by simp [hv.length]
 refine k s.heap.objs.size _ s.toks _ _ _ (fun b o e => Heap.get?_push_of_some _ e) (Ok.size_none s) (fun A' hA' => hlen ▸ Walks.list (prog:=prog) (w:=w) hA' _ a hne vs.toArray) ⟨⟨_,Heap.get?_push_size _ rfl,rfl,rfl⟩,hl.push _⟩ (fun i h st => ?_) (fun b hb hbi => ?_) (fun i v _ hP => ?_)
 ·obtain ⟨o,h1,h2,h3⟩:=st.1
  exact ⟨o,h1,q2l (a:=.none) (b:=.none) (r:=[]) h2 ⟨_,h3,fun q t e => by simp at e⟩ (by decide)⟩
 ·simp at hb
  rcases hb with rfl | rfl
  ·exact absurd rfl hbi
  ·exact ⟨ha,O.seqNotTab (.inl rfl) ho,_,Heap.get?_push_of_some _ ho⟩
 ·have hPi : vs[i]? = some v:=by simpa using hP
  have hi : i < l.length:=by
   have:=List.getElem?_eq_some_iff.mp hPi
   rw [← hv.length];exact this.1
  refine ⟨l[i],by simp [hi],?_⟩
  obtain ⟨u,e1,e2⟩:=hv.get i l[i] (by simp [hi])
  rw [hPi] at e1;cases e1
  exact e2.keeps (fun _ _ z _ => z) fun b o _ _ e => Heap.get?_push_of_some _ e
private theorem w8a {x : PySem.Str} : OpIter prog w C mu (.str x) (x.cps.toList.map fun c => .str ⟨#[c]⟩):=fun A s v hA O ⟨t,hv⟩ Q E k => by
 subst hv
 have key : ∀ (c : String) (h' : Heap) (St : Nat → Heap → Prop),c ≠ "list" ∧ c ≠ "tuple" ∧ q7e.contains c = false → (∀ i h,St i h → h.IsStrIter s.heap.objs.size c x t i) →
   (∀ b o,s.heap.get? b = some o → h'.get? b = some o) → St 0 h' → (∀ A' : Around,A'.handled = none → Walks prog w A' s.heap.objs.size [s.heap.objs.size] [s.heap.objs.size] x.cps.size (SignAt x) St) → Q (.ref s.heap.objs.size) { s with heap:=h' }:=
  fun c h' St hc hSt hk h0 W => k s.heap.objs.size h' s.toks _ _ St hk (Ok.size_none s) (fun A' hA' => by simpa using W A' hA') h0 (fun i h st => by
   obtain ⟨o,h1,h2,h3⟩:=hSt i h st
   exact ⟨o,h1,q2l (a:=.none) (b:=.none) (r:=[]) h2 ⟨_,h3,fun q t e => by simp at e⟩ hc⟩) (fun b hb hbi => by simp at hb;exact absurd hb hbi) fun i v _ hP => by
    obtain ⟨c,u,h1,rfl⟩:=hP
    exact ⟨.str ⟨#[c]⟩,by simp [h1],u,rfl⟩
 cases ha : x.cps.all (· < 128)
 ·exact wpAny_pyIter_wide ha (key "str_iterator" _ (fun i h => h.IsStrIter s.heap.objs.size "str_iterator" x t i) (by decide) (fun _ _ h => h) (fun b o e => Heap.get?_push_of_some _ e) ⟨_,Heap.get?_push_size _ rfl,rfl,rfl⟩ fun A' hA' => Walks.strWide hA' _ x t)
 ·exact wpAny_pyIter_ascii ha (key "str_ascii_iterator" _ (fun i h => h.IsStrIter s.heap.objs.size "str_ascii_iterator" x t i) (by decide) (fun _ _ h => h) (fun b o e => Heap.get?_push_of_some _ e) ⟨_,Heap.get?_push_size _ rfl,rfl,rfl⟩ fun A' hA' => Walks.strAscii hA' _ x t)
end
end
section
open PySem PySem.W PySem.Calls PyProof.Rows
variable {prog : Program} {w : World}
section
variable {C : Cfg} {mu nu : List Addr} {s₀ s s' : Shared} {env : Env} {ρ : List (PySem.Str × PV)} {σ : List (Addr × MO)} {A : Around} {E : Value → Shared → Prop}
noncomputable def StOk (env : Env) (nu : List Addr) (x : PySem.Str) : Prop:=okName x = true ∧ ((env.kindOf x = some .local ∧ env.locals ∈ nu) ∨ (env.kindOf x = some .cell ∧ ∃ c,env.cells.lookup x = some c ∧ c ∈ nu))
private theorem q2b {x : PySem.Str} {p : PV} {v : Value} {Q : Unit → Shared → Prop} (I : In C mu nu env ρ σ s₀ s) (hx : StOk env nu x) (hv : Sim s.heap mu p v)
  (k : ∀ s',In C mu nu env ((x,p) :: ρ) σ s₀ s' → Kp C nu s s' → Q () s') : wpAny (model prog w) A (storeName env x v) Q E s:=by
 obtain ⟨hn,⟨h1,h2⟩ | ⟨h1,c,h2,h3⟩⟩:=hx
 ·exact w1z I h2 hv (fun s' I' k' => k s' I' (k'.mono fun a h => by simp at h;exact h ▸ h2)) h1 hn
 ·exact st_cell I h2 h3 hv (fun s' I' k' => k s' I' (k'.mono fun a h => by simp at h;exact h ▸ h3)) h1 hn
private theorem q3a {x : PySem.Str} {px : Pos} {p : PV} {v : Value} {Q : Unit → Shared → Prop} (I : In C mu nu env ρ σ s₀ s) (hx : StOk env nu x) (hv : Sim s.heap mu p v)
  (k : ∀ s',In C mu nu env ((x,p) :: ρ) σ s₀ s' → Q () s') : wpAny (model prog w) A (assign (.Name x px) env v) Q E s:=wpAny_assign_Name (q2b I hx hv fun s' I' _ => k s' I')
private theorem q0h {x : PySem.Str} {px pos : Pos} {e : Expr} {p : PV} {Q : Flow → Shared → Prop} (I : In C mu nu env ρ σ s₀ s) (hx : StOk env nu x) (he : PurE prog w C mu A env ρ σ e p)
  (k : ∀ s',In C mu nu env ((x,p) :: ρ) σ s₀ s' → Q .next s') (hs : autoParam (swapsWith e (some (.Name x px)) pos.line env = pure false) tR) :
  wpAny (model prog w) A (exec (.Assign [.Name x px] e pos) env) Q E s:=
 wpAny_Assign_Name (he s I.ok I.act _ _ fun v s₁ O₁ k₁ y₁ => q2b (I.next O₁ k₁) hx y₁ fun s' I' _ => k s' I') hs
private theorem In.fresh0 (I : In C mu nu env ρ σ s₀ s) {h' : Heap} {tk : Nat} (he : Heap.ExtBut s.heap.objs.size s.heap h') : In C mu nu env ρ σ s₀ { s with heap:=h',toks:=tk }:=
 have hn:=Ok.size_none s
 I.but (fun b o hb e => he b o hb e) (fun o e => by rw [hn] at e;cases e) (I.ok.fresh' hn).2 (I.ok.fresh' hn).1 (I.ok.unborn hn) (I.unborn hn)
private theorem Sims.fresh0 {h' : Heap} {l : List PV} {vs : List Value} (O : Ok C mu s) (y : Sims s.heap mu l vs) (he : Heap.ExtBut s.heap.objs.size s.heap h') : Sims h' mu l vs:=
 have hn:=Ok.size_none s
 y.but (fun b o hb e => he b o hb e) (fun o e => by rw [hn] at e;cases e)
private theorem w3g {x y : PySem.Str} {px py pos : Pos} {kk : Nat} {p q : PV} {v : Value} {Q : Unit → Shared → Prop} (I : In C mu nu env ρ σ s₀ s) (hA : A.handled = none) (hx : StOk env nu x) (hy : StOk env nu y) (hv : Sim s.heap mu (.tup [p,q]) v)
  (k : ∀ s',In C mu nu env ((y,q) :: (x,p) :: ρ) σ s₀ s' → Q () s') : wpAny (model prog w) A (assign (.Tuple [.Name x px,.Name y py] kk pos) env v) Q E s:=by
 obtain ⟨a,vs,n,rfl,ha,ho,hvs⟩:=hv
 obtain ⟨v₁,r,rfl,y₁,v₂,r₂,rfl,y₂,hr⟩:=hvs
 cases (show r₂ = [] from hr)
 refine assign_Tuple_tuple (items:=#[v₁,v₂]) hA ⟨_,ho,rfl,n,rfl⟩ rfl rfl fun h' he => ?_
 have I₁ : In C mu nu env ρ σ s₀ { s with heap:=h',toks:=s.toks }:=I.fresh0 he
 have ys : Sims h' mu [p,q] [v₁,v₂]:=Sims.fresh0 I.ok ⟨_,_,rfl,y₁,_,_,rfl,y₂,rfl⟩ he
 obtain ⟨_,_,e1,z₁,_,_,e2,z₂,_⟩:=ys
 cases e1;cases e2
 show wpAny _ _ (do holding [v₂] (assign (.Name x px) env v₁);(do holding [] (assign (.Name y py) env v₂);pure ())) _ _ _
 refine wpAny_bind (wpAny_holding (wpAny_assign_Name (q2b I₁ hx z₁ fun s₂ I₂ k₂ => ?_)))
 exact wpAny_bind (wpAny_holding (wpAny_assign_Name (q2b I₂ hy (z₂.kp I₁.ok I.sub k₂) fun s₃ I₃ _ => wpAny_pure (k s₃ I₃))))
private theorem q2c {x y : PySem.Str} {px py tp pos : Pos} {kk : Nat} {e : Expr} {p q : PV} {Q : Flow → Shared → Prop} (I : In C mu nu env ρ σ s₀ s) (hA : A.handled = none) (hx : StOk env nu x) (hy : StOk env nu y) (he : PurE prog w C mu A env ρ σ e (.tup [p,q]))
  (k : ∀ s',In C mu nu env ((y,q) :: (x,p) :: ρ) σ s₀ s' → Q .next s') (hs : autoParam (swapsWithSole [.Tuple [.Name x px,.Name y py] kk tp] e pos.line env = pure false) tR)
  (hw : autoParam (swappedStores [.Tuple [.Name x px,.Name y py] kk tp] e env = pure none) tR) : wpAny (model prog w) A (exec (.Assign [.Tuple [.Name x px,.Name y py] kk tp] e pos) env) Q E s:=
 Assign_Tuple (he s I.ok I.act _ _ fun v s₁ O₁ k₁ y₁ => w3g (I.next O₁ k₁) hA hx hy y₁ k) hs hw
private theorem q8u {x y : PySem.Str} {px py tp pos : Pos} {kk : Nat} {e : Expr} {p q : PV} {Q : Flow → Shared → Prop} (I : In C mu nu env ρ σ s₀ s) (hA : A.handled = none) (hx : StOk env nu x) (hy : StOk env nu y) (he : PurE prog w C mu A env ρ σ e (.tup [p,q]))
  (k : ∀ s',In C mu nu env ((x,p) :: (y,q) :: ρ) σ s₀ s' → Q .next s') (hs : autoParam (swapsWithSole [.Tuple [.Name x px,.Name y py] kk tp] e pos.line env = pure false) tR)
  (hw : autoParam (swappedStores [.Tuple [.Name x px,.Name y py] kk tp] e env = pure (some [x,y])) tR) : wpAny (model prog w) A (exec (.Assign [.Tuple [.Name x px,.Name y py] kk tp] e pos) env) Q E s:=by
 refine Assign_Tuple_swapped (he s I.ok I.act _ _ fun v s₁ O₁ k₁ y₁ => ?_) hs hw
 obtain ⟨a,vs,n,rfl,ha,ho,hvs⟩:=y₁
 obtain ⟨v₁,r,rfl,y₁,v₂,r₂,rfl,y₂,hr⟩:=hvs
 cases (show r₂ = [] from hr)
 have I₁:=I.next O₁ k₁
 refine unpackItems_tuple (items:=#[v₁,v₂]) hA ⟨_,ho,rfl,n,rfl⟩ fun h' he' => ?_
 have I₂ : In C mu nu env ρ σ s₀ { s₁ with heap:=h',toks:=s₁.toks }:=I₁.fresh0 he'
 have ys : Sims h' mu [p,q] [v₁,v₂]:=Sims.fresh0 I₁.ok ⟨_,_,rfl,y₁,_,_,rfl,y₂,rfl⟩ he'
 obtain ⟨_,_,e1,z₁,_,_,e2,z₂,_⟩:=ys
 cases e1;cases e2
 show wpAny _ _ (do holding [v₁] (bindName env y v₂);(do holding [] (bindName env x v₁);pure ())) _ _ _
 refine wpAny_bind (wpAny_holding (wpAny_bindName (q2b I₂ hy z₂ fun s₃ I₃ k₃ => ?_)))
 exact wpAny_bind (wpAny_holding (wpAny_bindName (q2b I₃ hx (z₁.kp I₂.ok I.sub k₃) fun s₄ I₄ _ => wpAny_pure (k s₄ I₄))))
private theorem q4h {name : PySem.Str} {id : String} {pl : Sem Bool} {a : Addr} {vs : List Value} {n : Nat} {Q : Value × List Value → Shared → Prop} (slot : Slot "list" name id)
  (hty : typeOf (.builtin id) = pure (.type "method_descriptor")) (ho : s.heap.get? a = some { cls:=.type "list",dict:=none,data:=.seq vs.toArray n }) (h : Q (.builtin id,[.ref a]) s) : wpAny (model prog w) A (getMethod (.ref a) name pl) Q E s:=
 getMethod_list_of slot hty ⟨_,ho,rfl,n,rfl⟩ ⟨_,ho,rfl⟩ h
private theorem q8t {o e : Expr} {apos pos epos : Pos} {a : Addr} {l : List PV} {p : PV} {pl : Sem Bool} {name : PySem.Str} {Q : Flow → Shared → Prop} (I : In C mu nu env ρ σ s₀ s) (hl : σ.lookup a = some (Mlst l)) (hnu : a ∈ nu) (ho : PurE prog w C mu A env ρ σ o (.val (.ref a)))
  (ha : PurEs prog w C mu A env ρ σ [e] [p]) (hsz : l.length ≤ sizeLine) (k : ∀ s',In C mu nu env ρ ((a,Mlst (l ++ [p])) :: σ) s₀ s' → Q .next s') (hname : name = PySem.Str.ofString "append")
  (he : autoParam (eval (.Call (.Attribute o name apos) [e] [] pos) env = (do let ov ← eval o env;standAt apos.atName;let __x ← holding [ov] (getMethod ov name pl);match __x with | (f,first) => callWith pos f first (backTo pos (starEach [e] env)) [])) tR)
  (hs : autoParam (starEach [e] env = (false,eval e env) :: starEach [] env) tR) (hplain : autoParam ((backTo pos (starEach [] env)).any (·.1) = false) tR)
  (hi : autoParam (interactive env = false) tR) (hsw : autoParam (swapsWith (.Call (.Attribute o name apos) [e] [] pos) none epos.line env = pure false) tR) :
  wpAny (model prog w) A (exec (.Expr (.Call (.Attribute o name apos) [e] [] pos) epos) env) Q E s:=by
 subst hname
 refine wpAny_Expr_any (MethodCall_ (pl:=pl) (ho s I.ok I.act _ _ fun v s₁ O₁ k₁ y₁ => ?_) he) hi hsw
 cases (show v = .ref a from y₁)
 have I₁:=I.next O₁ k₁
 obtain ⟨_,_,vs,n,hol,hvs⟩:=I₁.act.st a _ hl
 refine q4h slot_list_append type_list_append hol (callWith_method1 (ha pos s₁ I₁.ok I₁.act _ _ fun ws s₂ O₂ k₂ y₂ => ?_) hs hplain)
 have I₂:=I₁.next O₂ k₂
 obtain ⟨v₁,r,rfl,z,hr⟩:=y₂
 cases (show r = [] from hr)
 obtain ⟨_,_,vs,n,hol,hvs⟩:=I₂.act.st a _ hl
 have hsz' : vs.toArray.size ≤ sizeLine:=by simpa [hvs.length] using hsz
 refine wpAny_list_append_plain (hsz:=hsz') ⟨n,hol⟩ fun h' hpl hsb => k _ (I₂.mut (tk:=s₂.toks) hl hnu hsb.extBut ?_)
 obtain ⟨n',e'⟩:=hpl
 have hamu:=(I₂.act.st a _ hl).1
 have up : ∀ {l : List PV} {vs : List Value},Sims s₂.heap mu l vs → Sims h' mu l vs:=fun y => y.keeps (fun _ _ z _ => z) fun b o hb _ e => hsb.extBut b o (fun q => hb (q ▸ hamu)) e
 exact ⟨vs ++ [v₁],n',by rw [e'];simp,(up hvs).append (up ⟨_,_,rfl,z,rfl⟩)⟩
private theorem w8z {o : Expr} {apos pos epos : Pos} {a : Addr} {l : List PV} {pl : Sem Bool} {name : PySem.Str} {Q : Flow → Shared → Prop} (I : In C mu nu env ρ σ s₀ s) (hl : σ.lookup a = some (Mlst l)) (hnu : a ∈ nu) (ho : PurE prog w C mu A env ρ σ o (.val (.ref a)))
  (hsz : l.length ≤ sizeLine) (k : ∀ s',In C mu nu env ρ ((a,Mlst l.reverse) :: σ) s₀ s' → Q .next s') (hname : name = PySem.Str.ofString "reverse")
  (he : autoParam (eval (.Call (.Attribute o name apos) [] [] pos) env = (do let ov ← eval o env;standAt apos.atName;let __x ← holding [ov] (getMethod ov name pl);match __x with | (f,first) => callWith pos f first (backTo pos (starEach [] env)) [])) tR)
  (hi : autoParam (interactive env = false) tR) (hsw : autoParam (swapsWith (.Call (.Attribute o name apos) [] [] pos) none epos.line env = pure false) tR) :
  wpAny (model prog w) A (exec (.Expr (.Call (.Attribute o name apos) [] [] pos) epos) env) Q E s:=by
 subst hname
 refine wpAny_Expr_any (MethodCall_ (pl:=pl) (ho s I.ok I.act _ _ fun v s₁ O₁ k₁ y₁ => ?_) he) hi hsw
 cases (show v = .ref a from y₁)
 have I₁:=I.next O₁ k₁
 obtain ⟨hamu,_,vs,n,hol,hvs⟩:=I₁.act.st a _ hl
 refine q4h PySem.F.slot_list_reverse PySem.F.type_list_reverse hol (callWith_method0 ?_)
 have hsz' : vs.toArray.size ≤ sizeLine:=by simpa [hvs.length] using hsz
 refine call_meets PySem.F.slot_list_reverse ⟨_,hol,rfl⟩ PySem.F.entry_list_reverse (PySem.F.args_list_reverse_1 _) (AutoListH.list_reverse_list_0 a vs.toArray n hsz') ⟨hol,?_⟩
 have hsb : Heap.SameBut a s₁.heap (s₁.heap.update a (Obj.mapSeq fun x => x.reverse)):=Heap.SameBut.update ..
 refine k _ (I₁.mut (tk:=s₁.toks) hl hnu hsb.extBut ?_)
 refine ⟨vs.reverse,n,?_,?_⟩
 ·rw [Heap.get?_update_self _ hol rfl]
  simp [Obj.mapSeq]
 ·have : ∀ {l : List PV} {vs : List Value},Sims s₁.heap mu l vs → Sims s₁.heap mu l.reverse vs.reverse:=by
   intro l
   induction l with
   | nil => intro vs h;cases (show vs = [] from h);rfl
   | cons p l ih =>
    intro vs h
    obtain ⟨v,r,rfl,y,ys⟩:=h
    rw [List.reverse_cons,List.reverse_cons]
    exact (ih ys).append ⟨_,_,rfl,y,rfl⟩
  exact (this hvs).keeps (fun _ _ z _ => z) fun b o hb _ e => hsb.extBut b o (fun q => hb (q ▸ hamu)) e
private theorem Sims.set {h : Heap} : ∀ {l : List PV} {vs : List Value} (i : Nat) {p : PV} {v : Value},Sims h mu l vs → Sim h mu p v → Sims h mu (l.set i p) (vs.set i v)
 | [],_,_,_,_,x,_ => by cases x;rfl
 | _ :: _,_,0,_,_,⟨v,r,e,x,y⟩,z => by subst e;exact ⟨_,_,rfl,z,y⟩
 | _ :: _,_,i + 1,_,_,⟨v,r,e,x,y⟩,z => by subst e;exact ⟨_,_,rfl,x,y.set i z⟩
private theorem w8y {o i e : Expr} {opos pos : Pos} {a : Addr} {l : List PV} {p : PV} {j : Nat} {Q : Flow → Shared → Prop} (I : In C mu nu env ρ σ s₀ s) (hl : σ.lookup a = some (Mlst l)) (hnu : a ∈ nu) (he : PurE prog w C mu A env ρ σ e p) (ho : PurE prog w C mu A env ρ σ o (.val (.ref a)))
  (hi : PurE prog w C mu A env ρ σ i (.int j)) (hj : j < l.length) (hsz : l.length < 2 ^ 63) (k : ∀ s',In C mu nu env ρ ((a,Mlst (l.set j p)) :: σ) s₀ s' → Q .next s')
  (hs : autoParam (swapsWith e (some (.Subscript o i opos)) pos.line env = pure false) tR) : wpAny (model prog w) A (exec (.Assign [.Subscript o i opos] e pos) env) Q E s:=by
 refine wpAny_Assign_Subscript (he s I.ok I.act _ _ fun v s₁ O₁ k₁ y₁ => ?_) hs
 have I₁:=I.next O₁ k₁
 refine ho s₁ I₁.ok I₁.act _ _ fun ov s₂ O₂ k₂ y₂ => ?_
 cases (show ov = .ref a from y₂)
 have I₂:=I₁.next O₂ k₂
 refine hi s₂ I₂.ok I₂.act _ _ fun iv s₃ O₃ k₃ y₃ => ?_
 obtain ⟨t,rfl⟩:=y₃
 have I₃:=I₂.next O₃ k₃
 have yv:=(y₁.kp0 O₁ k₂).kp0 O₂ k₃
 obtain ⟨hamu,_,vs,n,hol,hvs⟩:=I₃.act.st a _ hl
 have hlen : vs.toArray.size = l.length:=by simp [hvs.length]
 have hpl : s₃.heap.PlainList a vs.toArray:=⟨n,hol⟩
 refine ki_setAt (n:=n) hol (by lia) (by lia) (by rw [hlen];lia) ?_
 have hsb : Heap.SameBut a s₃.heap (s₃.heap.update a (Obj.mapSeq (·.setIfInBounds (j : Int).toNat v))):=Heap.SameBut.update ..
 refine k _ (I₃.mut (tk:=s₃.toks) hl hnu hsb.extBut ?_)
 refine ⟨vs.set j v,n,?_,(hvs.set j yv).keeps (fun _ _ z _ => z) fun b o hb _ e => hsb.extBut b o (fun q => hb (q ▸ hamu)) e⟩
 rw [Heap.get?_update_self _ hol rfl]
 simp [Obj.mapSeq]
end
end
section
open PySem PySem.W PySem.Calls PyProof.Rows
variable {prog : Program} {w : World}
section
variable {C : Cfg} {mu mu' nu : List Addr} {s₀ s s' : Shared} {env : Env} {ρ : List (PySem.Str × PV)} {σ : List (Addr × MO)} {A : Around} {E : Value → Shared → Prop}
noncomputable def Cfg.now (C : Cfg) (s : Shared) (mu : List Addr) : Cfg:={ C with H:=hideAll s.heap mu }
private theorem Cfg.now_get {b : Addr} {o : Obj} (h : (C.now s mu).H.get? b = some o) : s.heap.get? b = some o ∧ b ∉ mu:=
 ⟨of_hideAll _ h,fun q => by rw [show (C.now s mu).H.get? b = none from hideAll_none _ q] at h;cases h⟩
private theorem Ok.upOld (O : Ok C mu s) {b : Addr} {o : Obj} (h : C.H.get? b = some o) (ht : b ∉ C.tabs) : (C.now s mu).H.get? b = some o:=
 hideAll_get _ (O.old b o h ht) fun q => by rw [(O.live b q).1] at h;cases h
private theorem Ok.now (O : Ok C mu s) : Ok (C.now s mu) mu s where
 old:=fun b o e _ => (Cfg.now_get e).1
 tab:=O.tab
 code:=fun x hx => by
  obtain ⟨h1,h2,o,h3⟩:=O.code x hx
  refine ⟨?_,h2,?_⟩
  ·obtain ⟨o,vs,file,tf,flags,tg,inF,text,tt,e,r⟩:=h1
   exact ⟨o,vs,file,tf,flags,tg,inF,text,tt,O.upOld e h2,r⟩
  ·obtain ⟨ps,e,_⟩:=O.tab x hx
   exact ⟨_,hideAll_get _ e fun q => O.notTab q (List.mem_map_of_mem hx)⟩
 live:=fun a ha => ⟨hideAll_none _ ha,(O.live a ha).2⟩
 gens:=O.gens
 os:=O.os
 kin:=fun a o e => O.upOld (O.kin a o e) fun q => by have e' : C.K.lookup a = some o:=e;rw [O.kt a q] at e';cases e'
 kt:=O.kt
 lim:=by
  obtain ⟨⟨mc,⟨o,es,ep,ho,r⟩,h⟩,ht⟩:=O.lim
  exact ⟨⟨mc,⟨o,es,ep,O.upOld ho ht,r⟩,h⟩,ht⟩
 glob:=by
  obtain ⟨⟨o,es,ep,ho,r⟩,ht⟩:=O.glob
  exact ⟨⟨o,es,ep,O.upOld ho ht,r⟩,ht⟩
 bmod:=by
  obtain ⟨bm,ob,h1,h2,h3,h4,h5,h6⟩:=O.bmod
  exact ⟨bm,ob,h1,h2,h3,h4,O.upOld h5 h4,h6⟩
private theorem Ok.back (O : Ok C mu s) (O' : Ok (C.now s mu) mu' s') : Ok C mu' s' where
 old:=fun b o e ht => O'.old b o (O.upOld e ht) ht
 tab:=O'.tab
 code:=O.code
 live:=fun a ha => by
  refine ⟨?_,(O'.live a ha).2⟩
  cases q : C.H.get? a with
  | none => rfl
  | some o =>
   by_cases ht : a ∈ C.tabs
   ·exact absurd ht (O'.notTab ha)
   ·have:=(O'.live a ha).1
    rw [O.upOld q ht] at this
    cases this
 gens:=O'.gens
 os:=O'.os
 kin:=O.kin
 kt:=O.kt
 lim:=O.lim
 glob:=O.glob
 bmod:=O.bmod
private theorem Kp.back (k : Kp (C.now s mu) nu s' s₀) : Kp C nu s' s₀:=⟨k.keep⟩
private theorem Kp.now {s₁ : Shared} (k : Kp C nu s' s₀) : Kp (C.now s₁ mu) nu s' s₀:=⟨k.keep⟩
private theorem In.now (I : In C mu nu env ρ σ s₀ s) : In (C.now s mu) mu nu env ρ σ s₀ s:=
 ⟨I.ok.now,I.act,I.kp.now,I.sub,fun x hx => (I.cells x hx).imp id fun ⟨o,e⟩ => by
  by_cases ht : x.2 ∈ C.tabs
  ·obtain ⟨o',e'⟩:=I.ok.tabAlive ht
   exact ⟨o',hideAll_get _ e' fun q => I.ok.notTab q ht⟩
  ·exact ⟨o,I.ok.upOld e ht⟩⟩
private theorem st_Def {name : PySem.Str} {params : Arguments} {body : List Stmt} {scope : Scope} {pos : Pos} {x : Addr × Addr × PySem.Str} {clos : List (PySem.Str × Addr)} {Q : Flow → Shared → Prop} (I : In C mu nu env ρ σ s₀ s) (hx : x ∈ C.T) (hcode : env.code = .ref x.1) (hq : x.2.2 = qualnameIn env name name)
  (hT : C.T.all (fun y => y.2.1 != x.2.1 || y.2.2 == x.2.2) = true) (hcl : closureFor scope env = pure clos) (hn : StOk env nu name) (hd0 : params.defaults = []) (hk0 : params.kw_defaults = []) (ha : annTrees params none env = [])
  (hco : scope.isCoroutine = false) (hgen : scope.isGenerator = false) (hkind : scope.kind = .function)
  (k : ∀ f s₁ s₂ doc pm cd ct,Def (C.now s₁ mu) f (fnX name x.2.2 params body scope clos .none .none doc pm none cd ct) body →
   In (C.now s₁ mu) mu nu env ((name,.val (.ref f)) :: ρ) σ s₀ s₂ → Ok C mu s₁ → Q .next s₂) :
  wpAny (model prog w) A (exec (.FunctionDef name params body [] none [] scope none name pos) env) Q E s:=by
 have O:=I.ok
 have hP : x.2.1 ∈ C.tabs:=List.mem_map_of_mem hx
 obtain ⟨ps,hps,htr,hent⟩:=O.tab x hx
 obtain ⟨hhd,hct,_⟩:=O.code x hx
 have hhd' : CodeHd s.heap x.1 x.2.1:=by
  obtain ⟨o,vs,file,tf,flags,tg,inF,text,tt,e,r⟩:=hhd
  exact ⟨o,vs,file,tf,flags,tg,inF,text,tt,O.old _ _ e hct,r⟩
 have hgP : mainGlobals ≠ x.2.1:=fun q => O.glob.2 (q ▸ hP)
 have hT' : ∀ y ∈ C.T,y.2.1 = x.2.1 → y.2.2 = x.2.2:=fun y hy e => by
  have:=List.all_eq_true.mp hT y hy
  simpa [e] using this
 -- the end of both roads: a function object at a new place
 have fin : ∀ (f : Addr) (doc pm cd ct : Value) (s₁ : Shared),In C mu nu env ρ σ s₀ s₁ → s₁.heap.get? f = some { cls:=.type "function",data:=.func (fnX name x.2.2 params body scope clos .none .none doc pm none cd ct) } → (∃ c',cd = .ref c' ∧ c' ∉ mu ∧ c' ∉ C.tabs ∧ s₁.heap.CodeRec (.ref c') x.2.2) → f ∉ mu →
   wpAny (model prog w) A (storeName env name (.ref f)) (fun _ s'' => Q .next s'') E s₁:=fun f doc pm cd ct s₁ I₁ hf hcr hfm => by
  obtain ⟨c',hc',hcm,hctb,c₁,o,vs,t,f1,f2,f3,f4⟩:=hcr
  cases f1
  have hft : f ∉ C.tabs:=I₁.ok.fnNotTab hf rfl
  have D : Def (C.now s₁ mu) f (fnX name x.2.2 params body scope clos .none .none doc pm none cd ct) body:=fun mu' s' O' =>
   ⟨⟨_,O'.old _ _ (hideAll_get _ hf hfm) hft,rfl⟩,rfl,hc' ▸ ⟨c',o,vs,t,rfl,O'.old _ _ (hideAll_get _ f2 hcm) hctb,f3,f4⟩,hco,hgen,hkind,rfl,rfl⟩
  exact q2b (p:=.val (.ref f)) I₁.now hn rfl fun s₂ I₂ _ => k f s₁ s₂ doc pm cd ct D I₂ I₁.ok
 refine nestDef_K hd0 hk0 ha ?_
 rw [← hq]
 cases hf : codeAmong pos ps.toList with
 | none =>
  refine makeFunction_K (mg:=C.mg) hcl I.act.gl O.globals hcode hhd' hps htr hf hgP (O.builtinsAt hP) fun c' ctv doc h' tk hx' hge hlt hrec hP' => ?_
  have O₁ : Ok C mu { s with heap:=h',toks:=tk }:=O.grow hx rfl rfl hT' hps hx' hge hrec hP'
  have hc'fresh : s.heap.get? c' = none:=Heap.get?_none_of_le hge
  obtain ⟨hc't,hc'm⟩:=O.fresh' hc'fresh
  have I₁ : In C mu nu env ρ σ s₀ { s with heap:=h',toks:=tk }:=I.next O₁ ⟨fun b o _ hb e => hx' b o (fun q => hb (q ▸ hP)) e⟩
  have I₂ : In C mu nu env ρ σ s₀ { s with heap:=h'.push (fnMade name x.2.2 params body scope clos doc ((C.mg "__name__").getD .none) c' ctv),toks:=tk }:=
   I₁.next (s':={ s with heap:=h'.push (fnMade name x.2.2 params body scope clos doc ((C.mg "__name__").getD .none) c' ctv),toks:=tk }) (O₁.push (tk:=tk)) (Kp.of_keep (s:={ s with heap:=h',toks:=tk }) (tk:=tk) fun _ _ e => Heap.get?_push_of_some _ e)
  have hfn : h'.get? h'.objs.size = none:=Ok.size_none { s with heap:=h',toks:=tk }
  exact fin _ _ _ _ _ _ I₂ (Heap.get?_push_size _ rfl) ⟨c',rfl,hc'm,hc't,hrec.push _⟩ (O₁.fresh' hfn).2
 | some cv =>
  obtain ⟨c',rfl,hc'm,hrec⟩:=hent pos cv hf
  have hc't : c' ∉ C.tabs:=fun q => by
   obtain ⟨y,hy,hyc⟩:=List.mem_map.mp q
   obtain ⟨ps₂,k1,k2,_⟩:=O.tab y hy
   obtain ⟨c₁,o,vs,t,g1,g2,g3,g4⟩:=hrec
   cases g1
   rw [hyc,g2] at k1
   cases k1
   cases g3
   have hthis : ps₂.toList[1]? = some (.str x.2.2 t):=by simpa using g4
   cases hl2 : ps₂.toList with
   | nil => rw [hl2] at hthis;cases hthis
   | cons a r =>
    cases r with
    | nil => rw [hl2] at hthis;cases hthis
    | cons b r =>
     rw [hl2] at hthis k2
     simp at hthis
     subst hthis
     cases a <;> exact k2.elim
  refine makeFunction_hit (mg:=C.mg) hcl I.act.gl O.globals hcode hhd' hps htr hf (O.builtinsAt hP) fun ctv doc h' tk hk hsz => ?_
  have O₁ : Ok C mu { s with heap:=h',toks:=tk }:=O.keep hk
  have I₁ : In C mu nu env ρ σ s₀ { s with heap:=h',toks:=tk }:=I.next O₁ (Kp.of_keep hk)
  have I₂:=I₁.next (s':={ s with heap:=h'.push (fnMade name x.2.2 params body scope clos doc ((C.mg "__name__").getD .none) c' ctv),toks:=tk }) (O₁.push (tk:=tk)) (Kp.of_keep (s:={ s with heap:=h',toks:=tk }) (tk:=tk) fun _ _ e => Heap.get?_push_of_some _ e)
  have hfn : h'.get? h'.objs.size = none:=Ok.size_none { s with heap:=h',toks:=tk }
  exact fin _ _ _ _ _ _ I₂ (Heap.get?_push_size _ rfl) ⟨c',rfl,hc'm,hc't,(hrec.keeps hk).push _⟩ (O₁.fresh' hfn).2
end
end
section
open PySem PySem.W PySem.Calls PyProof.Rows
variable {prog : Program} {w : World}
section
variable {C : Cfg} {mu mu' nu : List Addr} {s₀ s s' : Shared} {env : Env} {ρ : List (PySem.Str × PV)} {σ : List (Addr × MO)} {A : Around} {E : Value → Shared → Prop}
inductive IsLst (h : Heap) (mu : List Addr) (l : List PV) (v : Value) : Prop
 | mk (a : Addr) (vs : List Value) (n : Nat) (e : v = .ref a) (ho : h.get? a = some { cls:=.type "list",data:=.seq (List.toArray vs) n }) (hv : Sims h mu l vs) : IsLst h mu l v
private theorem IsLst.kp0 {l : List PV} {v : Value} (O : Ok C mu s) (x : IsLst s.heap mu l v) (k : Kp C [] s s') : IsLst s'.heap mu l v:=by
 obtain ⟨a,vs,n,e,ho,hv⟩:=x
 exact ⟨a,vs,n,e,k.keep _ _ (fun h => nomatch h) (O.seqNotTab (.inl rfl) ho) ho,hv.kp0 O k⟩
noncomputable def PurL (prog : Program) (w : World) (C : Cfg) (mu : List Addr) (A : Around) (env : Env) (ρ : List (PySem.Str × PV)) (σ : List (Addr × MO)) (e : Expr) (l : List PV) : Prop:=
 ∀ s,Ok C mu s → Act env mu s.heap ρ σ → ∀ (Q : Value → Shared → Prop) (E : Value → Shared → Prop),(∀ v s',Ok C mu s' → Kp C [] s s' → IsLst s'.heap mu l v → Q v s') → wpAny (model prog w) A (eval e env) Q E s
private theorem q0m {e : Expr} {l : List PV} (h : PurE prog w C mu A env ρ σ e (.lst l)) : PurL prog w C mu A env ρ σ e l:=fun s O a Q E k => h s O a _ _ fun v s' O' k' y => by
 obtain ⟨x,vs,n,e,_,ho,hv⟩:=y
 exact k v s' O' k' ⟨x,vs,n,e,ho,hv⟩
private theorem purL_mut {e : Expr} {l : List PV} {x : Addr} (h : PurE prog w C mu A env ρ σ e (.val (.ref x))) (hl : σ.lookup x = some (Mlst l)) : PurL prog w C mu A env ρ σ e l:=fun s O a Q E k => h s O a _ _ fun v s' O' k' y => by
 obtain ⟨_,_,vs,n,ho,hv⟩:=(a.kp O k').st x _ hl
 exact k v s' O' k' ⟨x,vs,n,y,ho,hv⟩
private theorem q1e {value slice : Expr} {pos : Pos} {l : List PV} {j : Nat} {p : PV} (hv : PurL prog w C mu A env ρ σ value l) (hi : PurE prog w C mu A env ρ σ slice (.int j)) (hx : l[j]? = some p) (hsz : l.length < 2 ^ 63)
  (hs : autoParam (∀ o i,subscripted slice false o i = operate [o,i] (getItem o i)) tR) : PurE prog w C mu A env ρ σ (.Subscript value slice pos) p:=fun s O a Q E k =>
 Subscript_ (hv s O a _ _ fun v s₁ O₁ k₁ y₁ => hi s₁ O₁ (a.kp O k₁) _ _ fun u s₂ O₂ k₂ y₂ => by
  obtain ⟨x,vs,n,rfl,ho,hvs⟩:=y₁.kp0 O₁ k₂
  obtain ⟨t,rfl⟩:=y₂
  obtain ⟨z,e1,e2⟩:=hvs.get j p hx
  have hlt:=(List.getElem?_eq_some_iff.mp hx).1
  have hl : s₂.heap.IsList x vs.toArray:=⟨_,ho,rfl,n,rfl⟩
  exact tail_any hl.typeIs slot_list_getitem.lookup (wpAny_getItem_list hl (by lia) (by lia) (by simpa using e1) (k z s₂ O₂ (k₁.trans k₂) e2)) (hs _ _))
private theorem q9b {value slice : Expr} {pos : Pos} {l : List PV} {j : Nat} {p : PV} (hv : PurE prog w C mu A env ρ σ value (.tup l)) (hi : PurE prog w C mu A env ρ σ slice (.int j)) (hx : l[j]? = some p) (hsz : l.length < 2 ^ 63)
  (hs : autoParam (∀ o i,subscripted slice false o i = operate [o,i] (getItem o i)) tR) : PurE prog w C mu A env ρ σ (.Subscript value slice pos) p:=fun s O a Q E k =>
 Subscript_ (hv s O a _ _ fun v s₁ O₁ k₁ y₁ => hi s₁ O₁ (a.kp O k₁) _ _ fun u s₂ O₂ k₂ y₂ => by
  obtain ⟨x,vs,n,rfl,hx',ho,hvs⟩:=y₁.kp0 O₁ k₂
  obtain ⟨t,rfl⟩:=y₂
  obtain ⟨z,e1,e2⟩:=hvs.get j p hx
  have hlt:=(List.getElem?_eq_some_iff.mp hx).1
  have hl : IsTup s₂.heap x vs.toArray:=⟨_,ho,rfl,n,rfl⟩
  refine tail_any hl.typeIs slot_tuple_getitem.lookup (PyProof.Rows.getItem_tuple (j:=j) hl (by lia) (by lia) ?_ (by simpa using e1) (k z s₂ O₂ (k₁.trans k₂) e2)) (hs _ _)
  have hlen : vs.toArray.size = l.length:=by simp [hvs.length]
  unfold seqIndex?
  rw [hlen]
  simp
  lia)
private theorem pur_itemS {value slice : Expr} {pos : Pos} {x : PySem.Str} {j : Nat} {c : Nat} (hv : PurE prog w C mu A env ρ σ value (.str x)) (hi : PurE prog w C mu A env ρ σ slice (.int j)) (hx : x.cps[j]? = some c) (hsz : x.cps.size < 2 ^ 63)
  (hs : autoParam (∀ o i,subscripted slice false o i = operate [o,i] (getItem o i)) tR) : PurE prog w C mu A env ρ σ (.Subscript value slice pos) (.str ⟨#[c]⟩):=fun s O a Q E k =>
 Subscript_ (hv s O a _ _ fun v s₁ O₁ k₁ y₁ => hi s₁ O₁ (a.kp O k₁) _ _ fun u s₂ O₂ k₂ y₂ => by
  obtain ⟨t₁,rfl⟩:=y₁.kp0 O₁ k₂
  obtain ⟨t,rfl⟩:=y₂
  have hlt:=(Array.getElem?_eq_some_iff.mp hx).1
  refine tail_any (typeIs_str s₂ x t₁) slot_str_getitem.lookup (PyProof.Rows.getItem_str (c:=c) ?_ ?_ (k _ _ O₂.tok ((k₁.trans k₂).trans ⟨fun _ _ _ _ e => e⟩) ⟨_,rfl⟩)) (hs _ _)
  ·simp;lia
  ·have e : seqIndex? (j : Int) x.length = some j:=by
    have h1 : ¬ (j : Int) < 0:=by lia
    have h2 : (0 : Int) ≤ j ∧ (j : Int) < x.cps.size:=⟨by lia,by lia⟩
    unfold seqIndex? Str.length
    simp only [h1,if_false]
    simp [hlt]
   rw [e]
   exact hx)
private theorem w0v {x : PySem.Str} {v : Value} {px pos : Pos} {e : Expr} {es : List Expr} {ps : List PV} {z : PV} {id : String} (hf : PurE prog w C mu A env ρ σ (.Name x px) (.val (.builtin id))) (hargs : PurEs prog w C mu A env ρ σ (e :: es) ps)
  (ho : ∀ s vs,Ok C mu s → Act env mu s.heap ρ σ → Sims s.heap mu ps vs → Pur prog w C mu A (call (.builtin id) vs) z s) (he : autoParam (∀ env,starEach (e :: es) env = (false,eval e env) :: starEach es env) tR)
  (hplain : autoParam ((backTo pos (starEach es env)).any (·.1) = false) tR) : PurE prog w C mu A env ρ σ (.Call (.Name x px) (e :: es) [] pos) z:=fun s O a Q E k =>
 Call_ (hf s O a _ _ fun v s₁ O₁ k₁ y₁ => by
  cases (show v = .builtin id from y₁)
  exact PyProof.Rows.callWith_builtin1 (hargs pos s₁ O₁ (a.kp O k₁) _ _ fun vs s₂ O₂ k₂ y₂ => ho s₂ vs O₂ ((a.kp O k₁).kp O₁ k₂) y₂ _ _ fun v' s' O' k' y' => k v' s' O' ((k₁.trans k₂).trans k') y') (he env) hplain)
private theorem len_lst {l : List PV} {v : Value} (O : Ok C mu s) (y : IsLst s.heap mu l v) (hsz : l.length < 2 ^ 63) : Pur prog w C mu A (call (.builtin "len") [v]) (.int l.length) s:=by
 obtain ⟨x,vs,n,rfl,ho,hvs⟩:=y
 have hlen : vs.toArray.size = l.length:=by simp [hvs.length]
 refine Pur.here O fun Q E k => call_len_list (items:=vs.toArray) ⟨_,ho,rfl,n,rfl⟩ (by rw [hlen];lia) ?_
 rw [hlen]
 exact k _ _ ⟨_,rfl⟩
private theorem op_len {l : List PV} (hsz : l.length < 2 ^ 63) : OpL prog w C mu A (fun vs => call (.builtin "len") vs) [.lst l] (.int l.length):=fun s vs O hy => by
 obtain ⟨v,r,rfl,⟨x,ws,n,e,_,ho,hv⟩,hr⟩:=hy
 cases (show r = [] from hr)
 exact len_lst O ⟨x,ws,n,e,ho,hv⟩ hsz
private theorem q3d {x : PySem.Str} (hsz : x.cps.size < 2 ^ 63) : OpL prog w C mu A (fun vs => call (.builtin "len") vs) [.str x] (.int x.length):=fun s vs O hy => by
 obtain ⟨v,r,rfl,⟨t,rfl⟩,hr⟩:=hy
 cases (show r = [] from hr)
 exact Pur.here O fun Q E k => P.len_str (by unfold Str.length;lia) (k _ _ ⟨_,rfl⟩)
private theorem pur_lenM {x y : PySem.Str} {a : Addr} {l : List PV} {px py pos : Pos} (hf : PurE prog w C mu A env ρ σ (.Name x px) (.val (.builtin "len"))) (hy : PurE prog w C mu A env ρ σ (.Name y py) (.val (.ref a))) (hl : σ.lookup a = some (Mlst l)) (hsz : l.length < 2 ^ 63) :
  PurE prog w C mu A env ρ σ (.Call (.Name x px) [.Name y py] [] pos) (.int l.length):=
 w0v (v:=.none) hf (q0c hy q0d fun _ => rfl) (fun s vs O a' hy => by
  obtain ⟨v,r,rfl,y,hr⟩:=hy
  cases (show r = [] from hr)
  cases (show v = .ref a from y)
  obtain ⟨_,_,ws,n,ho,hv⟩:=a'.st a _ hl
  exact len_lst O ⟨a,ws,n,rfl,ho,hv⟩ hsz) (fun _ => rfl) rfl
private theorem w2i {l : List PV} (hsz : l.length < 2 ^ 63) : OpT prog w C mu A (.lst l) (l.length != 0):=fun s v O y Q E k => by
 obtain ⟨x,vs,n,rfl,_,ho,hvs⟩:=y
 have hlen : vs.toArray.size = l.length:=by simp [hvs.length]
 refine wpAny_truthy_list (items:=vs.toArray) ⟨_,ho,rfl,n,rfl⟩ (by rw [hlen];lia) ?_
 have : (!vs.toArray.isEmpty) = (l.length != 0):=by rw [← hvs.length];cases vs <;> simp
 rw [this]
 exact k _ O.tok ⟨fun _ _ _ _ e => e⟩
private theorem q2v {x : PySem.Str} (hsz : x.cps.size < 2 ^ 63) : OpT prog w C mu A (.str x) (x.length != 0):=fun s v O y Q E k => by
 obtain ⟨t,rfl⟩:=y
 refine P.truthy_str (by unfold Str.length;lia) ?_
 have : ((x.length : Int) != 0) = (x.length != 0):=by cases x.length <;> rfl
 rw [this]
 exact k _ O.tok ⟨fun _ _ _ _ e => e⟩
private theorem Clo.ofAct {names : List (PySem.Str × NameKind)} {ρc : List (PySem.Str × PV)} {clo : List (PySem.Str × Addr)} (a : Act env mu s.heap ρ σ) (hcl : ∀ x c,clo.lookup x = some c → env.cells.lookup x = some c ∧ env.kindOf x ≠ some .local)
  (hρ : ∀ x p,ρc.lookup x = some p → ρ.lookup x = some p ∧ names.lookup x = some .free ∧ okName x = true ∧ ∃ c,clo.lookup x = some c) (hal : ∀ x ∈ clo,x.2 ∈ mu ∨ ∃ o,C.H.get? x.2 = some o) : Clo C mu s.heap clo ρc names where
 cell:=fun x c hx hc => by
  obtain ⟨h1,h2⟩:=hcl x c hc
  obtain ⟨h3,_,ov,h4,h5⟩:=a.cell x c hx h2 h1
  exact ⟨h3,ov,h4,fun p hp => h5 p (hρ x p hp).1⟩
 has:=fun x p hp => (hρ x p hp).2
 inj:=fun x y c h1 h2 => a.inj x y c (hcl x c h1).1 (hcl y c h2).1
 alive:=hal
noncomputable def FnOkC (prog : Program) (w : World) (C : Cfg) (f : Addr) (clo : List (PySem.Str × Addr)) (ρc : List (PySem.Str × PV)) (names : List (PySem.Str × NameKind)) (n : Nat) (ps : List PV) (z : PV) : Prop:=
 ∀ A mu s vs,Rm A n → Ok C mu s → Clo C mu s.heap clo ρc names → Sims s.heap mu ps vs → Pur prog w C mu A (call (.ref f) vs) z s
private theorem FnOkC.of {f : Addr} {fd : FuncData} {body : List Stmt} {n : Nat} {names : List PySem.Str} {ps : List PV} {z : PV} {ρc : List (PySem.Str × PV)} (D : Def C f fd body)
  (hbind : ∀ vs,vs.length = names.length → bindArgs fd ⟨vs,[]⟩ = pure (names.zip vs)) (hlen : names.length = ps.length)
  (hloc : names.all (fun x => fd.scope.names.lookup x == some .local && okName x) = true) (hcell : fd.scope.names.all (fun x => x.2 != .cell) = true)
  (h : ∀ A mu L s s₁,Rm A n → s.heap.get? L = none → In C (L :: mu) [L] (callEnv fd L f) ((names.zip ps).reverse ++ ρc) [] s s₁ → (∀ x ∈ fd.closure,x.2 ∈ mu ∨ ∃ o,C.H.get? x.2 = some o) →
   wpAny (model prog w) A (execs body (callEnv fd L f)) (fun fl s' => ∃ v ρ' σ',fl = .ret v ∧ In C (L :: mu) [L] (callEnv fd L f) ρ' σ' s s' ∧ Sim s'.heap (L :: mu) z v) (fun _ _ => False) s₁) : FnOkC prog w C f fd.closure ρc fd.scope.names (n + 1) ps z:=by
 intro A mu s vs r O hclo hy Q E k
 refine q1f (ρc:=ρc) (D.at O) r O hy (BindsTo.of_eq (hbind vs (by rw [hy.length,hlen]))) hlen hclo hloc hcell fun L s₁ hL I r' _ => ?_
 refine wpAny_mono (h _ mu L s s₁ r' hL I hclo.alive) (fun fl s' hq => ?_) fun _ _ f => f
 obtain ⟨v,ρ',σ',rfl,I',y⟩:=hq
 exact k v s' (I'.out hL).1 (I'.out hL).2 (y.sub fun a h => .tail _ h)
private theorem q9c {x : PySem.Str} {f : Addr} {fd : FuncData} {body : List Stmt} {px pos : Pos} {e : Expr} {es : List Expr} {ps : List PV} {z : PV} (hf : PurE prog w C mu A env ρ σ (.Name x px) (.val (.ref f))) (hargs : PurEs prog w C mu A env ρ σ (e :: es) ps)
  (D : Def C f fd body) (hfn : ∀ s vs,Ok C mu s → Act env mu s.heap ρ σ → Sims s.heap mu ps vs → Pur prog w C mu A (call (.ref f) vs) z s) (he : autoParam (∀ env,starEach (e :: es) env = (false,eval e env) :: starEach es env) tR) : PurE prog w C mu A env ρ σ (.Call (.Name x px) (e :: es) [] pos) z:=fun s O a Q E k =>
 Call_ (hf s O a _ _ fun v s₁ O₁ k₁ y₁ => by
  cases (show v = .ref f from y₁)
  obtain ⟨o,hl,hd⟩:=(D.at O₁).look
  refine callWith_function (o:=o) (fd:=fd) ?_
  have h:=hargs pos s₁ O₁ (a.kp O k₁)
  rw [he env] at h ⊢
  exact evalArgs_plain (h _ _ fun vs s₂ O₂ k₂ y₂ => ⟨⟨k₂.keep _ _ (fun h => nomatch h) (O₁.fnNotTab hl hd) hl,hd⟩,hfn s₂ vs O₂ ((a.kp O k₁).kp O₁ k₂) y₂ _ _ fun v' s' O' k' y' => k v' s' O' ((k₁.trans k₂).trans k') y'⟩))
private theorem FnOk.ofC {f : Addr} {fd : FuncData} {body : List Stmt} {n : Nat} {names : List PySem.Str} {ps : List PV} {z : PV} (D : Def C f fd body)
  (hbind : ∀ vs,vs.length = names.length → bindArgs fd ⟨vs,[]⟩ = pure (names.zip vs)) (hlen : names.length = ps.length) (hclo : fd.closure = [])
  (hloc : names.all (fun x => (fd.scope.names.lookup x == some .local || (fd.scope.names.lookup x == some .cell && ((cellsFrom 0 fd.scope.names []).lookup x).isSome)) && okName x) = true)
  (hnd : ((cellsFrom 0 fd.scope.names []).map (·.1)).Nodup)
  (h : ∀ A mu L s s₁,Rm A n → In C (q0i (callEnvC fd L f) ++ mu) (q0i (callEnvC fd L f)) (callEnvC fd L f) (names.zip ps).reverse [] s s₁ → (∀ a ∈ q0i (callEnvC fd L f),s.heap.get? a = none) →
   wpAny (model prog w) A (execs body (callEnvC fd L f)) (fun fl s' => ∃ v,fl = .ret v ∧ Ok C mu s' ∧ Kp C [] s s' ∧ Sim s'.heap mu z v) (fun _ _ => False) s₁) : FnOk prog w C f (n + 1) ps z:=by
 intro A mu r s vs O hy Q E k
 refine fn_enterC (D.at O) r O hy (hbind vs (by rw [hy.length,hlen])) hlen hclo hloc hnd fun L s₁ _ hL I r' _ => ?_
 refine wpAny_mono (h _ mu L s s₁ r' I hL) (fun fl s' hq => ?_) fun _ _ f => f
 obtain ⟨v,rfl,O',k',y⟩:=hq
 exact k v s' O' k' y
private theorem In.outD {Ls : List Addr} {s₁ : Shared} {mu₁ : List Addr} (O₁ : Ok C mu₁ s₁) (I : In (C.now s₁ mu₁) (Ls ++ mu) Ls env ρ σ s s') (hL : ∀ L ∈ Ls,s.heap.get? L = none) : Ok C mu s' ∧ Kp C [] s s':=by
 have I' : In (C.now s₁ mu₁) (Ls ++ mu) (Ls ++ []) env ρ σ s s':=by rw [List.append_nil];exact I
 obtain ⟨h1,h2⟩:=I'.outs hL
 exact ⟨O₁.back h1,h2.back⟩
end
end
section
open PySem PySem.W PySem.Calls PyProof.Rows
variable {prog : Program} {w : World}
section
variable {C : Cfg} {mu mu' nu : List Addr} {s₀ s s' : Shared} {env : Env} {ρ : List (PySem.Str × PV)} {σ σ' : List (Addr × MO)} {A : Around} {E : Value → Shared → Prop}
private theorem MOAt.kp {b : Addr} {m : MO} {ds : List Addr} (O : Ok C mu s) (k : Kp C ds s s') (hds : ∀ a ∈ ds,a ∈ mu) (hb : b ∈ mu) (hn : b ∉ ds) (x : MOAt mu s.heap b m) : MOAt mu s'.heap b m:=
 x.keeps (fun o e => k.keep b o hn (O.notTab hb) e) (fun _ _ z _ => z) fun c o hc hk e => k.keep c o (fun q => hc (hds c q)) (O.seqNotTab hk e) e
private theorem In.change {ds : List Addr} (I : In C mu nu env ρ σ s₀ s) (O' : Ok C mu s') (k : Kp C ds s s') (hds : ∀ a ∈ ds,a ∈ nu ∧ a ∉ q0i env) (hσ : ∀ b m,σ'.lookup b = some m → b ∈ mu ∧ b ∉ q0i env ∧ MOAt mu s'.heap b m) : In C mu nu env ρ σ' s₀ s':=by
 have hmu : ∀ a ∈ ds,a ∈ mu:=fun a h => I.sub a (hds a h).1
 refine ⟨O',⟨hσ,I.act.kind,I.act.gl,I.act.bi,I.act.loc,?_,I.act.kinds,fun x c hx hl hc => ?_,I.act.plain,I.act.inj⟩,I.kp.trans (k.mono fun a h => (hds a h).1),I.sub,I.cells⟩
 ·obtain ⟨m,⟨o,es,ep,ho,r⟩,hv⟩:=I.act.ns
  exact ⟨m,⟨o,es,ep,k.keep _ _ (fun h => (hds _ h).2 (.head _)) (I.ok.notTab I.act.loc) ho,r⟩,fun x p h1 h2 => let ⟨v,e,y⟩:=hv x p h1 h2;⟨v,e,y.kp I.ok hmu k⟩⟩
 ·obtain ⟨h1,h2,ov,⟨o,ho,hd⟩,h4⟩:=I.act.cell x c hx hl hc
  exact ⟨h1,h2,ov,⟨o,k.keep _ _ (fun h => (hds _ h).2 (.tail _ (List.mem_map_of_mem (f:=(·.2)) (q1n hc)))) (I.ok.notTab h1) ho,hd⟩,fun p hp => let ⟨v,e,y⟩:=h4 p hp;⟨v,e,y.kp I.ok hmu k⟩⟩
private theorem In.change1 {d : Addr} {m m' : MO} (I : In C mu nu env ρ σ s₀ s) (O' : Ok C mu s') (k : Kp C [d] s s') (hl : σ.lookup d = some m) (hd : d ∈ nu) (hm : MOAt mu s'.heap d m') : In C mu nu env ρ ((d,m') :: σ) s₀ s':=by
 obtain ⟨h1,h2,_⟩:=I.act.st d m hl
 refine I.change O' k (fun a h => by simp at h;subst h;exact ⟨hd,h2⟩) fun b mb e => ?_
 rw [List.lookup_cons] at e
 cases hb : b == d with
 | true => rw [hb] at e;cases e;rw [eq_of_beq hb];exact ⟨h1,h2,hm⟩
 | false =>
  rw [hb] at e
  obtain ⟨g1,g2,g3⟩:=I.act.st b mb e
  exact ⟨g1,g2,g3.kp I.ok k (fun a h => by simp at h;subst h;exact h1) g1 fun h => by simp at h;subst h;simp at hb⟩
private theorem In.know {d : Addr} {m : MO} (I : In C mu nu env ρ σ s₀ s) (hd : d ∈ mu) (hown : d ∉ q0i env) (hm : MOAt mu s.heap d m) : In C mu (d :: nu) env ρ ((d,m) :: σ) s₀ s:=
 ⟨I.ok,⟨fun b mb e => by
  rw [List.lookup_cons] at e
  cases hb : b == d with
  | true => rw [hb] at e;cases e;rw [eq_of_beq hb];exact ⟨hd,hown,hm⟩
  | false => rw [hb] at e;exact I.act.st b mb e,I.act.kind,I.act.gl,I.act.bi,I.act.loc,I.act.ns,I.act.kinds,I.act.cell,I.act.plain,I.act.inj⟩,I.kp.mono fun _ h => .tail _ h,fun a h => by
  rcases List.mem_cons.mp h with rfl | h
  ·exact hd
  ·exact I.sub a h,I.cells⟩
private theorem q4p {x : PySem.Str} {f : Addr} {fd : FuncData} {body : List Stmt} {px pos epos : Pos} {e : Expr} {es : List Expr} {ps : List PV} {Q : Flow → Shared → Prop} (I : In C mu nu env ρ σ s₀ s) (hf : PurE prog w C mu A env ρ σ (.Name x px) (.val (.ref f))) (hargs : PurEs prog w C mu A env ρ σ (e :: es) ps)
  (D : Def C f fd body) (hfn : ∀ s₁ vs,In C mu nu env ρ σ s₀ s₁ → Sims s₁.heap mu ps vs → wpAny (model prog w) A (call (.ref f) vs) (fun _ s' => Q .next s') E s₁)
  (he : autoParam (∀ env,starEach (e :: es) env = (false,eval e env) :: starEach es env) tR)
  (hi : autoParam (interactive env = false) tR) (hsw : autoParam (swapsWith (.Call (.Name x px) (e :: es) [] pos) none epos.line env = pure false) tR) :
  wpAny (model prog w) A (exec (.Expr (.Call (.Name x px) (e :: es) [] pos) epos) env) Q E s:=
 wpAny_Expr_any (Call_ (hf s I.ok I.act _ _ fun v s₁ O₁ k₁ y₁ => by
  cases (show v = .ref f from y₁)
  obtain ⟨o,hl,hd⟩:=(D.at O₁).look
  refine callWith_function (o:=o) (fd:=fd) ?_
  have h:=hargs pos s₁ O₁ (I.act.kp I.ok k₁)
  rw [he env] at h ⊢
  exact evalArgs_plain (h _ _ fun vs s₂ O₂ k₂ y₂ => ⟨⟨k₂.keep _ _ (fun h => nomatch h) (O₁.fnNotTab hl hd) hl,hd⟩,hfn s₂ vs ((I.next O₁ k₁).next O₂ k₂) y₂⟩))) hi hsw
private theorem w4g {l : Addr} {items : Array Value} {k : Nat} {x : Int} {u : Tok} {Q : Value → Shared → Prop}
  (hl : s.heap.get? l = some { cls:=.type "list",dict:=none,data:=.seq items k,slots:=#[] })
  (hlo : -(2 ^ 63 : Int) ≤ x) (hhi : x < 2 ^ 63) (hsz : items.size * x.toNat ≤ 2 ^ 24)
  (h : Q (.ref s.heap.objs.size) { s with heap:=s.heap.push { cls:=.type "list",data:=.seq (List.foldl (fun x1 x2 => x1 ++ x2) #[] (List.replicate (if items.isEmpty = true then 0 else x.toNat) items)) } }) :
  wpAny (model prog w) A (binaryOp .Mult (.ref l) (.int x u)) Q E s:=
 wpAny_binaryOp_repeat_ref (T:="list") (U:="int") (by decide) ⟨_,hl,rfl⟩ (fun s' => typeIs_int s' x u) noFill_list_mul F.fills_int_mul F.slot_int_rmul repeat_list F.slot_int_index.lookup
  (call_meets F.slot_int_rmul (typeIs_int s x u) F.entry_int_rmul (F.args_int_rmul_2 _ _) (int___rmul___int_list x u l items k)
   ⟨hl,rfl,⟨_,hl,rfl⟩,call_meets F.slot_list_mul ⟨_,hl,rfl⟩ F.entry_list_mul (F.args_list_mul_2 _ _)
    (AutoListH.list___mul___list_int_3 l items k x u (by simp [Builtin.List.listFitsIndex];lia) (by lia) (by simp [Builtin.List.listTooLong,sizeLine];assumption))
    ⟨hl,h⟩⟩)
private theorem q9h {l : List PV} {k : Nat} (hk : l.length * k ≤ 2 ^ 20) (hk2 : k ≤ 2 ^ 20) : Op2N prog w C mu A (binaryOp .Mult) (.lst l) (.int k) ((List.replicate k l).flatten):=fun s x y O hx ⟨t,hy⟩ => by
 subst hy
 obtain ⟨a,vs,n,rfl,ha,ho,hv⟩:=hx
 have hlen : vs.toArray.size = l.length:=by simp [hv.length]
 refine PurN.alloc O fun Q E k' => ?_
 refine w4g ho (by lia) (by lia) (by rw [hlen,Int.toNat_natCast];(with_reducible refine nad ?_;decide)) ?_
 have e : ∀ (m : Nat),(List.foldl (fun x1 x2 : Array Value => x1 ++ x2) #[] (List.replicate m vs.toArray)) = ((List.replicate m vs).flatten).toArray:=fun m => by
  have : ∀ (m : Nat) (acc : List Value),(List.foldl (fun x1 x2 : Array Value => x1 ++ x2) acc.toArray (List.replicate m vs.toArray)) = (acc ++ (List.replicate m vs).flatten).toArray:=fun m => by
   induction m with
   | zero => intro acc;simp
   | succ m ih =>
    intro acc
    rw [List.replicate_succ,List.foldl_cons,List.append_toArray,ih,List.replicate_succ,List.flatten_cons,List.append_assoc]
  simpa using this m []
 have hs : ∀ m,Sims s.heap mu (List.replicate m l).flatten (List.replicate m vs).flatten:=fun m => by
  induction m with
  | zero => exact rfl
  | succ m ih => rw [List.replicate_succ,List.replicate_succ,List.flatten_cons,List.flatten_cons];exact hv.append ih
 refine k' ((List.replicate k vs).flatten) 0 s.toks _ (hs k) (fun b o e => Heap.get?_push_of_some _ e) _ (Ok.size_none s) ?_
 rw [Heap.get?_push_size _ rfl]
 by_cases hem : vs = []
 ·subst hem
  have h0 : ∀ m,(List.replicate m ([] : List Value)).flatten = []:=fun m => by induction m <;> simp_all [List.replicate_succ]
  simp [h0]
 ·have : vs.toArray.isEmpty = false:=by cases vs <;> simp at hem ⊢
  rw [this]
  simp only [Bool.false_eq_true,if_false,Int.toNat_natCast,e]
private theorem op_fdiv {a b : Int} (hb : b ≠ 0) (hp : Builtin.divisionGoesByPylong a b = false) : Op2 prog w C mu A (binaryOp .FloorDiv) (.int a) (.int b) (.int (a.fdiv b)):=fun s x y O ⟨t,hx⟩ ⟨u,hy⟩ => by subst hx hy;exact Pur.here O fun Q E k => floordiv_int hb (k _ _ ⟨_,rfl⟩) (.inl hp)
end
end
section
open PySem PySem.W PySem.Calls PyProof.Rows
variable {prog : Program} {w : World}
section
variable {C : Cfg} {mu mu' nu : List Addr} {s₀ s s' : Shared} {env : Env} {ρ : List (PySem.Str × PV)} {σ σ' : List (Addr × MO)} {A : Around} {E : Value → Shared → Prop}
private theorem q4c {x : PySem.Str} {T : String} {px pos : Pos} {e : Expr} {es : List Expr} {ps : List PV} {Q : Value → Shared → Prop} (O : Ok C mu s) (a : Act env mu s.heap ρ σ) (hf : PurE prog w C mu A env ρ σ (.Name x px) (.val (.type T))) (hargs : PurEs prog w C mu A env ρ σ (e :: es) ps)
  (h : ∀ vs s',Ok C mu s' → Kp C [] s s' → Sims s'.heap mu ps vs → wpAny (model prog w) A (call (.type T) vs) Q E s') (he : autoParam (∀ env,starEach (e :: es) env = (false,eval e env) :: starEach es env) tR)
  (hplain : autoParam ((backTo pos (starEach es env)).any (·.1) = false) tR) : wpAny (model prog w) A (eval (.Call (.Name x px) (e :: es) [] pos) env) Q E s:=
 Call_ (hf s O a _ _ fun v s₁ O₁ k₁ y₁ => by
  cases (show v = .type T from y₁)
  exact PyProof.Rows.callWith_type1 (hargs pos s₁ O₁ (a.kp O k₁) _ _ fun vs s₂ O₂ k₂ y₂ => h vs s₂ O₂ (k₁.trans k₂) y₂) (he env) hplain)
private theorem q5s (O : Ok C mu s') (k : Kp C [] s s') {a : Addr} (ha : s'.heap.get? a = none) : s.heap.get? a = none:=q4y O k ha
private theorem w7f {A : Around} {I : Addr} {fp wr : List Addr} {n m : Nat} {P : Nat → Value → Prop} {St : Nat → Heap → Prop} (h : n = m) (W : Walks prog w A I fp wr n P St) : Walks prog w A I fp wr m P St:=h ▸ W
private theorem w2v {x : PySem.Str} {px pos : Pos} {e : Expr} {l : List PV} (hA : A.handled = none) (hf : PurE prog w C mu A env ρ σ (.Name x px) (.val (.type "reversed"))) (ha : PurE prog w C mu A env ρ σ e (.lst l)) (he : autoParam (∀ env,starEach [e] env = (false,eval e env) :: starEach [] env) tR) :
  IterE prog w C mu A env ρ σ (.Call (.Name x px) [e] [] pos) l.reverse:=fun s O a Q E k =>
 q4c O a hf (q0c ha q0d he) (fun vs s₁ O₁ k₁ y => by
  obtain ⟨v,r,rfl,⟨b,ws,n,rfl,hb,ho,hv⟩,hr⟩:=y
  cases (show r = [] from hr)
  have hl : s₁.heap.IsList b ws.toArray:=⟨_,ho,rfl,n,rfl⟩
  have hlen : ws.toArray.size = l.reverse.length:=by simp [hv.length]
  refine call_reversed_list hl ?_
  have hit : ∀ (h : Heap),h.get? s₁.heap.objs.size = some (revObj b ((ws.toArray.size : Int) - 1)) → h.IsRevIter s₁.heap.objs.size b ((ws.toArray.size : Int) - 1):=fun h e => ⟨_,e,rfl,rfl⟩
  have hnew:=Ok.size_none s₁
  have hne : b ≠ s₁.heap.objs.size:=fun q => by rw [q,hnew] at ho;cases ho
  have hk : ∀ c o,s₁.heap.get? c = some o → (s₁.heap.push (revObj b ((ws.toArray.size : Int) - 1))).get? c = some o:=fun c o e => Heap.get?_push_of_some _ e
  refine wpAny_pyIter_revIter (hit _ (Heap.get?_push_size _ rfl)) (k s₁.heap.objs.size _ _ _ _ (O₁.push (tk:=s₁.toks)) (k₁.trans (Kp.of_keep (tk:=s₁.toks) hk)) (q5s O₁ k₁ hnew) (O₁.fresh' hnew).2 (O₁.fresh' hnew).1 (fun A' hA' => w7f hlen (Walks.listRev (prog:=prog) (w:=w) hA' _ b hne ws.toArray))
   ⟨Nat.zero_le _,by rw [show ((ws.toArray.size : Nat) : Int) - 1 - ((0 : Nat) : Int) = (ws.toArray.size : Int) - 1 by lia];exact hit _ (Heap.get?_push_size _ rfl),hl.push _⟩ (fun i h st => ?_) (fun c hc hci => ?_) fun i v hi hP => ?_)
  ·obtain ⟨o,h1,h2,h3⟩:=st.2.1
   exact ⟨o,h1,q2l (a:=.none) (b:=.none) (r:=[]) h2 ⟨_,h3,fun q t e => by simp [rawInt] at e⟩ (by decide)⟩
  ·simp at hc
   rcases hc with rfl | rfl
   ·exact absurd rfl hci
   ·exact ⟨hb,O₁.seqNotTab (.inl rfl) ho,_,hk _ _ ho⟩
  ·have hPi : ws[ws.length - 1 - i]? = some v:=by simpa using hP
   have hi : i < l.length:=by rw [List.length_reverse] at hi;exact hi
   have hi' : ws.length - 1 - i < l.length:=by rw [hv.length];with_reducible exact nc5
   obtain ⟨u,e1,e2⟩:=hv.get _ l[ws.length - 1 - i] (List.getElem?_eq_getElem hi')
   rw [hPi] at e1;cases e1
   refine ⟨l[ws.length - 1 - i],?_,e2.keeps (fun _ _ z _ => z) fun c o _ _ e => hk c o e⟩
   rw [List.getElem?_reverse hi,List.getElem?_eq_getElem (by with_reducible exact nc5)]
   congr 2
   rw [hv.length]) he
noncomputable def rangeL (a c : Int) (n : Nat) : List PV:=(List.range n).map fun (i : Nat) => .int (a + i * c)
private theorem q3o {r : Addr} {a b c : Int} {t u v : Tok} {n : Nat} {Q : Value → Shared → Prop} {s₀ : Shared} (O : Ok C mu s) (k₀ : Kp C [] s₀ s) (hr : IsRange s.heap r a b c t u v) (hs : Builtin.Range.small a b c = true) (hn : Builtin.Range.rangeSize a b c = n)
  (k : ∀ it s₁ fp P St,Ok C mu s₁ → Kp C [] s₀ s₁ → s₀.heap.get? it = none → it ∉ mu → it ∉ C.tabs → (∀ A' : Around,A'.handled = none → Walks prog w A' it fp [it] (rangeL a c n).length P St) → St 0 s₁.heap →
   (∀ i h,St i h → ∃ o,h.get? it = some o ∧ q6d o) → (∀ b ∈ fp,b ≠ it → b ∉ mu ∧ b ∉ C.tabs ∧ ∃ o,s₁.heap.get? b = some o) → (∀ i v,i < (rangeL a c n).length → P i v → ∃ p,(rangeL a c n)[i]? = some p ∧ Sim s₁.heap mu p v) → Q (.ref it) s₁) :
  wpAny (model prog w) A (pyIter (.ref r)) Q E s:=by
 have hnew:=Ok.size_none s
 refine wpAny_pyIter_range hr hs (k s.heap.objs.size _ _ _ _ (O.push (tk:=s.toks)) (k₀.trans (Kp.of_keep (tk:=s.toks) fun c o e => Heap.get?_push_of_some _ e)) (q5s O k₀ hnew) (O.fresh' hnew).2 (O.fresh' hnew).1
  (fun A' hA' => w7f (by simp [rangeL]) (Walks.range (prog:=prog) (w:=w) hA' s.heap.objs.size a c n)) ?_ (fun i h st => ⟨_,st,q2l (a:=.none) (b:=.none) (r:=[]) rfl ⟨_,rfl,fun q t e => by simp [rawInt] at e⟩ (by decide)⟩) (fun b hb hbi => absurd (by simpa using hb) hbi) fun i v hi hP => ?_)
 ·show IsRangeIter _ _ (a + ((0 : Nat) : Int) * c) ((n : Int) - ((0 : Nat) : Int)) c
  rw [show a + ((0 : Nat) : Int) * c = a by simp,show (n : Int) - ((0 : Nat) : Int) = n by simp,← hn]
  exact Heap.get?_push_size _ rfl
 ·obtain ⟨t,rfl⟩:=hP
  have hi' : i < n:=by simpa [rangeL] using hi
  exact ⟨.int (a + i * c),by simp [rangeL,hi'],t,rfl⟩
private theorem q5l (a b : Int) : Builtin.Range.rangeSize a b 1 = ((b - a).toNat : Nat):=by
 rw [rangeSize_one]
 split <;> lia
private theorem q2d {x : PySem.Str} {px pos : Pos} {e : Expr} {n : Nat} (hf : PurE prog w C mu A env ρ σ (.Name x px) (.val (.type "range"))) (ha : PurE prog w C mu A env ρ σ e (.int n)) (hn : n < 2 ^ 60) (he : autoParam (∀ env,starEach [e] env = (false,eval e env) :: starEach [] env) tR) :
  IterE prog w C mu A env ρ σ (.Call (.Name x px) [e] [] pos) (rangeL 0 1 n):=fun s O a Q E k =>
 q4c O a hf (q0c ha q0d he) (fun vs s₁ O₁ k₁ y => by
  obtain ⟨v,r,rfl,⟨t,rfl⟩,hr⟩:=y
  cases (show r = [] from hr)
  exact call_range_1 (q3o (O₁.push (tk:=s₁.toks + 1 + 1)) (k₁.trans (Kp.of_keep (tk:=s₁.toks + 1 + 1) fun c o e => Heap.get?_push_of_some _ e)) (IsRange.new _ _ _ _ _ _ _) (small_one (by decide) (by decide) (by lia) (by lia)) (by rw [q5l];simp) k)) he
private theorem w6l {x : PySem.Str} {px pos : Pos} {e f : Expr} {b c : Int} (hf : PurE prog w C mu A env ρ σ (.Name x px) (.val (.type "range"))) (ha : PurE prog w C mu A env ρ σ e (.int b)) (hb : PurE prog w C mu A env ρ σ f (.int c)) (h1 : -(2 ^ 60) < b ∧ b < 2 ^ 60) (h2 : -(2 ^ 60) < c ∧ c < 2 ^ 60)
  (he : autoParam (∀ env,starEach [e,f] env = (false,eval e env) :: starEach [f] env) tR) (hf' : autoParam (∀ env,starEach [f] env = (false,eval f env) :: starEach [] env) tR) (hplain : autoParam ((backTo pos (starEach [f] env)).any (·.1) = false) tR) :
  IterE prog w C mu A env ρ σ (.Call (.Name x px) [e,f] [] pos) (rangeL b 1 (c - b).toNat):=fun s O a Q E k =>
 q4c O a hf (q0c ha (q0c hb q0d hf') he) (fun vs s₁ O₁ k₁ y => by
  obtain ⟨v,r,rfl,⟨t,rfl⟩,v₂,r₂,rfl,⟨t₂,rfl⟩,hr⟩:=y
  cases (show r₂ = [] from hr)
  exact call_range_2 (q3o (O₁.push (tk:=s₁.toks + 1)) (k₁.trans (Kp.of_keep (tk:=s₁.toks + 1) fun c o e => Heap.get?_push_of_some _ e)) (IsRange.new _ _ _ _ _ _ _) (small_one (by lia) (by lia) (by lia) (by lia)) (q5l _ _) k)) he hplain
private theorem w6k {x : PySem.Str} {px pos : Pos} {e f g : Expr} {n : Nat} (hf : PurE prog w C mu A env ρ σ (.Name x px) (.val (.type "range"))) (ha : PurE prog w C mu A env ρ σ e (.int n)) (hb : PurE prog w C mu A env ρ σ f (.int 0)) (hg : PurE prog w C mu A env ρ σ g (.int (-1))) (h1 : n < 2 ^ 60)
  (he : autoParam (∀ env,starEach [e,f,g] env = (false,eval e env) :: starEach [f,g] env) tR) (hf' : autoParam (∀ env,starEach [f,g] env = (false,eval f env) :: starEach [g] env) tR) (hg' : autoParam (∀ env,starEach [g] env = (false,eval g env) :: starEach [] env) tR)
  (hplain : autoParam ((backTo pos (starEach [f,g] env)).any (·.1) = false) tR) :
  IterE prog w C mu A env ρ σ (.Call (.Name x px) [e,f,g] [] pos) (rangeL n (-1) n):=fun s O a Q E k =>
 q4c O a hf (q0c ha (q0c hb (q0c hg q0d hg') hf') he) (fun vs s₁ O₁ k₁ y => by
  obtain ⟨v,r,rfl,⟨t,rfl⟩,v₂,r₂,rfl,⟨t₂,rfl⟩,v₃,r₃,rfl,⟨t₃,rfl⟩,hr⟩:=y
  cases (show r₃ = [] from hr)
  have hsz : Builtin.Range.rangeSize (n : Int) 0 (-1) = n:=by
   unfold Builtin.Range.rangeSize
   rw [if_neg (by decide),show -(-1 : Int) = 1 by decide,Int.ediv_one]
   split <;> lia
  refine call_range_3 (by decide) (q3o (O₁.push (tk:=s₁.toks)) (k₁.trans (Kp.of_keep (tk:=s₁.toks) fun c o e => Heap.get?_push_of_some _ e)) (IsRange.new _ _ _ _ _ _ _) ?_ hsz k) (.inl (PyProof.noPylong_small (by decide)))
  unfold Builtin.Range.small
  rw [hsz]
  simp only [Builtin.Range.rangeFitsLong,Bool.and_eq_true,Bool.or_eq_true,decide_eq_true_eq,beq_iff_eq,show ¬ ((-1 : Int) > 0) by decide,if_false]
  lia) he hplain
end
end
section
open PySem PySem.W PySem.Calls PyProof.Rows
variable {prog : Program} {w : World}
private theorem q0q : ∀ (names : List (PySem.Str × NameKind)) (n : Nat) (acc : List (PySem.Str × Addr)),cellsFrom n names acc = cellsFrom n names [] ++ acc
 | [],_,_ => rfl
 | (name,kind) :: r,n,acc => by
  unfold cellsFrom
  split
  ·rw [q0q r _ ((name,n) :: acc),q0q r _ [(name,n)],List.append_assoc];rfl
  ·exact q0q r n acc
noncomputable def q2z (scope : Scope) (cl : List (PySem.Str × Addr)) (L : Addr) (env : Env) : Env:=
 { scope:=scope,locals:=L,globals:=env.globals,cells:=cellsFrom (L + 1) scope.names cl,qual:=env.qual,func:=none,code:=env.code,frame:=env.frame,builtins:=env.builtins }
private theorem newCompEnv {M : Model} {A : Around} {E : Value → Shared → Prop} {s : Shared} {scope : Scope} {cl : List (PySem.Str × Addr)} {env : Env} {Q : Env → Shared → Prop}
  (h : Q (q2z scope cl s.heap.objs.size env) { s with heap:=pushCells (s.heap.push { cls:=.type "dict",data:=.dict #[] }) scope.names }) : wpAny M A (newFunctionEnv scope env.globals cl [] env.qual none .none (some env)) Q E s:=by
 simp only [newFunctionEnv,Option.isSome_some,if_true]
 refine wpAny_bind (wpAny_alloc ?_)
 refine wpAny_bind (wpAny_layCells _ (fun name kind cells => by cases hkc : kind == NameKind.cell <;> simp [hkc]) _ _ _ _ ?_)
 rw [show ({ s with heap:=s.heap.push { cls:=.type "dict",data:=.dict #[] } } : Shared).heap.objs.size = s.heap.objs.size + 1 from Heap.size_push ..]
 refine wpAny_bind ?_
 rw [List.forIn_nil]
 exact wpAny_pure (wpAny_pure h)
section
variable {C : Cfg} {mu mu' nu : List Addr} {s₀ s s' : Shared} {env : Env} {ρ : List (PySem.Str × PV)} {σ σ' : List (Addr × MO)} {A : Around} {E : Value → Shared → Prop}
private theorem q7l {α : Type} {x : PySem.Str} {c : α} {l r : List (PySem.Str × α)} (h : (l ++ r).lookup x = some c) : l.lookup x = some c ∨ (l.lookup x = none ∧ r.lookup x = some c):=by
 rw [List.lookup_append] at h
 cases hl : l.lookup x with
 | some d => rw [hl] at h;exact .inl (by simpa using h)
 | none => rw [hl] at h;exact .inr ⟨rfl,by simpa using h⟩
private theorem w1q {x : PySem.Str} {names : List (PySem.Str × NameKind)} (n : Nat) (h : (cellsFrom 0 names []).lookup x = none) : (cellsFrom n names []).lookup x = none:=by
 cases q : (cellsFrom n names []).lookup x with
 | none => rfl
 | some c =>
  have e:=cellsFrom_names names 0 n [] [] rfl
  have hm : x ∈ (cellsFrom 0 names []).map (·.1):=e ▸ List.mem_map_of_mem (f:=(·.1)) (q0j q)
  obtain ⟨⟨x',c'⟩,hm',rfl⟩:=List.mem_map.mp hm
  obtain ⟨d,hd⟩:=q3m hm'
  rw [h] at hd;cases hd
private theorem comp_enter {scope : Scope} {cl : List (PySem.Str × Addr)} {ρc : List (PySem.Str × PV)} (O : Ok C mu s) (a : Act env mu s.heap ρ σ) (hal : ∀ x ∈ env.cells,x.2 ∈ mu ∨ ∃ o,C.H.get? x.2 = some o)
  (hkind : scope.kind = .function) (hmem : ∀ x ∈ cl,x ∈ env.cells) (hcl : ∀ x c,cl.lookup x = some c → env.cells.lookup x = some c ∧ env.kindOf x ≠ some .local) (hinj : ∀ x c,cl.lookup x = some c → (cellsFrom 0 scope.names []).lookup x = none)
  (hρ : ∀ x p,ρc.lookup x = some p → ρ.lookup x = some p ∧ ((relabel scope env).names.lookup x = some .cell ∨ (relabel scope env).names.lookup x = some .free) ∧ okName x = true ∧ ∃ c,cl.lookup x = some c)
  {L : Addr} {own : List Addr} {s' : Shared} (hL : L = s.heap.objs.size) (hown : own = L :: (cellsFrom (L + 1) scope.names []).map (·.2)) (hs' : s' = { s with heap:=pushCells (s.heap.push { cls:=.type "dict",data:=.dict #[] }) scope.names }) :
  Ok C (own ++ mu) s' ∧ Kp C [] s s' ∧ (∀ b ∈ own,s.heap.get? b = none) ∧ (∀ b o,s.heap.get? b = some o → s'.heap.get? b = some o) ∧ Act { q2z scope cl L env with scope:=relabel scope env } (own ++ mu) s'.heap ρc σ:=by
 have hsz : (s.heap.push { cls:=.type "dict",data:=.dict #[] }).objs.size = L + 1:=by rw [Heap.size_push,hL]
 have ok:=cellsFrom_ok scope.names (s.heap.push { cls:=.type "dict",data:=.dict #[] }) (L + 1) [] ⟨fun _ _ hm => (nomatch hm),List.Pairwise.nil⟩ (by rw [hsz];exact Nat.le_refl _)
 rw [hsz] at ok
 have hh : s'.heap = pushCells (s.heap.push { cls:=.type "dict",data:=.dict #[] }) scope.names:=by rw [hs']
 rw [← hh] at ok
 have hk : ∀ b o,s.heap.get? b = some o → s'.heap.get? b = some o:=fun b o e => by rw [hh];exact pushCells_keeps _ _ b o (Heap.get?_push_of_some _ e)
 have hnone : ∀ b ∈ own,s.heap.get? b = none:=fun b hb => by
  rw [hown] at hb
  refine Heap.get?_none_of_le ?_
  rcases List.mem_cons.mp hb with rfl | hb
  ·exact Nat.le_of_eq hL.symm
  ·obtain ⟨⟨x,c⟩,hm,rfl⟩:=List.mem_map.mp hb
   have:=(ok.empty x c hm).2
   exact Nat.le_trans (Nat.le_of_eq hL.symm) (Nat.le_of_succ_le this)
 have hLns : s'.heap.Ns L (fun _ => none):=by
  rw [hh,hL]
  exact (Heap.Ns.new s.heap (.type "dict")).keeps (pushCells_keeps _ _)
 have halive : ∀ b ∈ own,∃ o,s'.heap.get? b = some o:=fun b hb => by
  rw [hown] at hb
  rcases List.mem_cons.mp hb with rfl | hb
  ·obtain ⟨o,_,_,ho,_⟩:=hLns;exact ⟨o,ho⟩
  ·obtain ⟨⟨x,c⟩,hm,rfl⟩:=List.mem_map.mp hb
   obtain ⟨o,ho,_⟩:=(ok.empty x c hm).1
   exact ⟨o,ho⟩
 have O' : Ok C (own ++ mu) s':=by rw [hs'] at halive hk ⊢;exact O.freshs (tk:=s.toks) (fun b hb => ⟨hnone b hb,halive b hb⟩) hk
 have live : ∀ x ∈ env.cells,∃ o,s.heap.get? x.2 = some o:=fun x hx => by
  rcases hal x hx with h | ⟨o,h⟩
  ·exact (O.live _ h).2
  ·by_cases ht : x.2 ∈ C.tabs
   ·exact O.tabAlive ht
   ·exact ⟨o,O.old _ _ h ht⟩
 have notOwn : ∀ b,(∃ o,s.heap.get? b = some o) → b ∉ own:=fun b ⟨o,e⟩ hb => by rw [hnone b hb] at e;cases e
 have cellsEq : (q2z scope cl L env).cells = cellsFrom (L + 1) scope.names [] ++ cl:=q0q _ _ _
 have up : ∀ {p : PV} {v : Value},Sim s.heap mu p v → Sim s'.heap (own ++ mu) p v:=fun y => (y.news hnone).keeps (fun _ _ z _ => z) fun b o _ _ e => hk b o e
 refine ⟨O',by rw [hs'] at hk ⊢;exact Kp.of_keep (tk:=s.toks) hk,hnone,hk,⟨fun b m e => ?_,hkind,a.gl,a.bi,?_,⟨_,hLns,fun x p e hl => ?_⟩,fun x p e => ?_,fun x c hx hl hc => ?_,fun x p e => q1i (hρ x p e).2.2.1,fun x y c h1 h2 => ?_⟩⟩
 ·obtain ⟨h1,h2,h3⟩:=a.st b m e
  refine ⟨List.mem_append_right _ h1,fun q => ?_,h3.keeps (fun o e => hk b o e) (fun c o hc e q => ?_) fun c o _ _ e => hk c o e⟩
  ·have hq : b ∈ L :: ((q2z scope cl L env).cells).map (·.2):=q
   rw [cellsEq,List.map_append] at hq
   rcases List.mem_cons.mp hq with rfl | hq
   ·exact notOwn _ (O.live _ h1).2 (by rw [hown];exact .head _)
   ·rcases List.mem_append.mp hq with hq | hq
    ·exact notOwn _ (O.live _ h1).2 (by rw [hown];exact .tail _ hq)
    ·obtain ⟨x,hx,rfl⟩:=List.mem_map.mp hq
     exact h2 (.tail _ (List.mem_map_of_mem (f:=(·.2)) (hmem x hx)))
  ·rcases List.mem_append.mp q with q | q
   ·rw [hnone c q] at e;cases e
   ·exact hc q
 ·exact List.mem_append_left _ (by rw [hown];exact .head _)
 ·have h2:=(hρ x p e).2.1
  have hl' : (relabel scope env).names.lookup x = some .local:=hl
  rw [hl'] at h2
  rcases h2 with h2 | h2 <;> cases h2
 ·obtain ⟨h1,h2,h3,c,hc⟩:=hρ x p e
  refine .inr ⟨h2,c,?_⟩
  show (q2z scope cl L env).cells.lookup x = some c
  rw [cellsEq,List.lookup_append,w1q _ (hinj x c hc),hc]
  rfl
 ·have hc' : (q2z scope cl L env).cells.lookup x = some c:=hc
  rw [cellsEq] at hc'
  rcases q7l hc' with hc' | ⟨hn,hc'⟩
  ·have hm:=q0j hc'
   obtain ⟨h1,h2⟩:=ok.empty x c hm
   refine ⟨List.mem_append_left _ (by rw [hown];exact .tail _ (List.mem_map_of_mem (f:=(·.2)) hm)),fun q => ?_,none,h1,fun p hp => ?_⟩
   ·exact Nat.ne_of_gt h2 q
   ·obtain ⟨_,_,_,d,hd⟩:=hρ x p hp
    rw [w1q _ (hinj x d hd)] at hc';cases hc'
  ·obtain ⟨h1,h2⟩:=hcl x c hc'
   obtain ⟨h3,_,ov,⟨o,ho,hd⟩,h5⟩:=a.cell x c hx h2 h1
   refine ⟨List.mem_append_right _ h3,fun q => ?_,ov,⟨o,hk _ _ ho,hd⟩,fun p hp => ?_⟩
   ·have q' : c = L:=q
    rw [q',hnone L (by rw [hown];exact .head _)] at ho;cases ho
   ·obtain ⟨v,e,y⟩:=h5 p (hρ x p hp).1
    exact ⟨v,e,up y⟩
 ·have h1' : (q2z scope cl L env).cells.lookup x = some c:=h1
  have h2' : (q2z scope cl L env).cells.lookup y = some c:=h2
  rw [cellsEq] at h1' h2'
  have mixed : ∀ {z u : PySem.Str},(cellsFrom (L + 1) scope.names []).lookup z = some c → cl.lookup u = some c → False:=fun {z u} hz hu =>
   notOwn c (live (u,c) (hmem _ (q0j hu))) (by rw [hown];exact .tail _ (List.mem_map_of_mem (f:=(·.2)) (q0j hz)))
  rcases q7l h1' with h1' | ⟨_,h1'⟩ <;> rcases q7l h2' with h2' | ⟨_,h2'⟩
  ·exact name_of_addr ok.apart (q0j h1') (q0j h2')
  ·exact (mixed h1' h2').elim
  ·exact (mixed h2' h1').elim
  ·exact a.inj x y c (hcl x c h1').1 (hcl y c h2').1
end
end
section
open PySem PySem.W PySem.Calls PyProof.Rows
variable {prog : Program} {w : World}
section
variable {C : Cfg} {mu mu' nu : List Addr} {s₀ s s' : Shared} {env : Env} {ρ : List (PySem.Str × PV)} {σ σ' : List (Addr × MO)} {A : Around} {E : Value → Shared → Prop}
noncomputable def TestsE (prog : Program) (w : World) (C : Cfg) (mu : List Addr) (A : Around) (env : Env) (ρ : List (PySem.Str × PV)) (σ : List (Addr × MO)) (ifs : List Expr) (b : Bool) : Prop:=
 ∀ s,Ok C mu s → Act env mu s.heap ρ σ → ∀ (Q : Bool → Shared → Prop) (E : Value → Shared → Prop),(∀ s',Ok C mu s' → Kp C [] s s' → Q b s') →
  wpAny (model prog w) A (forIn ifs true fun c r => if r = true then do let ok ← PySem.isTrue c env (eval c env);pure (ForInStep.yield ok) else pure (ForInStep.yield r)) Q E s
private theorem q8l : TestsE prog w C mu A env ρ σ [] true:=fun s O a Q E k => by rw [List.forIn_nil];exact wpAny_pure (k s O .refl)
private theorem w3o {c : Expr} {b : Bool} (h : PurB prog w C mu A env ρ σ c b) : TestsE prog w C mu A env ρ σ [c] b:=fun s O a Q E k => by
 rw [List.forIn_cons]
 refine wpAny_bind ?_
 rw [if_pos rfl]
 refine wpAny_bind (h s O a _ _ fun s' O' k' => wpAny_pure ?_)
 simp only [List.forIn_nil]
 exact wpAny_pure (k s' O' k')
noncomputable abbrev cEnv (scope : Scope) (cl : List (PySem.Str × Addr)) (L : Addr) (env : Env) : Env:={ q2z scope cl L env with scope:=relabel scope env }
noncomputable abbrev cOwn (scope : Scope) (L : Addr) : List Addr:=L :: (cellsFrom (L + 1) scope.names []).map (·.2)
noncomputable def q0w (prog : Program) (w : World) (C : Cfg) (mu : List Addr) (A : Around) (env : Env) (ρc : List (PySem.Str × PV)) (σ : List (Addr × MO)) (target elt : Expr) (ifs : List Expr) (scope : Scope) (cl : List (PySem.Str × Addr)) (l : List PV) (g : Nat → Option PV) : Prop:=
 ∀ (L D : Addr) (ys : List PV) (i : Nat) (p : PV),l[i]? = some p → ∃ ρ₁ : List (PySem.Str × PV),
  (∀ s v,In C (cOwn scope L ++ D :: mu) (cOwn scope L ++ [D]) (cEnv scope cl L env) ρc ((D,Mlst ys) :: σ) s s → Sim s.heap (cOwn scope L ++ D :: mu) p v →
   wpAny (model prog w) A (assign target (cEnv scope cl L env) v) (fun _ s₂ => In C (cOwn scope L ++ D :: mu) (cOwn scope L ++ [D]) (cEnv scope cl L env) ρ₁ ((D,Mlst ys) :: σ) s s₂) (fun _ _ => False) s) ∧
  (∀ y q,ρc.lookup y = some q → ρ₁.lookup y = some q) ∧
  (match g i with
   | none => TestsE prog w C (cOwn scope L ++ D :: mu) A (cEnv scope cl L env) ρ₁ ((D,Mlst ys) :: σ) ifs false
   | some z => TestsE prog w C (cOwn scope L ++ D :: mu) A (cEnv scope cl L env) ρ₁ ((D,Mlst ys) :: σ) ifs true ∧ PurE prog w C (cOwn scope L ++ D :: mu) A (cEnv scope cl L env) ρ₁ ((D,Mlst ys) :: σ) elt z)
private theorem w6v {elt target iter : Expr} {ifs : List Expr} {scope : Scope} {pos : Pos} {it acc : Value} {env : Env} {R : Result → Shared → Prop} (I : Nat → Shared → Prop)
  (turn : ∀ n s,I n s → wpAny (model prog w) A (pyNext it) (fun r s₁ => match r with
   | none => R (.ok .next) s₁
   | some v => wpAny (model prog w) A (letOwnedTupleGo target it v) (fun _ s₁ => wpAny (model prog w) A (assign target env v) (fun _ s₂ =>
     wpAny (model prog w) A (forIn ifs true fun c r => if r = true then do let ok ← PySem.isTrue c env (eval c env);pure (ForInStep.yield ok) else pure (ForInStep.yield r)) (fun ok s₃ =>
      if ok = true then wpAny (model prog w) A (eval elt env) (fun x s₄ =>
       wpAny (model prog w) A (call (.builtin "list.append") [acc,x]) (fun _ s₅ => ∃ m,m < n ∧ I m s₅) (notedBy (model prog w) A env fun e s' => R (.error e) s') s₄) (notedBy (model prog w) A env fun e s' => R (.error e) s') s₃
      else ∃ m,m < n ∧ I m s₃) (notedBy (model prog w) A env fun e s' => R (.error e) s') s₂) (notedBy (model prog w) A env fun e s' => R (.error e) s') s₁) (notedBy (model prog w) A env fun e s' => R (.error e) s') s₁) (notedBy (model prog w) A env fun e s' => R (.error e) s') s)
  (n : Nat) (h : I n s) : codeAny (model prog w) A (.compLoop (.ListComp elt [⟨target,iter,ifs,0⟩] scope pos) 0 it acc env) R s:=by
 refine codeAny_loop rfl I (fun n s hI => ?_) n h
 show wpAny _ A ((compTurn (.ListComp elt [⟨target,iter,ifs,0⟩] scope pos) 0 it acc env).onRaise (fun x => do noteFrame x env;theTreesLotGoes x)) _ _ s
 refine wpAny_noted ?_
 rw [compTurn_list]
 refine wpAny_bind (wpAny_standAt (wpAny_bind (wpAny_mono (turn n s hI) (fun r s₁ h₁ => ?_) fun _ _ h' => h')))
 cases r with
 | none => exact wpAny_pure h₁
 | some v =>
  refine wpAny_bind (wpAny_mono h₁ (fun _ s₁ h₁ => ?_) fun _ _ h' => h')
  refine wpAny_bind (wpAny_mono h₁ (fun _ s₂ h₂ => wpAny_bind (wpAny_mono h₂ (fun ok s₃ h₃ => ?_) fun _ _ h' => h')) fun _ _ h' => h')
  cases ok with
  | false => exact wpAny_pure ⟨rfl,h₃⟩
  | true => exact wpAny_bind (wpAny_bind (wpAny_mono h₃ (fun x s₄ h₄ => wpAny_bind (wpAny_mono h₄ (fun _ s₅ h₅ => wpAny_pure (wpAny_pure ⟨rfl,h₅⟩)) fun _ _ h' => h')) fun _ _ h' => h'))
private theorem lookup0 {d : Addr} {m : MO} {r : List (Addr × MO)} : ((d,m) :: r).lookup d = some m:=by simp
private theorem comp_loop {elt target iter : Expr} {ifs : List Expr} {scope : Scope} {pos : Pos} {cl : List (PySem.Str × Addr)} {ρc : List (PySem.Str × PV)} {l : List PV} {g : Nat → Option PV} {use : Option (Value → Sem Unit)} {Q : Value → Shared → Prop}
  {D it : Addr} {s₁ s₂ : Shared} {fp : List Addr} {P : Nat → Value → Prop} {St : Nat → Heap → Prop} (I₂ : In C (D :: mu) [D] env ρ ((D,Mlst []) :: σ) s s₂) (hA : A.handled = none) (O₁ : Ok C mu s₁) (hk₂ : ∀ b o,s₁.heap.get? b = some o → s₂.heap.get? b = some o) (hD₁ : s₁.heap.get? D = none)
  (hkind : scope.kind = .function) (hmem : ∀ x ∈ cl,x ∈ env.cells) (hcl : ∀ x c,cl.lookup x = some c → env.cells.lookup x = some c ∧ env.kindOf x ≠ some .local) (hinj : ∀ x c,cl.lookup x = some c → (cellsFrom 0 scope.names []).lookup x = none)
  (hρ : ∀ x p,ρc.lookup x = some p → ρ.lookup x = some p ∧ ((relabel scope env).names.lookup x = some .cell ∨ (relabel scope env).names.lookup x = some .free) ∧ okName x = true ∧ ∃ c,cl.lookup x = some c)
  (hturn : q0w prog w C mu A env ρc σ target elt ifs scope cl l g) (hsz : l.length ≤ 2 ^ 20)
  (hit₀ : s.heap.get? it = none) (hmu : it ∉ mu) (htab : it ∉ C.tabs) (hH : C.H.get? it = none) (W : ∀ A' : Around,A'.handled = none → Walks prog w A' it fp [it] l.length P St) (hst : St 0 s₁.heap)
  (hobj : ∀ i h,St i h → ∃ o,h.get? it = some o ∧ q6d o) (hfp : ∀ b ∈ fp,b ≠ it → b ∉ mu ∧ b ∉ C.tabs ∧ ∃ o,s₁.heap.get? b = some o) (hP : ∀ i v,i < l.length → P i v → ∃ p,l[i]? = some p ∧ Sim s₁.heap mu p v)
  (hDs : s.heap.get? D = none)
  (k : ∀ D L s₁,Ok C mu s₁ → Kp C [] s s₁ → s.heap.get? D = none → MOAt (D :: mu) s₁.heap D (Mlst ((List.range l.length).filterMap g)) → s.heap.get? L = none → L ≠ D → L ∉ mu → (∃ m,s₁.heap.Ns L m) → compPost (model prog w) A E use Q (.ref D) L (.ok .next) s₁) :
  codeAny (model prog w) A (.compStart (.ListComp elt [⟨target,iter,ifs,0⟩] scope pos) 0 (.ref it) (.ref D) (cEnv scope cl s₂.heap.objs.size env)) (compPost (model prog w) A E use Q (.ref D) s₂.heap.objs.size) { s₂ with heap:=pushCells (s₂.heap.push { cls:=.type "dict",data:=.dict #[] }) scope.names }:=by
 generalize hLe : s₂.heap.objs.size = L
 obtain ⟨O₃,k₃,hno,hkeep,act₃⟩:=comp_enter (s:=s₂) (scope:=scope) (cl:=cl) (ρc:=ρc) (L:=L) (own:=cOwn scope L) I₂.ok I₂.act I₂.cells hkind hmem hcl hinj hρ hLe.symm rfl rfl
 generalize hs₃ : ({ s₂ with heap:=pushCells (s₂.heap.push { cls:=.type "dict",data:=.dict #[] }) scope.names } : Shared) = s₃ at O₃ k₃ hkeep act₃
 have itAlive : ∃ o,s₁.heap.get? it = some o:=let ⟨o,e,_⟩:=hobj 0 _ hst;⟨o,e⟩
 have itD : it ≠ D:=fun q => by obtain ⟨o,e⟩:=itAlive;rw [q,hD₁] at e;cases e
 have itOwn : it ∉ cOwn scope L:=fun q => by obtain ⟨o,e⟩:=itAlive;have:=hno it q;rw [hk₂ _ _ e] at this;cases this
 have itMu : it ∉ cOwn scope L ++ D :: mu:=fun q => by
  rcases List.mem_append.mp q with q | q
  ·exact itOwn q
  ·rcases List.mem_cons.mp q with q | q
   ·exact itD q
   ·exact hmu q
 have DOwn : D ∉ cOwn scope L:=fun q => by
  obtain ⟨o,e⟩:=(I₂.ok.live D (.head _)).2
  have:=hno D q
  rw [e] at this;cases this
 have I₃ : In C (cOwn scope L ++ D :: mu) (cOwn scope L ++ [D]) (cEnv scope cl L env) ρc ((D,Mlst []) :: σ) s s₃:=⟨O₃,act₃,(I₂.kp.trans (k₃.mono fun _ h => nomatch h)).mono fun a h => List.mem_append_right _ h,fun a h => by
   rcases List.mem_append.mp h with h | h
   ·exact List.mem_append_left _ h
   ·simp at h;subst h;exact List.mem_append_right _ (.head _),fun x hx => by
   have hx' : x ∈ cellsFrom (L + 1) scope.names cl:=hx
   rw [q0q] at hx'
   rcases List.mem_append.mp hx' with h | h
   ·exact .inl (List.mem_append_left _ (.tail _ (List.mem_map_of_mem (f:=(·.2)) h)))
   ·exact (I₂.cells x (hmem x h)).imp (List.mem_append_right _) id⟩
 have st₃ : St 0 s₃.heap:=(W A hA).frame _ _ _ hst fun b _ o e => hkeep b o (hk₂ b o e)
 have kb₃ : Kp C (it :: (cOwn scope L ++ [D])) s₁ s₃:=⟨fun b o _ _ e => hkeep b o (hk₂ b o e)⟩
 have loop : codeAny (model prog w) A (.compLoop (.ListComp elt [⟨target,iter,ifs,0⟩] scope pos) 0 (.ref it) (.ref D) (cEnv scope cl L env)) (compPost (model prog w) A E use Q (.ref D) L) s₃:=by
  refine w6v (fun n s' => ∃ i,n = l.length - i ∧ i ≤ l.length ∧ In C (cOwn scope L ++ D :: mu) (cOwn scope L ++ [D]) (cEnv scope cl L env) ρc ((D,Mlst ((List.range i).filterMap g)) :: σ) s s' ∧ St i s'.heap ∧ Kp C (it :: (cOwn scope L ++ [D])) s₁ s') ?_ l.length ⟨0,by simp,Nat.zero_le _,I₃,st₃,kb₃⟩
  rintro n s' ⟨i,rfl,hil,I',st,kk⟩
  have noB : ∀ o,s'.heap.get? it = some o → NoBase o:=fun o e => by
   obtain ⟨o',e',x⟩:=hobj i _ st
   rw [e] at e';cases e';exact x.1
  by_cases hlt : i < l.length
  ·refine (W A hA).item i s' _ _ hlt st fun v h₂ tk₂ hPv st₂ hk₄ => ?_
   have hb : ∀ b o,b ≠ it → s'.heap.get? b = some o → h₂.get? b = some o:=fun b o hb e => hk₄ b o (by simpa using hb) e
   have I₄ : In C (cOwn scope L ++ D :: mu) (cOwn scope L ++ [D]) (cEnv scope cl L env) ρc ((D,Mlst ((List.range i).filterMap g)) :: σ) s { s' with heap:=h₂,toks:=tk₂ }:=I'.but hb noB itMu htab hH hit₀
   obtain ⟨p,hp,yp⟩:=hP i v hlt hPv
   obtain ⟨ρ₁,t1,t2,t3⟩:=hturn L D ((List.range i).filterMap g) i p hp
   have yp' : Sim s'.heap (cOwn scope L ++ D :: mu) p v:=yp.keeps (fun b o hb e q => by
     rcases List.mem_append.mp q with q | q
     ·have:=hno b q;rw [hk₂ _ _ e] at this;cases this
     ·rcases List.mem_cons.mp q with q | q
      ·rw [q,hD₁] at e;cases e
      ·exact hb q) fun b o hb hc e => kk.keep b o (fun q => by
     rcases List.mem_cons.mp q with rfl | q
     ·obtain ⟨o',e',x⟩:=hobj 0 _ hst
      rw [e] at e';cases e'
      rcases hc with hc | hc
      ·exact x.1.1 hc
      ·exact x.1.2.1 hc
     ·rcases List.mem_append.mp q with q | q
      ·have:=hno b q;rw [hk₂ _ _ e] at this;cases this
      ·simp at q;rw [q,hD₁] at e;cases e) (O₁.seqNotTab hc e) e
   have yp₂ : Sim h₂ (cOwn scope L ++ D :: mu) p v:=yp'.but hb noB
   -- the turn's end
   have fin : ∀ (s₇ : Shared) (zs : List PV),In C (cOwn scope L ++ D :: mu) (cOwn scope L ++ [D]) (cEnv scope cl L env) ρc ((D,Mlst zs) :: σ) { s' with heap:=h₂,toks:=tk₂ } s₇ → zs = (List.range (i + 1)).filterMap g →
     ∃ m,m < l.length - i ∧ ∃ i,m = l.length - i ∧ i ≤ l.length ∧ In C (cOwn scope L ++ D :: mu) (cOwn scope L ++ [D]) (cEnv scope cl L env) ρc ((D,Mlst ((List.range i).filterMap g)) :: σ) s s₇ ∧ St i s₇.heap ∧ Kp C (it :: (cOwn scope L ++ [D])) s₁ s₇:=fun s₇ zs I₇ hz => by
    refine ⟨l.length - (i + 1),by with_reducible exact na8,i + 1,rfl,hlt,hz ▸ I₇.after I₄.kp,?_,?_⟩
    ·refine (W A hA).frame _ _ _ st₂ fun b hbf o e => I₇.kp.keep b o (fun q => ?_) ?_ e
     ·by_cases hbi : b = it
      ·exact itMu (I₃.sub it (hbi ▸ q))
      ·obtain ⟨f1,_,o',f3⟩:=hfp b hbf hbi
       rcases List.mem_append.mp q with q | q
       ·have:=hno b q;rw [hk₂ _ _ f3] at this;cases this
       ·simp at q;rw [q,hD₁] at f3;cases f3
     ·by_cases hbi : b = it
      ·exact hbi ▸ htab
      ·exact (hfp b hbf hbi).2.1
    ·exact kk.trans (Kp.trans (s':={ s' with heap:=h₂,toks:=tk₂ }) ⟨fun b o h1 _ e => hb b o (fun q => h1 (q ▸ .head _)) e⟩ (I₇.kp.mono fun _ h => .tail _ h))
   refine q6n (hobj _ _ st₂) ?_
   refine wpAny_mono (t1 _ v I₄.rebase yp₂) (fun _ s₄ J₄ => ?_) fun _ _ f => f.elim
   have hstep : (List.range (i + 1)).filterMap g = (List.range i).filterMap g ++ (g i).toList:=by
    rw [List.range_succ,List.filterMap_append]
    congr 1
   cases hg : g i with
   | none =>
    rw [hg] at t3 hstep
    refine t3 s₄ J₄.ok J₄.act _ _ fun s₅ O₅ k₅ => ?_
    simp only [Bool.false_eq_true,if_false]
    exact fin s₅ _ ((J₄.next O₅ k₅).forget t2 fun _ _ h => h) (by rw [hstep];simp)
   | some z =>
    rw [hg] at t3 hstep
    refine t3.1 s₄ J₄.ok J₄.act _ _ fun s₅ O₅ k₅ => ?_
    rw [if_pos rfl]
    have J₅:=J₄.next O₅ k₅
    refine t3.2 s₅ J₅.ok J₅.act _ _ fun v' s₆ O₆ k₆ y₆ => ?_
    have J₆:=J₅.next O₆ k₆
    obtain ⟨hDm,_,vs,n,hol,hvs⟩:=J₆.act.st D (Mlst ((List.range i).filterMap g)) (by simp [List.lookup_cons])
    have hlen : vs.length ≤ i:=by
     rw [hvs.length]
     exact Nat.le_trans (List.length_filterMap_le _ _) (by simp)
    have hS : sizeLine = 2 ^ 24:=by decide +kernel
    refine wpAny_list_append_plain (hsz:=by simp;lia) ⟨n,hol⟩ fun h₇ hpl hsb => ?_
    obtain ⟨n',e'⟩:=hpl
    have up : ∀ {l : List PV} {vs : List Value},Sims s₆.heap (cOwn scope L ++ D :: mu) l vs → Sims h₇ (cOwn scope L ++ D :: mu) l vs:=fun y => y.keeps (fun _ _ z _ => z) fun b o hb _ e => hsb.extBut b o (fun q => hb (q ▸ hDm)) e
    have J₇:=J₆.mut (tk:=s₆.toks) (a:=D) (m:=Mlst ((List.range i).filterMap g)) (m':=Mlst ((List.range i).filterMap g ++ [z])) (by simp [List.lookup_cons]) (List.mem_append_right _ (.head _)) hsb.extBut ⟨vs ++ [v'],n',by rw [e'];simp,(up hvs).append (up ⟨_,_,rfl,y₆,rfl⟩)⟩
    refine fin _ ((List.range i).filterMap g ++ [z]) (J₇.forget t2 fun b m hm => ?_) (by rw [hstep];rfl)
    rw [List.lookup_cons] at hm ⊢
    cases hbD : b == D with
    | true => rw [hbD] at hm;exact hm
    | false => rw [hbD] at hm;rw [List.lookup_cons,hbD];exact hm
  ·have hie : i = l.length:=Nat.le_antisymm hil (Nat.le_of_not_lt hlt)
   subst hie
   refine (W A hA).done s' _ _ st fun h₂ tk₂ hk₄ => ?_
   have hb : ∀ b o,b ≠ it → s'.heap.get? b = some o → h₂.get? b = some o:=fun b o hb e => hk₄ b o (by simpa using hb) e
   have I₄ : In C (cOwn scope L ++ D :: mu) (cOwn scope L ++ [D]) (cEnv scope cl L env) ρc ((D,Mlst ((List.range l.length).filterMap g)) :: σ) s { s' with heap:=h₂,toks:=tk₂ }:=I'.but hb noB itMu htab hH hit₀
   have hLs : ∀ b ∈ cOwn scope L,s.heap.get? b = none:=fun b hb => I₂.unborn (hno b hb)
   refine k D L _ (I₄.ok.sub fun b h => List.mem_append_right _ (.tail _ h)) ⟨fun b o _ htb e => I₄.kp.keep b o (fun q => ?_) htb e⟩ hDs ?_ (hLs L (.head _)) (fun q => DOwn (q ▸ .head _)) (fun q => ?_) ?_
   ·rcases List.mem_append.mp q with q | q
    ·rw [hLs b q] at e;cases e
    ·simp at q;rw [q,hDs] at e;cases e
   ·exact (I₄.act.st D _ lookup0).2.2.keeps (fun _ e => e) (fun c o hc _ q => hc (List.mem_append_right _ q)) fun _ _ _ _ e => e
   ·obtain ⟨o,e⟩:=(I₂.ok.live L (.tail _ q)).2
    rw [hno L (.head _)] at e;cases e
   ·obtain ⟨m,hn,_⟩:=I₄.act.ns
    exact ⟨m,hn⟩
 refine codeAny_compStart_list loop ((W A hA).self 0 s₃ _ _ st₃ loop)
private theorem w1p {elt target iter : Expr} {ifs : List Expr} {scope : Scope} {pos pos' : Pos} {cl : List (PySem.Str × Addr)} {ρc : List (PySem.Str × PV)} {l : List PV} {g : Nat → Option PV} {use : Option (Value → Sem Unit)} {Q : Value → Shared → Prop}
  (hA : A.handled = none) (hi : IterI prog w C mu nu A env ρ σ s₀ iter l s)
  (hclos : closureFor scope env = pure cl) (hkind : scope.kind = .function) (hnames : ∀ x ∈ scope.names,x.2 = .local → scope.names.lookup x.1 = some .local)
  (hmem : ∀ x ∈ cl,x ∈ env.cells) (hcl : ∀ x c,cl.lookup x = some c → env.cells.lookup x = some c ∧ env.kindOf x ≠ some .local) (hinj : ∀ x c,cl.lookup x = some c → (cellsFrom 0 scope.names []).lookup x = none)
  (hρ : ∀ x p,ρc.lookup x = some p → ρ.lookup x = some p ∧ ((relabel scope env).names.lookup x = some .cell ∨ (relabel scope env).names.lookup x = some .free) ∧ okName x = true ∧ ∃ c,cl.lookup x = some c)
  (hturn : q0w prog w C mu A env ρc σ target elt ifs scope cl l g) (hsz : l.length ≤ 2 ^ 20)
  (k : ∀ s D L s₁,In C mu nu env ρ σ s₀ s → Ok C mu s₁ → Kp C [] s s₁ → s.heap.get? D = none → MOAt (D :: mu) s₁.heap D (Mlst ((List.range l.length).filterMap g)) → s.heap.get? L = none → L ≠ D → L ∉ mu → (∃ m,s₁.heap.Ns L m) → compPost (model prog w) A E use Q (.ref D) L (.ok .next) s₁)
  (hs : ∀ x,foldedSetIterable iter env x = pure x) : wpAny (model prog w) A (comprehension (.ListComp elt [⟨target,iter,ifs,0⟩] scope pos) scope env pos' (newList []) false (eval iter env) use) Q E s:=by
 refine wpAny_comprehension_free rfl hs hclos hkind hnames (hi _ _ fun s it s₁ fp P St I₀ O₁ k₁ hit₀ hmu htab W hst hobj hfp hP => ?_)
 have h00:=hit₀
 have hH:=I₀.ok.unborn hit₀
 have I₁ : In C mu [] env ρ σ s s₁:=⟨O₁,I₀.act.kp I₀.ok k₁,k₁,(fun _ h => nomatch h),I₀.cells⟩
 refine wpAny_newObj_type ?_
 have hnew:=Ok.size_none s₁
 refine newCompEnv (comp_loop (D:=s₁.heap.objs.size) (s₂:={ s₁ with heap:=s₁.heap.push { cls:=.type "list",data:=.seq (List.toArray []) 0 },toks:=s₁.toks })
  (I₁.grow (O₁.push (tk:=s₁.toks)) (Kp.of_keep (tk:=s₁.toks) fun b o e => Heap.get?_push_of_some _ e) hnew (m:=Mlst []) ⟨[],0,Heap.get?_push_size _ rfl,rfl⟩ (Heap.get?_push_size _ rfl) (fun vs q => nomatch q)) hA O₁ (fun b o e => Heap.get?_push_of_some _ e) hnew
  hkind hmem hcl hinj hρ hturn hsz hit₀ hmu htab hH W hst hobj hfp hP (I₁.unborn hnew) fun D L s₁ => k s D L s₁ I₀)
private theorem w5b {elt target iter : Expr} {ifs : List Expr} {scope : Scope} {pos pos' : Pos} {cl : List (PySem.Str × Addr)} {ρc : List (PySem.Str × PV)} {l : List PV} {g : Nat → Option PV} {use : Option (Value → Sem Unit)} {Q : Value → Shared → Prop}
  (O : Ok C mu s) (a : Act env mu s.heap ρ σ) (hal : ∀ x ∈ env.cells,x.2 ∈ mu ∨ ∃ o,C.H.get? x.2 = some o) (hA : A.handled = none) (hi : IterE prog w C mu A env ρ σ iter l)
  (hclos : closureFor scope env = pure cl) (hkind : scope.kind = .function) (hnames : ∀ x ∈ scope.names,x.2 = .local → scope.names.lookup x.1 = some .local)
  (hmem : ∀ x ∈ cl,x ∈ env.cells) (hcl : ∀ x c,cl.lookup x = some c → env.cells.lookup x = some c ∧ env.kindOf x ≠ some .local) (hinj : ∀ x c,cl.lookup x = some c → (cellsFrom 0 scope.names []).lookup x = none)
  (hρ : ∀ x p,ρc.lookup x = some p → ρ.lookup x = some p ∧ ((relabel scope env).names.lookup x = some .cell ∨ (relabel scope env).names.lookup x = some .free) ∧ okName x = true ∧ ∃ c,cl.lookup x = some c)
  (hturn : q0w prog w C mu A env ρc σ target elt ifs scope cl l g) (hsz : l.length ≤ 2 ^ 20)
  (k : ∀ D L s₁,Ok C mu s₁ → Kp C [] s s₁ → s.heap.get? D = none → MOAt (D :: mu) s₁.heap D (Mlst ((List.range l.length).filterMap g)) → s.heap.get? L = none → L ≠ D → L ∉ mu → (∃ m,s₁.heap.Ns L m) → compPost (model prog w) A E use Q (.ref D) L (.ok .next) s₁)
  (hs : ∀ x,foldedSetIterable iter env x = pure x) : wpAny (model prog w) A (comprehension (.ListComp elt [⟨target,iter,ifs,0⟩] scope pos) scope env pos' (newList []) false (eval iter env) use) Q E s:=
 w1p (nu:=[]) (s₀:=s) hA (hi.toI ⟨O,a,.refl,(fun _ h => nomatch h),hal⟩) hclos hkind hnames hmem hcl hinj hρ hturn hsz (fun sB D L s₁ I O₁ k₁ hD hm hL h1 h2 h3 =>
  k D L s₁ O₁ (I.kp.trans k₁) (q5s I.ok I.kp hD) hm (q5s I.ok I.kp hL) h1 h2 h3) hs
end
end
section
open PySem PySem.W PySem.Calls PyProof.Rows
variable {prog : Program} {w : World}
noncomputable def NoSeq (o : Obj) : Prop:=(∀ vs n,o.data ≠ .seq vs n) ∧ ∀ vs,o.data ≠ .fields vs
mutual
private theorem Sim.keepsD {h h' : Heap} {mu : List Addr} {it : Addr} (hk : ∀ b o,b ≠ it → h.get? b = some o → h'.get? b = some o) (hn : ∀ o,h.get? it = some o → NoSeq o) : ∀ {p : PV} {v : Value},Sim h mu p v → Sim h' mu p v
 | .none,_,x => x
 | .bool _,_,x => x
 | .int _,_,x => x
 | .str _,_,x => x
 | .val _,_,x => x
 | .tup l,_,⟨a,vs,n,e,ha,ho,hs⟩ => ⟨a,vs,n,e,ha,hk _ _ (fun q => (hn _ (q ▸ ho)).1 _ _ rfl) ho,Sims.keepsD hk hn hs⟩
 | .lst l,_,⟨a,vs,n,e,ha,ho,hs⟩ => ⟨a,vs,n,e,ha,hk _ _ (fun q => (hn _ (q ▸ ho)).1 _ _ rfl) ho,Sims.keepsD hk hn hs⟩
private theorem Sims.keepsD {h h' : Heap} {mu : List Addr} {it : Addr} (hk : ∀ b o,b ≠ it → h.get? b = some o → h'.get? b = some o) (hn : ∀ o,h.get? it = some o → NoSeq o) : ∀ {l : List PV} {vs : List Value},Sims h mu l vs → Sims h' mu l vs
 | [],_,x => x
 | _ :: _,_,⟨v,r,e,x,y⟩ => ⟨v,r,e,Sim.keepsD hk hn x,Sims.keepsD hk hn y⟩
end
section
variable {C : Cfg} {mu mu' nu : List Addr} {s₀ s s' : Shared} {env : Env} {ρ : List (PySem.Str × PV)} {σ σ' : List (Addr × MO)} {A : Around} {E : Value → Shared → Prop}
private theorem Ns.noSeq {h : Heap} {L : Addr} {m : PySem.Str → Option Value} (hn : h.Ns L m) : ∀ o,h.get? L = some o → NoSeq o:=fun o e => by
 obtain ⟨o',es,ep,e',hd,_⟩:=hn
 rw [e] at e';cases e'
 refine ⟨fun vs n q => ?_,fun vs q => ?_⟩
 ·rw [hd] at q;cases q
 ·rw [hd] at q;cases q
private theorem Ok.butD {it : Addr} {h' : Heap} {tk : Nat} (O : Ok C mu s) (hk : ∀ b o,b ≠ it → s.heap.get? b = some o → h'.get? b = some o) (hn : ∀ o,s.heap.get? it = some o → NoSeq o) (h1 : it ∉ mu) (h2 : it ∉ C.tabs) (h3 : C.H.get? it = none) : Ok C mu { s with heap:=h',toks:=tk } where
 old:=fun b o e ht => hk b o (fun q => by rw [q,h3] at e;cases e) (O.old b o e ht)
 tab:=fun x hx => by
  obtain ⟨ps,a,b,c⟩:=O.tab x hx
  refine ⟨ps,hk _ _ (fun q => h2 (q ▸ List.mem_map_of_mem hx)) a,b,fun pos c' e => ?_⟩
  obtain ⟨d,e1,e2,e3⟩:=c pos c' e
  refine ⟨d,e1,e2,?_⟩
  obtain ⟨c₁,o,vs,t,f1,f2,f3,f4⟩:=e3
  subst e1
  cases f1
  exact ⟨_,o,vs,t,rfl,hk _ _ (fun q => by rw [q] at f2;exact (hn o f2).2 vs f3) f2,f3,f4⟩
 code:=O.code
 live:=fun a ha => ⟨(O.live a ha).1,let ⟨o,e⟩:=(O.live a ha).2;⟨o,hk a o (fun (q : a = it) => h1 (q ▸ ha)) e⟩⟩
 gens:=O.gens
 os:=O.os
 kin:=O.kin
 kt:=O.kt
 lim:=O.lim
 glob:=O.glob
 bmod:=O.bmod
private theorem purN_comp {elt target iter : Expr} {ifs : List Expr} {scope : Scope} {pos : Pos} {cl : List (PySem.Str × Addr)} {ρc : List (PySem.Str × PV)} {l : List PV} {g : Nat → Option PV}
  (hal : ∀ x ∈ env.cells,x.2 ∈ mu ∨ ∃ o,C.H.get? x.2 = some o) (hA : A.handled = none) (hi : IterE prog w C mu A env ρ σ iter l)
  (hclos : closureFor scope env = pure cl) (hkind : scope.kind = .function) (hnames : ∀ x ∈ scope.names,x.2 = .local → scope.names.lookup x.1 = some .local)
  (hmem : ∀ x ∈ cl,x ∈ env.cells) (hcl : ∀ x c,cl.lookup x = some c → env.cells.lookup x = some c ∧ env.kindOf x ≠ some .local) (hinj : ∀ x c,cl.lookup x = some c → (cellsFrom 0 scope.names []).lookup x = none)
  (hρ : ∀ x p,ρc.lookup x = some p → ρ.lookup x = some p ∧ ((relabel scope env).names.lookup x = some .cell ∨ (relabel scope env).names.lookup x = some .free) ∧ okName x = true ∧ ∃ c,cl.lookup x = some c)
  (hturn : q0w prog w C mu A env ρc σ target elt ifs scope cl l g) (hsz : l.length ≤ 2 ^ 20) (hs : ∀ x,foldedSetIterable iter env x = pure x) :
  PurNE prog w C mu A env ρ σ (.ListComp elt [⟨target,iter,ifs,0⟩] scope pos) ((List.range l.length).filterMap g):=fun s O a Q E k => by
 rw [eval_ListComp]
 refine w5b (use:=none) O a hal hA hi hclos hkind hnames hmem hcl hinj hρ hturn hsz (fun D L s₁ O₁ k₁ hD hm hL hLD hLmu hns => ?_) hs
 obtain ⟨m,hns⟩:=hns
 refine ⟨m,hns,fun h' hsb => ?_⟩
 have hn:=Ns.noSeq hns
 have hLalive : ∃ o,s₁.heap.get? L = some o:=let ⟨o,_,_,e,_⟩:=hns;⟨o,e⟩
 have hf:=O.fresh' hL
 have hbut : ∀ b o,b ≠ L → s₁.heap.get? b = some o → h'.get? b = some o:=fun b o hb e => hsb.extBut b o hb e
 have O₂ : Ok C mu { s₁ with heap:=h',toks:=s₁.toks }:=O₁.butD hbut hn hLmu hf.1 (O.unborn hL)
 obtain ⟨vs,n,ho,hv⟩:=hm
 exact k D _ O₂ ⟨fun b o hb htb e => hbut b o (fun q => by rw [q,hL] at e;cases e) (k₁.keep b o hb htb e)⟩ hD ⟨vs,n,hbut _ _ (Ne.symm hLD) ho,hv.keepsD hbut hn⟩
end
end
section
open PySem PySem.W PySem.Calls PyProof.Rows
variable {prog : Program} {w : World}
section
variable {C : Cfg} {mu mu' nu : List Addr} {s₀ s s' : Shared} {env : Env} {ρ : List (PySem.Str × PV)} {σ σ' : List (Addr × MO)} {A : Around} {E : Value → Shared → Prop}
noncomputable def q1t (prog : Program) (w : World) (C : Cfg) (mu : List Addr) (A : Around) (env : Env) (ρ : List (PySem.Str × PV)) (σ : List (Addr × MO)) (e : Option Expr) (i : Option Int) : Prop:=
 match e,i with
 | none,none => True
 | some e,some i => PurE prog w C mu A env ρ σ e (.int i)
 | _,_ => False
private theorem q3w {e : Option Expr} {i : Option Int} {Q : Value → Shared → Prop} (h : q1t prog w C mu A env ρ σ e i) (O : Ok C mu s) (a : Act env mu s.heap ρ σ)
  (k : ∀ v s',Ok C mu s' → Kp C [] s s' → IsPart v i → Q v s') : wpAny (model prog w) A (evalPart e env) Q E s:=by
 cases e with
 | none =>
  cases i with
  | none => rw [evalPart_none];exact wpAny_pure (k _ s O .refl .none)
  | some i => exact h.elim
 | some e =>
  cases i with
  | none => exact h.elim
  | some i =>
   rw [evalPart_some]
   exact h s O a _ _ fun v s' O' k' y => by obtain ⟨t,rfl⟩:=y;exact k _ s' O' k' (.int i t)
noncomputable def q5w (l : List PV) (lo hi : Option Int) : List PV:=(sliceRange (sliceBounds lo hi none l.length).1 (sliceBounds lo hi none l.length).2.1 (sliceBounds lo hi none l.length).2.2).filterMap (l[·]?)
private theorem Sims.pick {h : Heap} {l : List PV} {vs : List Value} (y : Sims h mu l vs) : ∀ (is : List Nat),Sims h mu (is.filterMap (l[·]?)) (is.filterMap (vs[·]?))
 | [] => rfl
 | i :: is => by
  have ih:=Sims.pick y is
  cases hi : l[i]? with
  | none =>
   have : vs[i]? = none:=by
    rw [List.getElem?_eq_none_iff] at hi ⊢
    rw [y.length];exact hi
   rw [List.filterMap_cons,List.filterMap_cons]
   simp only [hi,this]
   exact ih
  | some p =>
   obtain ⟨v,e,z⟩:=y.get i p hi
   rw [List.filterMap_cons,List.filterMap_cons]
   simp only [hi,e]
   exact ⟨_,_,rfl,z,ih⟩
private theorem q7c {value : Expr} {lower upper : Option Expr} {p pos : Pos} {lo hi : Option Int} {l : List PV} (hv : PurL prog w C mu A env ρ σ value l) (h1 : q1t prog w C mu A env ρ σ lower lo) (h2 : q1t prog w C mu A env ρ σ upper hi) (hsz : l.length ≤ 2 ^ 20)
  (ht : autoParam (∀ o r,letTemporaryGo value o r = pure ()) tR) : PurNE prog w C mu A env ρ σ (.Subscript value (.Slice lower upper none p) pos) (q5w l lo hi):=fun s O a Q E k => by
 refine wpAny_Subscript_list_slice (hv s O a _ _ fun v s₁ O₁ k₁ y₁ => q3w h1 O₁ (a.kp O k₁) fun vl s₂ O₂ k₂ p₂ => q3w h2 O₂ ((a.kp O k₁).kp O₁ k₂) fun vu s₃ O₃ k₃ p₃ => ?_) ht
 obtain ⟨x,vs,n,rfl,ho,hvs⟩:=(y₁.kp0 O₁ k₂).kp0 O₂ k₃
 have hS : sizeLine = 2 ^ 24:=by decide +kernel
 have hlen : vs.toArray.size = l.length:=by simp [hvs.length]
 have hk : ∀ b o,s₃.heap.get? b = some o → ((s₃.heap.push { cls:=.type "slice",data:=.fields #[vl,vu,.none] }).push { cls:=.type "list",data:=.seq (slicePick vs.toArray lo hi none) }).get? b = some o:=fun b o e => Heap.get?_push_of_some _ (Heap.get?_push_of_some _ e)
 have hnew : s₃.heap.get? (s₃.heap.objs.size + 1) = none:=Heap.get?_none_of_le (Nat.le_succ _)
 refine ⟨x,vs.toArray,lo,hi,rfl,⟨_,ho,rfl,n,rfl⟩,by lia,p₂,p₃,k _ _ (O₃.keep (tk:=s₃.toks) hk) (((k₁.trans k₂).trans k₃).trans (Kp.of_keep (tk:=s₃.toks) hk)) (q4y O₃ ((k₁.trans k₂).trans k₃) hnew) ?_⟩
 refine ⟨(sliceRange (sliceBounds lo hi none l.length).1 (sliceBounds lo hi none l.length).2.1 (sliceBounds lo hi none l.length).2.2).filterMap (vs[·]?),0,?_,((hvs.pick _).new hnew).keeps (fun _ _ z _ => z) fun b o _ _ e => hk b o e⟩
 have e : slicePick vs.toArray lo hi none = List.toArray ((sliceRange (sliceBounds lo hi none l.length).1 (sliceBounds lo hi none l.length).2.1 (sliceBounds lo hi none l.length).2.2).filterMap (vs[·]?)):=by
  unfold slicePick
  rw [hlen]
  simp
 rw [← e,show s₃.heap.objs.size + 1 = (s₃.heap.push { cls:=.type "slice",data:=.fields #[vl,vu,.none] }).objs.size from (Heap.size_push ..).symm]
 exact Heap.get?_push_size _ rfl
private theorem q5d {x y : PySem.Str} (hsz : x.length + y.length ≤ 2 ^ 20) : Op2 prog w C mu A (binaryOp .Add) (.str x) (.str y) (.str (x ++ y)):=fun s a b O ⟨t,ha⟩ ⟨u,hb⟩ => by
 subst ha hb
 have hS : sizeLine = 2 ^ 24:=by decide +kernel
 exact Pur.here O fun Q E k => PyProof.Rows.add_str (fun t' tk => k _ tk ⟨t',rfl⟩) (by (with_reducible refine nad ?_;decide))
private theorem w4b {x y : PySem.Str} : Op2 prog w C mu A (compareOp .Eq) (.str x) (.str y) (.bool (x == y)):=fun s a b O ⟨t,ha⟩ ⟨u,hb⟩ => by
 subst ha hb
 exact Pur.here O fun Q E k => PyProof.Rows.eq_str (k _ s.toks rfl)
private theorem q3r {h : Heap} : ∀ {ys : List PySem.Str} {vs : List Value},Sims h mu (ys.map .str) vs → StrsAre vs ys
 | [],_,x => by cases (show _ = [] from x);exact .nil
 | y :: ys,_,⟨v,r,e,⟨t,hv⟩,z⟩ => by subst e hv;exact StrsAre.cons y t (q3r z)
private theorem q6m {x : PySem.Str} {name : PySem.Str} (hn : name = PySem.Str.ofString "join") : Meth prog w C mu A (.str x) name "str.join":=fun pl s v Q E O ⟨t,hv⟩ k => by
 subst hv hn
 exact getMethod_builtin (typeIs_str s x t) PySem.F.plainAttrs_str PySem.F.slot_str_join PySem.F.type_str_join (fun b e => by cases e) k
private theorem op_join {x : PySem.Str} {ys : List PySem.Str} (hsep : x.length ≤ 16) (hw : (ys.map (·.length)).sum + ys.length ≤ 1048576) : OpL prog w C mu A (fun vs => call (.builtin "str.join") vs) [.str x,.lst (ys.map .str)] (.str (PySem.Txt.join x ys)):=fun s vs O hy => by
 obtain ⟨v,r,rfl,⟨t,rfl⟩,v₂,r₂,rfl,⟨b,ws,n,rfl,hb,ho,hv⟩,hr⟩:=hy
 cases (show r₂ = [] from hr)
 exact Pur.here O fun Q E k => join_listW ⟨_,ho,rfl,n,rfl⟩ (by simpa using q3r hv) hsep hw fun t' tk => k _ tk ⟨t',rfl⟩
private theorem q5x (ns : List Int) : ∀ k,k ≤ ns.length → preSum (fun i => ns.getD i 0) k = (ns.take k).sum
 | 0,_ => by simp [preSum]
 | k + 1,h => by
  have hk : k < ns.length:=h
  simp only [preSum,q5x ns k (Nat.le_of_succ_le h)]
  rw [List.take_succ_eq_append_getElem hk,List.sum_append]
  simp [List.getD_eq_getElem?_getD,hk]
private theorem op_sum {ns : List Int} (hA : A.handled = none) (hsz : ns.length ≤ 2 ^ 20) : OpL prog w C mu A (fun vs => call (.builtin "sum") vs) [.lst (ns.map .int)] (.int ns.sum):=fun s vs O hy => by
 obtain ⟨v,r,rfl,⟨b,ws,n,rfl,hb,ho,hv⟩,hr⟩:=hy
 cases (show r = [] from hr)
 intro Q E k
 have hlen : ws.toArray.size = ns.length:=by simp [hv.length]
 have hl : s.heap.IsList b ws.toArray:=⟨_,ho,rfl,n,rfl⟩
 have hne : b ≠ s.heap.objs.size:=fun q => by rw [q,Ok.size_none] at ho;cases ho
 refine call_sum_walkG (wpAny_pyIter_list hl ⟨s.heap.objs.size,_,_,ws.toArray.size,_,_,fun i => ns.getD i 0,rfl,Walks.list (show A.in1.handled = none from hA) _ b hne ws.toArray,⟨⟨_,Heap.get?_push_size _ rfl,rfl,rfl⟩,hl.push _⟩,fun c hc => ?_,fun i v hP => ?_,fun h' tk t' hk => ?_⟩)
 ·simp at hc
  rw [Heap.size_push]
  rcases hc with rfl | rfl
  ·exact Nat.lt_succ_self _
  ·exact Nat.lt_succ_of_lt (Heap.lt_size ho)
 ·have hPi : ws[i]? = some v:=by simpa using hP
  have hi : i < ns.length:=by
   have:=(List.getElem?_eq_some_iff.mp hPi).1
   rw [hv.length,List.length_map] at this
   exact this
  obtain ⟨u,e1,t,e2⟩:=hv.get i (.int ns[i]) (by simp [hi])
  rw [hPi] at e1;cases e1
  exact ⟨t,by rw [e2];simp [List.getD_eq_getElem?_getD,hi]⟩
 ·have hkk : ∀ c o,s.heap.get? c = some o → h'.get? c = some o:=fun c o e => hk c o (by simp;exact fun q => by rw [q,Ok.size_none] at e;cases e) (Heap.get?_push_of_some _ e)
  rw [hlen,q5x ns _ (Nat.le_refl _),List.take_length]
  exact k _ _ (O.keep hkk) (Kp.of_keep hkk) ⟨t',rfl⟩
end
end
section
open PySem PySem.W PySem.Calls PyProof.Rows
variable {prog : Program} {w : World}
section
variable {C : Cfg} {mu mu' nu : List Addr} {s₀ s s' : Shared} {env : Env} {ρ : List (PySem.Str × PV)} {σ σ' : List (Addr × MO)} {A : Around} {E : Value → Shared → Prop}
private theorem MOAt.keepsD {h h' : Heap} {a it : Addr} {m : MO} (x : MOAt mu h a m) (ha : a ≠ it) (hk : ∀ b o,b ≠ it → h.get? b = some o → h'.get? b = some o) (hn : ∀ o,h.get? it = some o → NoSeq o) : MOAt mu h' a m:=by
 cases m with
 | seq c d l => obtain ⟨vs,n,e,y⟩:=x;exact ⟨vs,n,hk _ _ ha e,y.keepsD hk hn⟩
 | raw o => exact hk _ _ ha x
private theorem Act.butD {it : Addr} {h' : Heap} (a : Act env mu s.heap ρ σ) (hk : ∀ b o,b ≠ it → s.heap.get? b = some o → h'.get? b = some o) (hn : ∀ o,s.heap.get? it = some o → NoSeq o) (h1 : it ∉ mu) : Act env mu h' ρ σ where
 st:=fun b m e => let ⟨x1,x2,x3⟩:=a.st b m e;⟨x1,x2,x3.keepsD (fun (q : b = it) => h1 (q ▸ x1)) hk hn⟩
 kind:=a.kind
 gl:=a.gl
 bi:=a.bi
 loc:=a.loc
 ns:=by
  obtain ⟨m,⟨o,es,ep,ho,r⟩,hv⟩:=a.ns
  exact ⟨m,⟨o,es,ep,hk _ _ (fun q => h1 (q ▸ a.loc)) ho,r⟩,fun x p e1 e2 => let ⟨v,e,y⟩:=hv x p e1 e2;⟨v,e,y.keepsD hk hn⟩⟩
 kinds:=a.kinds
 cell:=fun x c hx hl hc => by
  obtain ⟨x1,x2,ov,⟨o,ho,hd⟩,x4⟩:=a.cell x c hx hl hc
  exact ⟨x1,x2,ov,⟨o,hk _ _ (fun q => h1 (q ▸ x1)) ho,hd⟩,fun p hp => let ⟨v,e,y⟩:=x4 p hp;⟨v,e,y.keepsD hk hn⟩⟩
 plain:=a.plain
 inj:=a.inj
private theorem In.butD {it : Addr} {h' : Heap} {tk : Nat} (I : In C mu nu env ρ σ s₀ s) (hk : ∀ b o,b ≠ it → s.heap.get? b = some o → h'.get? b = some o) (hn : ∀ o,s.heap.get? it = some o → NoSeq o) (h1 : it ∉ mu) (h2 : it ∉ C.tabs) (h3 : C.H.get? it = none) (h4 : s₀.heap.get? it = none) :
  In C mu nu env ρ σ s₀ { s with heap:=h',toks:=tk }:=
 ⟨I.ok.butD hk hn h1 h2 h3,I.act.butD hk hn h1,⟨fun b o hb ht e => hk b o (fun q => by rw [q,h4] at e;cases e) (I.kp.keep b o hb ht e)⟩,I.sub,I.cells⟩
private theorem w2a {y : PySem.Str} {py spos : Pos} {elt target iter : Expr} {ifs : List Expr} {scope : Scope} {pos : Pos} {cl : List (PySem.Str × Addr)} {ρc : List (PySem.Str × PV)} {l : List PV} {g : Nat → Option PV} {Q : Flow → Shared → Prop}
  (I : In C mu nu env ρ σ s₀ s) (hy : StOk env nu y) (hA : A.handled = none) (hi : IterE prog w C mu A env ρ σ iter l) (hsw : swapsWith (.ListComp elt [⟨target,iter,ifs,0⟩] scope pos) (some (.Name y py)) spos.line env = pure true)
  (hclos : closureFor scope env = pure cl) (hkind : scope.kind = .function) (hnames : ∀ x ∈ scope.names,x.2 = .local → scope.names.lookup x.1 = some .local)
  (hmem : ∀ x ∈ cl,x ∈ env.cells) (hcl : ∀ x c,cl.lookup x = some c → env.cells.lookup x = some c ∧ env.kindOf x ≠ some .local) (hinj : ∀ x c,cl.lookup x = some c → (cellsFrom 0 scope.names []).lookup x = none)
  (hρ : ∀ x p,ρc.lookup x = some p → ρ.lookup x = some p ∧ ((relabel scope env).names.lookup x = some .cell ∨ (relabel scope env).names.lookup x = some .free) ∧ okName x = true ∧ ∃ c,cl.lookup x = some c)
  (hturn : q0w prog w C mu A env ρc σ target elt ifs scope cl l g) (hsz : l.length ≤ 2 ^ 20) (hs : ∀ x,foldedSetIterable iter env x = pure x)
  (k : ∀ s',In C mu nu env ((y,.lst ((List.range l.length).filterMap g)) :: ρ) σ s₀ s' → Q .next s') : wpAny (model prog w) A (exec (.Assign [.Name y py] (.ListComp elt [⟨target,iter,ifs,0⟩] scope pos) spos) env) Q E s:=by
 rw [exec_Assign_Name_used _ _ _ _ hsw]
 refine wpAny_bind (wpAny_standAt (wpAny_bind ?_))
 show wpAny _ A (do let _ ← comprehension (.ListComp elt [⟨target,iter,ifs,0⟩] scope pos) scope env _ (newList []) false (eval iter env) (some (assign (.Name y py) env))) _ _ s
 refine wpAny_bind (wpAny_mono (w5b (use:=some (assign (.Name y py) env)) (Q:=fun _ s' => Q .next s') I.ok I.act I.cells hA hi hclos hkind hnames hmem hcl hinj hρ hturn hsz (fun D L s₁ O₁ k₁ hD hm hL hLD hLmu hns => ?_) hs) (fun _ s' hq => wpAny_pure (wpAny_pure hq)) fun _ _ e => e)
 show wpAny _ A (assign (.Name y py) env (.ref D)) _ _ _
 have I₁:=I.next O₁ k₁
 obtain ⟨vs,n,ho,hv⟩:=hm
 have hf:=I.ok.fresh' hL
 have yv : Sim s₁.heap mu (.lst ((List.range l.length).filterMap g)) (.ref D):=⟨D,vs,n,rfl,(I.ok.fresh' hD).2,ho,hv.sub fun _ h => .tail _ h⟩
 refine wpAny_assign_Name (q2b I₁ hy yv fun s₂ I₂ k₂ => ?_)
 obtain ⟨m,o,es,ep,hLo,r⟩:=hns
 have hns₂ : s₂.heap.Ns L m:=⟨o,es,ep,k₂.keep _ _ (fun q => hLmu (I.sub L q)) hf.1 hLo,r⟩
 exact ⟨m,hns₂,fun h' hsb => k _ (I₂.butD (tk:=s₂.toks) (fun b o hb e => hsb.extBut b o hb e) (Ns.noSeq hns₂) hLmu hf.1 (I.ok.unborn hL) (I.unborn hL))⟩
end
end
section
open PySem PySem.W PySem.Calls PyProof.Rows
variable {prog : Program} {w : World}
section
variable {C : Cfg} {mu mu' nu : List Addr} {s₀ s s' : Shared} {env : Env} {ρ : List (PySem.Str × PV)} {σ σ' : List (Addr × MO)} {A : Around} {E : Value → Shared → Prop}
private theorem q7k {x : PySem.Str} {name : PySem.Str} (hn : name = PySem.Str.ofString "split") : Meth prog w C mu A (.str x) name "str.split":=fun pl s v Q E O ⟨t,hv⟩ k => by
 subst hv hn
 exact getMethod_builtin (typeIs_str s x t) PySem.F.plainAttrs_str PySem.F.slot_str_split PySem.F.type_str_split (fun b e => by cases e) k
end
end
section
open PySem PySem.W PySem.Calls PyProof.Rows
variable {prog : Program} {w : World}
section
variable {C : Cfg} {mu mu' nu : List Addr} {s₀ s s' : Shared} {env : Env} {ρ : List (PySem.Str × PV)} {σ σ' : List (Addr × MO)} {A : Around} {E : Value → Shared → Prop}
noncomputable def sSlice (x : PySem.Str) (lo hi : Option Int) : PySem.Str:=
 if (Builtin.Str.strSliceIndices lo hi 1 x.length).length == x.length then x else ⟨((Builtin.Str.strSliceIndices lo hi 1 x.length).filterMap (x.cps[·]?)).toArray⟩
private theorem partS {e : Option Expr} {i : Option Int} {Q : Value → Shared → Prop} (h : q1t prog w C mu A env ρ σ e i) (O : Ok C mu s) (a : Act env mu s.heap ρ σ)
  (k : ∀ (q : Option (Int × Tok)) s',Ok C mu s' → Kp C [] s s' → q.map (·.1) = i → Q (partValue q) s') : wpAny (model prog w) A (evalPart e env) Q E s:=
 q3w h O a fun v s' O' k' p => by
  cases p with
  | none => exact k none s' O' k' rfl
  | int i t => exact k (some (i,t)) s' O' k' rfl
end
end
section
open PySem PySem.W PySem.Calls PyProof.Rows
variable {prog : Program} {w : World}
noncomputable abbrev subO (c : Value) (d : Option Addr) (items : Array Value) (n : Nat) : Obj:={ cls:=c,dict:=d,data:=.seq items n,slots:=#[] }
private theorem w8w (c : Value) (d : Option Addr) (l : Addr) (items : Array Value) (n : Nat) (x : Value) (hsz : items.size ≤ sizeLine) :
  Meets (Builtin.«list.append» ⟨[.ref l,x],[]⟩) (fun _ R s => s.heap.get? l = some (subO c d items n) ∧ R (.ok (.ret Value.none)) { s with heap:=s.heap.update l (Obj.mapSeq fun x_1 => x_1.push x),toks:=s.toks }):=
 .of_wp fun prog w A R s h => by
  obtain ⟨hp,g,d,tk,os⟩:=s;obtain ⟨hl,h⟩:=h
  have hz' : (items.push x).size ≤ sizeLine + 1:=by rw [Array.size_push];lia
  wp_walk using (wpAny_updateSeq hl rfl (hz:=hsz) (_hz':=hz'));exact ⟨_,rfl,h⟩
private theorem sub_len (c : Value) (d : Option Addr) (l : Addr) (items : Array Value) (n : Nat) :
  Meets (Builtin.«list.__len__» ⟨[.ref l],[]⟩) (fun _ R s => s.heap.get? l = some (subO c d items n) ∧ R (.ok (.ret (.int items.size s.toks))) { s with toks:=s.toks + 1 }):=
 .of_wp fun prog w A R s h => by
  obtain ⟨hp,g,d,tk,os⟩:=s;obtain ⟨hl,h⟩:=h
  wp_walk;exact ⟨_,rfl,h⟩
private theorem sub_pop (c : Value) (d : Option Addr) (l : Addr) (items : Array Value) (n : Nat) (v : Value) (hsz : items.size + 1 ≤ sizeLine) :
  Meets (Builtin.«list.pop» ⟨[.ref l],[]⟩) (fun _ R s => s.heap.get? l = some (subO c d (items.push v) n) ∧ R (.ok (.ret v)) { s with heap:=s.heap.update l (Obj.mapSeq fun x_1 => x_1.eraseIdxIfInBounds items.size) }):=
 .of_wp fun prog w A R s h => by
  obtain ⟨hp,g,d,tk,os⟩:=s;obtain ⟨hl,h⟩:=h
  have hz' : ((items.push v).eraseIdxIfInBounds items.size).size ≤ sizeLine + 1:=by
   unfold Array.eraseIdxIfInBounds
   split
   ·rw [Array.size_eraseIdx,Array.size_push];lia
   ·rw [Array.size_push];(with_reducible refine nad ?_;decide)
  have hz : (items.push v).size ≤ sizeLine:=by rw [Array.size_push];assumption
  have e : (seqIndex? (-1) (items.push v).size).bind (fun k => Option.map (fun x => (k,x)) (items.push v)[k]?) = some (items.size,v):=by
   have : seqIndex? (-1) (items.push v).size = some items.size:=by
    unfold seqIndex?
    rw [Array.size_push]
    simp
    lia
   rw [this]
   simp
  wp_walk using (wpAny_updateSeq hl rfl (hz:=hz) (_hz':=hz'))
  rw [e]
  wp_walk using (wpAny_updateSeq hl rfl (hz:=hz) (_hz':=hz'))
  all_goals exact ⟨_,rfl,h⟩
private theorem sub_init (c : Value) (d : Option Addr) (l : Addr) (n : Nat) :
  Meets (Builtin.«list.__init__» ⟨[.ref l],[]⟩) (fun _ R s => s.heap.get? l = some (subO c d #[] n) ∧ R (.ok (.ret .none)) { s with heap:=s.heap.update l (Obj.mapSeq fun _ => #[]) }):=
 .of_wp fun prog w A R s h => by
  obtain ⟨hp,g,d,tk,os⟩:=s;obtain ⟨hl,h⟩:=h
  have hz : (#[] : Array Value).size ≤ sizeLine:=Nat.zero_le _
  have hz' : (#[] : Array Value).size ≤ sizeLine + 1:=Nat.zero_le _
  wp_walk using (wpAny_updateSeq hl rfl (hz:=hz) (_hz':=hz'))
  all_goals exact ⟨_,rfl,h⟩
private theorem sub_itemI (c : Value) (d : Option Addr) (l : Addr) (items : Array Value) (n : Nat) (k : Int) (t : Tok) (v : Value) (h0 : 0 ≤ k) (hv : items[k.toNat]? = some v) (hfit : Builtin.List.listFitsIndex k = true) :
  Meets (Builtin.«list.__getitem__» ⟨[.ref l,.int k t],[]⟩) (fun _ R s => s.heap.get? l = some (subO c d items n) ∧ R (.ok (.ret v)) s):=
 .of_wp fun prog w A R s h => by
  obtain ⟨hl,h⟩:=h
  show wpAny _ _ (Builtin.List.listSubscript? (.int k t) >>= _) _ _ s
  refine wpAny_bind (wpAny_listSubscript_int hfit ?_)
  clear hfit
  obtain ⟨j,rfl⟩:=Int.eq_ofNat_of_zero_le h0
  have hx' : items[j]? = some v:=hv
  show wpAny _ _ ((seqItemAt l j >>= fun r => pure (r.map (j,·))) >>= _) _ _ s
  refine wpAny_bind (wpAny_bind (wpAny_seqItemAt hl rfl (wpAny_pure ?_)))
  rw [hx']
  first
  | exact wpAny_bind (wpAny_pure (wpAny_pure ⟨_,rfl,h⟩))
  | exact wpAny_pure ⟨_,rfl,h⟩
private theorem q8o {M : Model} {A : Around} {E : Value → Shared → Prop} {s : Shared} {sl : Addr} {vl vu vs : Value} {Q : Option Int → Shared → Prop} (hs : s.heap.IsSliceOf sl vl vu vs) (h : Q none s) : wpAny M A (Builtin.List.listSubscript? (.ref sl)) Q E s:=by
 obtain ⟨os,hos,hcs,hds⟩:=id hs
 have hTs : s.TypeIs (.ref sl) "slice":=⟨os,hos,hcs⟩
 unfold Builtin.List.listSubscript?
 refine wpAny_bind (wpAny_specialOf hTs slice_no_index ?_)
 simp only [Option.isNone_none,if_true]
 exact wpAny_pure h
private theorem w0q {M : Model} {A : Around} {E : Value → Shared → Prop} {s : Shared} {sl : Addr} {vl vu : Value} {lo hi : Option Int} {Q : Value × Value × Value → Shared → Prop} (hs : s.heap.IsSliceOf sl vl vu .none) (pl : IsPart vl lo) (pu : IsPart vu hi)
  (h : Q (rawPart lo,rawPart hi,rawPart none) s) : wpAny M A (Builtin.List.listSliceParts (.ref sl)) Q E s:=by
 obtain ⟨os,hos,hcs,hds⟩:=id hs
 rw [listSliceParts_eq]
 have hstep : ¬ ((rawPart none == rawInt 0) = true):=Bool.false_ne_true
 refine wpAny_bind (wpAny_field hos hds (x:=.none) rfl (wpAny_bind (wpAny_listPart .none ?_)))
 rw [if_neg hstep]
 refine wpAny_bind (wpAny_field hos hds (x:=vl) rfl (wpAny_bind (wpAny_listPart pl ?_)))
 exact wpAny_bind (wpAny_field hos hds (x:=vu) rfl (wpAny_bind (wpAny_listPart pu (wpAny_pure h))))
private theorem sub_slice (c : Value) (d : Option Addr) (l sl : Addr) (items : Array Value) (n : Nat) (vl vu : Value) (lo hi : Option Int) (pl : IsPart vl lo) (pu : IsPart vu hi) (hsz : items.size ≤ sizeLine) :
  Meets (Builtin.«list.__getitem__» ⟨[.ref l,.ref sl],[]⟩) (fun _ R s => s.heap.get? l = some (subO c d items n) ∧ s.heap.IsSliceOf sl vl vu .none ∧ R (.ok (.ret (.ref s.heap.objs.size))) { s with heap:=s.heap.push { cls:=.type "list",data:=.seq (slicePick items lo hi none) } }):=
 .of_wp fun prog w A R s h => by
  obtain ⟨hl,hs,h⟩:=h
  obtain ⟨os,hos,hcs,hds⟩:=id hs
  have hTs : s.TypeIs (.ref sl) "slice":=⟨os,hos,hcs⟩
  show wpAny _ _ (Builtin.List.listSubscript? (.ref sl) >>= _) _ _ s
  refine wpAny_bind (q8o hs ?_)
  show wpAny _ _ (typeOf (.ref sl) >>= _) _ _ s
  refine wpAny_bind (wpAny_typeOf hTs ?_)
  rw [if_neg (by decide)]
  refine wpAny_bind (w0q hs pl pu ?_)
  refine wpAny_bind (m:=Builtin.List.listItems (.ref l)) ?_
  unfold Builtin.List.listItems
  refine wpAny_bind (wpAny_seqItems hl rfl (wpAny_pure ?_))
  refine wpAny_bind (wpAny_of_eq (sliceIndices_raw lo hi none items.size (by simp)) ?_)
  exact wpAny_bind (wpAny_newObj_type (wpAny_pure ⟨_,rfl,h⟩) (Nat.le_trans (slicePick_size_le items lo hi none) hsz))
noncomputable def setSl (items new : Array Value) (lo hi : Option Int) : Array Value:=
 items.extract 0 (sliceBounds lo hi none items.size).1.toNat ++ new ++ items.extract (max (sliceBounds lo hi none items.size).1 (sliceBounds lo hi none items.size).2.1).toNat items.size
private theorem q5r {M : Model} {A : Around} {E : Value → Shared → Prop} {s : Shared} {keep : List Value} {Q : Unit → Shared → Prop} : ∀ {l : List Value},Q () s → wpAny M A (letGo l keep) Q E s
 | [],h => wpAny_pure h
 | _ :: r,h => wpAny_bind (wpAny_holding (wpAny_point (q5r (l:=r) h)))
private theorem w3r (c : Value) (d : Option Addr) (l sl b : Addr) (items new : Array Value) (n m : Nat) (vl vu : Value) (lo hi : Option Int) (pl : IsPart vl lo) (pu : IsPart vu hi) (hsz : items.size + new.size ≤ sizeLine) (hb : b ≠ l) (hz' : (setSl items new lo hi).size ≤ sizeLine + 1) :
  Meets (Builtin.«list.__setitem__» ⟨[.ref l,.ref sl,.ref b],[]⟩) (fun _ R s => s.heap.get? l = some (subO c d items n) ∧ s.heap.IsSliceOf sl vl vu .none ∧ s.heap.get? b = some { cls:=.type "list",data:=.seq new m } ∧
   R (.ok (.ret .none)) { s with heap:=s.heap.update l (Obj.mapSeq fun xs => xs.extract 0 (sliceBounds lo hi none items.size).1.toNat ++ new ++ xs.extract (max (sliceBounds lo hi none items.size).1 (sliceBounds lo hi none items.size).2.1).toNat xs.size) }):=
 .of_wp fun prog w A R s h => by
  obtain ⟨hl,hs,hn,h⟩:=h
  obtain ⟨os,hos,hcs,hds⟩:=id hs
  have hTs : s.TypeIs (.ref sl) "slice":=⟨os,hos,hcs⟩
  have hTb : s.TypeIs (.ref b) "list":=⟨_,hn,rfl⟩
  show wpAny _ _ (Builtin.List.listSubscript? (.ref sl) >>= _) _ _ s
  refine wpAny_bind (q8o hs ?_)
  show wpAny _ _ (typeOf (.ref sl) >>= _) _ _ s
  refine wpAny_bind (wpAny_typeOf hTs ?_)
  rw [if_neg (by decide)]
  refine wpAny_bind (w0q hs pl pu ?_)
  have hne : Builtin.List.listSameRef (.ref l) (.ref b) = false:=by
   unfold Builtin.List.listSameRef
   simp [Ne.symm hb]
  dsimp only
  rw [hne]
  simp only [Bool.false_eq_true,if_false]
  refine wpAny_bind (m:=Builtin.List.listAllItems (.ref b) _) ?_
  unfold Builtin.List.listAllItems
  refine wpAny_bind (wpAny_typeOf hTb ?_)
  rw [if_pos (by decide)]
  unfold Builtin.List.listItems
  refine wpAny_bind (m:=seqItems? (.ref b)) (wpAny_seqItems hn rfl (wpAny_pure ?_))
  refine wpAny_bind (wpAny_bind (m:=seqItems? (.ref l)) (wpAny_seqItems hl rfl (wpAny_pure ?_)))
  refine wpAny_bind (wpAny_of_eq (sliceIndices_raw lo hi none items.size (by simp)) ?_)
  have h1 : (sliceBounds lo hi none items.size).2.2 = 1:=rfl
  have hz : items.size ≤ sizeLine:=by lia
  have hlong : Builtin.List.listTooLong (items.size + new.size) = false:=by unfold Builtin.List.listTooLong;simp;assumption
  simp only [h1,hlong,beq_self_eq_true,if_true,Bool.false_eq_true,if_false]
  refine wpAny_bind (wpAny_rule ?_)
  unfold Builtin.List.listUpdate
  refine wpAny_bind (wpAny_updateSeq hl rfl (hz:=hz) (_hz':=hz') ?_)
  refine wpAny_bind (q5r (wpAny_pure ⟨_,rfl,h⟩))
end
section
set_option tactic.hygienic true
open PySem PySem.W PySem.Calls PyProof.Rows Builtin Builtin.ObjectAttr Builtin.Getset_descriptor
set_option maxHeartbeats 4000000
variable {prog : Program} {w : World}
structure MakesL (M : Model) (h : Heap) (C : Addr) : Prop where
 obj : ∃ oc od cd sl,h.get? C = some ⟨oc,od,.cls cd,sl⟩ ∧ cd.abstract = false ∧ cd.hasDel = false ∧ cd.mro.isEmpty = false
 made : Looks M h (Bind.madeBy (.ref C)) (some "list.__new__")
 base : Looks M h (Bind.staticBase (.ref C)) (.ref C)
 self : Looks M h (isSubtype (.ref C) (.ref C)) true
 top : Looks M h (isSubtype (.ref C) (.type "list")) true
 call : Looks M h (specialOf (.ref C) "__call__") (some (.builtin "type.__call__"))
 typ : Looks M h (isInstance (.ref C) (.type "type")) true
noncomputable def w2s (K : Frag) (C : Addr) : Bool:=match K.lookup C with
 | some ⟨_,_,.cls cd,sl⟩ => !cd.abstract && !cd.hasDel && (sl.toList[4]?).join == some (.builtin "list.__new__") && !cd.mro.isEmpty && cd.mro.contains (.ref C) && cd.mro.contains (.type "list") &&
   specialIn K (.ref C) "__call__" == some (some (.builtin "type.__call__")) && instIn K (.ref C) (.type "type") == some true
 | _ => false
private theorem makesL_of {K : Frag} {M : Model} {h : Heap} (X : K.In h) {C : Addr} (e : w2s K C = true) : MakesL M h C:=by
 unfold w2s at e
 split at e
 ·rename_i oc od cd sl ho
  simp only [Bool.and_eq_true,Bool.not_eq_true',beq_iff_eq] at e
  obtain ⟨⟨⟨⟨⟨⟨⟨e1,e2⟩,e3⟩,e4⟩,e5⟩,e6⟩,e7⟩,e8⟩:=e
  have hc : clsIn K C = some cd:=by unfold clsIn;rw [ho]
  have hm : Looks M h (mroOf (.ref C)) cd.mro:=(looks_clsIn X hc).andThen .now
  obtain ⟨c,l,hl⟩ : ∃ c l,cd.mro = c :: l:=by cases q : cd.mro with | nil => rw [q] at e4;cases e4 | cons c l => exact ⟨c,l,rfl⟩
  have made : Looks M h (Bind.madeBy (.ref C)) (some "list.__new__"):=by
   intro A Q E s k q
   unfold Bind.madeBy
   refine wpAny_bind (hm A _ E s k ?_)
   rw [hl,List.forIn_cons]
   refine wpAny_bind (wpAny_bind (wpAny_bind (wpAny_bind (wpAny_loadPart (k _ _ (X _ _ ho)) (wpAny_pure ?_)))))
   dsimp only
   rw [← Array.getElem?_toList,e3]
   exact wpAny_pure (wpAny_pure (wpAny_pure q))
  refine ⟨⟨oc,od,cd,sl,X _ _ ho,e1,e2,e4⟩,made,?_,looks_mroIn X ?_,looks_mroIn X ?_,looks_specialIn X e7,looks_instIn X e8⟩
  ·intro A Q E s k q
   unfold Bind.staticBase
   refine wpAny_bind (hm A _ E s k ?_)
   rw [hl,List.forIn_cons]
   exact wpAny_bind (wpAny_bind (wpAny_bind (made A _ E s k (wpAny_pure (wpAny_pure (wpAny_pure q))))))
  ·unfold mroIn;rw [hc,Option.bind_some,if_neg (by rw [e4];decide),e5]
  ·unfold mroIn;rw [hc,Option.bind_some,if_neg (by rw [e4];decide),e6]
 ·cases e
noncomputable abbrev subNew (C dx : Addr) : Obj:={ cls:=.ref C,dict:=some dx,data:=.seq #[] }
section
variable {A : Around} {K : Frag} {C : Addr} {R : Result → Shared → Prop} {h : Heap} {g : Array GenState} {d : Drawn} {t : Nat} {os : OsState}
private theorem q5p : builtinKind "list.__new__" = some .builtinFn ∧ splitId "list.__new__" = some ("list","__new__"):=by decide +kernel
private theorem new_L {rest : List Value} (Y : MakesL (model prog w) h C)
  (hq : R (.ok (.ret (.ref (h.objs.size + 1)))) ⟨(h.push emptyDict).push (subNew C h.objs.size),g,d,t,os⟩) :
  codeAny (model prog w) A (.call (.builtin "list.__new__") ⟨.ref C :: rest,[]⟩) R ⟨h,g,d,t,os⟩:=by
 obtain ⟨⟨oc,od,cd,sl,hC,e1,e2,e4⟩,made,base,self,top,call,typ⟩:=Y
 have hsub:=top
 have hown:=owner_list_new
 refine codeAny_of_tree ?_
 show wpAny _ A.in1 (do checkBuiltinCall "list.__new__" ⟨.ref C :: rest,[]⟩;again (.builtin "list.__new__" ⟨.ref C :: rest,[]⟩)) _ _ _
 refine wpAny_bind ?_
 simp only [checkBuiltinCall,q5p.1,q5p.2]
 unfold isType
 repeat (first | simp only [bne_self_eq_false,Bool.false_eq_true,if_false,beq_self_eq_true,if_true,Bool.not_true] | lk)
 refine ⟨plainId_quiet PySem.F.plain_list_new _,codeAny_builtin_stack PySem.F.entry_list_new rfl fun p st => ?_⟩
 rw [Around.under_plainId PySem.F.plain_list_new _]
 simp only [hown]
 have fin : ∀ A',wpAny (model prog w) A' (do
   let .ref d ← newDict | unsupported "internal:list.__new__"
   ret (← newObj (.ref C) (.seq #[]) (some d))) (fun fin s' => match fin with | .done f => R (.ok f) s' | .again c' => c'.quiet = true ∧ codeAny (model prog w) A c' R s') (fun e s' => R (.error e) s') ⟨h,g,d,t,os⟩:=by
  intro A'
  show wpAny _ _ (newDict >>= _) _ _ _
  refine wpAny_bind (wpAny_newObj_type ?_)
  refine wpAny_bind ?_
  show wpAny _ _ (newObjAsIs (.ref C) (.seq #[]) (some h.objs.size)) _ _ _
  unfold newObjAsIs classHasDel
  refine wpAny_bind (wpAny_alloc (wpAny_bind (wpAny_bind (wpAny_load (Heap.get?_push_of_some _ (Heap.get?_push_of_some _ hC)) (wpAny_pure ?_)))))
  rw [e2]
  refine wpAny_pure (wpAny_pure ?_)
  show R _ _
  rw [Heap.size_push]
  exact hq
 repeat (first | exact fin _ | simp only [bne_self_eq_false,Bool.false_eq_true,if_false,Bool.not_true] | lk)
private theorem make_L {rest : List Value} {init : Value} (Y : MakesL (model prog w) h C) (hi : Looks (model prog w) h (typeLookup (.ref C) "__init__") (some init))
  (hb : ∀ self,Looks (model prog w) h (bindSpecial init self) (init,[self]))
  (hq : codeAny (model prog w) (A.under (.builtin "type.__call__" ⟨.ref C :: rest,[]⟩)) (.call init ⟨.ref (h.objs.size + 1) :: rest,[]⟩) (InitBack (h.objs.size + 1) R) ⟨(h.push emptyDict).push (subNew C h.objs.size),g,d,t,os⟩) :
  codeAny (model prog w) A (.call (.ref C) ⟨rest,[]⟩) R ⟨h,g,d,t,os⟩:=by
 have Y':=Y
 obtain ⟨⟨oc,od,cd,sl,hC,e1,e2,e4⟩,made,base,self,top,call,typ⟩:=Y
 refine codeAny_of_tree ?_
 show wpAny _ _ (callAny (.ref C) _) _ _ _
 refine nd_load hC ?_
 show wpAny _ _ (callAny.viaDunder (.ref C) _) _ _ _
 unfold callAny.viaDunder
 refine wpAny_bind (call.at ?_)
 dsimp only
 rw [tc_bind]
 refine wpAny_bind (wpAny_pure (wpAny_bind (wpAny_pure ?_)))
 refine wpAny_pure (a:=Fin.again (.call (.builtin "type.__call__") ⟨.ref C :: rest,[]⟩)) (And.intro rfl ?_)
 refine codeAny_call_builtin_at (Code.quiet_builtin _ (by decide +kernel)) entry_typeCall (check_slot tc_kind tc_split typ (tc_args _ _ _) ?_)
 unfold Builtin.«type.__call__»
 have hm : Looks (model prog w) h (mroOf (.ref C)) cd.mro:=((Looks.ld (part:=none) hC).andThen .now).andThen .now
 repeat (first | simp only [e4,Bool.false_eq_true,if_false] | with_reducible refine wpAny_call ?_ | lk)
 refine new_L Y' ?_
 have k : ∀ b o,h.get? b = some o → ((h.push emptyDict).push (subNew C h.objs.size)).get? b = some o:=fun b o e => Heap.get?_push_of_some _ (Heap.get?_push_of_some _ e)
 have hx : ((h.push emptyDict).push (subNew C h.objs.size)).get? (h.objs.size + 1) = some (subNew C h.objs.size):=by heap_get
 have t1 : Looks (model prog w) ((h.push emptyDict).push (subNew C h.objs.size)) (typeOf (.ref (h.objs.size + 1))) (.ref C):=(Looks.ld hx).andThen .now
 have s1:=self.keeps k
 have i1:=hi.keeps k
 have b1:=(hb (.ref (h.objs.size + 1))).keeps k
 unfold isInstance callSpecial? specialOf
 repeat (first | with_reducible refine wpAny_call ?_ | lk)
 refine codeAny_mono hq fun r s' z => ?_
 rcases r with e | (v | _ | _ | _) <;> first | exact z | exact z.elim | skip
 obtain ⟨rfl,z⟩:=z
 exact wpAny_pure (wpAny_pure z)
end
end
section
open PySem PySem.W PySem.Calls PyProof.Rows
variable {prog : Program} {w : World}
private theorem q6v {M : Model} {A : Around} {E : Value → Shared → Prop} {s : Shared} {i owner n : String} {self : Value} {rest : List Value} {Q : Unit → Shared → Prop}
  (hk : builtinKind i = some .slot ∨ builtinKind i = some .method) (hs : splitId i = some (owner,n)) (hi : Looks M s.heap (isInstance self (.type owner)) true) (ha : argsOk i ⟨self :: rest,[]⟩) (q : Q () s) :
  wpAny M A (checkBuiltinCall i ⟨self :: rest,[]⟩) Q E s:=by
 rcases hk with hk | hk <;> simp only [checkBuiltinCall,hk,hs]
 all_goals
  refine wpAny_bind (hi.here ?_)
  simp only [Bool.not_true,Bool.false_eq_true,if_false]
  cases hsig : Manifest.signature? i with
  | none => exact wpAny_pure q
  | some sig =>
   simp only [argsOk,hsig] at ha
   have h2 : Bind.checkArgs i sig ⟨self :: rest,[]⟩ = pure ():=ha
   show wpAny M A (Bind.checkArgs i sig ⟨self :: rest,[]⟩) Q E s
   rw [h2];exact wpAny_pure q
section
variable {A : Around} {E : Value → Shared → Prop} {s : Shared} {K : Frag} {x Cl : Addr} {ox : Obj} {od : Option Obj}
private theorem q0y {M : Model} {name : PySem.Str} {r : Option Value} (X : K.In s.heap) (I : InstAt s.heap x ox Cl od) (hf : findIn K (.ref Cl) name = some r) : Looks M s.heap (specialOf (.ref x) name) r:=I.type.andThen (looks_findIn X hf)
private theorem w8b {M : Model} {b : Value} {r : Bool} (X : K.In s.heap) (I : InstAt s.heap x ox Cl od) (hf : mroIn K Cl b = some r) : Looks M s.heap (isInstance (.ref x) b) r:=I.type.andThen (looks_mroIn X hf)
private theorem w1w {id n : String} {B : Builtin} {rest : List Value} {S : PySem.Spec} {Q : Value → Shared → Prop} (X : K.In s.heap) (I : InstAt s.heap x ox Cl od) (hm : mroIn K Cl (.type "list") = some true)
  (hk : builtinKind id = some .slot ∨ builtinKind id = some .method) (hs : splitId id = some ("list",n)) (hp : plainId id = true) (entry : entryFor table id = some B) (args : argsOk id ⟨.ref x :: rest,[]⟩) (g : Meets (B ⟨.ref x :: rest,[]⟩) S) (h : S A (wants Q E) s) :
  wpAny (model prog w) A (call (.builtin id) (.ref x :: rest)) Q E s:=
 wpAny_call (codeAny_call_builtin hp entry (q6v hk hs (w8b X I hm) args (g prog w A (wants Q E) s h)))
private theorem q8p {T id : String} {name : PySem.Str} {args : List Value} {Q : Option Value → Shared → Prop} (X : K.In s.heap) (I : InstAt s.heap x ox Cl od) (hf : findIn K (.ref Cl) name = some (some (.builtin id))) (hb : Slot T name id)
  (h : wpAny (model prog w) A (call (.builtin id) (.ref x :: args)) (fun v => Q (some v)) E s) : wpAny (model prog w) A (callSpecial? (.ref x) name args) Q E s:=
 wpAny_bind ((q0y X I hf).here (wpAny_holding (by
  rw [hb.bind]
  exact wpAny_bind (wpAny_pure (wpAny_bind (wpAny_mono h (fun _ _ z => wpAny_pure z) fun _ _ z => z))))))
private theorem sub_key {k : Value} {name : PySem.Str} {Q : Value → Shared → Prop} (X : K.In s.heap) (I : InstAt s.heap x ox Cl od) (hd : mroIn K Cl (.type "collections.deque") = some false) (h : Q k s) : wpAny (model prog w) A (sequenceKey (.ref x) k name) Q E s:=by
 unfold sequenceKey
 refine wpAny_bind (I.type.here ?_)
 show wpAny _ _ ((["collections.deque"].anyM fun n => isSubtype (.ref Cl) (.type n)) >>= _) _ _ _
 rw [List.anyM_cons]
 refine wpAny_bind (wpAny_bind ((looks_mroIn X hd).here (wpAny_pure ?_)))
 exact wpAny_pure h
private theorem q8q {i : Value} {S : PySem.Spec} {Q : Value → Shared → Prop} (X : K.In s.heap) (I : InstAt s.heap x ox Cl od) (hm : mroIn K Cl (.type "list") = some true) (hd : mroIn K Cl (.type "collections.deque") = some false)
  (hf : findIn K (.ref Cl) "__getitem__" = some (some (.builtin "list.__getitem__"))) (g : Meets (Builtin.«list.__getitem__» ⟨[.ref x,i],[]⟩) S) (h : S A (wants Q E) s) : wpAny (model prog w) A (getItem (.ref x) i) Q E s:=by
 unfold getItem
 refine wpAny_holding ?_
 refine wpAny_bind (sub_key X I hd ?_)
 refine wpAny_bind (m:=callSpecial? (.ref x) (PySem.Str.ofString "__getitem__") [i]) (q8p X I hf slot_list_getitem (wpAny_mono (w1w (Q:=Q) X I hm (by decide +kernel) (n:="__getitem__") (by decide +kernel) slot_list_getitem.plain entry_list_getitem (args_list_getitem _ _) g h) (fun v s' hq => wpAny_pure hq) fun _ _ e => e))
private theorem sub_iter {Q : Value → Shared → Prop} {items : Array Value} {n : Nat} (X : K.In s.heap) (I : InstAt s.heap x ox Cl od) (hm : mroIn K Cl (.type "list") = some true) (hf : findIn K (.ref Cl) "__iter__" = some (some (.builtin "list.__iter__")))
  (h : Q (.ref s.heap.objs.size) { s with heap:=s.heap.push { cls:=.type "list_iterator",data:=.fields #[.ref x,.int 0 0] } }) : wpAny (model prog w) A (pyIter (.ref x)) Q E s:=by
 have hc : wpAny (model prog w) A (call (.builtin "list.__iter__") [.ref x]) (fun it s' => ∃ T' r,s'.TypeIs it T' ∧ typeLookup (.type T') "__next__" = pure (some r) ∧ Q it s') E s:=by
  refine wpAny_call (codeAny_call_builtin slot_list_iter.plain entry_list_iter (q6v (n:="__iter__") (owner:="list") (by decide +kernel) (by decide +kernel) (w8b X I hm) (args_list_iter _) ?_))
  show wpAny _ _ (do ret (← newFields "list_iterator" [.ref x,rawInt 0])) _ _ s
  exact wpAny_bind (wpAny_newObj_type (wpAny_pure ⟨"list_iterator",_,⟨_,Heap.get?_push_size _ rfl,rfl⟩,slot_listiter_next.lookup,h⟩))
 unfold pyIter
 refine wpAny_bind ((q0y X I hf).here ?_)
 show wpAny _ A (callSpecialIfBoundUnlessNone? (.ref x) "__iter__" _ >>= _) Q E s
 refine wpAny_bind ?_
 simp only [callSpecialIfBoundUnlessNone?,bindSpecialIfBound?]
 refine wpAny_holding (wpAny_bind (wpAny_bind ((q0y X I hf).here ?_)))
 simp only [slot_list_iter.bind]
 refine wpAny_bind (wpAny_askSetting (wpAny_ite ?_))
 have fin : wpAny (model prog w) A (if (Value.builtin "list.__iter__" == Value.none) = true then (((do PySem.rule "iter.none";raiseError "TypeError" s!"'{← typeNameOf (.ref x)}' object is not iterable") : Sem Value) >>= fun v => pure (some v)) else (call (.builtin "list.__iter__") [.ref x] >>= fun v => pure (some v))) (fun a s' => wpAny (model prog w) A (match a with
   | some it => do
    match ← specialOf it "__next__" with
    | none => PySem.rule "iter.non-iterator";raiseError "TypeError" s!"iter() returned non-iterator of type '{← typeNameOf it}'"
    | some _ => pure it
   | none => do
    match ← bindSpecialIfBound? (.ref x) "__getitem__" with
    | none => PySem.rule "iter.not-iterable";raiseError "TypeError" s!"'{← typeNameOf (.ref x)}' object is not iterable"
    | some _ => PySem.rule "iter.getitem-fallback";newFields "iterator" [.ref x,← mkInt 0]) Q E s') E s:=by
  simp only [builtin_beq_none,Bool.false_eq_true,if_false]
  refine wpAny_bind (wpAny_mono hc (fun it s' h' => wpAny_pure ?_) fun _ _ h' => h')
  obtain ⟨T',r,hT',hl,hQ⟩:=h'
  exact wpAny_bind (wpAny_specialOf hT' hl (wpAny_pure hQ))
 split
 ·exact wpAny_bind (wpAny_pure (wpAny_pure fin))
 ·exact wpAny_tryCatch (wpAny_bind (wpAny_pure (wpAny_pure fin)))
end
end
section
set_option tactic.hygienic true
open PySem PySem.W PySem.Calls PyProof.Rows Builtin Builtin.ObjectAttr Builtin.Getset_descriptor
variable {prog : Program} {w : World}
section
variable {A : Around} {E : Value → Shared → Prop} {s : Shared} {K : Frag} {x Cl : Addr} {ox : Obj} {od : Option Obj}
private theorem w7i {value slice : Expr} {i : Value} {ops : List Value} {Q : Value → Shared → Prop} (X : K.In s.heap) (I : InstAt s.heap x ox Cl od) (hf : findIn K (.ref Cl) "__getitem__" = some (some (.builtin "list.__getitem__")))
  (hg : wpAny (model prog w) A (getItem (.ref x) i) Q E s) (hs : subscripted slice false (.ref x) i = operate ops (getItem (.ref x) i)) : wpAny (model prog w) A (subscriptTail value slice (.ref x) i) Q E s:=by
 unfold subscriptTail getitemInPython
 refine wpAny_bind (wpAny_bind ((q0y X I hf).here ?_))
 have fin : wpAny (model prog w) A (subscripted slice false (.ref x) i) (fun r s₃ => wpAny (model prog w) A (letTemporaryGo value (.ref x) r >>= fun _ => pure r) Q E s₃) E s:=by
  rw [hs]
  exact wpAny_operating (wpAny_mono hg (fun r s₃ h₃ => wpAny_bind (wpAny_letTemporaryGo (wpAny_pure h₃))) fun _ _ x => x)
 exact wpAny_pure (wpAny_bind fin)
private theorem w5i {i v : Value} {S : PySem.Spec} {Q : Unit → Shared → Prop} (X : K.In s.heap) (I : InstAt s.heap x ox Cl od) (hm : mroIn K Cl (.type "list") = some true) (hd : mroIn K Cl (.type "collections.deque") = some false)
  (hf : findIn K (.ref Cl) "__setitem__" = some (some (.builtin "list.__setitem__"))) (g : Meets (Builtin.«list.__setitem__» ⟨[.ref x,i,v],[]⟩) S) (h : S A (wants (fun _ => Q ()) E) s) : wpAny (model prog w) A (setItem (.ref x) i v) Q E s:=by
 unfold setItem
 refine wpAny_holding ?_
 refine wpAny_bind (sub_key X I hd ?_)
 refine wpAny_bind (m:=callSpecial? (.ref x) (PySem.Str.ofString "__setitem__") [i,v]) (q8p X I hf slot_list_setitem (wpAny_mono (w1w (Q:=fun _ => Q ()) X I hm (by decide +kernel) (n:="__setitem__") (by decide +kernel) slot_list_setitem.plain entry_list_setitem (args_list_setitem _ _ _) g h) (fun v s' hq => wpAny_pure hq) fun _ _ e => e))
private theorem q9q {f tf : Value} {name : PySem.Str} {pl : Sem Bool} {ga : String} {Q : Value × List Value → Shared → Prop} (hcan : (Manifest.canonical ga != "object.__getattribute__") = false) (X : K.In s.heap) (I : InstAt s.heap x ox Cl od) (hga : findIn K (.ref Cl) "__getattribute__" = some (some (.builtin ga))) (hk : findIn K (.ref Cl) "__getattr__" = some none)
  (hf : findIn K (.ref Cl) name = some (some f)) (ht : typeIn K f = some tf) (htf : (tf != .type "function" && tf != .type "method_descriptor" && tf != .type "wrapper_descriptor") = false) (hs : shadowIn od name = some false) (h : Q (f,[.ref x]) s) :
  wpAny (model prog w) A (getMethod (.ref x) name pl) Q E s:=by
 unfold getMethod
 refine wpAny_bind ((q0y X I hga).here ?_)
 dsimp only
 rw [hcan,if_neg (by decide)]
 refine wpAny_bind ((q0y X I hk).here ?_)
 refine wpAny_bind ((q0y X I hf).here (wpAny_bind ((looks_typeIn X ht).here ?_)))
 rw [htf,if_neg (by decide)]
 refine wpAny_bind (wpAny_loadPart I.at_ ?_)
 have hd:=I.dict
 cases e : ox.dict with
 | none => exact wpAny_bind (wpAny_rule (wpAny_pure h))
 | some dx =>
  cases od with
  | none => rw [e] at hd;exact hd.elim
  | some o =>
   rw [e] at hd
   obtain ⟨r,a,b⟩:=Option.map_eq_some_iff.mp hs
   refine wpAny_bind (wpAny_bind (wpAny_loadPart hd ?_))
   rw [nsLook_of a]
   refine wpAny_pure ?_
   rw [b]
   exact wpAny_bind (wpAny_rule (wpAny_pure h))
private theorem w6z {C : Addr} {cd : ClassData} (h : clsIn K C = some cd) : ∃ o,K.lookup C = some o ∧ o.data = .cls cd:=by
 unfold clsIn at h
 split at h
 ·rename_i ho
  cases h
  exact ⟨_,ho,rfl⟩
 ·cases h
private theorem q9s {cd : ClassData} {o : Obj} {name : PySem.Str} {v : Value} (hc : clsIn K Cl = some cd) (hd : cd.hasDict = true) (hf : findIn K (.ref Cl) name = some none) (hl : lookIn name o = some (some v)) : findObj K Cl (some o) name = some (.value v):=by
 refine Option.bind_eq_some_iff.mpr ⟨_,hc,Option.bind_eq_some_iff.mpr ⟨_,hf,Option.bind_eq_some_iff.mpr ⟨none,rfl,Option.bind_eq_some_iff.mpr ⟨false,rfl,?_⟩⟩⟩⟩
 exact Option.bind_eq_some_iff.mpr ⟨_,(if_pos hd).trans hl,rfl⟩
private theorem inst_attr {cd : ClassData} {o : Obj} {name : PySem.Str} {v : Value} {expr : Bool} {Q : Value → Shared → Prop} (X : K.In s.heap) (I : InstAt s.heap x ox Cl (some o)) (hga : findIn K (.ref Cl) "__getattribute__" = some (some (.builtin "object.__getattribute__")))
  (hc : clsIn K Cl = some cd) (hd : cd.hasDict = true) (hf : findIn K (.ref Cl) name = some none) (hl : lookIn name o = some (some v)) (hh : handedIn v = true) (h : Q v { s with toks:=s.toks + 1 }) : wpAny (model prog w) A (getAttr (.ref x) name expr) Q E s:=
 get_value X I hga (q9s hc hd hf hl) hh h
private theorem q6p {f : Addr} {Q : Value → Shared → Prop} (X : K.In s.heap) (I : InstAt s.heap x ox Cl od) (hs : findIn K (.ref Cl) "__len__" = some (some (.ref f))) (hf : typeIn K (.ref f) = some (.type "function"))
  (h : wpAny (model prog w) A (call (.ref f) [.ref x]) (fun r s' => ∃ (n : Nat) (u : Tok),r = .int n u ∧ n < 2 ^ 60 ∧ Q (.int n s'.toks) { s' with toks:=s'.toks + 1 }) E s) : wpAny (model prog w) A (Builtin.«len» ⟨[.ref x],[]⟩) (fun fin s' => ∃ r,fin = .done (.ret r) ∧ Q r s') E s:=by
 unfold Builtin.«len»
 refine wpAny_bind (m:=oneArg "len" _) (wpAny_pure ?_)
 refine wpAny_bind (m:=callSpecial? (.ref x) (Str.ofString "__len__")) (special_fn X I hs hf (wpAny_mono h (fun r s' hr => ?_) fun _ _ y => y))
 obtain ⟨n,u,rfl,hn,hq⟩:=hr
 have h1 : ¬ (n : Int) < 0:=by lia
 have h2 : ¬ (n : Int) ≥ 2 ^ 63:=by lia
 refine wpAny_bind (wpAny_holding (wpAny_pure (wpAny_bind (q5r ?_))))
 show wpAny _ _ (if (n : Int) < 0 then _ else _) _ _ _
 rw [if_neg h1]
 show wpAny _ _ (if (n : Int) ≥ 2 ^ 63 then _ else _) _ _ _
 rw [if_neg h2]
 exact wpAny_bind (wpAny_mkInt (wpAny_pure ⟨_,rfl,hq⟩))
private theorem inst_len {f : Addr} {Q : Value → Shared → Prop} (X : K.In s.heap) (I : InstAt s.heap x ox Cl od) (hs : findIn K (.ref Cl) "__len__" = some (some (.ref f))) (hf : typeIn K (.ref f) = some (.type "function"))
  (h : wpAny (model prog w) A.in1 (call (.ref f) [.ref x]) (fun r s' => ∃ (n : Nat) (u : Tok),r = .int n u ∧ n < 2 ^ 60 ∧ Q (.int n s'.toks) { s' with toks:=s'.toks + 1 }) E s) : wpAny (model prog w) A (call (.builtin "len") [.ref x]) Q E s:=
 Calls.call_function_entry kind_len plain_len entry_len (args_len1 _) (q6p X I hs hf h)
private theorem w6m {f : Addr} {Q : Bool → Shared → Prop} (X : K.In s.heap) (I : InstAt s.heap x ox Cl od) (hb : findIn K (.ref Cl) "__bool__" = some none) (hs : findIn K (.ref Cl) "__len__" = some (some (.ref f))) (hf : typeIn K (.ref f) = some (.type "function"))
  (h : wpAny (model prog w) A.in1 (call (.ref f) [.ref x]) (fun r s' => ∃ (n : Nat) (u : Tok),r = .int n u ∧ n < 2 ^ 60 ∧ Q ((n : Int) != 0) { s' with toks:=s'.toks + 1 }) E s) : wpAny (model prog w) A (truthy (.ref x)) Q E s:=by
 have key : wpAny (model prog w) A (runValue (.builtin "len" ⟨[.ref x],[]⟩)) (fun r s' => ∃ (n : Nat) (u : Tok),r = .int n u ∧ Q ((n : Int) != 0) s') E s:=by
  refine wpAny_runValue (codeAny_builtin entry_len ?_)
  rw [Around.under_plainId plain_len _]
  refine wpAny_mono (q6p (Q:=fun r s' => ∃ (n : Nat) (u : Tok),r = .int n u ∧ Q ((n : Int) != 0) s') X I hs hf (wpAny_mono h (fun r s' hr => ?_) fun _ _ e => e)) (fun fin s' h' => by obtain ⟨r,rfl,hq⟩:=h';exact hq) fun _ _ e => e
  obtain ⟨n,u,rfl,hn,hq⟩:=hr
  exact ⟨n,u,rfl,hn,n,_,rfl,hq⟩
 unfold truthy
 refine wpAny_bind (m:=callSpecial? (.ref x) (Str.ofString "__bool__")) (wpAny_bind ((q0y X I hb).here (wpAny_pure ?_)))
 refine wpAny_bind ((q0y X I hs).here ?_)
 refine wpAny_bind (wpAny_mono key (fun r s' hr => ?_) fun _ _ e => e)
 obtain ⟨n,u,rfl,hq⟩:=hr
 exact wpAny_pure hq
end
end
section
set_option tactic.hygienic true
open PySem PySem.W PySem.Calls PyProof.Rows Builtin Builtin.ObjectAttr Builtin.Getset_descriptor
set_option maxHeartbeats 4000000
variable {prog : Program} {w : World}
section
variable {A : Around} {E : Value → Shared → Prop} {s : Shared} {K : Frag} {x Cl : Addr} {ox : Obj} {od : Option Obj}
noncomputable def Stores (l : List Value) : Prop:=(∀ self,refuseLoop self "__setattr__" l = pure ()) ∧ l.contains (.type "object") = true ∧ l.isEmpty = false
private theorem w5n (C : Addr) : Stores [.ref C,.type "list",.type "object"]:=⟨fun self => by rw [refuseLoop_ref];kernel_rfl,by rw [List.contains_cons];simp,rfl⟩
private theorem w1x (C : Addr) : Stores [.ref C,.type "object"]:=⟨fun self => by rw [refuseLoop_ref];exact PySem.F.store_object.passes self,by rw [List.contains_cons];simp,rfl⟩
private theorem ck_osa {M : Model} {Q : Unit → Shared → Prop} {b c : Value} (hi : Looks M s.heap (isInstance (.ref x) (.type "object")) true) (q : Q () s) : wpAny M A (checkBuiltinCall "object.__setattr__" ⟨[.ref x,b,c],[]⟩) Q E s:=
 have:=@q6v M A E s "object.__setattr__" "object" "__setattr__" (.ref x) [b,c] Q (.inl PySem.F.store_object.kind) PySem.F.store_object.split hi
 this (PySem.F.store_object.args _ _ _) q
private theorem q7t {cd : ClassData} {dx : Addr} {es : List DictEntry} {n : Nat} {name : PySem.Str} {v : Value} {Q : Unit → Shared → Prop} (X : K.In s.heap) (I : InstAt s.heap x ox Cl (some (dictOf es n))) (hd : ox.dict = some dx) (hc : clsIn K Cl = some cd) (hm : Stores cd.mro) (hh : cd.hasDict = true)
  (hs : findIn K (.ref Cl) "__setattr__" = some (some (.builtin "object.__setattr__"))) (ht : findIn K (.ref Cl) name = some none) (hl : (getL name es).isSome = true) (hz : (putL name (PyData.keyHash w.params name) (.str name (s.toks + 1)) v es).length ≤ 1000)
  (h : ∀ h',h'.get? dx = some (dictOf (putL name (PyData.keyHash w.params name) (.str name (s.toks + 1)) v es) (putN name es n)) → Heap.ExtBut dx s.heap h' → Q () { s with heap:=h',toks:=s.toks + 2 }) :
  wpAny (model prog w) A (setAttr (.ref x) name v) Q E s:=by
 have D : s.heap.get? dx = some (dictOf es n):=by have:=I.dict;rw [hd] at this;exact this
 refine set_plain X I hs ?_
 obtain ⟨hp,gg,dr,tk,os⟩:=s
 have SF:=PySem.F.store_object
 have sub : Looks (model prog w) hp (isInstance (.ref x) (.type "object")) true:=I.type.andThen (looks_mroIn X (by unfold mroIn;rw [hc,Option.bind_some,if_neg (by rw [hm.2.2];decide),hm.2.1]))
 refine codeAny_call_builtin SF.slot.plain SF.entry (ck_osa sub ?_)
 have hmro : Looks (model prog w) hp (mroOf (.ref Cl)) cd.mro:=(looks_clsIn X hc).andThen .now
 have hty : Looks (model prog w) hp (typeOf (.ref x)) (.ref Cl):=I.type
 rw [osa_eq,refuse_eq]
 refine wpAny_bind (wpAny_bind (hty.at (wpAny_bind (hmro.at ?_))))
 rw [hm.1]
 refine wpAny_pure (wpAny_bind (hty.at (wpAny_bind ((looks_findIn (M:=model prog w) X ht).at (wpAny_bind (wpAny_pure ?_))))))
 obtain ⟨hx,hcl,hn,hdd⟩:=I
 obtain ⟨oc,odi,oda,osl⟩:=ox
 dsimp only at hcl hd D hx
 subst hcl hd
 refine wpAny_bind (wpAny_pure (wpAny_bind (wpAny_bind (wpAny_loadPart hx (wpAny_bind ((looks_clsIn (M:=model prog w) X hc).at ?_))))))
 rw [hh]
 refine wpAny_pure (a:=some dx) (wpAny_bind (wpAny_pure (wpAny_bind ?_)))
 unfold nsSet
 refine wpAny_bind (wpAny_bind (wpAny_askSetting (wpAny_pure (wpAny_bind (wpAny_mkText (wpAny_bind (wpAny_loadPart D ?_)))))))
 have c : (!es.toArray.any (·.key.isStr name) && es.toArray.any (·.refKey)) = false:=by
  rw [← Array.any_toList,← Array.any_toList]
  unfold getL at hl
  split at hl
  ·rename_i en he
   rw [List.any_eq_true.mpr ⟨en,List.mem_of_find?_eq_some he,List.find?_some he⟩];rfl
  ·split at hl
   ·cases hl
   ·rename_i z;rw [Bool.not_eq_true] at z;rw [z,Bool.and_false]
 dsimp only
 rw [aRefKeyMayBeTheName_at,c]
 have e0:=putName_dict name (PyData.keyHash w.params name) (.str name (tk + 1)) v es n
 have e1 : (hp.update dx (Obj.putName name (PyData.keyHash w.params name) (.str name (tk + 1)) v)).get? dx = some (dictOf (putL name (PyData.keyHash w.params name) (.str name (tk + 1)) v es) (putN name es n)):=
  e0 ▸ Heap.get?_update_self _ D (by rw [e0];rfl)
 have hS : sizeLine = 2 ^ 24:=by decide +kernel
 have hz5 : (putL name (PyData.keyHash w.params name) (.str name (tk + 1)) v es).toArray.size ≤ sizeLine + 1:=by
  have h0 : (putL name (PyData.keyHash w.params name) (.str name (tk + 1)) v es).length ≤ 1000:=hz
  rw [List.size_toArray];(with_reducible refine nad ?_;decide)
 refine wpAny_updatePart D ?_
 refine wpAny_bind (wpAny_lookBehind e1 (pastItsLine_dict hz5) ?_)
 exact wpAny_pure (h _ e1 fun b o hb e => by rw [Heap.get?_update_ne _ _ _ _ hb];exact e)
end
end
section
open PySem PySem.W PySem.Calls PyProof.Rows
variable {prog : Program} {w : World}
section
variable {A : Around} {E : Value → Shared → Prop} {s : Shared}
noncomputable def SubAt (h : Heap) (x : Addr) (items : Array Value) : Prop:=∃ o,h.get? x = some o ∧ ∃ n,o.data = .seq items n
private theorem sub_next {it l : Addr} {i : Nat} {items : Array Value} {x : Value} {Q : Option Value → Shared → Prop} (hit : s.heap.IsListIter it l i) (hl : SubAt s.heap l items) (hx : items[i]? = some x)
  (hQ : ∀ h',h'.IsListIter it l (i + 1) → Heap.SameBut it s.heap h' → Q (some x) { s with heap:=h' }) : wpAny (model prog w) A (pyNext (.ref it)) Q E s:=by
 obtain ⟨o,ho,hc,hd⟩:=id hit
 obtain ⟨ol,hol,nl,hdl⟩:=hl
 have run : wpAny (model prog w) A (call (.builtin "list_iterator.__next__") [.ref it]) (fun v s' => v = x ∧ ∃ h',h'.IsListIter it l (i + 1) ∧ Heap.SameBut it s.heap h' ∧ s' = { s with heap:=h' }) (fun _ _ => False) s:=by
  refine wpAny_call_entry slot_listiter_next hit.typeIs entry_listiter_next ?_ (args_listiter_next _)
  show wpAny _ _ (field (.ref it) 0 >>= _) _ _ s
  refine wpAny_bind (wpAny_field ho hd (x:=.ref l) rfl ?_)
  rw [if_neg (show ¬ ((Value.ref l == Value.none) = true) from Bool.false_ne_true)]
  show wpAny _ _ (field (.ref it) 1 >>= _) _ _ s
  refine wpAny_bind (wpAny_field ho hd (x:=.int i 0) rfl ?_)
  show wpAny _ _ (seqItems? (.ref l) >>= _) _ _ s
  refine wpAny_bind (wpAny_seqItems hol hdl ?_)
  simp only [Int.toNat_natCast,hx]
  refine wpAny_bind (wpAny_setField ho hd (by simp) (wpAny_pure ⟨x,rfl,rfl,_,⟨_,Heap.get?_update_self _ ho (Obj.isFreed_of_fields (Obj.data_mapFields hd _)),(Obj.cls_mapFields ..).trans hc,?_⟩,Heap.SameBut.update ..,rfl⟩))
  rw [Obj.data_mapFields hd];simp [rawInt]
 unfold pyNext
 refine wpAny_bind (wpAny_attempt (wpAny_callSpecial?_slot (name:=Str.ofString "__next__") hit.typeIs slot_listiter_next (wpAny_mono run (fun v s' hv => ?_) fun _ _ e => e.elim)))
 obtain ⟨rfl,h',h1,h2,rfl⟩:=hv
 exact wpAny_pure (hQ h' h1 h2)
private theorem sub_stop {it l : Addr} {i : Nat} {items : Array Value} {Q : Option Value → Shared → Prop} (hh : A.handled = none) (hit : s.heap.IsListIter it l i) (hl : SubAt s.heap l items) (hx : items[i]? = none)
  (hQ : ∀ h',Heap.ExtBut it s.heap h' → Q none { s with heap:=h' }) : wpAny (model prog w) A (pyNext (.ref it)) Q E s:=by
 obtain ⟨o,ho,hc,hd⟩:=id hit
 obtain ⟨ol,hol,nl,hdl⟩:=hl
 have run : wpAny (model prog w) A (call (.builtin "list_iterator.__next__") [.ref it]) (fun _ _ => False) (fun e s' => s'.TypeIs e "StopIteration" ∧ ∃ h',Heap.ExtBut it s.heap h' ∧ s' = { s with heap:=h' }) s:=by
  refine wpAny_call_entry slot_listiter_next hit.typeIs entry_listiter_next ?_ (args_listiter_next _)
  show wpAny _ _ (field (.ref it) 0 >>= _) _ _ s
  refine wpAny_bind (wpAny_field ho hd (x:=.ref l) rfl ?_)
  rw [if_neg (show ¬ ((Value.ref l == Value.none) = true) from Bool.false_ne_true)]
  show wpAny _ _ (field (.ref it) 1 >>= _) _ _ s
  refine wpAny_bind (wpAny_field ho hd (x:=.int i 0) rfl ?_)
  show wpAny _ _ (seqItems? (.ref l) >>= _) _ _ s
  refine wpAny_bind (wpAny_seqItems hol hdl ?_)
  simp only [Int.toNat_natCast,hx]
  refine wpAny_bind (wpAny_rule (wpAny_bind (wpAny_setField ho hd (by simp) ?_)))
  show wpAny _ _ (newExc (.type "StopIteration") [] >>= _) _ _ _
  refine wpAny_bind ?_
  simp only [newExc,newTuple]
  refine wpAny_bind (wpAny_newObj_type ?_ (by size_fits))
  refine wpAny_bind (m:=firstArgMember _ _) (wpAny_of_eq (a:=Value.none) (by first | rfl | (simp only [firstArgMember];rfl)) ?_)
  refine wpAny_newObj_type ?_ (by size_fits)
  simp only [raiseNew]
  refine wpAny_bind (wpAny_handled ?_)
  rw [show A.in1.handled = none from hh]
  exact wpAny_bind (wpAny_pure (wpAny_throw ⟨⟨_,Heap.get?_push_size _ rfl,rfl⟩,_,((Heap.SameBut.update ..).extBut.push _).push _,rfl⟩))
 unfold pyNext
 refine wpAny_bind (wpAny_attempt (wpAny_callSpecial?_slot (name:=Str.ofString "__next__") hit.typeIs slot_listiter_next (wpAny_mono run (fun v s' hv => hv.elim) fun e s' hv => ?_)))
 obtain ⟨hT,h',h1,rfl⟩:=hv
 refine wpAny_bind (wpAny_isInstance (T:="StopIteration") (b:=true) hT isSubtype_stop ?_)
 exact wpAny_pure (hQ h' h1)
private theorem SubAt.at' {h h' : Heap} {x : Addr} {items : Array Value} (a : SubAt h x items) (hk : ∀ o,h.get? x = some o → h'.get? x = some o) : SubAt h' x items:=let ⟨o,e,r⟩:=a;⟨o,hk o e,r⟩
private theorem walkSub (hh : A.handled = none) (I ax : Addr) (hne : ax ≠ I) (items : Array Value) (Ts : Nat → Addr) (vals : Nat → Array Value)
  (hit : ∀ j,j < items.size → items[j]? = some (.ref (Ts j))) (hTI : ∀ j,j < items.size → Ts j ≠ I) :
  WalksU prog w A I (I :: ax :: (List.range items.size).map Ts) [I] items.size (fun j v => j < items.size ∧ v = vals j)
   (fun j h => h.IsListIter I ax j ∧ SubAt h ax items ∧ ∀ k,k < items.size → h.IsTuple (Ts k) (vals k))
   (fun j T h => (j < items.size ∧ T = Ts j) ∧ h.IsListIter I ax (j + 1) ∧ SubAt h ax items ∧ ∀ k,k < items.size → h.IsTuple (Ts k) (vals k)) where
 sub:=fun b hb => by simp at hb;simp [hb]
 frame:=fun _ _ _ st hk => ⟨st.1.at fun o e => hk I (by simp) o e,st.2.1.at' fun o e => hk ax (by simp) o e,
  fun k hk' => (st.2.2 k hk').at fun o e => hk (Ts k) (List.mem_cons_of_mem _ (List.mem_cons_of_mem _ (List.mem_map.mpr ⟨k,List.mem_range.mpr hk',rfl⟩))) o e⟩
 item:=fun i s Q E hi st hQ => by
  refine sub_next st.1 st.2.1 (x:=.ref (Ts i)) (hit i hi) fun h' hit' hs' => ?_
  have tup : ∀ k,k < items.size → h'.IsTuple (Ts k) (vals k):=fun k hk' => (st.2.2 k hk').extBut hs'.extBut (hTI k hk')
  exact hQ (Ts i) (vals i) h' s.toks ⟨hi,rfl⟩ (tup i hi) ⟨⟨hi,rfl⟩,hit',st.2.1.at' fun o e => hs'.extBut _ o hne e,tup⟩ fun b o hb e => hs'.extBut b o (fun h => hb (by simp [h])) e
 go:=fun _ _ _ _ _ s Q _ hm hQ => wpAny_letOwnedTupleGo_listiter hm.2.1 (hQ s.heap hm.2 fun _ _ _ e => e)
 apart:=fun j T _ hm hmem => by
  rcases List.mem_cons.mp hmem with e | e
  ·exact hTI j hm.1.1 (hm.1.2 ▸ e)
  ·cases e
 done:=fun s Q E st hQ => sub_stop hh st.1 st.2.1 (by simp) fun h' he' => hQ h' s.toks fun b o hb e => he' b o (fun h => hb (by simp [h])) e
 self:=fun _ _ _ _ st hQ => wpAny_pyIter_listiter st.1 hQ
end
section
variable {A : Around} {E : Value → Shared → Prop} {s : Shared} {I : Addr} {fp wr : List Addr} {G : Array GenState → Array GenState → Prop} {n : Nat} {P : Nat → Value → Prop} {St : Nat → Shared → Prop}
private theorem walkOn (W : WalksS prog w A I fp wr G n P St) (P0 : Value → Prop) : WalksS prog w A I fp wr G (n + 1) (fun i v => match i with | 0 => P0 v | i + 1 => P i v) (fun i s => match i with | 0 => False | i + 1 => St i s) where
 sub:=W.sub
 grefl:=W.grefl
 gtrans:=W.gtrans
 frame:=fun i s h' tk st hk hf => by cases i with | zero => exact st.elim | succ i => exact W.frame i s h' tk st hk hf
 item:=fun i s Q E hi st hQ => by
  cases i with
  | zero => exact st.elim
  | succ i => exact W.item i s Q E (by lia) st fun v s' h1 h2 h3 => hQ v s' h1 h2 h3
 done:=fun s Q E st hQ => W.done s Q E st hQ
 self:=fun i s Q E st hQ => by cases i with | zero => exact st.elim | succ i => exact W.self i s Q E st hQ
private theorem q9f (k : Int) (val : Nat → Int) : ∀ n,preSum (fun i => match i with | 0 => k | i + 1 => val i) (n + 1) = k + preSum val n
 | 0 => by simp [preSum]
 | n + 1 => by
  rw [preSum,q9f k val n]
  simp only [preSum]
  lia
private theorem args_sum2 (a b : Value) : argsOk "sum" ⟨[a,b],[]⟩:=by unfold argsOk;kernel_rfl
private theorem call_sum2 {x : Value} {k : Int} {tk : Tok} {Q : Value → Shared → Prop} (hk : InLong k)
  (h : wpAny (model prog w) A.in1 (pyIter x) (fun it s₂ => ∃ I fp wr G n P St val,it = .ref I ∧ WalksS prog w A.in1 I fp wr G n P St ∧ St 0 s₂ ∧ (∀ b ∈ fp,b < s₂.heap.objs.size) ∧
   (∀ i v,P i v → ∃ t,v = .int (val i) t) ∧ (∀ j,j < n → InLong (val j) ∧ InLong (k + preSum val (j + 1))) ∧ ∀ s' t',Moved wr G s₂ s' → Q (.int (k + preSum val n) t') s') E s) :
  wpAny (model prog w) A (call (.builtin "sum") [x,.int k tk]) Q E s:=by
 refine call_function_tree PySem.F.kind_sum PySem.F.plain_sum PySem.F.entry_sum (args_sum2 _ _) ?_
 unfold Builtin.«sum»
 simp only [List.length_cons,List.length_nil]
 rw [if_neg (by decide)]
 refine wpAny_bind (wpAny_of_eq (show Builtin.Builtins.bindParams "sum" ["start"] 0 ⟨[.int k tk],[]⟩ = pure [some (.int k tk)] from rfl) ?_)
 refine wpAny_bind (wpAny_mono h (fun it s₂ h₂ => ?_) fun _ _ e => e)
 obtain ⟨I,fp,wr,G,n,P,St,val,rfl,W,hst,hfp,hval,hfit,hQ⟩:=h₂
 have hc : (decide (-(2 ^ 63) ≤ k) && decide (k < 2 ^ 63)) = true:=by obtain ⟨h1,h2⟩:=hk;simp only [Bool.and_eq_true,decide_eq_true_eq];exact ⟨h1,h2⟩
 dsimp only
 rw [if_pos (by exact hc)]
 ·refine wpAny_bind (wpAny_rule (wpAny_bind (wpAny_mkInt ?_)))
  refine wpAny_bind (wpAny_pure ?_)
  simp only [List.forIn_cons,List.forIn_nil]
  refine wpAny_bind (wpAny_bind (wpAny_bind (wpAny_isInstance (T:="int") (b:=false) (typeIs_int _ _ _) PySem.sub_int_str ?_)))
  simp only [Bool.false_eq_true,if_false]
  refine wpAny_pure (wpAny_bind (wpAny_bind (wpAny_isInstance (T:="int") (b:=false) (typeIs_int _ _ _) PySem.sub_int_bytes ?_)))
  simp only [Bool.false_eq_true,if_false]
  refine wpAny_pure (wpAny_bind (wpAny_bind (wpAny_isInstance (T:="int") (b:=false) (typeIs_int _ _ _) PySem.sub_int_bytearray ?_)))
  simp only [Bool.false_eq_true,if_false]
  refine wpAny_pure (wpAny_pure ?_)
  refine wpAny_bind (wpAny_newObj_type ?_)
  have hSf : s₂.heap.objs.size ∉ fp:=fun hm => Nat.lt_irrefl _ (hfp _ hm)
  have h0 : preSum (fun i => match i with | 0 => k | i + 1 => val i) 1 = k:=by simp [preSum]
  refine wpAny_pure ⟨plainId_quiet PySem.F.plain_sum_loop _,codeAny_sum_loopS (walkOn W fun v => ∃ t,v = .int k t) (fun i => match i with | 0 => k | i + 1 => val i) (fun i v hP => by cases i with | zero => exact hP | succ i => exact hval i v hP) (fun j hj => ?_) s₂.heap.objs.size hSf n 1 _ s₂.toks 0 (by lia) (by lia)
   (W.frame 0 s₂ _ _ hst (by first | exact Nat.le_refl _ | exact Nat.le_succ _ | lia) fun b _ o e => Heap.get?_push_of_some _ e) (by rw [h0];exact Heap.get?_push_size _ rfl) fun s' t' hm => ?_⟩
  ·cases j with
   | zero => exact ⟨hk,by rw [h0];exact hk⟩
   | succ j => exact ⟨(hfit j (by lia)).1,by rw [q9f];exact (hfit j (by lia)).2⟩
  ·rw [q9f]
   exact hQ s' t' (hm.drop_new (by first | exact Nat.le_refl _ | exact Nat.le_succ _ | lia))
end
end
section
open PySem PySem.W PySem.Calls PyProof.Rows
variable {prog : Program} {w : World}
section
variable {C : Cfg} {mu mu' nu : List Addr} {s₀ s s' : Shared} {env : Env} {ρ : List (PySem.Str × PV)} {σ σ' : List (Addr × MO)} {A : Around} {E : Value → Shared → Prop}
noncomputable def NoCode (o : Obj) : Prop:=∀ vs q t,o.data = .fields vs → vs[1]? ≠ some (.str q t)
private theorem Ok.free {wr : List Addr} (O : Ok C mu s) (hk : ∀ b o,b ∉ wr → s.heap.get? b = some o → s'.heap.get? b = some o) (hw : ∀ b ∈ wr,b ∉ mu ∧ b ∉ C.tabs ∧ C.H.get? b = none ∧ ∀ o,s.heap.get? b = some o → NoCode o) (hg : AllBare s'.gens) (ho : s'.os = s.os) : Ok C mu s' where
 old:=fun b o e ht => hk b o (fun q => by rw [(hw b q).2.2.1] at e;cases e) (O.old b o e ht)
 tab:=fun x hx => by
  obtain ⟨ps,a,b,c⟩:=O.tab x hx
  refine ⟨ps,hk _ _ (fun q => (hw _ q).2.1 (List.mem_map_of_mem hx)) a,b,fun pos c' e => ?_⟩
  obtain ⟨d,e1,e2,e3⟩:=c pos c' e
  refine ⟨d,e1,e2,?_⟩
  obtain ⟨c₁,o,vs,t,f1,f2,f3,f4⟩:=e3
  subst e1
  cases f1
  exact ⟨_,o,vs,t,rfl,hk _ _ (fun q => (hw _ q).2.2.2 o f2 vs _ t f3 f4) f2,f3,f4⟩
 code:=O.code
 live:=fun a ha => ⟨(O.live a ha).1,let ⟨o,e⟩:=(O.live a ha).2;⟨o,hk a o (fun q => (hw a q).1 ha) e⟩⟩
 gens:=hg
 os:=by rw [ho];exact O.os
 kin:=O.kin
 kt:=O.kt
 lim:=O.lim
 glob:=O.glob
 bmod:=O.bmod
private theorem ge_code {x : Addr × Addr × PySem.Str} {qual : PySem.Str} {scope : Scope} {pos : Pos} {Q : Value → Shared → Prop} (O : Ok C mu s) (hx : x ∈ C.T) (hcode : env.code = .ref x.1) (hq : x.2.2 = qual) (hT : C.T.all (fun y => y.2.1 != x.2.1 || y.2.2 == x.2.2) = true)
  (k : ∀ code s',Ok C mu s' → (∀ b o,b ≠ x.2.1 → s.heap.get? b = some o → s'.heap.get? b = some o) → s.heap.objs.size ≤ s'.heap.objs.size → s'.gens = s.gens → s'.os = s.os → Q code s') : wpAny (model prog w) A (genexprCode env pos qual scope) Q E s:=by
 have hP : x.2.1 ∈ C.tabs:=List.mem_map_of_mem hx
 obtain ⟨ps,hps,htr,hent⟩:=O.tab x hx
 obtain ⟨hhd,hct,_⟩:=O.code x hx
 obtain ⟨o,vs,file,tf,flags,tg,inF,text,tt,e1,e2,e3,e4,e5,e6,e7,e8,e9,e10⟩:=hhd
 have e1':=O.old _ _ e1 hct
 have hT' : ∀ y ∈ C.T,y.2.1 = x.2.1 → y.2.2 = qual:=fun y hy e => by
  have:=List.all_eq_true.mp hT y hy
  rw [← hq]
  simpa [e] using this
 have hok : s.heap.IsCode x.1 x.2.1 ps:=⟨o,vs,file,tf,flags,tg,inF,text,tt,_,e1',e3,e5,e6,e7,e8,e9,hps,rfl,htr,e10⟩
 have htab : s.heap.TableAt x.1 x.2.1 ps:=⟨⟨o,vs,e1',e2,e3,e4⟩,hps⟩
 cases hf : codeAmong pos ps.toList with
 | none =>
  refine wpAny_genexprCodeX hcode hok htab hf fun c' h' tk hx' hge hlt hok' hrec' htab' _ => k _ _ (O.grow hx rfl hq hT' hps hx' hge hrec' htab'.2) (fun b o hb e => hx' b o hb e) (Nat.le_trans hge (Nat.le_of_lt hlt)) rfl rfl
 | some cv =>
  unfold genexprCode codeAt
  rw [hcode,if_neg (show ¬ ((Value.ref x.1 == Value.none) = true) from Bool.false_ne_true)]
  refine wpAny_bind (wpAny_fieldsOf e1' e3 ?_)
  rw [e5]
  refine wpAny_bind (wpAny_fieldsOf hps rfl ?_)
  rw [hf]
  exact wpAny_pure (k cv s O (fun _ _ _ e => e) (Nat.le_refl _) rfl rfl)
private theorem w6n {Q : Addr → Shared → Prop} (O : Ok C mu s) (hg : env.globals = mainGlobals) (k : Q builtinsNs s) : wpAny (model prog w) A (builtinsFor env.globals env.builtins) Q E s:=by
 obtain ⟨bm,ob,h1,h2,h3,h4,h5,h6,h7,h8⟩:=O.bmod
 rw [hg]
 exact wpAny_builtinsFor O.globals h1 h2 (O.old _ _ h5 h4) h6 h7 h8 k
noncomputable abbrev pairPV (p : PySem.Str × PySem.Str) : PV:=.tup [.str p.1,.str p.2]
private theorem pairs_at {h : Heap} {l : List (PySem.Str × PySem.Str)} {vs : List Value} (y : Sims h mu (l.map pairPV) vs) {j : Nat} {p : PySem.Str × PySem.Str} (hj : l[j]? = some p) :
  ∃ T va vb n t u,vs[j]? = some (.ref T) ∧ T ∉ mu ∧ h.get? T = some { cls:=.type "tuple",data:=.seq #[va,vb] n } ∧ va = .str p.1 t ∧ vb = .str p.2 u:=by
 obtain ⟨v,e,T,ws,n,rfl,hT,hob,hws⟩:=y.get j (pairPV p) (by rw [List.getElem?_map,hj];rfl)
 obtain ⟨v₁,r,rfl,⟨t,h1⟩,v₂,r₂,rfl,⟨u,h2⟩,hr⟩:=hws
 cases (show r₂ = [] from hr)
 exact ⟨T,v₁,v₂,n,t,u,e,hT,hob,h1,h2⟩
private theorem w7g {I : Addr} {fp wr : List Addr} {G : Array GenState → Array GenState → Prop} {n m : Nat} {P P' : Nat → Value → Prop} {St : Nat → Shared → Prop} (W : WalksS prog w A I fp wr G n P St) (hn : n = m) (hP : ∀ i v,P i v → P' i v) : WalksS prog w A I fp wr G m P' St where
 sub:=W.sub
 grefl:=W.grefl
 gtrans:=W.gtrans
 frame:=W.frame
 item:=fun i s Q E hi st hQ => W.item i s Q E (hn ▸ hi) st fun v s' h1 h2 h3 => hQ v s' (hP i v h1) h2 h3
 done:=fun s Q E st hQ => W.done s Q E (hn ▸ st) hQ
 self:=W.self
private theorem q9g (n : Nat) : passing (fun _ => true) n 0 = List.range n:=by
 unfold passing
 simp
noncomputable def tAt (vs : List Value) (j : Nat) : Addr:=match vs[j]? with | some (.ref a) => a | _ => 0
noncomputable def tVals (h : Heap) (a : Addr) : Array Value:=match h.get? a with | some o => (match o.data with | .seq items _ => items | _ => #[]) | none => #[]
private theorem Act.inst {x dx Cl : Addr} {ps : List PV} {od : Obj} (a : Act env mu s.heap ρ σ) (hl : σ.lookup x = some (.seq (.ref Cl) (some dx) ps)) (hod : σ.lookup dx = some (.raw od)) : ∃ vs n,s.heap.get? x = some (subO (.ref Cl) (some dx) (List.toArray vs) n) ∧ Sims s.heap mu ps vs ∧ InstAt s.heap x (subO (.ref Cl) (some dx) (List.toArray vs) n) Cl (some od):=by
 obtain ⟨_,_,vs,n,e,y⟩:=a.st x _ hl
 exact ⟨vs,n,e,y,⟨e,rfl,rfl,(a.st dx _ hod).2.2⟩⟩
private theorem gen_sub {elt iter : Expr} {xa xb : PySem.Str} {pa pb pt : Pos} {kt : Nat} {scope : Scope} {cl : List (PySem.Str × Addr)} {pos : Pos} {x dx Cl : Addr} {od : Obj} {l : List (PySem.Str × PySem.Str)} {tb : Addr × Addr × PySem.Str} {g : PySem.Str × PySem.Str → PV} {Q : Value → Shared → Prop}
  (O : Ok C mu s) (a : Act env mu s.heap ρ σ) (hA : A.handled = none) (hroom : A.depth < recursionLimit)
  (hco : scope.isCoroutine = false) (hclos : closureFor scope env = pure cl) (hcell : ∀ y ∈ scope.names,y.2 ≠ .cell) (h0 : scope.names.lookup (".0" : PySem.Str) = some NameKind.local)
  (hxa : scope.names.lookup xa = some .local) (hxb : scope.names.lookup xb = some .local) (hab : xa ≠ xb) (hkind : scope.kind = .function)
  (hx : PurE prog w C mu A env ρ σ iter (.val (.ref x))) (hl : σ.lookup x = some (.seq (.ref Cl) (some dx) (l.map pairPV))) (hod : σ.lookup dx = some (.raw od))
  (hm : mroIn C.K Cl (.type "list") = some true) (hit : findIn C.K (.ref Cl) "__iter__" = some (some (.builtin "list.__iter__")))
  (htb : tb ∈ C.T) (hcode : env.code = .ref tb.1) (hq : tb.2.2 = env.qual ++ "<genexpr>") (hT : C.T.all (fun y => y.2.1 != tb.2.1 || y.2.2 == tb.2.2) = true) (hs : ∀ x,genFold iter env x = pure x)
  (helt : ∀ (A' : Around) E' L code p va vb (s₂ : Shared) m₂,A'.handled = none → A'.depth ≤ A.depth + 1 → A'.units ≤ A.units + 8 → p ∈ l → (∃ t,va = .str p.1 t) → (∃ t,vb = .str p.2 t) → C.K.In s₂.heap → s₂.heap.Ns L m₂ → m₂ xa = some va → m₂ xb = some vb →
   wpAny (model prog w) A' (eval elt (genEnv scope cl L code builtinsNs env)) (fun y s₃ => (∀ h,Sim h [] (g p) y) ∧ Keeps s₂ s₃) E' s₂)
  (k : ∀ ga s' fp wr St G,Ok C mu s' → Kp C [] s s' → WalksS prog w A.in4 ga fp wr G l.length (fun j y => ∃ p,l[j]? = some p ∧ ∀ h,Sim h [] (g p) y) St → (∀ i s,St i s → s.TypeIs (.ref ga) "generator") → St 0 s' → ga ∈ fp → (∀ b ∈ fp,b < s'.heap.objs.size) →
   (∀ s'',Moved wr G s' s'' → Ok C mu s'' ∧ Kp C [] s s'') → Q (.ref ga) s') :
  wpAny (model prog w) A (eval (.GeneratorExp elt [⟨.Tuple [.Name xa pa,.Name xb pb] kt pt,iter,[],0⟩] scope pos) env) Q E s:=by
 refine wpAny_GeneratorExp_make hco hclos hcell h0 hkind hroom (hx s O a _ _ fun v s₁ O₁ k₁ y₁ => ?_) hs
 cases (show v = .ref x from y₁)
 have a₁:=a.kp O k₁
 obtain ⟨vs,n,hox,hvs,I₁⟩:=a₁.inst hl hod
 obtain ⟨hxmu,_,_⟩:=a₁.st x _ hl
 refine sub_iter (items:=vs.toArray) (n:=n) O₁.K I₁ hm hit ?_
 generalize hits : s₁.heap.objs.size = it
 have hitn : s₁.heap.get? it = none:=hits ▸ Ok.size_none s₁
 have O₂ : Ok C mu { s₁ with heap:=s₁.heap.push { cls:=.type "list_iterator",data:=.fields #[.ref x,.int 0 0] } }:=O₁.push (tk:=s₁.toks)
 have up₂ : ∀ b o,s₁.heap.get? b = some o → (s₁.heap.push { cls:=.type "list_iterator",data:=.fields #[.ref x,.int 0 0] }).get? b = some o:=fun b o e => Heap.get?_push_of_some _ e
 have hit₂ : (s₁.heap.push { cls:=.type "list_iterator",data:=.fields #[.ref x,.int 0 0] }).IsListIter it x 0:=⟨_,hits ▸ Heap.get?_push_size _ rfl,rfl,rfl⟩
 refine ⟨O₂.nolimit,ge_code O₂ htb hcode hq hT fun code s₄ O₄ k₄ hsz₄ hg₄ hos₄ => w6n O₄ a.gl fun h' hn' hs' => ?_⟩
 have hPtab : tb.2.1 ∈ C.tabs:=List.mem_map_of_mem htb
 have hfr:=O₁.fresh' hitn
 have up₄ : ∀ b o,b ∉ C.tabs → s₁.heap.get? b = some o → s₄.heap.get? b = some o:=fun b o hb e => k₄ b o (fun q => hb (q ▸ hPtab)) (up₂ b o e)
 have hit₄ : s₄.heap.IsListIter it x 0:=let ⟨o,e,r⟩:=hit₂;⟨o,k₄ it o (fun q => hfr.1 (q ▸ hPtab)) e,r⟩
 have hox₄:=up₄ _ _ (O₁.notTab hxmu) hox
 have hxit : x ≠ it:=fun q => by rw [q,hitn] at hox;cases hox
 -- the new frame,the generator
 generalize hL : s₄.heap.objs.size = L at hn' hs' ⊢
 have keep' : ∀ b o,s₄.heap.get? b = some o → h'.get? b = some o:=fun b o e => hs'.extBut b o (Nat.ne_of_lt (hL ▸ Heap.lt_size e)) (Heap.get?_push_of_some _ e)
 have hsz : h'.objs.size = L + 1:=by rw [hs'.1,Heap.size_push,hL]
 generalize hgo : ({ cls:=.type "generator",data:=.fields #[.int s₄.gens.size 0,.str "<genexpr>" (s₄.toks + 1),.str (env.qual ++ "<genexpr>") (s₄.toks + 1 + 1)] } : Obj) = go
 have keep₅ : ∀ b o,s₄.heap.get? b = some o → (h'.push go).get? b = some o:=fun b o e => Heap.get?_push_of_some _ (keep' b o e)
 generalize hgs : (GenState.fresh (.compStart (.GeneratorExp elt [⟨.Tuple [.Name xa pa,.Name xb pb] kt pt,iter,[],0⟩] scope pos) 0 (.ref it) .none (genEnv scope cl L code builtinsNs env))) = gs
 have hLn : s₄.heap.get? L = none:=hL ▸ Ok.size_none s₄
 have hfrL:=O₄.fresh' hLn
 have hbare : AllBare (s₄.gens.push gs):=fun y hy => by
  rcases Array.mem_push.mp hy with hy | hy
  ·exact O₄.gens y hy
  ·rw [hy,← hgs];rfl
 have O₅ : Ok C mu { s₄ with gens:=s₄.gens.push gs,toks:=s₄.toks + 1 + 1 + 1,heap:=h'.push go }:=O₄.free (wr:=[]) (fun b o _ e => keep₅ b o e) (fun _ h => nomatch h) hbare rfl
 have kk₄ : Kp C [] s₁ s₄:=⟨fun b o _ ht e => up₄ b o ht e⟩
 have kk₅ : Kp C [] s { s₄ with gens:=s₄.gens.push gs,toks:=s₄.toks + 1 + 1 + 1,heap:=h'.push go }:=(k₁.trans kk₄).trans ⟨fun b o _ _ e => keep₅ b o e⟩
 have hclt : cStatics < L:=by obtain ⟨_,hn,_⟩:=O₄.nolimit;exact hL ▸ hn.lt
 have hcit : cStatics ≠ it:=fun q => by
  obtain ⟨mc,⟨o,es,ep,ho,r⟩,h⟩:=O₁.nolimit
  rw [q,hitn] at ho;cases ho
 have hitlt : it < L:=by obtain ⟨o,e,_⟩:=hit₄;exact hL ▸ Heap.lt_size e
 have hlen : vs.length = l.length:=by rw [hvs.length,List.length_map]
 have hwr : ∀ b ∈ [it],b ∈ List.range L:=fun b hb => by simp at hb;subst hb;exact List.mem_range.mpr hitlt
 have tup : ∀ j,j < vs.toArray.size → ∃ p va vb t u,l[j]? = some p ∧ vs[j]? = some (.ref (tAt vs j)) ∧ tAt vs j ∉ mu ∧ s₁.heap.IsTuple (tAt vs j) (tVals s₁.heap (tAt vs j)) ∧ tVals s₁.heap (tAt vs j) = #[va,vb] ∧ va = .str p.1 t ∧ vb = .str p.2 u:=fun j hj => by
  have hj' : j < l.length:=by rw [← hlen];simpa using hj
  obtain ⟨T,va,vb,n',t,u,e1,e2,e3,e4,e5⟩:=pairs_at hvs (j:=j) (p:=l[j]) (by simp [hj'])
  have eT : tAt vs j = T:=by unfold tAt;rw [e1]
  have eV : tVals s₁.heap T = #[va,vb]:=by unfold tVals;rw [e3]
  refine ⟨l[j],va,vb,t,u,by simp [hj'],by rw [eT];exact e1,by rw [eT];exact e2,?_,by rw [eT];exact eV,e4,e5⟩
  rw [eT,eV]
  exact ⟨_,e3,rfl,n',rfl⟩
 have W₀ : ∀ A' : Around,A'.handled = none → WalksU prog w A' it (it :: x :: (List.range vs.toArray.size).map (tAt vs)) [it] vs.toArray.size _ _ _:=fun A' hA' => walkSub (prog:=prog) (w:=w) hA' it x hxit vs.toArray (tAt vs) (fun j => tVals s₁.heap (tAt vs j))
  (fun j hj => by obtain ⟨_,_,_,_,_,_,e,_⟩:=tup j hj;simpa using e) (fun j hj q => by
   obtain ⟨_,_,_,_,_,_,_,_,⟨o,e,_⟩,_⟩:=tup j hj
   rw [q,hitn] at e;cases e)
 have tupT : ∀ j,j < vs.toArray.size → s₄.heap.IsTuple (tAt vs j) (tVals s₁.heap (tAt vs j)):=fun j hj => by
  obtain ⟨_,_,_,_,_,_,_,_,⟨o,e,hc,r⟩,_⟩:=tup j hj
  exact ⟨o,up₄ _ _ (O₁.seqNotTab (.inr (by obtain ⟨_,_⟩:=o;exact hc)) e) e,hc,r⟩
 have hfp : ∀ b ∈ it :: x :: (List.range vs.toArray.size).map (tAt vs),b < L:=fun b hb => by
  rcases List.mem_cons.mp hb with rfl | hb
  ·exact hitlt
  ·rcases List.mem_cons.mp hb with rfl | hb
   ·exact hL ▸ Heap.lt_size hox₄
   ·obtain ⟨j,hj,rfl⟩:=List.mem_map.mp hb
    obtain ⟨o,e,_⟩:=tupT j (List.mem_range.mp hj)
    exact hL ▸ Heap.lt_size e
 have hcw : cStatics ∉ [it]:=fun h => hcit (by simpa using h)
 have hsz5 : (h'.push go).objs.size = L + 2:=by rw [Heap.size_push,hsz]
 have haL : h'.objs.size ≠ L:=by rw [hsz];exact Nat.succ_ne_self _
 have haf : h'.objs.size ∉ List.range L:=fun hm => by have:=List.mem_range.mp hm;lia
 have hll : vs.toArray.size = l.length:=by simp [hlen]
 let F : Nat → Value → Prop:=fun j y => ∃ p,l[j]? = some p ∧ ∀ h,Sim h [] (g p) y
 have W:=WalksS.genexpQ (prog:=prog) (w:=w) (A:=A.in4) hA h'.objs.size s₄.gens.size L (List.range L) [it] (fun _ => true) vs.toArray.size F haL haf hwr hroom (List.mem_range.mpr hclt) (Nat.ne_of_lt hclt) hcw
 have hNs : (h'.push go).Ns L (fun y => if y = ".0" then some (.ref it) else none):=hn'.push _
 have hNsL : ∀ o,(h'.push go).get? L = some o → NoCode o:=fun o e vs q t => by
  obtain ⟨o',es,ep,e',hd,_⟩:=hNs
  rw [e] at e';cases e'
  rw [hd];intro h;cases h
 have hitNC : ∀ o,(h'.push go).get? it = some o → NoCode o:=fun o e vs q t => by
  obtain ⟨o',e',hc,hd⟩:=hit₄
  rw [keep₅ _ _ e'] at e;cases e
  rw [hd]
  intro h hv
  cases h
  simp at hv
 have hgen : GenAt prog w A.in4 h'.objs.size s₄.gens.size L (List.range L) [it] (fun _ => true) vs.toArray.size F 0 { s₄ with gens:=s₄.gens.push gs,toks:=s₄.toks + 1 + 1 + 1,heap:=h'.push go }:=by
  refine GenAt.freshTD (A:=A.in4) (iter:=iter) (pa:=pa) (pb:=pb) (pt:=pt) (kt:=kt) (scope:=scope) (pos:=pos) (cenv:=genEnv scope cl L code builtinsNs env) (m:=fun y => if y = ".0" then some (.ref it) else none) hA
   (fun A' hA' => (W₀ A' hA').mono_fp fun b hb => List.mem_range.mpr (hfp b hb)) (fun j vals hP => ?_) hab (fun _ => true) F hxa hxb (by simp [genEnv,hkind]) hco
   (fun hm => Nat.lt_irrefl _ (List.mem_range.mp hm)) ⟨fun A' E' i va vb s₂ m₂ _ _ _ _ _ _ _ _ => ?_,fun A' E' i va vb s₂ m₂ hA' hD hU hP _ hNs₂ ha hb hkp => ?_⟩ ⟨_,_,_,Heap.get?_push_size _ (by rw [← hgo];rfl),by rw [← hgo],by rw [← hgo],by rw [← hgo]⟩ (by rw [hgs];exact Array.getElem?_push_size ..) ⟨?_,?_,?_⟩ hNs O₅.nolimit
  ·obtain ⟨hj,rfl⟩:=hP
   obtain ⟨p,va,vb,t,u,_,_,_,_,e,_⟩:=tup j hj
   exact ⟨va,vb,e⟩
  ·rw [List.forIn_nil]
   exact wpAny_pure ⟨rfl,s₂.heap,s₂.toks,rfl,fun _ _ e => e⟩
  ·obtain ⟨hj,e⟩:=hP
   obtain ⟨p,va',vb',t,u,e1,_,_,_,e2,e3,e4⟩:=tup i hj
   rw [e2] at e
   have e5 : va = va' ∧ vb = vb':=by simpa using e
   refine wpAny_mono (helt A' E' L code p va vb s₂ m₂ hA' hD (by exact hU) (List.mem_of_getElem? e1) ⟨t,by rw [e5.1,e3]⟩ ⟨u,by rw [e5.2,e4]⟩ (fun b o hb => ?_) hNs₂ ha hb) (fun y s₃ hy => ⟨⟨p,e1,hy.1⟩,hy.2⟩) fun _ _ e => e
   have h1:=O₄.K b o hb
   refine hkp b (List.mem_range.mpr (hL ▸ Heap.lt_size h1)) (fun q => ?_) o (keep₅ _ _ h1)
   simp at q
   have h2:=O₁.K b o hb
   rw [q,hitn] at h2;cases h2
  ·obtain ⟨o,e,r⟩:=hit₄;exact ⟨o,keep₅ _ _ e,r⟩
  ·exact ⟨_,keep₅ _ _ hox₄,n,rfl⟩
  ·exact fun j hj => by obtain ⟨o,e,r⟩:=tupT j hj;exact ⟨o,keep₅ _ _ e,r⟩
 refine k h'.objs.size _ _ _ _ _ O₅ kk₅ (w7g W (by rw [q9g,List.length_range,hll]) fun i v hP => ?_) (fun i s st => st.1.typeIs) hgen (List.mem_cons_self ..) (fun b hb => ?_) fun s'' M => ?_
 ·obtain ⟨j,h1,h2⟩:=hP
  rw [q9g] at h1
  have : j = i:=by
   obtain ⟨h3,h4⟩:=List.getElem?_eq_some_iff.mp h1
   simpa using h4.symm
  rw [← this]
  exact h2
 ·have hb2 : b < L + 2:=by
   rcases List.mem_cons.mp hb with e | hb
   ·rw [e,hsz];exact Nat.lt_succ_self _
   ·rcases List.mem_cons.mp hb with e | hb
    ·rw [e];exact Nat.lt_succ_of_lt (Nat.lt_succ_self _)
    ·exact Nat.lt_succ_of_lt (Nat.lt_succ_of_lt (List.mem_range.mp hb))
  exact Nat.lt_of_lt_of_eq hb2 hsz5.symm
 ·have hw : ∀ b ∈ L :: [it],b ∉ mu ∧ b ∉ C.tabs ∧ C.H.get? b = none ∧ ∀ o,(h'.push go).get? b = some o → NoCode o:=fun b hb => by
   rcases List.mem_cons.mp hb with e | hb
   ·rw [e];exact ⟨hfrL.2,hfrL.1,O₄.unborn hLn,hNsL⟩
   ·simp at hb;rw [hb]
    exact ⟨hfr.2,hfr.1,O₁.unborn hitn,hitNC⟩
  refine ⟨O₅.free (wr:=L :: [it]) M.heap hw (GenOnlyQ.bare M.gens hbare) M.os,⟨fun b o hbs hbt e => M.heap b o (fun q => ?_) (kk₅.keep b o hbs hbt e)⟩⟩
  rcases List.mem_cons.mp q with q | q
  ·have:=(k₁.trans kk₄).keep b o hbs hbt e
   rw [q,hLn] at this;cases this
  ·have:=k₁.keep b o hbs hbt e
   simp at q
   rw [q,hitn] at this;cases this
end
end
section
open PySem PySem.W PySem.Calls PyProof.Rows
variable {prog : Program} {w : World}
section
variable {C : Cfg} {mu mu' nu : List Addr} {s₀ s s' : Shared} {env cenv : Env} {ρ : List (PySem.Str × PV)} {σ σ' : List (Addr × MO)} {A : Around} {E : Value → Shared → Prop} {K : Frag}
noncomputable def GlobK (K : Frag) (x : PySem.Str) (v : Value) : Prop:=nsIn K mainGlobals x = some (some v) ∨ (nsIn K mainGlobals x = some none ∧ nsIn K builtinsNs x = some (some v))
structure CEnv (env : Env) (L : Addr) : Prop where
 kind : env.scope.kind = .function
 gl : env.globals = mainGlobals
 bi : env.builtins = builtinsNs
 loc : env.locals = L
private theorem w8m {x : PySem.Str} {v : Value} {pos : Pos} {L : Addr} {Q : Value → Shared → Prop} (X : K.In s.heap) (c : CEnv env L) (hl : env.kindOf x = some .globalImplicit) (hv : GlobK K x v) (h : Q v s)
  (hd : autoParam ((x == ("__debug__" : PySem.Str)) = false) tR) : wpAny (model prog w) A (eval (.Name x pos) env) Q E s:=by
 refine wpAny_Name ?_ hd
 have e : loadName env x = loadGlobal env x:=by
  unfold loadName Env.blockKind
  rw [c.kind,hl]
  rfl
 rw [e]
 unfold loadGlobal
 rw [c.gl,c.bi]
 rcases hv with hv | ⟨h1,h2⟩
 ·exact wpAny_bind ((looks_nsIn X hv).here (wpAny_pure h))
 ·exact wpAny_bind ((looks_nsIn X h1).here (wpAny_bind ((looks_nsIn X h2).here (wpAny_pure h))))
private theorem w7a {x : PySem.Str} {v : Value} {pos : Pos} {L : Addr} {m : PySem.Str → Option Value} {Q : Value → Shared → Prop} (c : CEnv env L) (hn : s.heap.Ns L m) (hl : env.kindOf x = some .local) (hv : m x = some v) (h : Q v s)
  (hd : autoParam ((x == ("__debug__" : PySem.Str)) = false) tR) : wpAny (model prog w) A (eval (.Name x pos) env) Q E s:=
 wpAny_Name (wpAny_loadName_local c.kind hl (c.loc ▸ hn) hv h) hd
private theorem c_len {y : PySem.Str} {p q p' : Pos} {L : Addr} {m : PySem.Str → Option Value} {x : PySem.Str} {t : Tok} {Q : Value → Shared → Prop} (X : K.In s.heap) (c : CEnv env L) (hn : s.heap.Ns L m) (hg : env.kindOf ("len" : PySem.Str) = some .globalImplicit) (hgl : GlobK K "len" (.builtin "len"))
  (hl : env.kindOf y = some .local) (hv : m y = some (.str x t)) (hsz : x.length < 2 ^ 60) (h : ∀ t' tk,Q (.int x.length t') { s with toks:=tk }) (hd : (y == ("__debug__" : PySem.Str)) = false)
  (he : autoParam (starEach [.Name y q] env = (false,eval (.Name y q) env) :: starEach [] env) tR) (hplain : autoParam ((backTo p' (starEach [] env)).any (·.1) = false) tR) : wpAny (model prog w) A (eval (.Call (.Name "len" p) [.Name y q] [] p') env) Q E s:=by
 refine Call_ (w8m X c hg hgl ?_)
 refine PyProof.Rows.callWith_builtin1 ?_ he hplain
 rw [he]
 exact spliced_cons (w7a c hn hl hv (spliced_nil (P.len_str (by lia) (h _ _))) hd)
private theorem elt_len {xa xb : PySem.Str} {p1 p2 p3 p4 p5 p6 p7 : Pos} {L : Addr} {m : PySem.Str → Option Value} {a b : PySem.Str × PySem.Str} {va vb : Value} {E' : Value → Shared → Prop} (X : K.In s.heap) (c : CEnv env L) (hn : s.heap.Ns L m) (hg : env.kindOf ("len" : PySem.Str) = some .globalImplicit) (hgl : GlobK K "len" (.builtin "len"))
  (hxa : env.kindOf xa = some .local) (hxb : env.kindOf xb = some .local) (ha : ∃ t,va = .str a.1 t) (hb : ∃ t,vb = .str a.2 t) (hva : m xa = some va) (hvb : m xb = some vb) (h1 : a.1.length < 2 ^ 60) (h2 : a.2.length < 2 ^ 60)
  (hda : (xa == ("__debug__" : PySem.Str)) = false) (hdb : (xb == ("__debug__" : PySem.Str)) = false) :
  wpAny (model prog w) A (eval (.BinOp (.Call (.Name "len" p1) [.Name xa p2] [] p3) .Add (.Call (.Name "len" p4) [.Name xb p5] [] p6) p7) env) (fun y s₃ => (∀ h,Sim h [] (.int ((a.1.length : Int) + a.2.length)) y) ∧ Keeps s s₃) E' s:=by
 obtain ⟨t,rfl⟩:=ha
 obtain ⟨u,rfl⟩:=hb
 exact wpAny_BinOp (c_len X c hn hg hgl hxa hva h1 (fun t' tk => c_len (s:={ s with toks:=tk }) X c hn hg hgl hxb hvb h2 (fun t'' tk' => add_int ⟨fun h => ⟨_,rfl⟩,_,_,rfl,fun _ _ e => e⟩) hdb) hda)
private theorem elt_join {g xa xb : PySem.Str} {p1 p2 p3 p4 p5 p6 : Pos} {kt : Nat} {L : Addr} {m : PySem.Str → Option Value} {a : PySem.Str × PySem.Str} {va vb : Value} {t0 : Tok} {E' : Value → Shared → Prop} {name : PySem.Str} (hname : name = PySem.Str.ofString "join") (X : K.In s.heap) (c : CEnv env L) (hn : s.heap.Ns L m) (hg : env.kindOf g = some .globalImplicit) (hgl : GlobK K g (.str ⟨#[]⟩ t0))
  (hxa : env.kindOf xa = some .local) (hxb : env.kindOf xb = some .local) (ha : ∃ t,va = .str a.1 t) (hb : ∃ t,vb = .str a.2 t) (hva : m xa = some va) (hvb : m xb = some vb) (hw : a.1.length + a.2.length + 2 ≤ 1048576)
  (hdg : (g == ("__debug__" : PySem.Str)) = false) (hda : (xa == ("__debug__" : PySem.Str)) = false) (hdb : (xb == ("__debug__" : PySem.Str)) = false)
  {pl : Sem Bool} (he : autoParam (eval (.Call (.Attribute (.Name g p1) name p2) [.Tuple [.Name xa p3,.Name xb p4] kt p5] [] p6) env = (do let ov ← eval (.Name g p1) env;standAt p2.atName;let __x ← holding [ov] (getMethod ov name pl);match __x with | (f,first) => callWith p6 f first (backTo p6 (starEach [.Tuple [.Name xa p3,.Name xb p4] kt p5] env)) [])) tR) :
  wpAny (model prog w) A (eval (.Call (.Attribute (.Name g p1) name p2) [.Tuple [.Name xa p3,.Name xb p4] kt p5] [] p6) env) (fun y s₃ => (∀ h,Sim h [] (.str (PySem.Txt.join ⟨#[]⟩ [a.1,a.2])) y) ∧ Keeps s s₃) E' s:=by
 subst hname
 obtain ⟨t,rfl⟩:=ha
 obtain ⟨u,rfl⟩:=hb
 refine MethodCall_ (pl:=pl) (w8m X c hg hgl ?_ hdg) he
 refine getMethod_builtin (typeIs_str s _ t0) PySem.F.plainAttrs_str PySem.F.slot_str_join PySem.F.type_str_join (fun b e => by cases e) ?_
 refine callWith_method1 ?_ rfl rfl
 show wpAny _ _ (spliced (backTo p6 [(false,eval (.Tuple [.Name xa p3,.Name xb p4] kt p5) env)])) _ _ _
 refine spliced_cons (Tuple_ (k:=kt) ?_)
 show wpAny _ _ (spliced (backTo p5 [(false,eval (.Name xa p3) env),(false,eval (.Name xb p4) env)])) _ _ _
 refine spliced_cons (w7a c hn hxa hva (spliced_cons (w7a c hn hxb hvb (spliced_nil ?_) hdb)) hda)
 refine wpAny_newObj_type ?_ (by show 2 ≤ sizeLine;decide +kernel)
 refine spliced_nil ?_
 refine join_tupleW (items:=[Value.str a.1 t,Value.str a.2 u].toArray) (ys:=[a.1,a.2]) ⟨_,Heap.get?_push_size _ rfl,rfl,_,rfl⟩ (StrsAre.cons _ _ (StrsAre.cons _ _ .nil)) (by decide) (by simpa using hw) fun t' tk => ?_
 exact ⟨fun h => ⟨_,rfl⟩,_,tk,rfl,fun b o e => Heap.get?_push_of_some _ e⟩
noncomputable def PurTk (prog : Program) (w : World) (C : Cfg) (mu : List Addr) (A : Around) (env : Env) (ρ : List (PySem.Str × PV)) (σ : List (Addr × MO)) (e : Expr) (p : PV) : Prop:=
 ∀ s,Ok C mu s → Act env mu s.heap ρ σ → ∀ (Q : Value → Shared → Prop) (E : Value → Shared → Prop),(∀ v tk,s.toks ≤ tk → (∀ h,Sim h [] p v) → Q v { s with toks:=tk }) → wpAny (model prog w) A (eval e env) Q E s
private theorem PurTk.pur {e : Expr} {p : PV} (h : PurTk prog w C mu A env ρ σ e p) (hp : ∀ v h mu,(∀ h,Sim h [] p v) → Sim h mu p v) : PurE prog w C mu A env ρ σ e p:=fun s O a Q E k => h s O a _ _ fun v tk _ y => k v _ O.tok ⟨fun _ _ _ _ e => e⟩ (hp v _ _ y)
noncomputable def GenE (prog : Program) (w : World) (C : Cfg) (mu : List Addr) (A : Around) (env : Env) (ρ : List (PySem.Str × PV)) (σ : List (Addr × MO)) (e : Expr) (ps : List PV) : Prop:=
 ∀ s,Ok C mu s → Act env mu s.heap ρ σ → ∀ (Q : Value → Shared → Prop) (E : Value → Shared → Prop),
  (∀ ga s' fp wr St G,Ok C mu s' → Kp C [] s s' → WalksS prog w A.in4 ga fp wr G ps.length (fun j y => ∃ p,ps[j]? = some p ∧ ∀ h,Sim h [] p y) St → (∀ i s,St i s → s.TypeIs (.ref ga) "generator") → St 0 s' → ga ∈ fp → (∀ b ∈ fp,b < s'.heap.objs.size) →
   (∀ s'',Moved wr G s' s'' → Ok C mu s'' ∧ Kp C [] s s'') → Q (.ref ga) s') → wpAny (model prog w) A (eval e env) Q E s
private theorem q9e (ns : List Int) : ∀ k,k ≤ ns.length → preSum (fun i => ns.getD i 0) k = (ns.take k).sum:=q5x ns
private theorem pur_sumGen {x : PySem.Str} {px pos : Pos} {e1 e2 : Expr} {ns : List Int} {k : Int} {ps : List PV} (hps : ps = ns.map .int) (hA : A.handled = none) (hf : PurE prog w C mu A env ρ σ (.Name x px) (.val (.builtin "sum"))) (hg : GenE prog w C mu A env ρ σ e1 ps) (h2 : PurTk prog w C mu A env ρ σ e2 (.int k))
  (hk : InLong k) (hns : ∀ j,j < ns.length → InLong (ns.getD j 0) ∧ InLong (k + (ns.take (j + 1)).sum))
  (he : autoParam (∀ env,starEach [e1,e2] env = (false,eval e1 env) :: starEach [e2] env) tR) (he2 : autoParam (∀ env,starEach [e2] env = (false,eval e2 env) :: starEach [] env) tR) (hplain : autoParam ((backTo pos (starEach [e2] env)).any (·.1) = false) tR) :
  PurE prog w C mu A env ρ σ (.Call (.Name x px) [e1,e2] [] pos) (.int (k + ns.sum)):=fun s O a Q E kk =>
 Call_ (hf s O a _ _ fun v s₁ O₁ k₁ y₁ => by
  subst hps
  cases (show v = .builtin "sum" from y₁)
  refine PyProof.Rows.callWith_builtin1 ?_ (he env) hplain
  rw [he,he2]
  refine spliced_cons (hg s₁ O₁ (a.kp O k₁) _ _ fun ga s₂ fp wr St G O₂ k₂ W hT hst hga hfp hM => ?_)
  refine spliced_cons (h2 s₂ O₂ ((a.kp O k₁).kp O₁ k₂) _ _ fun v₂ tk htk y₂ => ?_)
  refine spliced_nil ?_
  obtain ⟨t,rfl⟩:=y₂ s₂.heap
  have hst' : St 0 { s₂ with toks:=tk }:=W.frame 0 s₂ s₂.heap tk hst htk fun _ _ _ e => e
  refine call_sum2 hk (W.in4_1.self 0 _ _ _ hst' ⟨ga,fp,wr,G,_,_,St,fun i => ns.getD i 0,rfl,W.in4_1,hst',hfp,fun i v hP => ?_,fun j hj => ?_,fun s' t' M => ?_⟩)
  ·obtain ⟨p,hp,hv⟩:=hP
   rw [List.getElem?_map] at hp
   obtain ⟨z,hz,rfl⟩:=Option.map_eq_some_iff.mp hp
   obtain ⟨t,e⟩:=hv s₂.heap
   exact ⟨t,by rw [e];simp [List.getD_eq_getElem?_getD,hz]⟩
  ·have hj' : j < ns.length:=by simpa using hj
   exact ⟨(hns j hj').1,by rw [q9e ns _ hj'];exact (hns j hj').2⟩
  ·have M' : Moved wr G s₂ s':=⟨M.heap,M.gens,M.drawn,M.os,Nat.le_trans htk M.toks⟩
   obtain ⟨O',k'⟩:=hM s' M'
   have e : preSum (fun i => ns.getD i 0) (ns.map PV.int).length = ns.sum:=by
    rw [List.length_map,q9e ns _ (Nat.le_refl _),List.take_length]
   rw [e]
   exact kk _ s' O' (k₁.trans k') ⟨_,rfl⟩)
private theorem strs_of {ys : List PySem.Str} {P : Nat → Value → Prop} {l : List (PySem.Str × Tok)} (hP : ∀ j v,P j v → ∃ p,(ys.map PV.str)[j]? = some p ∧ ∀ h,Sim h [] p v) (hi : ItemsOf P (strValues l).toArray ys.length) : l.map (·.1) = ys:=by
 have hsz : l.length = ys.length:=by have:=hi.1;simpa [strValues] using this
 refine List.ext_getElem (by simpa using hsz) fun j h1 h2 => ?_
 have hj : j < l.length:=by simpa using h1
 have e : (strValues l).toArray[j]? = some (.str l[j].1 l[j].2):=by simp [strValues,hj]
 obtain ⟨p,hp,hv⟩:=hP j _ (hi.2 j _ e)
 rw [List.getElem?_map] at hp
 obtain ⟨z,hz,rfl⟩:=Option.map_eq_some_iff.mp hp
 obtain ⟨t,e2⟩:=hv {}
 cases e2
 obtain ⟨h3,h4⟩:=List.getElem?_eq_some_iff.mp hz
 simp [h4]
private theorem w5t {o e1 : Expr} {name : PySem.Str} {apos pos : Pos} {sep : PySem.Str} {ys : List PySem.Str} {pl : Sem Bool} {ps : List PV} (hps : ps = ys.map .str) (hA : A.handled = none) (ho : PurE prog w C mu A env ρ σ o (.str sep)) (hg : GenE prog w C mu A env ρ σ e1 ps) (hname : name = PySem.Str.ofString "join") (hok : JoinOk sep ys = true) (hsz : ys.length ≤ 2 ^ 20)
  (he : autoParam (eval (.Call (.Attribute o name apos) [e1] [] pos) env = (do let ov ← eval o env;standAt apos.atName;let __x ← holding [ov] (getMethod ov name pl);match __x with | (f,first) => callWith pos f first (backTo pos (starEach [e1] env)) [])) tR)
  (hs : autoParam (starEach [e1] env = (false,eval e1 env) :: starEach [] env) tR) (hplain : autoParam ((backTo pos (starEach [] env)).any (·.1) = false) tR) :
  PurE prog w C mu A env ρ σ (.Call (.Attribute o name apos) [e1] [] pos) (.str (PySem.Txt.join sep ys)):=fun s O a Q E kk =>
 MethodCall_ (pl:=pl) (ho s O a _ _ fun v s₁ O₁ k₁ y₁ => by
  subst hps
  obtain ⟨t,rfl⟩:=y₁
  refine (q6m (prog:=prog) (w:=w) (C:=C) (mu:=mu) (A:=A) hname) pl s₁ _ _ _ O₁ ⟨t,rfl⟩ ?_
  refine callWith_method1 ?_ hs hplain
  rw [hs]
  refine spliced_cons (hg s₁ O₁ (a.kp O k₁) _ _ fun ga s₂ fp wr St G O₂ k₂ W hT hst hga hfp hM => ?_)
  refine spliced_nil ?_
  have hS : sizeLine = 2 ^ 24:=by decide +kernel
  refine SC.joinGen W.in4_2 hT hst hfp hga (fun i v hP => ?_) (fun s' l M hi => ?_) (by rw [List.length_map];(with_reducible refine nad ?_;decide))
  ·obtain ⟨p,hp,hv⟩:=hP
   rw [List.getElem?_map] at hp
   obtain ⟨z,hz,rfl⟩:=Option.map_eq_some_iff.mp hp
   obtain ⟨t,e⟩:=hv s₂.heap
   exact ⟨_,t,e⟩
  ·rw [List.length_map] at hi
   have el:=strs_of (fun j v h => h) hi
   rw [el]
   refine ⟨hok,fun t' k' => ?_⟩
   obtain ⟨O',k₃⟩:=hM s' M
   exact kk _ _ (O'.tok) ((k₁.trans k₃).trans ⟨fun _ _ _ _ e => e⟩) ⟨t',rfl⟩) he
end
end
section
open PySem PySem.W PySem.Calls PyProof.Rows
variable {prog : Program} {w : World}
section
variable {C : Cfg} {mu mu' nu : List Addr} {s₀ s s' : Shared} {env : Env} {ρ : List (PySem.Str × PV)} {σ σ' : List (Addr × MO)} {A : Around} {E : Value → Shared → Prop}
private theorem w5s {value : Expr} {lower upper : Option Expr} {p pos : Pos} {lo hi : Option Int} {x : PySem.Str} (hv : PurE prog w C mu A env ρ σ value (.str x)) (h1 : q1t prog w C mu A env ρ σ lower lo) (h2 : q1t prog w C mu A env ρ σ upper hi) (hsz : x.length ≤ 2 ^ 20)
  (hpick : (Builtin.Str.strSliceIndices lo hi 1 x.length).length ≤ 2 ^ 20) : PurE prog w C mu A env ρ σ (.Subscript value (.Slice lower upper none p) pos) (.str (sSlice x lo hi)):=fun s O a Q E k => by
 refine Subscript_ (hv s O a _ _ fun v s₁ O₁ k₁ y₁ => wpAny_Slice (partS h1 O₁ (a.kp O k₁) fun l s₂ O₂ k₂ p₂ => partS h2 O₂ ((a.kp O k₁).kp O₁ k₂) fun u s₃ O₃ k₃ p₃ => ?_))
 rw [evalPart_none]
 refine wpAny_pure ?_
 obtain ⟨t,rfl⟩:=(y₁.kp0 O₁ k₂).kp0 O₂ k₃
 have hS : sizeLine = 2 ^ 24:=by decide +kernel
 have kk:=(k₁.trans k₂).trans k₃
 have hk : ∀ b o,s₃.heap.get? b = some o → (s₃.heap.push { cls:=.type "slice",data:=.fields #[partValue l,partValue u,.none] }).get? b = some o:=fun b o e => Heap.get?_push_of_some _ e
 refine tail_any (ops:=[.ref s₃.heap.objs.size,.str x t]) (typeIs_str _ x t) slot_str_getitem.lookup (wpAny_getItem_str_slice (l:=l) (u:=u) (st:=none) ⟨_,Heap.get?_push_size _ rfl,rfl,rfl⟩ rfl ?_) rfl
 have e : slicePicked x l u none = Builtin.Str.strSliceIndices lo hi 1 x.length:=by unfold slicePicked;rw [p₂,p₃];rfl
 unfold sliceMade
 rw [e]
 unfold sSlice at k
 by_cases hc : ((Builtin.Str.strSliceIndices lo hi 1 x.length).length == x.length) = true
 ·rw [hc] at k ⊢
  exact k _ _ (O₃.keep (tk:=s₃.toks) hk) (kk.trans (Kp.of_keep (tk:=s₃.toks) hk)) ⟨t,rfl⟩
 ·rw [Bool.not_eq_true] at hc
  rw [hc] at k ⊢
  refine ⟨?_,k _ _ (O₃.keep (tk:=s₃.toks + 1) hk) (kk.trans (Kp.of_keep (tk:=s₃.toks + 1) hk)) ⟨_,rfl⟩⟩
  show ((Builtin.Str.strSliceIndices lo hi 1 x.length).filterMap (x.cps[·]?)).toArray.size ≤ sizeLine
  rw [List.size_toArray]
  have:=List.length_filterMap_le (fun i => x.cps[i]?) (Builtin.Str.strSliceIndices lo hi 1 x.length)
  lia
noncomputable def q6g (l : List PV) (lo hi st : Option Int) : List PV:=(sliceRange (sliceBounds lo hi st l.length).1 (sliceBounds lo hi st l.length).2.1 (sliceBounds lo hi st l.length).2.2).filterMap (l[·]?)
private theorem q9d {value : Expr} {lower upper step : Option Expr} {p pos : Pos} {lo hi st : Option Int} {l : List PV} (hv : PurL prog w C mu A env ρ σ value l) (h1 : q1t prog w C mu A env ρ σ lower lo) (h2 : q1t prog w C mu A env ρ σ upper hi) (h3 : q1t prog w C mu A env ρ σ step st) (hst : st ≠ some 0) (hsz : l.length ≤ 2 ^ 20)
  (hops : ∀ o i,∃ ops,subscripted (.Slice lower upper step p) false o i = operate ops (getItem o i)) :
  PurNE prog w C mu A env ρ σ (.Subscript value (.Slice lower upper step p) pos) (q6g l lo hi st):=fun s O a Q E k => by
 refine Subscript_ (hv s O a _ _ fun v s₁ O₁ k₁ y₁ => wpAny_Slice (q3w h1 O₁ (a.kp O k₁) fun vl s₂ O₂ k₂ p₂ => q3w h2 O₂ ((a.kp O k₁).kp O₁ k₂) fun vu s₃ O₃ k₃ p₃ => q3w h3 O₃ (((a.kp O k₁).kp O₁ k₂).kp O₂ k₃) fun vs0 s₄ O₄ k₄ p₄ => ?_))
 obtain ⟨x,vs,n,rfl,ho,hvs⟩:=((y₁.kp0 O₁ k₂).kp0 O₂ k₃).kp0 O₃ k₄
 have hS : sizeLine = 2 ^ 24:=by decide +kernel
 have hlen : vs.toArray.size = l.length:=by simp [hvs.length]
 have kk:=((k₁.trans k₂).trans k₃).trans k₄
 have hl : s₄.heap.IsList x vs.toArray:=⟨_,ho,rfl,n,rfl⟩
 have hk : ∀ b o,s₄.heap.get? b = some o → ((s₄.heap.push { cls:=.type "slice",data:=.fields #[vl,vu,vs0] }).push { cls:=.type "list",data:=.seq (slicePick vs.toArray lo hi st) }).get? b = some o:=fun b o e => Heap.get?_push_of_some _ (Heap.get?_push_of_some _ e)
 have hnew : s₄.heap.get? (s₄.heap.objs.size + 1) = none:=Heap.get?_none_of_le (Nat.le_succ _)
 obtain ⟨ops,hs⟩:=hops (.ref x) (.ref s₄.heap.objs.size)
 refine tail_any (ops:=ops) (hl.push _).typeIs slot_list_getitem.lookup (wpAny_getItem_list_slice (hl.push _) (Heap.IsSliceOf.new ..) p₂ p₃ p₄ hst ?_ (by lia)) hs
 rw [Heap.size_push]
 refine k _ _ (O₄.keep (tk:=s₄.toks) hk) (kk.trans (Kp.of_keep (tk:=s₄.toks) hk)) (q4y O₄ kk hnew) ?_
 refine ⟨(sliceRange (sliceBounds lo hi st l.length).1 (sliceBounds lo hi st l.length).2.1 (sliceBounds lo hi st l.length).2.2).filterMap (vs[·]?),0,?_,((hvs.pick _).new hnew).keeps (fun _ _ z _ => z) fun b o _ _ e => hk b o e⟩
 have e : slicePick vs.toArray lo hi st = List.toArray ((sliceRange (sliceBounds lo hi st l.length).1 (sliceBounds lo hi st l.length).2.1 (sliceBounds lo hi st l.length).2.2).filterMap (vs[·]?)):=by
  unfold slicePick
  rw [hlen]
  simp
 rw [← e,show s₄.heap.objs.size + 1 = (s₄.heap.push { cls:=.type "slice",data:=.fields #[vl,vu,vs0] }).objs.size from (Heap.size_push ..).symm]
 exact Heap.get?_push_size _ rfl
private theorem sl_ops {lower upper step : Option Expr} {p : Pos} : (∀ o i,subscripted (.Slice lower upper step p) false o i = operate [i,o] (getItem o i)) ∨ (∀ o i,subscripted (.Slice lower upper step p) false o i = operate [o,i] (getItem o i)):=by
 cases step
 ·exact .inl fun _ _ => rfl
 ·exact .inr fun _ _ => rfl
private theorem sl_ops' {lower upper step : Option Expr} {p : Pos} (o i : Value) : ∃ ops,subscripted (.Slice lower upper step p) false o i = operate ops (getItem o i):=by
 rcases (sl_ops : (∀ o i,subscripted (.Slice lower upper step p) false o i = operate [i,o] (getItem o i)) ∨ _) with h | h
 ·exact ⟨_,h o i⟩
 ·exact ⟨_,h o i⟩
end
end
section
open PySem PySem.W PySem.Calls PyProof.Rows
variable {prog : Program} {w : World}
section
variable {C : Cfg} {mu mu' nu : List Addr} {s₀ s s' : Shared} {env : Env} {ρ : List (PySem.Str × PV)} {σ σ' : List (Addr × MO)} {A : Around} {E : Value → Shared → Prop}
private theorem w0y {x : PySem.Str} {n : Nat} (hx : x.length * n ≤ 2 ^ 20) (hn : n ≤ 2 ^ 20) (hx2 : x.length ≤ 2 ^ 20) : Op2 prog w C mu A (binaryOp .Mult) (.str x) (.int n) (.str ⟨((List.replicate n x.cps.toList).flatten).toArray⟩):=fun s a b O ⟨t,hx'⟩ ⟨u,hy⟩ => by
 subst hx' hy
 have hS : sizeLine = 2 ^ 24:=by decide +kernel
 have e : (List.replicate n x.cps).foldl (· ++ ·) #[] = ((List.replicate n x.cps.toList).flatten).toArray:=by
  have : ∀ (m : Nat) (acc : List Nat),(List.foldl (fun x1 x2 : Array Nat => x1 ++ x2) acc.toArray (List.replicate m x.cps)) = (acc ++ (List.replicate m x.cps.toList).flatten).toArray:=fun m => by
   induction m with
   | zero => intro acc;simp
   | succ m ih =>
    intro acc
    rw [List.replicate_succ,List.foldl_cons,List.append_toArray,ih,List.replicate_succ,List.flatten_cons,List.append_assoc]
  simpa using this n []
 refine Pur.here O fun Q E k => PySem.P.mul_str (by simp;lia) (fun h1 h2 => ?_) (fun h1 h2 => ?_) ?_
 ·have h3 : (n : Int) ≤ 2 ^ 20:=by lia
  have h4 : (2 ^ 20 : Int) ≤ (2 ^ 63 - 1) / (n : Int):=by
   rw [Int.le_ediv_iff_mul_le (by omega)]
   have : (2 ^ 20 : Int) * n ≤ 2 ^ 20 * 2 ^ 20:=Int.mul_le_mul_of_nonneg_left h3 (by decide)
   lia
  lia
 ·unfold Builtin.Str.tooLong
  rw [Int.toNat_natCast]
  simp;(with_reducible refine nad ?_;decide)
 ·by_cases h1 : (n : Int) < 1
  ·rw [if_pos h1]
   have h0 : n = 0:=by lia
   subst h0
   exact ⟨by decide,k _ _ ⟨_,rfl⟩⟩
  ·rw [if_neg h1]
   by_cases h2 : (((n : Int) == 1) || x.length == 0) = true
   ·rw [if_pos h2]
    refine k _ _ ⟨t,?_⟩
    rw [← e]
    rw [Bool.or_eq_true,beq_iff_eq,beq_iff_eq] at h2
    rcases h2 with h2 | h2
    ·have : n = 1:=by lia
     subst this
     simp
    ·have : x.cps = #[]:=Array.eq_empty_of_size_eq_zero h2
     have hx0 : x = ⟨#[]⟩:=by cases x;simp at this;rw [this]
     rw [hx0]
     congr
     have : ∀ m,List.foldl (fun x1 x2 : Array Nat => x1 ++ x2) #[] (List.replicate m #[]) = #[]:=fun m => by
      induction m with
      | zero => rfl
      | succ m ih => rw [List.replicate_succ,List.foldl_cons];exact ih
     exact congrArg Array.toList (this n).symm
   ·rw [if_neg h2,Int.toNat_natCast,e]
    refine ⟨?_,k _ _ ⟨_,rfl⟩⟩
    show (List.toArray _).size ≤ sizeLine
    rw [List.size_toArray,List.length_flatten]
    simp
    have : x.cps.size * n ≤ 2 ^ 20:=hx
    rw [Nat.mul_comm] at this
    (with_reducible refine nad ?_;decide)
private theorem w3w {h : Heap} : ∀ l : List (PySem.Str × Tok),Sims h mu ((l.map (·.1)).map .str) (strValues l)
 | [] => rfl
 | p :: r => ⟨_,_,rfl,⟨p.2,rfl⟩,w3w r⟩
private theorem w2j {x y : PySem.Str} (hy : (y.length == 0) = false) (hsz : x.length ≤ 2 ^ 20) : OpL prog w C mu A (fun vs => call (.builtin "str.split") vs) [.str x,.str y] (.lst ((PySem.Txt.split x y).map .str)):=fun s vs O hv => by
 obtain ⟨v,r,rfl,⟨t,rfl⟩,v₂,r₂,rfl,⟨u,rfl⟩,hr⟩:=hv
 cases (show r₂ = [] from hr)
 have hS : sizeLine = 2 ^ 24:=by decide +kernel
 refine Pur.newSeq (tuple:=false) O fun Q E k => ?_
 have fin : ∀ (l : List (PySem.Str × Tok)) tk,l.map (·.1) = PySem.Txt.split x y → Q (.ref s.heap.objs.size) { s with toks:=tk,heap:=s.heap.push { cls:=.type "list",data:=.seq (strValues l).toArray } }:=fun l tk e =>
  k (strValues l) 0 tk _ (e ▸ w3w l) (fun b o e => Heap.get?_push_of_some _ e) _ (Ok.size_none s) (Heap.get?_push_size _ rfl)
 have hn : (Builtin.Str.partsBetween x (Builtin.Str.occurrences x y 0 x.length (x.length + 1)) y.length).length ≤ sizeLine:=by
  have e1:=StrLaws.occ_length_le x y 0 x.length (x.length + 1)
  rw [length_partsBetween];lia
 cases h1 : (decide (x.length < y.length) || decide (Builtin.Str.strKind x < Builtin.Str.strKind y))
 ·cases hf : (Builtin.Str.occurrences x y 0 x.length (x.length + 1)).isEmpty
  ·refine call_meets PySem.F.slot_str_split (typeIs_str _ _ _) PySem.F.entry_str_split (PySem.F.args_str_split_2 _ _) (meets_str_split_sep x y t u h1 hy hf (by (with_reducible refine nad ?_;decide)) hn) ?_
   show wants Q E _ { s with toks:=_,heap:=s.heap.push { cls:=.type "list",data:=.seq (strsFrom s.toks (Builtin.Str.partsBetween x (Builtin.Str.occurrences x y 0 x.length (x.length + 1)) y.length)).toArray } }
   rw [strsFrom_eq]
   exact fin (numbered s.toks _) _ ((numbered_texts _ _).trans ((if_neg (ne_true_of_eq_false h1)).trans (if_neg (ne_true_of_eq_false hf))).symm)
  ·exact call_meets PySem.F.slot_str_split (typeIs_str _ _ _) PySem.F.entry_str_split (PySem.F.args_str_split_2 _ _) (meets_str_split_not_found x y t u h1 hy hf)
    (fin [(x,t)] s.toks ((if_neg (ne_true_of_eq_false h1)).trans (if_pos hf)).symm)
 ·exact call_meets PySem.F.slot_str_split (typeIs_str _ _ _) PySem.F.entry_str_split (PySem.F.args_str_split_2 _ _) (meets_str_split_cannot_occur x y t u h1)
   (fin [(x,t)] s.toks (if_pos h1).symm)
private theorem w0z {l m : List PV} (hsz : l.length + m.length ≤ 2 ^ 20) : Op2N prog w C mu A (binaryOp .Add) (.lst l) (.lst m) (l ++ m):=fun s a b O ha hb => by
 obtain ⟨x,vs,n,rfl,hx,ho,hv⟩:=ha
 obtain ⟨y,ws,n2,rfl,hy,ho2,hw⟩:=hb
 have hS : sizeLine = 2 ^ 24:=by decide +kernel
 refine PurN.alloc O fun Q E k => ?_
 refine PySem.P.add_list (items:=vs.toArray) (items2:=ws.toArray) (n:=n) (n2:=n2) ho ho2 ?_ (by rw [List.size_toArray,List.size_toArray,hv.length,hw.length];(with_reducible refine nad ?_;decide))
 refine k (vs ++ ws) 0 s.toks _ (hv.append hw) (fun b o e => Heap.get?_push_of_some _ e) _ (Ok.size_none s) ?_
 rw [Heap.get?_push_size _ rfl]
 simp
end
end
section
set_option tactic.hygienic true
open PySem PySem.W PySem.Calls PyProof.Rows
variable {prog : Program} {w : World}
section
variable {C : Cfg} {mu mu' nu : List Addr} {s₀ s s' : Shared} {env : Env} {ρ : List (PySem.Str × PV)} {σ σ' : List (Addr × MO)} {A : Around} {E : Value → Shared → Prop}
structure CompSide (scope : Scope) (env : Env) (cl : List (PySem.Str × Addr)) (ρ ρc : List (PySem.Str × PV)) : Prop where
 clos : closureFor scope env = pure cl
 kind : scope.kind = .function
 names : scope.names.all (fun x => x.2 != .local || scope.names.lookup x.1 == some .local) = true
 cls : ∀ y ∈ cl,env.cells.lookup y.1 = some y.2 ∧ (env.kindOf y.1 != some .local) = true ∧ (cellsFrom 0 scope.names []).lookup y.1 = none
 rho : ∀ y ∈ ρc,ρ.lookup y.1 = some y.2 ∧ ((relabel scope env).names.lookup y.1 = some .cell ∨ (relabel scope env).names.lookup y.1 = some .free) ∧ okName y.1 = true ∧ ∃ c,cl.lookup y.1 = some c
noncomputable def q1b (env : Env) : List (PySem.Str × NameKind) → List (PySem.Str × Addr) → List (PySem.Str × Addr)
 | [],acc => acc
 | (n,k) :: r,acc => if k == .free then (match env.cells.lookup n with | some a => q1b env r ((n,a) :: acc) | none => q1b env r acc) else q1b env r acc
private theorem q1z : ∀ (names : List (PySem.Str × NameKind)) (acc : List (PySem.Str × Addr)) (y : PySem.Str × Addr),y ∈ q1b env names acc → y ∈ acc ∨ (env.cells.lookup y.1 = some y.2 ∧ (y.1,NameKind.free) ∈ names)
 | [],_,_,h => .inl h
 | (n,k) :: r,acc,y,h => by
  unfold q1b at h
  split at h
  ·rename_i hk
   rw [eq_of_beq hk]
   split at h
   ·rename_i a ha
    rcases q1z r _ y h with h | ⟨h1,h2⟩
    ·rcases List.mem_cons.mp h with h | h
     ·subst h;exact .inr ⟨ha,.head _⟩
     ·exact .inl h
    ·exact .inr ⟨h1,.tail _ h2⟩
   ·rcases q1z r _ y h with h | ⟨h1,h2⟩
    ·exact .inl h
    ·exact .inr ⟨h1,.tail _ h2⟩
  ·rcases q1z r _ y h with h | ⟨h1,h2⟩
   ·exact .inl h
   ·exact .inr ⟨h1,.tail _ h2⟩
private theorem q2x : ∀ (names : List (PySem.Str × NameKind)) (acc : List (PySem.Str × Addr)) (y : PySem.Str × Addr),y ∈ acc → y ∈ q1b env names acc
 | [],_,_,h => h
 | (n,k) :: r,acc,y,h => by
  unfold q1b
  split
  ·split
   ·exact q2x r _ y (.tail _ h)
   ·exact q2x r _ y h
  ·exact q2x r _ y h
private theorem q2w : ∀ (names : List (PySem.Str × NameKind)) (acc : List (PySem.Str × Addr)) (n : PySem.Str),(n,NameKind.free) ∈ names → (env.cells.lookup n).isSome = true → ∃ a,(n,a) ∈ q1b env names acc
 | [],_,_,h,_ => nomatch h
 | (m,k) :: r,acc,n,h,hs => by
  unfold q1b
  rcases List.mem_cons.mp h with h | h
  ·cases h
   rw [if_pos (by decide)]
   split
   ·rename_i a ha
    exact ⟨a,q2x r _ _ (.head _)⟩
   ·rename_i ha
    rw [ha] at hs;cases hs
  ·split
   ·split
    ·exact q2w r _ n h hs
    ·exact q2w r _ n h hs
   ·exact q2w r _ n h hs
private theorem w0f {scope : Scope} (h : ∀ n,(n,NameKind.free) ∈ scope.names → (env.cells.lookup n).isSome = true) : closureFor scope env = pure (q1b env scope.names []):=by
 have key : ∀ (names : List (PySem.Str × NameKind)) (acc : List (PySem.Str × Addr)),(∀ n,(n,NameKind.free) ∈ names → (env.cells.lookup n).isSome = true) →
   (forIn names acc (fun (x : PySem.Str × NameKind) (cs : List (PySem.Str × Addr)) => if (x.2 == .free) = true then (do let a ← cellOf env x.1;pure (ForInStep.yield ((x.1,a) :: cs))) else pure (ForInStep.yield cs)) : Sem (List (PySem.Str × Addr))) = pure (q1b env names acc):=by
  intro names
  induction names with
  | nil => intro acc _;rfl
  | cons x r ih =>
   intro acc h
   obtain ⟨n,k⟩:=x
   rw [List.forIn_cons]
   unfold q1b
   by_cases hk : (k == NameKind.free) = true
   ·rw [if_pos hk,if_pos hk]
    have hs:=h n (by rw [eq_of_beq hk];exact .head _)
    cases ha : env.cells.lookup n with
    | none => rw [ha] at hs;cases hs
    | some a =>
     have : cellOf env n = pure a:=by unfold cellOf;rw [ha]
     rw [this]
     simp only [pure_bind]
     exact ih _ fun m hm => h m (.tail _ hm)
   ·rw [if_neg hk,if_neg hk]
    simp only [pure_bind]
    exact ih _ fun m hm => h m (.tail _ hm)
 unfold closureFor
 have:=key scope.names [] h
 simp only [bind_pure]
 refine Eq.trans ?_ this
 congr 1
noncomputable def w6w (scope : Scope) (env : Env) : Bool:=
 scope.names.all fun x => (x.2 != .local || scope.names.lookup x.1 == some .local) && (x.2 != .free || ((env.cells.lookup x.1).isSome && env.kindOf x.1 != some .local && ((cellsFrom 0 scope.names []).lookup x.1).isNone))
noncomputable def capChk (scope : Scope) (env : Env) (n : PySem.Str) : Bool:=(scope.names.contains (n,NameKind.free)) && ((relabel scope env).names.lookup n == some .cell || (relabel scope env).names.lookup n == some .free) && okName n
noncomputable abbrev clOf (scope : Scope) (env : Env) : List (PySem.Str × Addr):=q1b env scope.names []
private theorem CompSide.of {scope : Scope} {ρc : List (PySem.Str × PV)} (hk : scope.kind = .function) (h1 : w6w scope env = true) (h2 : (ρc.map (·.1)).all (capChk scope env) = true) (h3 : ∀ y ∈ ρc,ρ.lookup y.1 = some y.2) : CompSide scope env (clOf scope env) ρ ρc:=by
 have g1 : ∀ x ∈ scope.names,(x.2 = .local → scope.names.lookup x.1 = some .local) ∧ (x.2 = .free → (env.cells.lookup x.1).isSome = true ∧ (env.kindOf x.1 != some .local) = true ∧ (cellsFrom 0 scope.names []).lookup x.1 = none):=fun x hx => by
  have:=List.all_eq_true.mp h1 x hx
  rw [Bool.and_eq_true] at this
  refine ⟨fun q => ?_,fun q => ?_⟩
  ·have h:=this.1
   rw [q] at h
   simpa using h
  ·have h:=this.2
   rw [q] at h
   simp only [bne_self_eq_false,Bool.false_or,Bool.and_eq_true] at h
   exact ⟨h.1.1,h.1.2,by simpa using h.2⟩
 have g0 : ∀ n,(n,NameKind.free) ∈ scope.names → (env.cells.lookup n).isSome = true:=fun n hn => ((g1 _ hn).2 rfl).1
 refine ⟨w0f g0,hk,List.all_eq_true.mpr fun x hx => ?_,fun y hy => ?_,fun y hy => ?_⟩
 ·by_cases q : x.2 = .local
  ·simp [q,(g1 x hx).1 q]
  ·simp [q]
 ·rcases q1z _ _ y hy with h | ⟨h4,h5⟩
  ·cases h
  ·exact ⟨h4,((g1 _ h5).2 rfl).2⟩
 ·have:=List.all_eq_true.mp h2 y.1 (List.mem_map_of_mem hy)
  unfold capChk at this
  simp only [Bool.and_eq_true,Bool.or_eq_true,beq_iff_eq] at this
  obtain ⟨⟨h4,h5⟩,h6⟩:=this
  have h4' : (y.1,NameKind.free) ∈ scope.names:=by simpa using h4
  obtain ⟨a,ha⟩:=q2w (env:=env) scope.names [] y.1 h4' (g0 _ h4')
  exact ⟨h3 y hy,h5,h6,q3m ha⟩
section
variable {scope : Scope} {cl : List (PySem.Str × Addr)} {ρc : List (PySem.Str × PV)}
private theorem CompSide.n (h : CompSide scope env cl ρ ρc) : ∀ x ∈ scope.names,x.2 = .local → scope.names.lookup x.1 = some .local:=fun x hx hl => by
 have:=List.all_eq_true.mp h.names x hx
 rw [hl] at this
 simpa using this
private theorem CompSide.mem (h : CompSide scope env cl ρ ρc) : ∀ x ∈ cl,x ∈ env.cells:=fun x hx => q0j (h.cls x hx).1
private theorem CompSide.c (h : CompSide scope env cl ρ ρc) : ∀ x c,cl.lookup x = some c → env.cells.lookup x = some c ∧ env.kindOf x ≠ some .local:=fun x c e => by
 obtain ⟨h1,h2,_⟩:=h.cls _ (q0j e)
 exact ⟨h1,by simpa using h2⟩
private theorem CompSide.i (h : CompSide scope env cl ρ ρc) : ∀ x c,cl.lookup x = some c → (cellsFrom 0 scope.names []).lookup x = none:=fun x c e => (h.cls _ (q0j e)).2.2
private theorem CompSide.r (h : CompSide scope env cl ρ ρc) : ∀ x p,ρc.lookup x = some p → ρ.lookup x = some p ∧ ((relabel scope env).names.lookup x = some .cell ∨ (relabel scope env).names.lookup x = some .free) ∧ okName x = true ∧ ∃ c,cl.lookup x = some c:=fun x p e => h.rho _ (q0j e)
private theorem CompSide.alive {L D : Addr} (h : CompSide scope env cl ρ ρc) (hal : ∀ x ∈ env.cells,x.2 ∈ mu ∨ ∃ o,C.H.get? x.2 = some o) : ∀ x ∈ (cEnv scope cl L env).cells,x.2 ∈ cOwn scope L ++ D :: mu ∨ ∃ o,C.H.get? x.2 = some o:=fun x hx => by
 have hx' : x ∈ cellsFrom (L + 1) scope.names cl:=hx
 rw [q0q] at hx'
 rcases List.mem_append.mp hx' with q | q
 ·exact .inl (List.mem_append_left _ (.tail _ (List.mem_map_of_mem (f:=(·.2)) q)))
 ·exact (hal x (h.mem x q)).imp (fun q => List.mem_append_right _ (.tail _ q)) id
private theorem purN_compS {elt target iter : Expr} {ifs : List Expr} {pos : Pos} {l : List PV} {g : Nat → Option PV} (hS : CompSide scope env cl ρ ρc)
  (hal : ∀ x ∈ env.cells,x.2 ∈ mu ∨ ∃ o,C.H.get? x.2 = some o) (hA : A.handled = none) (hi : IterE prog w C mu A env ρ σ iter l)
  (hturn : q0w prog w C mu A env ρc σ target elt ifs scope cl l g) (hsz : l.length ≤ 2 ^ 20) (hs : autoParam (∀ x,foldedSetIterable iter env x = pure x) tR) :
  PurNE prog w C mu A env ρ σ (.ListComp elt [⟨target,iter,ifs,0⟩] scope pos) ((List.range l.length).filterMap g):=
 purN_comp hal hA hi hS.clos hS.kind hS.n hS.mem hS.c hS.i hS.r hturn hsz hs
private theorem w0j {y : PySem.Str} {py spos : Pos} {elt target iter : Expr} {ifs : List Expr} {pos : Pos} {l : List PV} {g : Nat → Option PV} {Q : Flow → Shared → Prop} (hS : CompSide scope env cl ρ ρc)
  (I : In C mu nu env ρ σ s₀ s) (hy : StOk env nu y) (hA : A.handled = none) (hi : IterE prog w C mu A env ρ σ iter l)
  (hturn : q0w prog w C mu A env ρc σ target elt ifs scope cl l g) (hsz : l.length ≤ 2 ^ 20)
  (k : ∀ s',In C mu nu env ((y,.lst ((List.range l.length).filterMap g)) :: ρ) σ s₀ s' → Q .next s') (hsw : autoParam (swapsWith (.ListComp elt [⟨target,iter,ifs,0⟩] scope pos) (some (.Name y py)) spos.line env = pure true) tR)
  (hs : autoParam (∀ x,foldedSetIterable iter env x = pure x) tR) :
  wpAny (model prog w) A (exec (.Assign [.Name y py] (.ListComp elt [⟨target,iter,ifs,0⟩] scope pos) spos) env) Q E s:=
 w2a I hy hA hi hsw hS.clos hS.kind hS.n hS.mem hS.c hS.i hS.r hturn hsz hs k
private theorem q1a {elt target iter : Expr} {ifs : List Expr} {pos : Pos} {l : List PV} {g : Nat → Option PV} (ρc : List (PySem.Str × PV)) (h3 : ∀ y ∈ ρc,ρ.lookup y.1 = some y.2)
  (hal : ∀ x ∈ env.cells,x.2 ∈ mu ∨ ∃ o,C.H.get? x.2 = some o) (hA : A.handled = none) (hi : IterE prog w C mu A env ρ σ iter l)
  (hturn : q0w prog w C mu A env ρc σ target elt ifs scope (clOf scope env) l g) (hsz : l.length ≤ 2 ^ 20) (hk : autoParam (scope.kind = .function) tR) (h1 : autoParam (w6w scope env = true) tR) (h2 : autoParam ((ρc.map (·.1)).all (capChk scope env) = true) tR)
  (hs : autoParam (∀ x,foldedSetIterable iter env x = pure x) tR) :
  PurNE prog w C mu A env ρ σ (.ListComp elt [⟨target,iter,ifs,0⟩] scope pos) ((List.range l.length).filterMap g):=
 purN_compS (CompSide.of hk h1 h2 h3) hal hA hi hturn hsz hs
private theorem w0k {y : PySem.Str} {py spos : Pos} {elt target iter : Expr} {ifs : List Expr} {pos : Pos} {l : List PV} {g : Nat → Option PV} {Q : Flow → Shared → Prop} (ρc : List (PySem.Str × PV)) (h3 : ∀ y ∈ ρc,ρ.lookup y.1 = some y.2)
  (I : In C mu nu env ρ σ s₀ s) (hy : StOk env nu y) (hA : A.handled = none) (hi : IterE prog w C mu A env ρ σ iter l)
  (hturn : q0w prog w C mu A env ρc σ target elt ifs scope (clOf scope env) l g) (hsz : l.length ≤ 2 ^ 20)
  (k : ∀ s',In C mu nu env ((y,.lst ((List.range l.length).filterMap g)) :: ρ) σ s₀ s' → Q .next s') (hk : autoParam (scope.kind = .function) tR) (h1 : autoParam (w6w scope env = true) tR) (h2 : autoParam ((ρc.map (·.1)).all (capChk scope env) = true) tR) (hsw : autoParam (swapsWith (.ListComp elt [⟨target,iter,ifs,0⟩] scope pos) (some (.Name y py)) spos.line env = pure true) tR)
  (hs : autoParam (∀ x,foldedSetIterable iter env x = pure x) tR) :
  wpAny (model prog w) A (exec (.Assign [.Name y py] (.ListComp elt [⟨target,iter,ifs,0⟩] scope pos) spos) env) Q E s:=
 w0j (CompSide.of hk h1 h2 h3) I hy hA hi hturn hsz k hsw hs
private theorem comp_alive {L D : Addr} (hal : ∀ x ∈ env.cells,x.2 ∈ mu ∨ ∃ o,C.H.get? x.2 = some o) : ∀ x ∈ (cEnv scope (clOf scope env) L env).cells,x.2 ∈ cOwn scope L ++ D :: mu ∨ ∃ o,C.H.get? x.2 = some o:=fun x hx => by
 have hx' : x ∈ cellsFrom (L + 1) scope.names (clOf scope env):=hx
 rw [q0q] at hx'
 rcases List.mem_append.mp hx' with q | q
 ·exact .inl (List.mem_append_left _ (.tail _ (List.mem_map_of_mem (f:=(·.2)) q)))
 ·rcases q1z _ _ x q with h | ⟨h,_⟩
  ·cases h
  ·exact (hal x (q0j h)).imp (fun q => List.mem_append_right _ (.tail _ q)) id
private theorem q6y {x : PySem.Str} {px : Pos} {elt : Expr} {ifs : List Expr} {l : List PV} {g : Nat → Option PV} (hx : ∀ L D,StOk (cEnv scope cl L env) (cOwn scope L ++ [D]) x) (hn : ρc.lookup x = none)
  (h : ∀ L D ys i p,l[i]? = some p → match g i with
   | none => TestsE prog w C (cOwn scope L ++ D :: mu) A (cEnv scope cl L env) ((x,p) :: ρc) ((D,Mlst ys) :: σ) ifs false
   | some z => TestsE prog w C (cOwn scope L ++ D :: mu) A (cEnv scope cl L env) ((x,p) :: ρc) ((D,Mlst ys) :: σ) ifs true ∧ PurE prog w C (cOwn scope L ++ D :: mu) A (cEnv scope cl L env) ((x,p) :: ρc) ((D,Mlst ys) :: σ) elt z) :
  q0w prog w C mu A env ρc σ (.Name x px) elt ifs scope cl l g:=fun L D ys i p hp =>
 ⟨(x,p) :: ρc,fun s v I y => q3a I (hx L D) y fun s' I' => I',fun y q e => by
  rw [List.lookup_cons]
  cases hb : y == x with
  | true => rw [eq_of_beq hb,hn] at e;cases e
  | false => exact e,h L D ys i p hp⟩
private theorem q2m {x : PySem.Str} {px : Pos} {elt : Expr} {l : List PV} {z : Nat → PV} (hx : ∀ L D,StOk (cEnv scope cl L env) (cOwn scope L ++ [D]) x) (hn : ρc.lookup x = none)
  (h : ∀ L D ys i p,l[i]? = some p → PurE prog w C (cOwn scope L ++ D :: mu) A (cEnv scope cl L env) ((x,p) :: ρc) ((D,Mlst ys) :: σ) elt (z i)) :
  q0w prog w C mu A env ρc σ (.Name x px) elt [] scope cl l (fun i => some (z i)):=
 q6y hx hn fun L D ys i p hp => ⟨q8l,h L D ys i p hp⟩
private theorem w0n {x : PySem.Str} {px : Pos} {elt : Expr} {l : List PV} {z : PV → PV} (hx : ∀ L D,StOk (cEnv scope cl L env) (cOwn scope L ++ [D]) x) (hn : ρc.lookup x = none)
  (h : ∀ L D ys (i : Nat) p,l[i]? = some p → PurE prog w C (cOwn scope L ++ D :: mu) A (cEnv scope cl L env) ((x,p) :: ρc) ((D,Mlst ys) :: σ) elt (z p)) :
  q0w prog w C mu A env ρc σ (.Name x px) elt [] scope cl l (fun i => l[i]?.map z):=
 q6y hx hn fun L D ys i p hp => by
  rw [hp]
  exact ⟨q8l,h L D ys i p hp⟩
private theorem w3x {α β : Type} (f : α → Option β) (l : List α) : (List.range l.length).filterMap (fun i => l[i]?.bind f) = l.filterMap f:=by
 induction l with
 | nil => rfl
 | cons a l ih =>
  rw [List.length_cons,List.range_succ_eq_map,List.filterMap_cons,List.filterMap_map,List.filterMap_cons]
  have e : (List.range l.length).filterMap ((fun i => (a :: l)[i]?.bind f) ∘ Nat.succ) = l.filterMap f:=by
   rw [← ih];rfl
  rw [e]
  rfl
private theorem w0u {α β : Type} (z : α → β) (l : List α) : (List.range l.length).filterMap (fun i => l[i]?.map z) = l.map z:=by
 have:=w3x (fun a => some (z a)) l
 rw [show l.filterMap (fun a => some (z a)) = l.map z by induction l <;> simp_all] at this
 rw [← this]
 congr 1
 funext i
 cases l[i]? <;> rfl
private theorem q2n {z : Nat → PV} (n : Nat) : (List.range n).filterMap (fun i => some (z i)) = (List.range n).map z:=by
 induction n with
 | zero => rfl
 | succ n ih => rw [List.range_succ,List.filterMap_append,List.map_append,ih];rfl
private theorem q4a {n i : Nat} {p : PV} (h : (rangeL 0 1 n)[i]? = some p) : i < n ∧ p = .int (i : Int):=by
 have hi : i < n:=by simpa [rangeL] using (List.getElem?_eq_some_iff.mp h).1
 simp [rangeL,hi] at h
 exact ⟨hi,h.symm⟩
private theorem q1m (n : Nat) : (rangeL 0 1 n).length = n:=by simp [rangeL]
end
end
end
section
open PySem PySem.W PySem.Calls PyProof.Rows
variable {prog : Program} {w : World}
section
variable {C : Cfg} {mu nu : List Addr} {s₀ s s' : Shared} {env : Env} {ρ : List (PySem.Str × PV)} {σ : List (Addr × MO)} {A : Around} {E : Value → Shared → Prop}
private theorem q9o {h : Heap} : ∀ {ns : List Int} {vs : List Value},Sims h mu (ns.map .int) vs → IntsAre vs ns
 | [],_,x => by cases (show _ = [] from x);exact .nil
 | n :: ns,_,⟨v,r,e,⟨t,hv⟩,z⟩ => by subst e hv;exact IntsAre.cons n t (q9o z)
private theorem q8v {h : Heap} : ∀ {vs : List Value} {ns : List Int},IntsAre vs ns → Sims h mu (ns.map .int) vs
 | _,_,.nil => rfl
 | _,_,.cons n t x => ⟨_,_,rfl,⟨t,rfl⟩,q8v x⟩
private theorem w0r {h : Heap} : ∀ {vs : List Value} {ns : List PySem.Str},StrsAre vs ns → Sims h mu (ns.map .str) vs
 | _,_,.nil => rfl
 | _,_,.cons n t x => ⟨_,_,rfl,⟨t,rfl⟩,w0r x⟩
private theorem w4m {h : Heap} : ∀ {ns : List Int} {vs : List Value},Sims h mu (ns.map .int) vs → ∃ xs : List (Int × Tok),xs.map (·.1) = ns ∧ vs = xs.map fun p => .int p.1 p.2
 | [],_,x => by cases (show _ = [] from x);exact ⟨[],rfl,rfl⟩
 | n :: ns,_,⟨v,r,e,⟨t,hv⟩,z⟩ => by
  obtain ⟨xs,h1,h2⟩:=w4m z
  subst e hv
  exact ⟨(n,t) :: xs,by rw [List.map_cons,h1],by rw [List.map_cons,h2]⟩
private theorem op_max {ns : List Int} {M : Int} (hA : A.handled = none) (hM : M ∈ ns) (hle : ∀ a ∈ ns,a ≤ M) : OpL prog w C mu A (fun vs => call (.builtin "max") vs) [.lst (ns.map .int)] (.int M):=fun s vs O hy => by
 obtain ⟨v,r,rfl,⟨b,ws,n,rfl,hb,ho,hv⟩,hr⟩:=hy
 cases (show r = [] from hr)
 obtain ⟨xs,rfl,rfl⟩:=w4m hv
 have hn : 0 < xs.length:=by
  have:=List.length_pos_of_mem hM
  rwa [List.length_map] at this
 intro Q E k
 refine max_intList (xs:=xs.toArray) hA ⟨_,ho,rfl,n,by simp [intItems]⟩ (by simpa using hn) fun v h' tk hv hk => ?_
 obtain ⟨t,rfl⟩:=intItems_at hv
 obtain ⟨h1,h2⟩:=argBest_gt (numAt xs.toArray) (xs.toArray.size - 1)
 have e : numAt xs.toArray (argBest (fun i j => decide (numAt xs.toArray i > numAt xs.toArray j)) (xs.toArray.size - 1)) = M:=by
  have hs : xs.toArray.size = xs.length:=rfl
  refine Int.le_antisymm (hle _ ?_) ?_
  ·have hl : argBest (fun i j => decide (numAt xs.toArray i > numAt xs.toArray j)) (xs.toArray.size - 1) < xs.length:=by omega
   generalize argBest (fun i j => decide (numAt xs.toArray i > numAt xs.toArray j)) (xs.toArray.size - 1) = i at hl
   exact List.mem_map.mpr ⟨xs[i]'hl,List.getElem_mem hl,by simp [numAt,hl]⟩
  ·obtain ⟨p,hp,e⟩:=List.mem_map.mp hM
   obtain ⟨j,hj,rfl⟩:=List.getElem_of_mem hp
   have:=h2 j (by lia)
   rw [← e]
   simpa [numAt,hj] using this
 rw [e]
 exact k _ _ (O.keep hk) (Kp.of_keep hk) ⟨t,rfl⟩
private theorem op_min2 {a b : Int} (hA : A.handled = none) : OpL prog w C mu A (fun vs => call (.builtin "min") vs) [.int a,.int b] (.int (if b < a then b else a)):=fun s vs O hy => by
 obtain ⟨v,r,rfl,⟨t,rfl⟩,v₂,r₂,rfl,⟨u,rfl⟩,hr⟩:=hy
 cases (show r₂ = [] from hr)
 intro Q E k
 refine min_two_ints hA fun h' tk hk => k _ _ (O.keep hk) (Kp.of_keep hk) ?_
 by_cases hc : b < a
 ·rw [if_pos hc,if_pos hc];exact ⟨u,rfl⟩
 ·rw [if_neg hc,if_neg hc];exact ⟨t,rfl⟩
private theorem w6c {l : List PV} {name : PySem.Str} (hn : name = PySem.Str.ofString "count") : Meth prog w C mu A (.lst l) name "list.count":=fun pl s v Q E O hv k => by
 obtain ⟨b,ws,n,rfl,hb,ho,hv⟩:=hv
 subst hn
 exact q4h PySem.F.slot_list_count PySem.F.type_list_count ho k
private theorem op_lcount {ns : List Int} {k : Int} : OpL prog w C mu A (fun vs => call (.builtin "list.count") vs) [.lst (ns.map .int),.int k] (.int (ns.count k : Nat)):=fun s vs O hy => by
 obtain ⟨v,r,rfl,⟨b,ws,n,rfl,hb,ho,hv⟩,v₂,r₂,rfl,⟨u,rfl⟩,hr⟩:=hy
 cases (show r₂ = [] from hr)
 exact Pur.here O fun Q E kk => count_list_ints ⟨_,ho,rfl,n,rfl⟩ (q9o hv) (kk _ _ ⟨_,rfl⟩)
private theorem Pur.sorted {z : List PV} {vs : List Value} {t : Sem Value} (O : Ok C mu s) (h : ∀ (Q : Value → Shared → Prop) (E : Value → Shared → Prop),(∀ out : Array Value,Sims s.heap mu z out.toList → Q (.ref (s.heap.objs.size + 1)) { s with heap:=sortedAll s.heap vs out }) → wpAny (model prog w) A t Q E s) : Pur prog w C mu A t (.lst z) s:=fun Q E k => by
 refine h Q E fun out hz => ?_
 have hk : ∀ c o,s.heap.get? c = some o → (sortedAll s.heap vs out).get? c = some o:=fun _ _ e => sortedAll_old e
 obtain ⟨n,hn⟩:=sortedAll_at s.heap vs out
 have hno : s.heap.get? (s.heap.objs.size + 1) = none:=by
  cases q : s.heap.get? (s.heap.objs.size + 1) with
  | none => rfl
  | some o => exact absurd (Heap.lt_size q) (Nat.not_lt_of_le (Nat.le_succ _))
 exact k _ _ (O.keep (tk:=s.toks) hk) (Kp.of_keep hk) ⟨_,out.toList,n,rfl,(O.fresh' hno).2,by rw [Array.toArray_toList];exact hn,hz.keeps (fun _ _ h _ => h) fun c o _ _ e => hk c o e⟩
noncomputable def srt (l : List Nat) : List Nat:=l.mergeSort (fun a b => decide (a ≤ b))
private theorem q1d (l : List Nat) : (srt l).Perm l:=List.mergeSort_perm ..
private theorem q3i (l : List Nat) : (srt l).Pairwise (· ≤ ·):=by
 have:=List.pairwise_mergeSort (le:=fun a b : Nat => decide (a ≤ b)) (by simp;exact fun a b c => Nat.le_trans) (by simp;exact fun a b => Nat.le_total a b) l
 simpa [srt] using this
private theorem srt_eq {l l' : List Nat} (p : l'.Perm l) (h : l'.Pairwise (· ≤ ·)) : l' = srt l:=
 List.Perm.eq_of_pairwise (fun _ _ _ _ a b => Nat.le_antisymm a b) h (q3i l) (p.trans (q1d l).symm)
noncomputable abbrev natPV (n : Nat) : PV:=.int (n : Int)
private theorem w2k {ns : List Nat} (h64 : ns.length < 64) : OpL prog w C mu A (fun vs => call (.builtin "sorted") vs) [.lst (ns.map natPV)] (.lst ((srt ns).map natPV)):=fun s vs O hy => by
 obtain ⟨v,r,rfl,⟨b,ws,n,rfl,hb,ho,hv⟩,hr⟩:=hy
 cases (show r = [] from hr)
 have hm : ∀ l : List Nat,l.map natPV = (l.map fun n : Nat => (n : Int)).map .int:=fun l => by rw [List.map_map];rfl
 refine Pur.sorted (vs:=ws) O fun Q E k => ?_
 rw [hm] at hv
 refine sorted_ints ⟨_,ho,rfl,n,rfl⟩ (q9o hv) (by rw [hv.length];simpa using h64) fun out ns' h1 h2 h3 => ?_
 obtain ⟨ms,hp,rfl⟩ : ∃ ms : List Nat,ms.Perm ns ∧ ns' = ms.map fun n : Nat => (n : Int):=by
  refine ⟨ns'.map Int.toNat,?_,?_⟩
  ·have:=h2.map Int.toNat
   rw [List.map_map] at this
   have e : (Int.toNat ∘ fun n : Nat => (n : Int)) = id:=by funext n;simp
   rwa [e,List.map_id] at this
  ·rw [List.map_map]
   have : ∀ x ∈ ns',((fun n : Nat => (n : Int)) ∘ Int.toNat) x = x:=fun x hx => by
    obtain ⟨n,_,rfl⟩:=List.mem_map.mp (h2.mem_iff.mp hx)
    simp
   exact (List.map_congr_left this |>.trans (List.map_id _)).symm
 have : ms.Pairwise (· ≤ ·):=by
  rw [List.pairwise_map] at h3
  exact h3.imp fun h => by lia
 have e:=srt_eq hp this
 subst e
 exact k out (hm _ ▸ q8v h1)
noncomputable abbrev dots (n : Nat) : PySem.Str:=⟨(List.replicate n 46).toArray⟩
noncomputable abbrev dotPV (n : Nat) : PV:=.str (dots n)
private theorem dots_inj {a b : Nat} (h : dots a = dots b) : a = b:=by
 have:=congrArg (fun x : PySem.Str => x.cps.size) h
 simpa using this
private theorem lt_dots : ∀ a b : Nat,PySem.Spec.ltCps (List.replicate a 46) (List.replicate b 46) = decide (a < b)
 | 0,0 => rfl
 | 0,b + 1 => by rw [List.replicate_succ];simp [PySem.Spec.ltCps]
 | a + 1,0 => by rw [List.replicate_succ];simp [PySem.Spec.ltCps]
 | a + 1,b + 1 => by
  rw [List.replicate_succ,List.replicate_succ]
  simp [PySem.Spec.ltCps,lt_dots a b]
private theorem q8x : ∀ (r : List Nat) (p : Nat),risingS (dots p) (r.map dots) = true → (∀ x ∈ r,p ≤ x) ∧ r.Pairwise (· ≤ ·)
 | [],_,_ => ⟨fun _ h => (nomatch h),.nil⟩
 | x :: r,p,h => by
  rw [List.map_cons] at h
  have h' : (!PySem.Spec.ltCps (List.replicate x 46) (List.replicate p 46) && risingS (dots x) (r.map dots)) = true:=h
  rw [lt_dots,Bool.and_eq_true] at h'
  obtain ⟨h1,h2⟩:=h'
  obtain ⟨h3,h4⟩:=q8x r x h2
  have h5 : p ≤ x:=by simpa using h1
  exact ⟨fun y hy => by rcases List.mem_cons.mp hy with rfl | hy;exact h5;exact Nat.le_trans h5 (h3 y hy),.cons h3 h4⟩
private theorem q5m {ns : List Nat} (h64 : ns.length < 64) : OpL prog w C mu A (fun vs => call (.builtin "sorted") vs) [.lst (ns.map dotPV)] (.lst ((srt ns).map dotPV)):=fun s vs O hy => by
 obtain ⟨v,r,rfl,⟨b,ws,n,rfl,hb,ho,hv⟩,hr⟩:=hy
 cases (show r = [] from hr)
 have hm : ∀ l : List Nat,l.map dotPV = (l.map dots).map .str:=fun l => by rw [List.map_map];rfl
 refine Pur.sorted (vs:=ws) O fun Q E k => ?_
 rw [hm] at hv
 refine sorted_strs ⟨_,ho,rfl,n,rfl⟩ (q3r hv) (by rw [hv.length];simpa using h64) fun out ns' h1 h2 h3 => ?_
 obtain ⟨ms,hp,rfl⟩ : ∃ ms : List Nat,ms.Perm ns ∧ ns' = ms.map dots:=by
  refine ⟨ns'.map fun x => x.cps.size,?_,?_⟩
  ·have:=h2.map fun x => x.cps.size
   rw [List.map_map] at this
   have e : ((fun x : PySem.Str => x.cps.size) ∘ dots) = id:=by funext n;simp
   rwa [e,List.map_id] at this
  ·rw [List.map_map]
   have : ∀ x ∈ ns',(dots ∘ fun x => x.cps.size) x = x:=fun x hx => by
    obtain ⟨n,_,rfl⟩:=List.mem_map.mp (h2.mem_iff.mp hx)
    simp
   exact (List.map_congr_left this |>.trans (List.map_id _)).symm
 have : ms.Pairwise (· ≤ ·):=by
  cases ms with
  | nil => exact .nil
  | cons x r => obtain ⟨h4,h5⟩:=q8x r x h3;exact .cons h4 h5
 have e:=srt_eq hp this
 subst e
 exact k out (hm _ ▸ w0r h1)
end
end
section
open PySem PySem.W PySem.Calls PyProof.Rows
variable {prog : Program} {w : World}
section
variable {C : Cfg} {mu nu : List Addr} {s₀ s s' : Shared} {env : Env} {ρ : List (PySem.Str × PV)} {σ : List (Addr × MO)} {A : Around} {E : Value → Shared → Prop}
noncomputable def flat : PV → Bool
 | .int _ => true
 | .str _ => true
 | .bool _ => true
 | _ => false
private theorem eq_flat {p : PV} (hp : flat p = true) {h : Heap} {v u : Value} (x : Sim h mu p v) (y : Sim h mu p u) : SeqAt.EqAt A s v u true:=by
 cases p with
 | int i => obtain ⟨t,rfl⟩:=x;obtain ⟨t',rfl⟩:=y;have:=SeqAt.EqAt.int_int (A:=A) (s:=s) i t i t';rwa [beq_self_eq_true] at this
 | str i => obtain ⟨t,rfl⟩:=x;obtain ⟨t',rfl⟩:=y;have:=SeqAt.EqAt.str_str (A:=A) (s:=s) i t i t';rwa [beq_self_eq_true] at this
 | bool i => cases (show v = .bool i from x);cases (show u = .bool i from y);have:=SeqAt.EqAt.bool_bool (A:=A) (s:=s) i i;rwa [beq_self_eq_true] at this
 | _ => cases hp
private theorem w2z {h : Heap} : ∀ {l : List PV} (hl : l.all flat = true) {vs us : List Value} (x : Sims h mu l vs) (y : Sims h mu l us) (j : Nat) (h1 : j < vs.toArray.size) (h2 : j < us.toArray.size),SeqAt.EqAt A s vs.toArray[j] us.toArray[j] true
 | [],_,_,_,x,_,j,h1,_ => by cases (show _ = [] from x);exact absurd h1 (Nat.not_lt_zero _)
 | p :: l,hl,_,_,⟨v,r,e,x,xs⟩,⟨u,t,e2,y,ys⟩,j,h1,h2 => by
  subst e e2
  rw [List.all_cons,Bool.and_eq_true] at hl
  cases j with
  | zero => exact eq_flat hl.1 x y
  | succ j => exact w2z hl.2 xs ys j (Nat.lt_of_succ_lt_succ h1) (Nat.lt_of_succ_lt_succ h2)
private theorem w8q : ∀ n : Nat,(List.range n).all (fun _ => true) = true:=fun n => by simp
private theorem op_eq_same {l : List PV} (hl : l.all flat = true) (hu : A.units < cLine) : Op2 prog w C mu A (compareOp .Eq) (.lst l) (.lst l) (.bool true):=fun s a b O ha hb => by
 obtain ⟨x,vs,n,rfl,hx,ho,hv⟩:=ha
 obtain ⟨y,ws,n2,rfl,hy,ho2,hw⟩:=hb
 refine Pur.here O fun Q E k => ?_
 refine SeqAt.eq_listAt (e:=fun _ => true) ⟨_,ho,rfl,n,rfl⟩ ⟨_,ho2,rfl,n2,rfl⟩ (by simp [hv.length,hw.length]) hu (w2z hl hv hw) ?_
 rw [w8q]
 exact k _ s.toks rfl
private theorem w0x {l : List PV} (hl : l.all flat = true) (hu : A.units < cLine) : Op2 prog w C mu A (compareOp .NotEq) (.lst l) (.lst l) (.bool false):=fun s a b O ha hb => by
 obtain ⟨x,vs,n,rfl,hx,ho,hv⟩:=ha
 obtain ⟨y,ws,n2,rfl,hy,ho2,hw⟩:=hb
 refine Pur.here O fun Q E k => ?_
 refine SeqAt.RcNeAt.lists (s:=s) (A:=A) (e:=fun _ => true) ⟨_,ho,rfl,n,rfl⟩ ⟨_,ho2,rfl,n2,rfl⟩ (by simp [hv.length,hw.length]) hu (w2z hl hv hw) prog w E Q ?_
 rw [w8q]
 exact k _ s.toks rfl
private theorem eq_pair {h : Heap} {a b c d : PySem.Str} {v u : Value} (hs : s.heap = h) (hu : A.units < cLine) (x : Sim h mu (pairPV (a,b)) v) (y : Sim h mu (pairPV (c,d)) u) : SeqAt.EqAt A s v u ((a == c) && (b == d)):=by
 subst hs
 obtain ⟨a1,vs,n,rfl,_,ho,v₁,r,rfl,⟨t1,rfl⟩,v₂,r₂,rfl,⟨t2,rfl⟩,hr⟩:=x
 cases (show r₂ = [] from hr)
 obtain ⟨a2,vs,m,rfl,_,ho2,v₁,r,rfl,⟨u1,rfl⟩,v₂,r₂,rfl,⟨u2,rfl⟩,hr⟩:=y
 cases (show r₂ = [] from hr)
 by_cases q : a1 = a2
 ·subst q
  rw [ho] at ho2
  cases ho2
  rw [show (((a,b).1 == (a,b).1) && ((a,b).2 == (a,b).2)) = true by simp]
  exact SeqAt.EqAt.same _
 ·have e:=SeqAt.RcAt.tuples (s:=s) (A:=A) (e:=fun j => if j = 0 then a == c else b == d) (⟨_,ho,rfl,n,rfl⟩ : s.heap.IsTuple a1 #[.str a t1,.str b t2]) (⟨_,ho2,rfl,m,rfl⟩ : s.heap.IsTuple a2 #[.str c u1,.str d u2]) hu (fun j h1 h2 => by
   match j,h1 with
   | 0,_ => exact SeqAt.EqAt.str_str _ _ _ _
   | 1,_ => exact SeqAt.EqAt.str_str _ _ _ _)
  have e2 : ((List.range (min 2 2)).all (fun j => if j = 0 then a == c else b == d) && (2 == 2)) = ((a == c) && (b == d)):=by simp [List.range,List.range.loop]
  exact SeqAt.EqAt.of_refs q (e2 ▸ e)
private theorem w7m {h : Heap} {p q : PySem.Str × PySem.Str} {v : Value} (x : Sim h mu (pairPV p) v) (y : Sim h mu (pairPV q) v) : p = q:=by
 obtain ⟨p1,p2⟩:=p
 obtain ⟨q1,q2⟩:=q
 obtain ⟨a1,vs,n,rfl,_,ho,v₁,r,rfl,⟨t1,rfl⟩,v₂,r₂,rfl,⟨t2,rfl⟩,hr⟩:=x
 cases (show r₂ = [] from hr)
 obtain ⟨a2,vs,m,e0,_,ho2,v₁,r,rfl,⟨u1,rfl⟩,v₂,r₂,rfl,⟨u2,rfl⟩,hr⟩:=y
 cases (show r₂ = [] from hr)
 cases e0
 rw [ho] at ho2
 cases ho2
 rfl
private theorem w2c {h : Heap} : ∀ {l : List PV} {vs : List Value},Sims h mu l vs → ∀ y ∈ vs,∃ p ∈ l,Sim h mu p y
 | [],_,x,y,hy => by cases (show _ = [] from x);cases hy
 | p :: l,_,⟨v,r,e,x,xs⟩,y,hy => by
  subst e
  rcases List.mem_cons.mp hy with rfl | hy
  ·exact ⟨p,.head _,x⟩
  ·obtain ⟨q,h1,h2⟩:=w2c xs y hy
   exact ⟨q,.tail _ h1,h2⟩
private theorem w7u {h : Heap} : ∀ {l : List PV} {vs : List Value},Sims h mu l vs → ∀ p ∈ l,∃ y ∈ vs,Sim h mu p y
 | [],_,x,p,hp => nomatch hp
 | q :: l,_,⟨v,r,e,x,xs⟩,p,hp => by
  subst e
  rcases List.mem_cons.mp hp with rfl | hp
  ·exact ⟨v,.head _,x⟩
  ·obtain ⟨y,h1,h2⟩:=w7u xs p hp
   exact ⟨y,.tail _ h1,h2⟩
private theorem q9i {l : List (PySem.Str × PySem.Str)} {p : PySem.Str × PySem.Str} (hu : A.units + 1 < cLine) : Op2 prog w C mu A (compareOp .In) (pairPV p) (.lst (l.map pairPV)) (.bool (l.contains p)):=fun s a b O ha hb => by
 obtain ⟨y,ws,n,rfl,hy,ho,hw⟩:=hb
 refine Pur.here O fun Q E k => ?_
 classical
 refine SeqAt.in_listAt (e:=fun v => decide (∃ q,Sim s.heap mu (pairPV q) v ∧ q = p)) ⟨_,ho,rfl,n,rfl⟩ (fun v hv => ?_) ?_
 ·obtain ⟨q,hq,hs⟩:=w2c hw v (by simpa using hv)
  obtain ⟨q,_,rfl⟩:=List.mem_map.mp hq
  have:=eq_pair (A:=A.in1) (s:=s) (a:=q.1) (b:=q.2) (c:=p.1) (d:=p.2) rfl (by simpa [Around.in1] using hu) hs ha
  refine (congrArg (SeqAt.EqAt A.in1 s v a) ?_).mp this
  by_cases e : q = p
  ·subst e
   rw [show ((q.1 == q.1) && (q.2 == q.2)) = true by simp]
   exact (decide_eq_true ⟨q,hs,rfl⟩).symm
  ·rw [show ((q.1 == p.1) && (q.2 == p.2)) = false by
    rw [Bool.eq_false_iff]
    intro h
    rw [Bool.and_eq_true,beq_iff_eq,beq_iff_eq] at h
    exact e (Prod.ext h.1 h.2)]
   refine (decide_eq_false ?_).symm
   rintro ⟨q',h1,rfl⟩
   exact e (w7m hs h1)
 ·refine (congrArg (fun b => Q (.bool b) s) ?_).mpr (k _ s.toks rfl)
  rw [Bool.eq_iff_iff,List.contains_iff_mem]
  simp only [List.any_toArray,List.any_eq_true,decide_eq_true_eq]
  constructor
  ·rintro ⟨v,hv,q,h1,rfl⟩
   obtain ⟨q',hq,hs⟩:=w2c hw v hv
   obtain ⟨q',hq',rfl⟩:=List.mem_map.mp hq
   rw [w7m h1 hs]
   exact hq'
  ·intro hp
   obtain ⟨v,hv,hs⟩:=w7u hw (pairPV p) (List.mem_map_of_mem hp)
   exact ⟨v,hv,p,hs,rfl⟩
end
end
section
open PySem PySem.W PySem.Calls PyProof.Rows
variable {prog : Program} {w : World}
section
variable {C : Cfg} {mu nu : List Addr} {s₀ s s' : Shared} {env : Env} {ρ ρ₁ : List (PySem.Str × PV)} {σ σ₁ : List (Addr × MO)} {A : Around} {E : Value → Shared → Prop}
noncomputable def XE (prog : Program) (w : World) (C : Cfg) (mu nu : List Addr) (A : Around) (env : Env) (ρ : List (PySem.Str × PV)) (σ : List (Addr × MO)) (s₀ : Shared) (e : Expr) (p : PV) (s : Shared) : Prop:=
 ∀ (Q : Value → Shared → Prop) (E : Value → Shared → Prop),(∀ v s',In C mu nu env ρ σ s₀ s' → Sim s'.heap mu p v → Q v s') → wpAny (model prog w) A (eval e env) Q E s
private theorem XE.item {value slice : Expr} {pos : Pos} {l : List PV} {j : Nat} {p : PV} (hv : XE prog w C mu nu A env ρ σ s₀ value (.lst l) s) (hi : PurE prog w C mu A env ρ σ slice (.int j)) (hx : l[j]? = some p) (hsz : l.length < 2 ^ 63)
  (hs : autoParam (∀ o i,subscripted slice false o i = operate [o,i] (getItem o i)) tR) : XE prog w C mu nu A env ρ σ s₀ (.Subscript value slice pos) p s:=fun Q E k =>
 Subscript_ (hv _ _ fun v s₁ I₁ y₁ => hi s₁ I₁.ok I₁.act _ _ fun u s₂ O₂ k₂ y₂ => by
  obtain ⟨x,vs,n,rfl,hm,ho,hvs⟩:=y₁.kp0 I₁.ok k₂
  obtain ⟨t,rfl⟩:=y₂
  obtain ⟨z,e1,e2⟩:=hvs.get j p hx
  have hlt:=(List.getElem?_eq_some_iff.mp hx).1
  have hl : s₂.heap.IsList x vs.toArray:=⟨_,ho,rfl,n,rfl⟩
  exact tail_any hl.typeIs slot_list_getitem.lookup (wpAny_getItem_list hl (by lia) (by lia) (by simpa using e1) (k z s₂ (I₁.next O₂ k₂) e2)) (hs _ _))
private theorem XE.meth {o e : Expr} {es : List Expr} {name : PySem.Str} {id : String} {apos pos : Pos} {p z : PV} {ps : List PV} {pl : Sem Bool} (ho : XE prog w C mu nu A env ρ σ s₀ o p s) (hm : Meth prog w C mu A p name id) (ha : PurEs prog w C mu A env ρ σ (e :: es) ps)
  (hc : OpL prog w C mu A (fun vs => call (.builtin id) vs) (p :: ps) z)
  (he : autoParam (eval (.Call (.Attribute o name apos) (e :: es) [] pos) env = (do let ov ← eval o env;standAt apos.atName;let __x ← holding [ov] (getMethod ov name pl);match __x with | (f,first) => callWith pos f first (backTo pos (starEach (e :: es) env)) [])) tR)
  (hs : autoParam (starEach (e :: es) env = (false,eval e env) :: starEach es env) tR) (hplain : autoParam ((backTo pos (starEach es env)).any (·.1) = false) tR) : XE prog w C mu nu A env ρ σ s₀ (.Call (.Attribute o name apos) (e :: es) [] pos) z s:=fun Q E k =>
 MethodCall_ (pl:=pl) (ho _ _ fun v s₁ I₁ y₁ => hm pl s₁ v _ _ I₁.ok y₁ (callWith_method1 (ha pos s₁ I₁.ok I₁.act _ _ fun vs s₂ O₂ k₂ y₂ =>
  hc s₂ (v :: vs) O₂ ⟨v,vs,rfl,y₁.kp0 I₁.ok k₂,y₂⟩ _ _ fun v' s' O' k' y' => k v' s' (I₁.next O' (k₂.trans k')) y') hs hplain)) he
private theorem XE.binop {l r : Expr} {op : Operator} {pos : Pos} {p q : PV} {z : List PV} (hl : XE prog w C mu nu A env ρ σ s₀ l p s) (hr : PurE prog w C mu A env ρ σ r q) (ho : Op2N prog w C mu A (binaryOp op) p q z) : XE prog w C mu nu A env ρ σ s₀ (.BinOp l op r pos) (.lst z) s:=fun Q E k =>
 wpAny_BinOp (hl _ _ fun v s₁ I₁ y₁ => hr s₁ I₁.ok I₁.act _ _ fun u s₂ O₂ k₂ y₂ => (ho s₂ v u O₂ (y₁.kp0 I₁.ok k₂) y₂).pur O₂ _ _ fun v' s' O' k' y' => k v' s' (I₁.next O' (k₂.trans k')) y')
private theorem XE.call1 {x : PySem.Str} {id : String} {px pos : Pos} {e : Expr} {p z : PV} (I : In C mu nu env ρ₁ σ₁ s₀ s) (hf : PurE prog w C mu A env ρ₁ σ₁ (.Name x px) (.val (.builtin id))) (hx : ∀ s,In C mu nu env ρ₁ σ₁ s₀ s → XE prog w C mu nu A env ρ σ s₀ e p s)
  (ho : OpL prog w C mu A (fun vs => call (.builtin id) vs) [p] z) (he : autoParam (∀ env,starEach [e] env = (false,eval e env) :: starEach [] env) tR)
  (hplain : autoParam ((backTo pos (starEach [] env)).any (·.1) = false) tR) : XE prog w C mu nu A env ρ σ s₀ (.Call (.Name x px) [e] [] pos) z s:=fun Q E k =>
 Call_ (hf s I.ok I.act _ _ fun v s₁ O₁ k₁ y₁ => by
  cases (show v = .builtin id from y₁)
  refine PyProof.Rows.callWith_builtin1 ?_ (he env) hplain
  rw [he]
  exact spliced_cons (hx s₁ (I.next O₁ k₁) _ _ fun v s₂ I₂ y₂ => spliced_nil (ho s₂ [v] I₂.ok ⟨v,[],rfl,y₂,rfl⟩ _ _ fun v' s' O' k' y' => k v' s' (I₂.next O' k') y')))
private theorem XE.comp {elt target iter : Expr} {ifs : List Expr} {scope : Scope} {pos : Pos} {cl : List (PySem.Str × Addr)} {ρc : List (PySem.Str × PV)} {p : PV} {l : List PV} {g : Nat → Option PV} (hS : CompSide scope env cl ρ ρc)
  (hA : A.handled = none) (hx : XE prog w C mu nu A env ρ σ s₀ iter p s) (hi : OpIter prog w C mu p l)
  (hturn : q0w prog w C mu A env ρc σ target elt ifs scope cl l g) (hsz : l.length ≤ 2 ^ 20) (hs : autoParam (∀ x,foldedSetIterable iter env x = pure x) tR) :
  XE prog w C mu nu A env ρ σ s₀ (.ListComp elt [⟨target,iter,ifs,0⟩] scope pos) (.lst ((List.range l.length).filterMap g)) s:=fun Q E k => by
 rw [eval_ListComp]
 refine w1p (use:=none) hA (IterI.ofX hA hi hx) hS.clos hS.kind hS.n hS.mem hS.c hS.i hS.r hturn hsz (fun sB D L s₁ I O₁ k₁ hD hm hL hLD hLmu hns => ?_) hs
 obtain ⟨m,hns⟩:=hns
 refine ⟨m,hns,fun h' hsb => ?_⟩
 have hn:=Ns.noSeq hns
 have hf:=I.ok.fresh' hL
 have hbut : ∀ b o,b ≠ L → s₁.heap.get? b = some o → h'.get? b = some o:=fun b o hb e => hsb.extBut b o hb e
 have O₂ : Ok C mu { s₁ with heap:=h',toks:=s₁.toks }:=O₁.butD hbut hn hLmu hf.1 (I.ok.unborn hL)
 obtain ⟨vs,n,ho,hv⟩:=hm
 exact k _ _ (I.next O₂ ⟨fun b o hb htb e => hbut b o (fun q => by rw [q,hL] at e;cases e) (k₁.keep b o hb htb e)⟩) ⟨D,vs,n,rfl,(I.ok.fresh' hD).2,hbut _ _ (Ne.symm hLD) ho,(hv.keepsD hbut hn).sub fun _ h => .tail _ h⟩
end
end
section
open PySem PySem.Sre
noncomputable def iter : Nat → M → M
 | 0,m => m
 | k + 1,m => iter k m.step
private theorem w3t {m : M} (h : m.outcome.isSome = true) : m.step = m:=by unfold M.step;rw [if_pos h]
private theorem q4u {m : M} (h : m.outcome.isSome = true) : ∀ k,iter k m = m
 | 0 => rfl
 | k + 1 => by rw [iter,w3t h];exact q4u h k
private theorem q6o (a b : Nat) (m : M) : iter (a + b) m = iter b (iter a m):=by
 induction a generalizing m with
 | zero => simp [iter]
 | succ a ih => rw [show a + 1 + b = (a + b) + 1 by lia];exact ih m.step
private theorem q8w : ∀ (k : Nat) (m : M),M.runFor k m = iter k m
 | 0,_ => rfl
 | k + 1,m => by
  unfold M.runFor iter
  by_cases h : m.outcome.isSome = true
  ·rw [if_pos h,w3t h,q4u h]
  ·rw [if_neg h];exact q8w k m.step
noncomputable def Goes (k : Nat) (m m' : M) : Prop:=∃ j,j ≤ k ∧ iter j m = m'
private theorem Goes.refl {m : M} : Goes 0 m m:=⟨0,Nat.le_refl _,rfl⟩
private theorem Goes.trans {a b : Nat} {m m' m'' : M} (x : Goes a m m') (y : Goes b m' m'') : Goes (a + b) m m'':=by
 obtain ⟨i,h1,h2⟩:=x
 obtain ⟨j,h3,h4⟩:=y
 exact ⟨i + j,by lia,by rw [q6o,h2,h4]⟩
private theorem Goes.one {m m' : M} (h : m.step = m') : Goes 1 m m':=⟨1,Nat.le_refl _,h⟩
private theorem Goes.cons {k : Nat} {m m' m'' : M} (h : m.step = m') (y : Goes k m' m'') : Goes (k + 1) m m'':=Nat.add_comm 1 k ▸ (Goes.one h).trans y
private theorem Goes.mono {a b : Nat} {m m' : M} (x : Goes a m m') (h : a ≤ b) : Goes b m m':=let ⟨j,h1,h2⟩:=x;⟨j,Nat.le_trans h1 h,h2⟩
section
variable {M' : Model} {A : Around} {E : Value → Shared → Prop} {s : Shared}
open PySem.Builtin.Re
private theorem w8i {m' : Sre.M} {Q : Sre.M → Shared → Prop} (hm : m'.outcome.isSome = true) (hQ : Q m' s) : ∀ (t k : Nat) (m : Sre.M),iter k m = m' → k ≤ 4 * t → 0 < t → wpAny M' A (reDrive t m) Q E s
 | 0,_,_,_,_,h => by lia
 | t + 1,k,m,h,hk,_ => by
  unfold reDrive
  show wpAny M' A (if (M.runFor 4 m).outcome.isSome then pure (M.runFor 4 m) else do rule "sre.turn";reDrive t (M.runFor 4 m)) Q E s
  rw [q8w]
  by_cases ho : (iter 4 m).outcome.isSome = true
  ·rw [if_pos ho]
   have : iter 4 m = m':=by
    by_cases h4 : k ≤ 4
    ·rw [show 4 = k + (4 - k) by with_reducible exact nc4,q6o,h,q4u hm]
    ·rw [show k = 4 + (k - 4) by lia,q6o,q4u ho] at h
     exact h
   rw [this]
   exact wpAny_pure hQ
  ·rw [if_neg ho]
   have h4 : 4 < k:=by
    apply Nat.lt_of_not_le
    intro h4
    apply ho
    rw [show 4 = k + (4 - k) by with_reducible exact nc4,q6o,h,q4u hm]
    exact hm
   refine wpAny_bind (wpAny_rule ?_)
   refine w8i hm hQ t (k - 4) _ ?_ (by lia) (by lia)
   rw [← q6o,show 4 + (k - 4) = k by lia]
   exact h
private theorem rules_wp {α : Type} {t : Sem α} {Q : α → Shared → Prop} {f : Nat → Bool} {g : Nat → String} (h : wpAny M' A t Q E s) (l : List Nat) : wpAny M' A (do
  for i in l do
   if f i then rule (g i)
  t) Q E s:=by
 refine wpAny_bind ?_
 have : ∀ l : List Nat,wpAny M' A (forIn l PUnit.unit fun i _ => if f i = true then do rule (g i);pure (ForInStep.yield PUnit.unit) else pure (ForInStep.yield PUnit.unit)) (fun _ s' => wpAny M' A t Q E s') E s:=by
  intro l
  induction l with
  | nil => exact wpAny_pure h
  | cons i l ih =>
   rw [List.forIn_cons]
   refine wpAny_bind ?_
   by_cases hf : f i = true
   ·rw [if_pos hf]
    exact wpAny_bind (wpAny_rule (wpAny_pure ih))
   ·rw [if_neg hf]
    exact wpAny_pure ih
 exact this l
private theorem run_wp {m m' : Sre.M} {k : Nat} {Q : Option Sre.M → Shared → Prop} (h : Goes k m m') (hk : k ≤ 2 ^ 60) (hm : (m'.outcome = some .matched ∧ Q (some m') s) ∨ (m'.outcome = some .failed ∧ Q none s)) : wpAny M' A (reRunToEnd m) Q E s:=by
 obtain ⟨j,h1,h2⟩:=h
 unfold reRunToEnd
 have ho : m'.outcome.isSome = true:=by rcases hm with ⟨h,_⟩ | ⟨h,_⟩ <;> rw [h] <;> rfl
 refine wpAny_bind (w8i ho ?_ _ j m h2 (by lia) (by decide))
 refine rules_wp (t:=match m'.outcome with
  | some .matched => pure (some m')
  | some .failed => pure none
  | some (.stuck why) => unsupported s!"_sre:{why}"
  | none => unsupported "internal:sre:no-outcome") (f:=m'.seen.has) (g:=fun i => Sre.names.getD i "") ?_ _
 rcases hm with ⟨h,q⟩ | ⟨h,q⟩
 ·rw [h];exact wpAny_pure q
 ·rw [h];exact wpAny_pure q
end
end
section
open PySem PySem.Sre
noncomputable def c1 : Array Nat:=#[14,4,0,1,1,6,1,16,46,1]
noncomputable def fr (pc p : Nat) (first : Bool) : Sre.Frame:={ wait:=.nextStart,pc:=pc,pos:=p,outermost:=first }
noncomputable def m1 (text : Array Nat) (p : Nat) (first : Bool) (seen : Seen) (st : Nat) : M:=
 { code:=c1,text:=text,lim:=text.size,start:=p,lastStart:=text.size,pc:=5,pos:=p,handed:=p,outermost:=first,marks:=#[],frames:=[fr 5 p first],weight:=1,seen:=seen }
noncomputable def atB (text : Array Nat) (p : Nat) : Bool:=p == 0 || text.getD (p - 1) 0 == 10
private theorem m1_at (text : Array Nat) (p : Nat) (first : Bool) (seen : Seen) (st : Nat) :
  (m1 text p first seen st).step = if atB text p then { m1 text p first ((seen.add 6).add 44) st with pc:=7 } else { m1 text p first ((seen.add 6).add 44) st with answer:=some false }:=by
 rfl
private theorem m1_lit (text : Array Nat) (p : Nat) (first : Bool) (seen : Seen) (st : Nat) :
  ({ m1 text p first seen st with pc:=7 } : M).step = if p ≥ text.size then { m1 text p first (seen.add 16) st with pc:=7,answer:=some false } else
   if text.getD p 0 == 46 then { m1 text p first (seen.add 16) st with pc:=9,pos:=p + 1 } else { m1 text p first (seen.add 16) st with pc:=7,answer:=some false }:=by
 show (if p ≥ text.size then _ else match accepts c1 7 (text.getD p 0) _ with | .error why => _ | .ok (false,seen) => _ | .ok (true,seen) => _) = _
 by_cases h : p ≥ text.size
 ·rw [if_pos h,if_pos h];rfl
 ·rw [if_neg h,if_neg h]
  show (match (Except.ok (text.getD p 0 == 46,seen.add 16) : Except String (Bool × Seen)) with | .error why => _ | .ok (false,seen) => _ | .ok (true,seen) => _) = _
  cases text.getD p 0 == 46 <;> rfl
private theorem m1_fail (text : Array Nat) (p : Nat) (first : Bool) (seen : Seen) (st pc : Nat) (hl : text.size < 2 ^ 24) :
  ({ m1 text p first seen st with pc:=pc,answer:=some false } : M).step = if p < text.size then m1 text (p + 1) false seen st else { m1 text p first seen st with frames:=[],weight:=0,answer:=some false }:=by
 show (if p < text.size then _ else _) = _
 by_cases h : p < text.size
 ·rw [if_pos h,if_pos h];rfl
 ·rw [if_neg h,if_neg h];rfl
private theorem m1_succ (text : Array Nat) (p : Nat) (first : Bool) (seen : Seen) (st : Nat) :
  iter 3 ({ m1 text p first seen st with pc:=9,pos:=p + 1 } : M) = { m1 text p first (seen.add 1) st with pc:=5,pos:=p,handed:=p + 1,frames:=[],weight:=0,answer:=some true,outcome:=some .matched }:=by
 cases first <;> rfl
noncomputable def q0v (text : Array Nat) (p : Nat) : Option Nat:=
 if p < text.size then (if atB text p && text.getD p 0 == 46 then some p else q0v text (p + 1)) else none
termination_by text.size - p
private theorem m1_goes (text : Array Nat) (hl : text.size < 2 ^ 24) (st : Nat) : ∀ (k p : Nat) (first : Bool) (seen : Seen),text.size - p = k → p ≤ text.size → ∃ m',Goes (5 * k + 5) (m1 text p first seen st) m' ∧
  match q0v text p with | some q => m'.outcome = some .matched ∧ m'.start = q ∧ m'.handed = q + 1 | none => m'.outcome = some .failed:=by
 intro k
 induction k using Nat.strongRecOn with
 | ind k IH =>
  intro p first seen hk hp
  have fails : ∀ (seen : Seen) (pc : Nat),(p < text.size → q0v text p = q0v text (p + 1)) → ∃ m',Goes (5 * k + 2) ({ m1 text p first seen st with pc:=pc,answer:=some false } : M) m' ∧
    match q0v text p with | some q => m'.outcome = some .matched ∧ m'.start = q ∧ m'.handed = q + 1 | none => m'.outcome = some .failed:=fun seen pc hn => by
   have h1:=m1_fail text p first seen st pc hl
   by_cases hlt : p < text.size
   ·rw [if_pos hlt] at h1
    obtain ⟨m',g,r⟩:=IH (k - 1) (by with_reducible exact na2) (p + 1) false seen (by with_reducible exact na1) (by lia)
    rw [hn hlt]
    exact ⟨m',(Goes.cons h1 g).mono (by with_reducible exact ng1),r⟩
   ·rw [if_neg hlt] at h1
    refine ⟨_,(Goes.cons h1 (Goes.one rfl)).mono (by lia),?_⟩
    unfold q0v
    rw [if_neg hlt]
    rfl
  have h1:=m1_at text p first seen st
  by_cases ha : atB text p = true
  ·rw [if_pos ha] at h1
   have h2:=m1_lit text p first ((seen.add 6).add 44) st
   by_cases hlt : p ≥ text.size
   ·rw [if_pos hlt] at h2
    obtain ⟨m',g,r⟩:=fails _ 7 (fun h => absurd h (by lia))
    exact ⟨m',(Goes.cons h1 (Goes.cons h2 g)).mono (by lia),r⟩
   ·rw [if_neg hlt] at h2
    by_cases hd : (text.getD p 0 == 46) = true
    ·rw [if_pos hd] at h2
     refine ⟨_,(Goes.cons h1 (Goes.cons h2 ⟨3,Nat.le_refl _,m1_succ text p first _ st⟩)).mono (by lia),?_⟩
     unfold q0v
     rw [if_pos (by lia),ha,hd]
     exact ⟨rfl,rfl,rfl⟩
    ·rw [if_neg hd] at h2
     obtain ⟨m',g,r⟩:=fails _ 7 (fun h => by
      rw [q0v,if_pos h,if_neg (by rw [Bool.and_eq_true];exact fun q => hd q.2)])
     exact ⟨m',(Goes.cons h1 (Goes.cons h2 g)).mono (by lia),r⟩
  ·rw [if_neg ha] at h1
   obtain ⟨m',g,r⟩:=fails _ 5 (fun h => by
    rw [q0v,if_pos h,if_neg (by rw [Bool.and_eq_true];exact fun q => ha q.1)])
   exact ⟨m',(Goes.cons h1 g).mono (by lia),r⟩
private theorem search1 (text : Array Nat) (hl : text.size < 2 ^ 24) (p : Nat) (hp : p ≤ text.size) : ∃ m',Goes (5 * text.size + 5) (forSearch c1 text 0 p text.size false) m' ∧
  match q0v text p with | some q => m'.outcome = some .matched ∧ m'.start = q ∧ m'.handed = q + 1 | none => m'.outcome = some .failed:=by
 by_cases h : p < text.size
 ·have e : forSearch c1 text 0 p text.size false = m1 text p true (({} : Seen).add 14) 0:=by
   show (if (decide (p > text.size) || decide (text.size - p < 1)) = true then _ else _) = _
   rw [if_neg (by simp;lia)]
   rfl
  rw [e]
  obtain ⟨m',g,r⟩:=m1_goes text hl 0 (text.size - p) p true _ rfl hp
  exact ⟨m',g.mono (by lia),r⟩
 ·have e : ∃ m : M,forSearch c1 text 0 p text.size false = m ∧ m.step.outcome = some .failed:=by
   refine ⟨_,rfl,?_⟩
   show (M.step (if (decide (p > text.size) || decide (text.size - p < 1)) = true then _ else _)).outcome = _
   rw [if_pos (by simp;lia)]
   rfl
  obtain ⟨m,e,ho⟩:=e
  rw [e]
  refine ⟨m.step,(Goes.one rfl).mono (by lia),?_⟩
  unfold q0v
  rw [if_neg h]
  exact ho
noncomputable def c2 : Array Nat:=#[14,9,4,1,2,16,10,16,13,0,7,7,16,13,16,10,15,18,5,16,10,15,13,11,16,13,5,5,0,16,10,1,15,2,0,1]
noncomputable def m2 (text : Array Nat) (p : Nat) (first : Bool) (seen : Seen) : M:=
 { code:=c2,text:=text,lim:=text.size,start:=p,lastStart:=text.size,pc:=10,pos:=p,handed:=p,outermost:=first,marks:=#[],frames:=[fr 10 p first],weight:=1,seen:=seen }
noncomputable def isNl (c : Nat) : Bool:=c == 10 || c == 13
noncomputable def nextNl (text : Array Nat) (p : Nat) : Option Nat:=
 if p < text.size then (if isNl (text.getD p 0) then some p else nextNl text (p + 1)) else none
termination_by text.size - p
private theorem inSet2 (c : Nat) (seen : Seen) : ∃ seen',inSet c2 c c2.size 5 true seen = .ok (isNl c,seen'):=by
 have e : inSet c2 c c2.size 5 true seen = if (c == 10) = true then .ok (true,seen.add 16) else if (c == 13) = true then .ok (true,(seen.add 16).add 16) else .ok (false,((seen.add 16).add 16).add 0):=rfl
 rw [e]
 unfold isNl
 cases h1 : c == 10 <;> cases h2 : c == 13 <;> simp
private theorem w5g (m : M) (hc : m.code = c2) (hl : m.lim = m.text.size) : ∀ (k p : Nat) (seen : Seen),m.text.size < p + k → p ≤ m.text.size → ∃ seen',M.admitted m k p seen = .ok (nextNl m.text p,seen')
 | 0,p,seen,h,hp => by lia
 | k + 1,p,seen,h,hp => by
  unfold M.admitted
  rw [hl,hc]
  by_cases hlt : p ≥ m.text.size
  ·rw [if_pos hlt]
   unfold nextNl
   rw [if_neg (by lia)]
   exact ⟨_,rfl⟩
  ·rw [if_neg hlt]
   obtain ⟨seen',e⟩:=inSet2 (m.text.getD p 0) seen
   rw [e]
   unfold nextNl
   rw [if_pos (by lia)]
   cases hn : isNl (m.text.getD p 0)
   ·simp only [Bool.false_eq_true,if_false]
    exact w5g m hc hl k (p + 1) seen' (by lia) (by lia)
   ·exact ⟨seen',rfl⟩
noncomputable def nlLen (text : Array Nat) (p : Nat) : Nat:=if text.getD p 0 == 13 && (p + 1 < text.size && text.getD (p + 1) 0 == 10) then 2 else 1
private theorem lit_yes (m : M) {c : Nat} (h0 : m.outcome = none) (h1 : m.answer = none) (hpc : m.pc < m.code.size) (hw0 : m.word 0 = 16) (hw : m.word 1 = c) (hlt : m.pos < m.lim) (hc : m.text.getD m.pos 0 = c) :
  m.step = { m with seen:=m.seen.add 16,pc:=m.pc + 2,pos:=m.pos + 1 }:=by
 obtain ⟨code,text,lim,start,lastStart,wholeText,mustAdvance,pc,pos,handed,outermost,marks,lastmark,lastindex,loops,inner,frames,weight,answer,seen,outcome⟩:=m
 simp only at h0 h1 hpc hlt hc
 subst h0 h1
 have e16 : code.getD pc 0 = 16:=hw0
 have ew : code.getD (pc + 1) 0 = c:=hw
 unfold M.step
 simp only [Option.isSome_none,Bool.false_eq_true,if_false]
 rw [if_pos hpc]
 unfold M.exec
 rw [hw0]
 show (if pos ≥ lim then _ else match accepts code pc (text.getD pos 0) _ with | .error why => _ | .ok (false,seen) => _ | .ok (true,seen) => _) = _
 rw [if_neg (by lia)]
 unfold accepts
 rw [e16,ew,hc]
 show (match (Except.ok (c == c,_) : Except String (Bool × Seen)) with | .error why => _ | .ok (false,seen) => _ | .ok (true,seen) => _) = _
 rw [beq_self_eq_true]
 have hi : itemWidth code pc = 2:=by unfold itemWidth;rw [e16];rfl
 simp only [hi]
private theorem lit_no (m : M) {c : Nat} (h0 : m.outcome = none) (h1 : m.answer = none) (hpc : m.pc < m.code.size) (hw0 : m.word 0 = 16) (hw : m.word 1 = c) (hc : m.pos ≥ m.lim ∨ m.text.getD m.pos 0 ≠ c) :
  m.step = { m with seen:=m.seen.add 16,answer:=some false }:=by
 obtain ⟨code,text,lim,start,lastStart,wholeText,mustAdvance,pc,pos,handed,outermost,marks,lastmark,lastindex,loops,inner,frames,weight,answer,seen,outcome⟩:=m
 simp only at h0 h1 hpc hc
 subst h0 h1
 have e16 : code.getD pc 0 = 16:=hw0
 have ew : code.getD (pc + 1) 0 = c:=hw
 unfold M.step
 simp only [Option.isSome_none,Bool.false_eq_true,if_false]
 rw [if_pos hpc]
 unfold M.exec
 rw [hw0]
 show (if pos ≥ lim then _ else match accepts code pc (text.getD pos 0) _ with | .error why => _ | .ok (false,seen) => _ | .ok (true,seen) => _) = _
 by_cases hp : pos ≥ lim
 ·rw [if_pos hp];rfl
 ·rw [if_neg hp]
  have hne : text.getD pos 0 ≠ c:=hc.resolve_left hp
  unfold accepts
  rw [e16,ew]
  show (match (Except.ok (text.getD pos 0 == c,_) : Except String (Bool × Seen)) with | .error why => _ | .ok (false,seen) => _ | .ok (true,seen) => _) = _
  rw [beq_false_of_ne hne]
  rfl
noncomputable def s2 (text : Array Nat) (p : Nat) (seen : Seen) (frames : List Sre.Frame) (weight pc pos handed : Nat) (out : Bool) (answer : Option Bool) : M:=
 { code:=c2,text:=text,lim:=text.size,start:=p,lastStart:=text.size,pc:=pc,pos:=pos,handed:=handed,outermost:=out,marks:=#[],frames:=frames,weight:=weight,answer:=answer,seen:=seen }
noncomputable def bf (k p : Nat) (first : Bool) : Sre.Frame:={ wait:=.nextBranch,pc:=k,pos:=p,outermost:=first }
noncomputable def lf (p : Nat) (first : Bool) : Sre.Frame:={ wait:=.lookNot,pc:=26,pos:=p,outermost:=first }
section
variable {text : Array Nat} {p : Nat} {first : Bool} {seen : Seen} {fs : List Sre.Frame} {wt pos hd : Nat} {out : Bool}
private theorem succ2 : (s2 text p seen fs wt 35 pos hd out none).step = s2 text p (seen.add 1) fs wt 35 pos pos out (some true):=by cases out <;> rfl
private theorem yes2 {k c : Nat} (hk : c2.getD k 0 = 16) (hk1 : c2.getD (k + 1) 0 = c) (hk2 : k < 36) (hlt : pos < text.size) (hc : text.getD pos 0 = c) : (s2 text p seen fs wt k pos hd out none).step = s2 text p (seen.add 16) fs wt (k + 2) (pos + 1) hd out none:=
 lit_yes _ rfl rfl hk2 hk hk1 hlt hc
private theorem no2 {k c : Nat} (hk : c2.getD k 0 = 16) (hk1 : c2.getD (k + 1) 0 = c) (hk2 : k < 36) (hc : pos ≥ text.size ∨ text.getD pos 0 ≠ c) : (s2 text p seen fs wt k pos hd out none).step = s2 text p (seen.add 16) fs wt k pos hd out (some false):=
 lit_no _ rfl rfl hk2 hk hk1 hc
private theorem won2 {k : Nat} : ∃ m',Goes 4 (s2 text p seen [bf k p first,fr 10 p first] 2 35 pos hd first none) m' ∧ m'.outcome = some .matched ∧ m'.start = p ∧ m'.handed = pos:=by
 refine ⟨_,Goes.cons succ2 (Goes.cons (show _ = s2 text p (seen.add 1) [fr 10 p first] 1 k p pos first (some true) from rfl) (Goes.cons (show _ = s2 text p (seen.add 1) [] 0 10 p pos first (some true) from rfl) (Goes.one rfl))),rfl,rfl,rfl⟩
end
private theorem m2_goes (text : Array Nat) (p : Nat) (first : Bool) (seen : Seen) (hp : p < text.size) (hn : isNl (text.getD p 0) = true) : ∃ m',Goes 40 (m2 text p first seen) m' ∧ m'.outcome = some .matched ∧ m'.start = p ∧ m'.handed = p + nlLen text p:=by
 unfold isNl at hn
 have b0 : ∃ seen',(m2 text p first seen).step = s2 text p seen' [bf 11 p first,fr 10 p first] 2 12 p p first none:=⟨_,rfl⟩
 obtain ⟨sn,b0⟩:=b0
 by_cases h10 : text.getD p 0 = 10
 ·have hlen : nlLen text p = 1:=by unfold nlLen;rw [h10];rfl
  rw [hlen]
  obtain ⟨m',g,r⟩:=won2 (text:=text) (p:=p) (first:=first) (seen:=((((sn.add 16).add 16).add 15))) (pos:=p + 1) (hd:=p) (k:=18)
  refine ⟨m',(Goes.cons b0 (Goes.cons (no2 (c:=13) rfl rfl (by decide) (.inr (by omega))) (Goes.cons (show _ = s2 text p (sn.add 16) [bf 18 p first,fr 10 p first] 2 19 p p first none from rfl)
   (Goes.cons (yes2 (c:=10) rfl rfl (by decide) hp h10) (Goes.cons (show _ = s2 text p ((((sn.add 16).add 16).add 15)) [bf 18 p first,fr 10 p first] 2 35 (p + 1) p first none from rfl) g))))).mono (by decide),r⟩
 ·have h13 : text.getD p 0 = 13:=by rw [Bool.or_eq_true,beq_iff_eq,beq_iff_eq] at hn;exact hn.resolve_left h10
  by_cases hc : p + 1 < text.size ∧ text.getD (p + 1) 0 = 10
  ·have hlen : nlLen text p = 2:=by unfold nlLen;rw [h13,hc.2];simp [hc.1]
   rw [hlen]
   obtain ⟨m',g,r⟩:=won2 (text:=text) (p:=p) (first:=first) (seen:=((((sn.add 16).add 16).add 15))) (pos:=p + 2) (hd:=p) (k:=11)
   refine ⟨m',(Goes.cons b0 (Goes.cons (yes2 (c:=13) rfl rfl (by decide) hp h13) (Goes.cons (yes2 (c:=10) rfl rfl (by decide) hc.1 hc.2) (Goes.cons (show _ = s2 text p ((((sn.add 16).add 16).add 15)) [bf 11 p first,fr 10 p first] 2 35 (p + 2) p first none from rfl) g)))).mono (by decide),r⟩
  ·have hlen : nlLen text p = 1:=by
    unfold nlLen
    rw [if_neg]
    intro q
    simp only [Bool.and_eq_true,decide_eq_true_eq,beq_iff_eq] at q
    exact hc ⟨q.2.1,q.2.2⟩
   rw [hlen]
   have hno : p + 1 ≥ text.size ∨ text.getD (p + 1) 0 ≠ 10:=by
    by_cases h : p + 1 < text.size
    ·exact .inr fun q => hc ⟨h,q⟩
    ·exact .inl (by lia)
   obtain ⟨se,hse⟩ : ∃ se,se = ((sn.add 16).add 16):=⟨_,rfl⟩
   obtain ⟨m',g,r⟩:=won2 (text:=text) (p:=p) (first:=first) (seen:=(((((se.add 16).add 16).add 5).add 16).add 15)) (pos:=p + 1) (hd:=p + 1) (k:=23)
   refine ⟨m',(Goes.cons b0 (Goes.cons (yes2 (c:=13) rfl rfl (by decide) hp h13) (Goes.cons (hse ▸ no2 (c:=10) rfl rfl (by decide) hno) (Goes.cons (show _ = s2 text p se [bf 18 p first,fr 10 p first] 2 19 p p first none from rfl)
    (Goes.cons (no2 (c:=10) rfl rfl (by decide) (.inr h10)) (Goes.cons (show _ = s2 text p (se.add 16) [bf 23 p first,fr 10 p first] 2 24 p p first none from rfl) (Goes.cons (yes2 (c:=13) rfl rfl (by decide) hp h13)
    (Goes.cons (show _ = s2 text p (((se.add 16).add 16).add 5) [lf (p + 1) first,bf 23 p first,fr 10 p first] 3 29 (p + 1) (p + 1) false none from rfl) (Goes.cons (no2 (c:=10) rfl rfl (by decide) hno)
    (Goes.cons (show _ = s2 text p ((((se.add 16).add 16).add 5).add 16) [bf 23 p first,fr 10 p first] 2 32 (p + 1) (p + 1) first none from rfl)
    (Goes.cons (show _ = s2 text p (((((se.add 16).add 16).add 5).add 16).add 15) [bf 23 p first,fr 10 p first] 2 35 (p + 1) (p + 1) first none from rfl) g))))))))))).mono (by decide),r⟩
private theorem q3l {text : Array Nat} {q : Nat} : ∀ (k p : Nat),text.size - p = k → nextNl text p = some q → p ≤ q ∧ q < text.size ∧ isNl (text.getD q 0) = true:=by
 intro k
 induction k using Nat.strongRecOn with
 | ind k IH =>
  intro p hk h
  unfold nextNl at h
  by_cases hp : p < text.size
  ·rw [if_pos hp] at h
   by_cases hn : isNl (text.getD p 0) = true
   ·rw [if_pos hn] at h;cases h;exact ⟨Nat.le_refl _,hp,hn⟩
   ·rw [if_neg hn] at h
    obtain ⟨h1,h2⟩:=IH (k - 1) (by with_reducible exact na2) (p + 1) (by with_reducible exact na1) h
    exact ⟨by lia,h2⟩
  ·rw [if_neg hp] at h;cases h
noncomputable def m20 (text : Array Nat) (p : Nat) : M:={ code:=c2,text:=text,lim:=text.size,start:=p,lastStart:=text.size,pc:=10,pos:=p,handed:=p,marks:=#[],seen:=({} : Seen).add 14 }
private theorem w9e (text : Array Nat) (p : Nat) (h : p < text.size) : forSearch c2 text 0 p text.size false = (match M.admitted (m20 text p) (text.size + 1 - p) p (({} : Seen).add 14) with | .ok (some s,seen) => m2 text s true seen | .ok (none,seen) => { m20 text p with seen }.say false | .error why => (m20 text p).stick why):=by
 show (if (decide (p > text.size) || decide (text.size - p < 1)) = true then _ else _) = _
 rw [if_neg (by simp;lia)]
 rfl
private theorem search2 (text : Array Nat) (p : Nat) (hp : p ≤ text.size) : ∃ m',Goes 45 (forSearch c2 text 0 p text.size false) m' ∧
  match nextNl text p with | some q => m'.outcome = some .matched ∧ m'.start = q ∧ m'.handed = q + nlLen text q | none => m'.outcome = some .failed:=by
 by_cases h : p < text.size
 ·obtain ⟨seen',ha⟩:=w5g (m20 text p) rfl rfl (text.size + 1 - p) p (({} : Seen).add 14) (by show text.size < _;omega) hp
  have ha' : M.admitted (m20 text p) (text.size + 1 - p) p (({} : Seen).add 14) = .ok (nextNl text p,seen'):=ha
  rw [w9e text p h,ha']
  cases hn : nextNl text p with
  | none => exact ⟨(M.say { m20 text p with seen:=seen' } false).step,(Goes.one rfl).mono (by decide),rfl⟩
  | some q =>
   obtain ⟨h1,h2,h3⟩:=q3l _ p rfl hn
   obtain ⟨m',g,r⟩:=m2_goes text q true seen' h2 h3
   exact ⟨m',g.mono (by decide),r⟩
 ·have e : ∃ m : M,forSearch c2 text 0 p text.size false = m ∧ m.step.outcome = some .failed:=by
   refine ⟨_,rfl,?_⟩
   show (M.step (if (decide (p > text.size) || decide (text.size - p < 1)) = true then _ else _)).outcome = _
   rw [if_pos (by simp;lia)]
   rfl
  obtain ⟨m,e,ho⟩:=e
  rw [e]
  refine ⟨m.step,(Goes.one rfl).mono (by decide),?_⟩
  unfold nextNl
  rw [if_neg h]
  exact ho
end
section
open PySem PySem.W PySem.Calls PyProof.Rows
open PySem.Builtin.Re
private theorem w0l : PlainAttrs "re.Pattern":=
 ⟨⟨"object.__getattribute__",by rw [typeLookup_type,builtinLookup_eq_fast];kernel_rfl,by decide +kernel⟩,by rw [typeLookup_type,builtinLookup_eq_fast];kernel_rfl⟩
private theorem q4q : Slot "re.Pattern" "sub" "re.Pattern.sub":=
 .of (owner:="re.Pattern") (n:="sub") (by rw [typeLookup_type,builtinLookup_eq_fast];kernel_rfl) (by decide +kernel) (by decide +kernel) (by decide +kernel)
  (by first | exact .inl (by decide +kernel) | exact .inr (by decide +kernel)) (by rw [isSubtype_type];kernel_rfl)
private theorem w3m : typeOf (.builtin "re.Pattern.sub") = pure (.type "method_descriptor"):=by show builtinType _ = _;rw [builtinType_eq_fast];kernel_rfl
private theorem w3a : entryFor table "re.Pattern.sub" = some Builtin.«re.Pattern.sub»:=entryFor_of_tree (by kernel_rfl)
private theorem q5q : entryFor table "re.Pattern.sub.loop" = some Builtin.«re.Pattern.sub.loop»:=entryFor_of_tree (by kernel_rfl)
private theorem q2k : plainId "re.Pattern.sub.loop" = true:=by decide +kernel
private theorem w5l : typeLookup (.type "str") "__call__" = pure none:=by rw [typeLookup_type,builtinLookup_eq_fast];kernel_rfl
private theorem owner_pat : Manifest.owners.lookup (String.ofList ['n','r','e','t','t','a','P','.','e','r'].reverse) = some Manifest.sig_re_Pattern:=by kernel_rfl
private theorem w5f (a b c : Value) : argsOk "re.Pattern.sub" ⟨[a,b,c],[]⟩:=by
 unfold argsOk;rw [signature?_of (id:="re.Pattern.sub") (n:=['b','u','s']) (o:=['n','r','e','t','t','a','P','.','e','r']) (by kernel_rfl) owner_pat];kernel_rfl
private theorem named_sub (b c : Value) : reNamed "re.Pattern.sub" "sub" ["repl","string","count"] 2 [b,c] [] = pure [some b,some c,none]:=rfl
inductive PatAt (h : Heap) (a : Addr) (code : Array Nat) : Prop
 | mk (o : Obj) (vs : Array Value) (ca : Addr) (oc : Obj) (items : Array Value) (n : Nat) (g : Int) (t : Tok) (w : Int) (t' : Tok) (h1 : h.get? a = some o) (h2 : o.cls = .type "re.Pattern") (h3 : o.dict = none) (h4 : o.data = .fields vs) (h5 : vs.getD 2 .none = .int g t) (h6 : g.toNat = 0) (h7 : vs.getD 5 .none = .ref ca) (h8 : vs.getD 6 .none = .int w t') (h9 : w.toNat = 0)
  (h10 : h.get? ca = some oc) (h11 : oc.cls = .type "tuple") (h12 : oc.data = .seq items n) (h13 : (items.map reRawOf).map (·.toNat) = code) : PatAt h a code
private theorem PatAt.keeps {h h' : Heap} {a : Addr} {code : Array Nat} (x : PatAt h a code) (k : ∀ b o,h.get? b = some o → h'.get? b = some o) : PatAt h' a code:=by
 obtain ⟨o,vs,ca,oc,items,n,g,t,w,t',h1,h2,h3,h4,h5,h6,h7,h8,h9,h10,hc,h12,h13⟩:=x
 exact ⟨o,vs,ca,oc,items,n,g,t,w,t',k _ _ h1,h2,h3,h4,h5,h6,h7,h8,h9,k _ _ h10,hc,h12,h13⟩
section
variable {prog : Program} {w : World} {A : Around} {E : Value → Shared → Prop} {s : Shared}
private theorem q3u {a : Addr} {code : Array Nat} {x : PySem.Str} {t : Tok} {Q : ReTarget → Shared → Prop} (hp : PatAt s.heap a code)
  (h : Q { pattern:=.ref a,string:=.str x t,code:=code,text:=x.cps,kind:=0,groups:=0,pos:=0,lim:=x.cps.size } s) : wpAny (model prog w) A (reWholeTarget (.ref a) (.str x t)) Q E s:=by
 obtain ⟨o,vs,ca,oc,items,n,g,t₁,w₁,t₂,h1,h2,h3,h4,h5,h6,h7,h8,h9,h10,_,h11,h12⟩:=hp
 unfold reWholeTarget
 refine wpAny_bind (wpAny_fieldsOf h1 h4 ?_)
 refine wpAny_bind (wpAny_of_eq (a:=(x.cps,0)) rfl ?_)
 rw [h8,h5,h7]
 have e0 : reRawNat (.int w₁ t₂) = 0:=h9
 have e1 : reRawNat (.int g t₁) = 0:=h6
 simp only [e0,e1]
 show wpAny _ _ (do reNoCollectionInside (.str x t) 0;_) _ _ _
 refine wpAny_bind (wpAny_of_eq (a:=()) rfl ?_)
 unfold reRawItems
 refine wpAny_bind (wpAny_bind (wpAny_seqItems h10 h11 (wpAny_pure ?_)))
 simp only [Option.getD_some,h12]
 exact wpAny_pure h
noncomputable def q1l (next : Nat → Option Nat) (len : Nat → Nat) (text rep : Array Nat) : Nat → Nat → List PySem.Str → List PySem.Str
 | 0,p,ys => if p < text.size then ys ++ [⟨text.extract p text.size⟩] else ys
 | f + 1,p,ys => match next p with
  | some q => q1l next len text rep f (q + len q) ((if p < q then ys ++ [⟨text.extract p q⟩] else ys) ++ [⟨rep⟩])
  | none => if p < text.size then ys ++ [⟨text.extract p text.size⟩] else ys
private theorem q4n {its : List Value} {ys : List PySem.Str} {y : PySem.Str} {t : Tok} (h : StrsAre its ys) : StrsAre (its ++ [.str y t]) (ys ++ [y]):=by
 induction h with
 | nil => exact StrsAre.cons y t StrsAre.nil
 | cons z u _ ih => exact StrsAre.cons z u ih
private theorem w5r {D : Addr} {its : Array Value} {k : Nat} {v : Value} {Q : Unit → Shared → Prop} (hD : s.heap.get? D = some { cls:=.type "list",data:=.seq its k }) (hz : its.size ≤ sizeLine)
  (h : ∀ h' k',h'.get? D = some { cls:=.type "list",data:=.seq (its.push v) k' } → (∀ b o,b ≠ D → s.heap.get? b = some o → h'.get? b = some o) → Q () { s with heap:=h' }) : wpAny (model prog w) A (updateSeq D (·.push v)) Q E s:=by
 refine wpAny_updateSeq hD rfl ?_ hz (by simp;assumption)
 obtain ⟨n',hd'⟩:=Obj.data_mapSeq (o:={ cls:=.type "list",data:=.seq its k }) rfl (·.push v)
 refine h _ n' ?_ fun b o hb e => (Heap.get?_update_other _ _ (Ne.symm hb)).trans e
 rw [Heap.get?_update_self _ hD rfl,← hd']
 rfl
private theorem w2b {text : Array Nat} {b e : Nat} {Q : Value → Shared → Prop} (hz : text.size ≤ 100000) (h : ∀ t k,Q (.str ⟨text.extract b e⟩ t) { s with toks:=k }) : wpAny (model prog w) A (reSlice text 0 b e) Q E s:=by
 show wpAny _ _ (mkStr ⟨text.extract b e⟩) _ _ _
 have hs : sizeLine = 2 ^ 24:=by decide +kernel
 exact wpAny_mkStr (h _ _) (by show (text.extract b e).size ≤ sizeLine;rw [Array.size_extract];lia)
private theorem w4n {a D : Addr} {code : Array Nat} {x : PySem.Str} {k p : Nat} {ys : List PySem.Str} {its : Array Value} {R : Result → Shared → Prop} {rest : Value → Sem PySem.Fin} (hsz : x.cps.size ≤ 100000) (hpat : PatAt s.heap a code) (hD : s.heap.get? D = some { cls:=.type "list",data:=.seq its k }) (hy : StrsAre its.toList ys)
  (hp : p ≤ x.cps.size) (hl : ys.length ≤ 2 * p) (hw : (ys.map (·.length)).sum ≤ 3 * p)
  (hR : ∀ h' tk t',(∀ b o,b ≠ D → s.heap.get? b = some o → h'.get? b = some o) → R (.ok (.ret (.str (Txt.join ⟨#[]⟩ (if p < x.cps.size then ys ++ [⟨x.cps.extract p x.cps.size⟩] else ys)) t'))) { s with heap:=h',toks:=tk }) :
  wpAny (model prog w) A.in1 (do
   if (p : Int).toNat < x.cps.size then updateSeq D (·.push (← reSlice x.cps 0 (p : Int).toNat x.cps.size))
   let joiner ← reSlice x.cps 0 0 0
   let text ← if ((← seqItems? (.ref D)).getD #[]).isEmpty then pure joiner
    else call (.builtin "str.join") [joiner,.ref D]
   if false = true then rest text else ret text) (fun fin s' => match fin with | .done f => R (.ok f) s' | .again c' => c'.quiet = true ∧ codeAny (model prog w) A c' R s') (fun e s' => R (.error e) s') s:=by
 have hS : sizeLine = 2 ^ 24:=by decide +kernel
 have hys:=StrsAre.length hy
 simp only [Array.length_toList] at hys
 have e0 : x.cps.extract 0 0 = #[]:=by simp
 -- behind the last slice
 have last : ∀ (h₁ : Heap) (tk₁ k₁ : Nat) (its₁ : Array Value) (ys₁ : List PySem.Str),h₁.get? D = some { cls:=.type "list",data:=.seq its₁ k₁ } → StrsAre its₁.toList ys₁ → ys₁ = (if p < x.cps.size then ys ++ [⟨x.cps.extract p x.cps.size⟩] else ys) → (∀ b o,b ≠ D → s.heap.get? b = some o → h₁.get? b = some o) →
   (ys₁.map (·.length)).sum + ys₁.length ≤ 1048576 → wpAny (model prog w) A.in1 (do
    let joiner ← reSlice x.cps 0 0 0
    let text ← if ((← seqItems? (.ref D)).getD #[]).isEmpty then pure joiner
     else call (.builtin "str.join") [joiner,.ref D]
    if false = true then rest text else ret text) (fun fin s' => match fin with | .done f => R (.ok f) s' | .again c' => c'.quiet = true ∧ codeAny (model prog w) A c' R s') (fun e s' => R (.error e) s') { s with heap:=h₁,toks:=tk₁ }:=by
  intro h₁ tk₁ k₁ its₁ ys₁ hD₁ hy₁ e₁ hk₁ hw₁
  refine wpAny_bind (w2b hsz fun t₁ kk₁ => ?_)
  rw [e0]
  refine wpAny_bind (wpAny_seqItems hD₁ rfl ?_)
  simp only [Option.getD_some]
  rw [← e₁] at hR
  cases he : its₁.isEmpty with
  | true =>
   have hn : ys₁ = []:=by
    have:=StrsAre.length hy₁
    have h2 : its₁.size = 0:=by simpa using he
    simp only [Array.length_toList,h2] at this
    exact List.length_eq_zero_iff.mp this.symm
   rw [hn] at hR
   rw [if_pos rfl]
   exact wpAny_bind (wpAny_pure (wpAny_pure (hR h₁ kk₁ t₁ hk₁)))
  | false =>
   simp only [Bool.false_eq_true,if_false]
   exact wpAny_bind (join_listW ⟨_,hD₁,rfl,_,rfl⟩ hy₁ (by decide) hw₁ fun t' k' => wpAny_pure (hR h₁ k' t' hk₁))
 by_cases hpq : p < x.cps.size
 ·show wpAny _ _ (if p < x.cps.size then _ else _) _ _ _
  rw [if_pos hpq]
  refine wpAny_bind (w2b hsz fun t₁ k₁ => ?_)
  refine wpAny_bind (w5r hD (by lia) fun h₁ k₁' hD₁ hk₁ => ?_)
  refine last h₁ k₁ k₁' _ (ys ++ [⟨x.cps.extract p x.cps.size⟩]) hD₁ (by rw [Array.toList_push];exact q4n hy) (by rw [if_pos hpq]) hk₁ ?_
  have e : Str.length ⟨x.cps.extract p x.cps.size⟩ = x.cps.size - p:=by show (x.cps.extract p x.cps.size).size = _;rw [Array.size_extract];lia
  simp only [List.length_append,List.length_singleton,List.map_append,List.map_cons,List.map_nil,List.sum_append,List.sum_cons,List.sum_nil,e]
  lia
 ·show wpAny _ _ (if p < x.cps.size then _ else _) _ _ _
  rw [if_neg hpq]
  exact last s.heap s.toks k its ys hD hy (by rw [if_neg hpq]) (fun _ _ _ e => e) (by lia)
private theorem PatAt.but {h h' : Heap} {a D : Addr} {code : Array Nat} (x : PatAt h a code) (k : ∀ b o,b ≠ D → h.get? b = some o → h'.get? b = some o) (hD : ∃ o,h.get? D = some o ∧ o.cls = .type "list") : PatAt h' a code:=by
 obtain ⟨o,vs,ca,oc,items,n,g,t,w,t',h1,h2,h3,h4,h5,h6,h7,h8,h9,h10,hc,h12,h13⟩:=x
 obtain ⟨oD,hD,hDc⟩:=hD
 refine ⟨o,vs,ca,oc,items,n,g,t,w,t',k _ _ (fun q => ?_) h1,h2,h3,h4,h5,h6,h7,h8,h9,k _ _ (fun q => ?_) h10,hc,h12,h13⟩
 ·rw [q,hD] at h1;cases h1;rw [h2] at hDc;simp at hDc
 ·rw [q,hD] at h10;cases h10;rw [hc] at hDc;simp at hDc
private theorem loop_wp {a D : Addr} {code : Array Nat} {x rep : PySem.Str} {t tr : Tok} {next : Nat → Option Nat} {len : Nat → Nat} (hsz : x.cps.size ≤ 100000) (hrep : rep.cps.size ≤ 2)
  (hs : ∀ p,p ≤ x.cps.size → ∃ m' k,k ≤ 2 ^ 60 ∧ Goes k (Sre.forSearch code x.cps 0 p x.cps.size false) m' ∧ match next p with | some q => m'.outcome = some .matched ∧ m'.start = q ∧ m'.handed = q + len q | none => m'.outcome = some .failed)
  (hn : ∀ p q,p ≤ x.cps.size → next p = some q → p ≤ q ∧ 1 ≤ len q ∧ q + len q ≤ x.cps.size) {R : Result → Shared → Prop} :
  ∀ (f : Nat) (p n : Nat) (ys : List PySem.Str) (its : Array Value) (k : Nat) (s : Shared),p ≤ x.cps.size → x.cps.size - p ≤ f → PatAt s.heap a code → s.heap.get? D = some { cls:=.type "list",data:=.seq its k } → StrsAre its.toList ys → ys.length ≤ 2 * p → (ys.map (·.length)).sum ≤ 3 * p →
   (∀ h' tk t',(∀ b o,b ≠ D → s.heap.get? b = some o → h'.get? b = some o) → R (.ok (.ret (.str (Txt.join ⟨#[]⟩ (q1l next len x.cps rep.cps f p ys)) t'))) { s with heap:=h',toks:=tk }) →
   codeAny (model prog w) A (.builtin "re.Pattern.sub.loop" ⟨[.ref a,.str x t,.str rep tr,rawInt 0,rawInt 0,rawInt n,rawInt p,rawInt p,.bool false,.ref D,.bool false],[]⟩) R s:=by
 intro f
 induction f with
 | zero =>
  intro p n ys its k s hp hf hpat hD hy hl hw hR
  have hnx : next p = none:=by
   cases h : next p with
   | none => rfl
   | some q =>
    obtain ⟨n1,n2,n3⟩:=hn p q hp h
    lia
  refine codeAny_builtin q5q ?_
  rw [Around.under_plainId q2k _]
  show wpAny _ A.in1 (do
   let t₀ ← reWholeTarget (.ref a) (.str x t)
   if (0 : Int) == 0 then reLiteralCannotBeTurned (.str rep tr)
   _) _ _ s
  refine wpAny_bind (q3u hpat ?_)
  refine wpAny_bind (wpAny_of_eq (a:=()) rfl ?_)
  show wpAny _ _ (reNextFound { pattern:=.ref a,string:=.str x t,code:=code,text:=x.cps,kind:=0,groups:=0,pos:=0,lim:=x.cps.size } p false >>= _) _ _ _
  obtain ⟨m',k',hk',g,hm⟩:=hs p hp
  rw [hnx] at hm
  refine wpAny_bind (run_wp g hk' (.inr ⟨hm,?_⟩))
  exact w4n hsz hpat hD hy hp hl hw hR
 | succ f ih =>
  intro p n ys its k s hp hf hpat hD hy hl hw hR
  refine codeAny_builtin q5q ?_
  rw [Around.under_plainId q2k _]
  show wpAny _ A.in1 (do
   let t₀ ← reWholeTarget (.ref a) (.str x t)
   if (0 : Int) == 0 then reLiteralCannotBeTurned (.str rep tr)
   _) _ _ s
  refine wpAny_bind (q3u hpat ?_)
  refine wpAny_bind (wpAny_of_eq (a:=()) rfl ?_)
  show wpAny _ _ (reNextFound { pattern:=.ref a,string:=.str x t,code:=code,text:=x.cps,kind:=0,groups:=0,pos:=0,lim:=x.cps.size } p false >>= _) _ _ _
  obtain ⟨m',k',hk',g,hm⟩:=hs p hp
  cases hnx : next p with
  | none =>
   rw [hnx] at hm
   refine wpAny_bind (run_wp g hk' (.inr ⟨hm,?_⟩))
   have hsub : q1l next len x.cps rep.cps (f + 1) p ys = if p < x.cps.size then ys ++ [⟨x.cps.extract p x.cps.size⟩] else ys:=by unfold q1l;rw [hnx]
   rw [hsub] at hR
   exact w4n hsz hpat hD hy hp hl hw hR
  | some q =>
   rw [hnx] at hm
   obtain ⟨n1,n2,n3⟩:=hn p q hp hnx
   refine wpAny_bind (run_wp g hk' (.inl ⟨hm.1,?_⟩))
   have hsub : q1l next len x.cps rep.cps (f + 1) p ys = q1l next len x.cps rep.cps f (q + len q) ((if p < q then ys ++ [⟨x.cps.extract p q⟩] else ys) ++ [rep]):=by conv => lhs;unfold q1l;rw [hnx]
   rw [hsub] at hR
   have hys:=StrsAre.length hy
   have hS : sizeLine = 2 ^ 24:=by decide +kernel
   -- behind the slice: the new text is put,and on
   have step : ∀ (h₁ : Heap) (tk₁ kk₁ : Nat) (its₁ : Array Value) (ys₁ : List PySem.Str),h₁.get? D = some { cls:=.type "list",data:=.seq its₁ kk₁ } → StrsAre its₁.toList ys₁ → ys₁ = (if p < q then ys ++ [⟨x.cps.extract p q⟩] else ys) → (∀ b o,b ≠ D → s.heap.get? b = some o → h₁.get? b = some o) →
     wpAny (model prog w) A.in1 (do
      updateSeq D (·.push (.str rep tr))
      again (.builtin "re.Pattern.sub.loop" ⟨[.ref a,.str x t,.str rep tr,rawInt 0,rawInt 0,rawInt ((n : Int) + 1),rawInt m'.handed,rawInt m'.handed,.bool (m'.handed == q),.ref D,.bool false],[]⟩)) (fun fin s' => match fin with | .done f => R (.ok f) s' | .again c' => c'.quiet = true ∧ codeAny (model prog w) A c' R s') (fun e s' => R (.error e) s') { s with heap:=h₁,toks:=tk₁ }:=by
    intro h₁ tk₁ kk₁ its₁ ys₁ hD₁ hy₁ e₁ hk₁
    have hl₁ : ys₁.length ≤ 2 * p + 1 ∧ (ys₁.map (·.length)).sum ≤ 3 * p + (q - p):=by
     rw [e₁]
     by_cases hpq : p < q
     ·rw [if_pos hpq]
      have e : Str.length ⟨x.cps.extract p q⟩ = q - p:=by show (x.cps.extract p q).size = _;rw [Array.size_extract];with_reducible exact ng2
      simp only [List.length_append,List.length_singleton,List.map_append,List.map_cons,List.map_nil,List.sum_append,List.sum_cons,List.sum_nil,e]
      lia
     ·rw [if_neg hpq];lia
    have hsz₁ : its₁.size ≤ sizeLine:=by
     have:=StrsAre.length hy₁
     simp only [Array.length_toList] at this
     lia
    refine wpAny_bind (w5r hD₁ hsz₁ fun h₂ k₂ hD₂ hk₂ => ?_)
    refine wpAny_pure ⟨plainId_quiet q2k _,?_⟩
    rw [hm.2.2]
    have eb : (q + len q == q) = false:=by rw [beq_eq_false_iff_ne];lia
    rw [eb]
    have en : rawInt ((n : Int) + 1) = rawInt ((n + 1 : Nat) : Int):=by push_cast;rfl
    rw [en]
    have hkk : ∀ b o,b ≠ D → s.heap.get? b = some o → h₂.get? b = some o:=fun b o hb e => hk₂ b o hb (hk₁ b o hb e)
    refine ih (q + len q) (n + 1) (ys₁ ++ [rep]) (its₁.push (.str rep tr)) k₂ _ n3 (by with_reducible exact na7) (hpat.but hkk ⟨_,hD,rfl⟩) hD₂ (by rw [Array.toList_push];exact q4n hy₁) ?_ ?_ fun h' tk t' hk' => ?_
    ·simp only [List.length_append,List.length_singleton];lia
    ·have e : Str.length rep ≤ 2:=hrep
     simp only [List.map_append,List.map_cons,List.map_nil,List.sum_append,List.sum_cons,List.sum_nil]
     lia
    ·rw [e₁]
     exact hR h' tk t' fun b o hb e => hk' b o hb (hkk b o hb e)
   by_cases hpq : p < q
   ·show wpAny _ _ (if p < m'.start then _ else _) _ _ _
    rw [hm.2.1,if_pos hpq]
    refine wpAny_bind (w2b hsz fun t₁ k₁ => ?_)
    refine wpAny_bind (w5r hD (by have:=hys;simp only [Array.length_toList] at this;lia) fun h₁ k₁' hD₁ hk₁ => ?_)
    exact step h₁ k₁ k₁' _ (ys ++ [⟨x.cps.extract p q⟩]) hD₁ (by rw [Array.toList_push];exact q4n hy) (by rw [if_pos hpq]) hk₁
   ·show wpAny _ _ (if p < m'.start then _ else _) _ _ _
    rw [hm.2.1,if_neg hpq]
    exact step s.heap s.toks k its ys hD hy (by rw [if_neg hpq]) fun _ _ _ e => e
private theorem sub_wp {a : Addr} {code : Array Nat} {x rep : PySem.Str} {t tr : Tok} {next : Nat → Option Nat} {len : Nat → Nat} (hsz : x.cps.size ≤ 100000) (hrep : rep.cps.size ≤ 2) (hr92 : rep.cps.contains 92 = false)
  (hs : ∀ p,p ≤ x.cps.size → ∃ m' k,k ≤ 2 ^ 60 ∧ Goes k (Sre.forSearch code x.cps 0 p x.cps.size false) m' ∧ match next p with | some q => m'.outcome = some .matched ∧ m'.start = q ∧ m'.handed = q + len q | none => m'.outcome = some .failed)
  (hn : ∀ p q,p ≤ x.cps.size → next p = some q → p ≤ q ∧ 1 ≤ len q ∧ q + len q ≤ x.cps.size) (hpat : PatAt s.heap a code) {Q : Value → Shared → Prop}
  (h : ∀ h' tk t',(∀ b o,s.heap.get? b = some o → h'.get? b = some o) → Q (.str (Txt.join ⟨#[]⟩ (q1l next len x.cps rep.cps x.cps.size 0 [])) t') { s with heap:=h',toks:=tk }) :
  wpAny (model prog w) A (call (.builtin "re.Pattern.sub") [.ref a,.str rep tr,.str x t]) Q E s:=by
 have hT : s.TypeIs (.ref a) "re.Pattern":=by
  obtain ⟨o,_,_,_,_,_,_,_,_,_,h1,h2,_⟩:=hpat
  exact ⟨o,h1,h2⟩
 refine wpAny_call (codeAny_call_builtin q4q.plain w3a (q4q.check _ _ _ _ _ _ _ _ hT (w5f _ _ _) ?_))
 show wpAny _ _ (reSubstitute "re.Pattern.sub" "sub" false ⟨[.ref a,.str rep tr,.str x t],[]⟩) _ _ _
 unfold reSubstitute
 refine wpAny_bind (wpAny_of_eq (named_sub _ _) ?_)
 refine wpAny_bind (wpAny_pure ?_)
 refine wpAny_bind (wpAny_specialOf (typeIs_str s rep tr) w5l ?_)
 show wpAny _ _ (asStr? (Value.str rep tr) >>= _) _ _ _
 refine wpAny_bind (wpAny_of_eq (a:=some rep) rfl ?_)
 show wpAny _ _ (pure (!rep.cps.contains 92) >>= _) _ _ _
 refine wpAny_bind (wpAny_pure ?_)
 rw [hr92]
 show wpAny _ _ (pure (Value.str rep tr,_) >>= _) _ _ _
 refine wpAny_bind (wpAny_pure ?_)
 refine wpAny_bind (wpAny_holding (q3u hpat ?_))
 show wpAny _ _ (newList [] >>= _) _ _ _
 refine wpAny_bind (wpAny_newObj_type ?_)
 have hnew:=Ok.size_none s
 refine wpAny_pure ⟨plainId_quiet q2k _,?_⟩
 refine loop_wp (D:=s.heap.objs.size) hsz hrep hs hn x.cps.size 0 0 [] #[] 0 _ (Nat.zero_le _) (by with_reducible exact Nat.sub_le _ _) (hpat.keeps fun _ _ e => Heap.get?_push_of_some _ e) (Heap.get?_push_size _ rfl) .nil (by simp) (by simp) fun h' tk t' hk => ?_
 exact h h' tk t' fun b o e => hk b o (fun q => by rw [q,hnew] at e;cases e) (Heap.get?_push_of_some _ e)
end
end
section
open PySem PySem.W PySem.Calls PyProof.Rows
noncomputable def catS (ys : List PySem.Str) : List Nat:=(ys.map fun y => y.cps.toList).flatten
private theorem q0s (a b : PySem.Str) : (a ++ b).cps.toList = a.cps.toList ++ b.cps.toList:=by
 show (a.cps ++ b.cps).toList = _
 simp
private theorem q8g : ∀ ys : List PySem.Str,(PySem.Txt.join ⟨#[]⟩ ys).cps.toList = catS ys
 | [] => rfl
 | [x] => by
  have : PySem.Txt.join ⟨#[]⟩ [x] = x:=(PySem.StrLaws.glued_eq_join _ _).trans (join_one _ _)
  rw [this];simp [catS]
 | x :: y :: r => by
  have : PySem.Txt.join ⟨#[]⟩ (x :: y :: r) = x ++ ⟨#[]⟩ ++ PySem.Txt.join ⟨#[]⟩ (y :: r):=by
   show Builtin.Str.glued _ _ = _ ++ Builtin.Str.glued _ _
   rw [PySem.StrLaws.glued_eq_join,PySem.StrLaws.glued_eq_join];exact join_cons_cons _ _ _ _
  rw [this,q0s,q0s,q8g (y :: r)]
  simp [catS]
noncomputable def crlf : List Nat → List Nat
 | [] => []
 | 13 :: 10 :: l => 13 :: 10 :: crlf l
 | 13 :: l => 13 :: 10 :: crlf l
 | 10 :: l => 13 :: 10 :: crlf l
 | c :: l => c :: crlf l
noncomputable def dotted (bol : Bool) : List Nat → List Nat
 | [] => []
 | c :: l => if bol && c == 46 then 46 :: 46 :: dotted false l else c :: dotted (c == 10) l
noncomputable def quoteL (l : List Nat) : List Nat:=dotted true (crlf l)
noncomputable def quoteS (x : PySem.Str) : PySem.Str:=⟨(quoteL x.cps.toList).toArray⟩
private theorem w0b (l : List Nat) : (crlf l).length ≤ 2 * l.length:=by
 fun_induction crlf l <;> simp_all <;> lia
private theorem q7u {text : Array Nat} {p q : Nat} (h : p < q) (hq : q ≤ text.size) : (text.extract p q).toList = text.getD p 0 :: (text.extract (p + 1) q).toList:=by
 rw [Array.toList_extract,Array.toList_extract]
 have hp : p < text.toList.length:=by simp;with_reducible exact naa
 simp only [List.extract_eq_take_drop]
 rw [List.drop_eq_getElem_cons hp,show q - p = (q - (p + 1)) + 1 by with_reducible exact na3,List.take_succ_cons]
 congr 1
 simp [Array.getD,show p < text.size by omega]
private theorem q2s {text : Array Nat} {p : Nat} (h : p < text.size) : text.toList.drop p = text.getD p 0 :: text.toList.drop (p + 1):=by
 rw [List.drop_eq_getElem_cons (by simpa using h)]
 congr 1
 simp [Array.getD,h]
private theorem w5z {text : Array Nat} : ∀ (k p : Nat),text.size - p = k → nextNl text p = none → crlf (text.toList.drop p) = text.toList.drop p:=by
 intro k
 induction k using Nat.strongRecOn with
 | ind k IH =>
  intro p hk h
  by_cases hp : p < text.size
  ·unfold nextNl at h
   rw [if_pos hp] at h
   by_cases hn : isNl (text.getD p 0) = true
   ·rw [if_pos hn] at h;cases h
   ·rw [if_neg hn] at h
    rw [q2s hp]
    have ih:=IH (k - 1) (by with_reducible exact na2) (p + 1) (by with_reducible exact na1) h
    have h13 : text.getD p 0 ≠ 13:=fun q => hn (by rw [q];rfl)
    have h10 : text.getD p 0 ≠ 10:=fun q => hn (by rw [q];rfl)
    rw [crlf]
    ·rw [ih]
    all_goals simp_all
  ·rw [List.drop_of_length_le (by simp;lia)];rfl
private theorem nextNl_at {text : Array Nat} {q : Nat} : ∀ (k p : Nat),text.size - p = k → nextNl text p = some q → crlf (text.toList.drop p) = (text.extract p q).toList ++ 13 :: 10 :: crlf (text.toList.drop (q + nlLen text q)):=by
 intro k
 induction k using Nat.strongRecOn with
 | ind k IH =>
  intro p hk h
  have hq:=q3l _ p rfl h
  unfold nextNl at h
  by_cases hp : p < text.size
  ·rw [if_pos hp] at h
   by_cases hn : isNl (text.getD p 0) = true
   ·rw [if_pos hn] at h
    have hpq:=Option.some.inj h
    subst hpq
    have e0 : (text.extract p p).toList = []:=by simp
    rw [e0,List.nil_append]
    unfold nlLen
    rw [q2s hp]
    unfold isNl at hn
    by_cases h10 : text.getD p 0 = 10
    ·rw [h10]
     have : ((10 : Nat) == 13 && (decide (p + 1 < text.size) && text.getD (p + 1) 0 == 10)) = false:=rfl
     rw [this]
     simp only [Bool.false_eq_true,if_false]
     rw [crlf]
    ·have h13 : text.getD p 0 = 13:=by rw [Bool.or_eq_true,beq_iff_eq,beq_iff_eq] at hn;exact hn.resolve_left h10
     rw [h13]
     by_cases hc : p + 1 < text.size ∧ text.getD (p + 1) 0 = 10
     ·rw [if_pos (by simp [hc.1,hc.2]),q2s hc.1,hc.2]
      rw [crlf]
     ·rw [if_neg (by simp only [Bool.and_eq_true,decide_eq_true_eq,beq_iff_eq];exact fun q => hc q.2)]
      by_cases h1 : p + 1 < text.size
      ·rw [q2s h1]
       have hne : text.getD (p + 1) 0 ≠ 10:=fun q => hc ⟨h1,q⟩
       rw [crlf]
       intro l e
       exact hne (List.cons.inj e).1
      ·rw [List.drop_of_length_le (by simp;lia)]
       rfl
   ·rw [if_neg hn] at h
    have ih:=IH (k - 1) (by with_reducible exact na2) (p + 1) (by with_reducible exact na1) h
    have hpq : p < q:=by have:=q3l _ (p + 1) rfl h;omega
    rw [q2s hp,q7u hpq (by lia),List.cons_append,← ih]
    have h13 : text.getD p 0 ≠ 13:=fun q => hn (by rw [q];rfl)
    have h10 : text.getD p 0 ≠ 10:=fun q => hn (by rw [q];rfl)
    rw [crlf]
    all_goals simp_all
  ·rw [if_neg hp] at h;cases h
private theorem q2h (a b : List PySem.Str) : catS (a ++ b) = catS a ++ catS b:=by simp [catS]
private theorem sub_crlf (text : Array Nat) : ∀ (f p : Nat) (ys : List PySem.Str),p ≤ text.size → text.size - p ≤ f → catS (q1l (nextNl text) (nlLen text) text #[13,10] f p ys) = catS ys ++ crlf (text.toList.drop p):=by
 intro f
 induction f using Nat.strongRecOn with
 | ind f IH =>
  intro p ys hp hf
  have fin : nextNl text p = none → catS (if p < text.size then ys ++ [⟨text.extract p text.size⟩] else ys) = catS ys ++ crlf (text.toList.drop p):=fun h => by
   rw [w5z _ p rfl h]
   by_cases hlt : p < text.size
   ·rw [if_pos hlt,q2h]
    congr 1
    have e : List.take (text.size - p) (List.drop p text.toList) = List.drop p text.toList:=List.take_of_length_le (by simp)
    simp [catS,List.extract_eq_take_drop,e]
   ·rw [if_neg hlt,List.drop_of_length_le (by simp;lia),List.append_nil]
  cases f with
  | zero =>
   refine fin ?_
   unfold nextNl
   rw [if_neg (by lia)]
  | succ f =>
   unfold q1l
   cases h : nextNl text p with
   | none => exact fin h
   | some q =>
    obtain ⟨h1,h2,h3⟩:=q3l _ p rfl h
    have hlen : 1 ≤ nlLen text q ∧ q + nlLen text q ≤ text.size:=by
     have : (nlLen text q = 2 ∧ q + 1 < text.size) ∨ nlLen text q = 1:=by
      unfold nlLen
      by_cases hc : (text.getD q 0 == 13 && (decide (q + 1 < text.size) && text.getD (q + 1) 0 == 10)) = true
      ·rw [if_pos hc]
       simp only [Bool.and_eq_true,decide_eq_true_eq] at hc
       exact .inl ⟨rfl,hc.2.1⟩
      ·rw [if_neg hc]
       exact .inr rfl
     rcases this with ⟨e,h4⟩ | e <;> rw [e] <;> lia
    rw [nextNl_at _ p rfl h]
    show catS (q1l _ _ _ _ f _ _) = _
    rw [IH f (by lia) _ _ hlen.2 (by lia),q2h]
    have e : catS (if p < q then ys ++ [⟨text.extract p q⟩] else ys) = catS ys ++ (text.extract p q).toList:=by
     by_cases hpq : p < q
     ·rw [if_pos hpq,q2h];simp [catS]
     ·rw [if_neg hpq,show p = q by lia];simp
    rw [e]
    simp [catS,List.append_assoc]
private theorem q3t {text : Array Nat} {q : Nat} : ∀ (k p : Nat),text.size - p = k → q0v text p = some q → p ≤ q ∧ q < text.size ∧ atB text q = true ∧ text.getD q 0 = 46:=by
 intro k
 induction k using Nat.strongRecOn with
 | ind k IH =>
  intro p hk h
  unfold q0v at h
  by_cases hp : p < text.size
  ·rw [if_pos hp] at h
   by_cases hn : (atB text p && text.getD p 0 == 46) = true
   ·rw [if_pos hn] at h
    have hpq:=Option.some.inj h
    subst hpq
    rw [Bool.and_eq_true,beq_iff_eq] at hn
    exact ⟨Nat.le_refl _,hp,hn.1,hn.2⟩
   ·rw [if_neg hn] at h
    obtain ⟨h1,h2⟩:=IH (k - 1) (by with_reducible exact na2) (p + 1) (by with_reducible exact na1) h
    exact ⟨by lia,h2⟩
  ·rw [if_neg hp] at h;cases h
private theorem w3f (text : Array Nat) (p : Nat) : atB text (p + 1) = (text.getD p 0 == 10):=by
 unfold atB
 rw [Nat.add_sub_cancel]
 have : (p + 1 == 0) = false:=rfl
 rw [this,Bool.false_or]
private theorem w4e {text : Array Nat} : ∀ (k p : Nat),text.size - p = k → q0v text p = none → dotted (atB text p) (text.toList.drop p) = text.toList.drop p:=by
 intro k
 induction k using Nat.strongRecOn with
 | ind k IH =>
  intro p hk h
  by_cases hp : p < text.size
  ·unfold q0v at h
   rw [if_pos hp] at h
   by_cases hn : (atB text p && text.getD p 0 == 46) = true
   ·rw [if_pos hn] at h;cases h
   ·rw [if_neg hn] at h
    rw [q2s hp]
    unfold dotted
    rw [if_neg hn,← w3f,IH (k - 1) (by with_reducible exact na2) (p + 1) (by with_reducible exact na1) h]
  ·rw [List.drop_of_length_le (by simp;lia)];rfl
private theorem nextDot_at {text : Array Nat} {q : Nat} : ∀ (k p : Nat),text.size - p = k → q0v text p = some q → dotted (atB text p) (text.toList.drop p) = (text.extract p q).toList ++ 46 :: 46 :: dotted (atB text (q + 1)) (text.toList.drop (q + 1)):=by
 intro k
 induction k using Nat.strongRecOn with
 | ind k IH =>
  intro p hk h
  have hq:=q3t _ p rfl h
  unfold q0v at h
  by_cases hp : p < text.size
  ·rw [if_pos hp] at h
   by_cases hn : (atB text p && text.getD p 0 == 46) = true
   ·rw [if_pos hn] at h
    have hpq:=Option.some.inj h
    subst hpq
    have e0 : (text.extract p p).toList = []:=by simp
    rw [e0,List.nil_append,q2s hp]
    conv => lhs;unfold dotted
    rw [if_pos hn,w3f,hq.2.2.2]
    rfl
   ·rw [if_neg hn] at h
    have ih:=IH (k - 1) (by with_reducible exact na2) (p + 1) (by with_reducible exact na1) h
    have hpq : p < q:=by have:=q3t _ (p + 1) rfl h;omega
    rw [q2s hp,q7u hpq (by lia),List.cons_append,← ih]
    conv => lhs;unfold dotted
    rw [if_neg hn,← w3f]
  ·rw [if_neg hp] at h;cases h
private theorem sub_dot (text : Array Nat) : ∀ (f p : Nat) (ys : List PySem.Str),p ≤ text.size → text.size - p ≤ f → catS (q1l (q0v text) (fun _ => 1) text #[46,46] f p ys) = catS ys ++ dotted (atB text p) (text.toList.drop p):=by
 intro f
 induction f using Nat.strongRecOn with
 | ind f IH =>
  intro p ys hp hf
  have fin : q0v text p = none → catS (if p < text.size then ys ++ [⟨text.extract p text.size⟩] else ys) = catS ys ++ dotted (atB text p) (text.toList.drop p):=fun h => by
   rw [w4e _ p rfl h]
   by_cases hlt : p < text.size
   ·rw [if_pos hlt,q2h]
    congr 1
    have e : List.take (text.size - p) (List.drop p text.toList) = List.drop p text.toList:=List.take_of_length_le (by simp)
    simp [catS,e]
   ·rw [if_neg hlt,List.drop_of_length_le (by simp;lia),List.append_nil]
  cases f with
  | zero =>
   refine fin ?_
   unfold q0v
   rw [if_neg (by lia)]
  | succ f =>
   unfold q1l
   cases h : q0v text p with
   | none => exact fin h
   | some q =>
    obtain ⟨h1,h2,h3⟩:=q3t _ p rfl h
    rw [nextDot_at _ p rfl h]
    show catS (q1l _ _ _ _ f _ _) = _
    rw [IH f (by lia) (q + 1) _ (by lia) (by with_reducible exact na6),q2h]
    have e : catS (if p < q then ys ++ [⟨text.extract p q⟩] else ys) = catS ys ++ (text.extract p q).toList:=by
     by_cases hpq : p < q
     ·rw [if_pos hpq,q2h];simp [catS]
     ·rw [if_neg hpq,show p = q by lia];simp
    rw [e]
    simp [catS,List.append_assoc]
private theorem q5a {a b : PySem.Str} (h : a.cps.toList = b.cps.toList) : a = b:=by
 obtain ⟨a⟩:=a
 obtain ⟨b⟩:=b
 congr 1
 exact Array.toList_inj.mp h
noncomputable def crlfS (x : PySem.Str) : PySem.Str:=⟨(crlf x.cps.toList).toArray⟩
private theorem w3s (x : PySem.Str) : PySem.Txt.join ⟨#[]⟩ (q1l (nextNl x.cps) (nlLen x.cps) x.cps #[13,10] x.cps.size 0 []) = crlfS x:=by
 apply q5a
 rw [q8g,sub_crlf x.cps _ 0 [] (Nat.zero_le _) (by with_reducible exact Nat.sub_le _ _)]
 simp [catS,crlfS]
private theorem w5j (x : PySem.Str) : PySem.Txt.join ⟨#[]⟩ (q1l (q0v x.cps) (fun _ => 1) x.cps #[46,46] x.cps.size 0 []) = ⟨(dotted true x.cps.toList).toArray⟩:=by
 apply q5a
 rw [q8g,sub_dot x.cps _ 0 [] (Nat.zero_le _) (by with_reducible exact Nat.sub_le _ _)]
 have : atB x.cps 0 = true:=rfl
 simp [catS,this]
private theorem quoteS_eq (x : PySem.Str) : (⟨(dotted true (crlfS x).cps.toList).toArray⟩ : PySem.Str) = quoteS x:=by simp [crlfS,quoteS,quoteL]
end
section
set_option tactic.hygienic true
open PySem PySem.W PySem.Calls PyProof.Rows
open PySem.StrLaws PySem.Builtin.Str
noncomputable abbrev sCr : PySem.Str:=⟨#[13,10]⟩
noncomputable def addH (c : Nat) : List (List Nat) → List (List Nat)
 | [] => [[c]]
 | h :: t => (c :: h) :: t
noncomputable def spl : List Nat → List (List Nat)
 | [] => [[]]
 | 13 :: 10 :: r => [] :: spl r
 | c :: r => addH c (spl r)
noncomputable def atC (l : List Nat) (i : Nat) : Bool:=(l.drop i).take 2 == [13,10]
private theorem w7b (x : PySem.Str) (i : Nat) : (i + sCr.length ≤ x.length ∧ subAt x sCr i = true) ↔ atC x.cps.toList i = true:=by
 rw [subAt_eq]
 show (i + 2 ≤ x.length ∧ ((x.cps.toList.drop i).take 2 == [13,10]) = true) ↔ _
 refine ⟨fun h => h.2,fun h => ⟨?_,h⟩⟩
 have:=congrArg List.length (beq_iff_eq.mp h)
 rw [List.length_take,List.length_drop] at this
 have e : x.length = x.cps.toList.length:=rfl
 rw [e]
 have e2 : [13,10].length = 2:=rfl
 rw [e2] at this
 lia
private theorem w8p {l : List Nat} {i : Nat} (h : atC l i = true) : atC l (i + 1) = false ∧ ∃ r,l.drop i = 13 :: 10 :: r ∧ l.drop (i + 2) = r:=by
 have h1:=beq_iff_eq.mp h
 obtain ⟨r,e⟩ : ∃ r,l.drop i = 13 :: 10 :: r:=⟨(l.drop i).drop 2,by
  have:=List.take_append_drop 2 (l.drop i)
  rw [h1] at this;exact this.symm⟩
 have e1 : l.drop (i + 1) = 10 :: r:=by rw [← List.drop_drop,e];rfl
 have e2 : l.drop (i + 2) = r:=by rw [← List.drop_drop,e];rfl
 refine ⟨?_,r,e,e2⟩
 unfold atC
 rw [e1]
 cases r <;> rfl
private theorem w2m (x : PySem.Str) (lim : Nat) : ∀ (n a : Nat) (st : Array Nat × Nat),st.1.size + n ≤ lim → (∀ i,a ≤ i → atC x.cps.toList i = true → st.2 ≤ i) →
  (forIn (List.range' a n) st (occBody x sCr x.length lim)).run.fst.toList = st.1.toList ++ (List.range' a n).filter (atC x.cps.toList)
 | 0,a,st,_,_ => by rw [List.range'_zero];simp
 | n + 1,a,st,h1,h2 => by
  rw [List.range'_succ,List.forIn_cons]
  unfold occBody
  by_cases c : atC x.cps.toList a = true
  ·have hc:=(w7b x a).mpr c
   rw [if_pos ⟨⟨⟨by lia,h2 a (Nat.le_refl _) c⟩,hc.1⟩,hc.2⟩,List.filter_cons_of_pos c]
   refine (w2m x lim n (a + 1) (st.1.push a,a + sCr.length) (by rw [Array.size_push];lia) fun i hi hc' => ?_).trans ?_
   ·show a + 2 ≤ i
    by_cases e : i = a + 1
    ·rw [e,(w8p c).1] at hc';cases hc'
    ·lia
   ·rw [Array.toList_push,List.append_assoc];rfl
  ·rw [if_neg (fun q => c ((w7b x a).mp ⟨q.1.2,q.2⟩)),List.filter_cons_of_neg c]
   exact w2m x lim n (a + 1) _ (by show st.1.size + n ≤ lim;lia) fun i hi hc' => h2 i (by lia) hc'
private theorem w4c (x : PySem.Str) : occurrences x sCr 0 x.length (x.length + 1) = (List.range' 0 (x.length + 1)).filter (atC x.cps.toList):=by
 rw [occ_eq]
 exact w2m x (x.length + 1) (x.length + 1) 0 (#[],0) (by simp) fun i _ _ => Nat.zero_le _
noncomputable def addP (p : List Nat) : List (List Nat) → List (List Nat)
 | [] => [p]
 | h :: t => (p ++ h) :: t
private theorem spl_ne (l : List Nat) : spl l ≠ []:=by
 fun_cases spl l <;> try simp
 rename_i c r _
 cases spl r <;> simp [addH]
private theorem addP_addH (p : List Nat) (c : Nat) (q : List (List Nat)) (h : q ≠ []) : addP p (addH c q) = addP (p ++ [c]) q:=by
 cases q with
 | nil => exact absurd rfl h
 | cons a t => simp [addP,addH]
private theorem w7l {c : Nat} {r : List Nat} (h : ¬ (c = 13 ∧ ∃ t,r = 10 :: t)) : spl (c :: r) = addH c (spl r):=by
 match c,r,h with
 | 13,10 :: t,h => exact absurd ⟨rfl,t,rfl⟩ h
 | c,[],_ =>
  conv => lhs;unfold spl
  split <;> rename_i heq <;> first
   | cases heq;done
   | (injection heq with e1 e2;rw [← e1,← e2])
 | c,d :: t,h =>
  conv => lhs;unfold spl
  split
  ·contradiction
  ·rename_i heq;injection heq with e1 e2;injection e2 with e2 e3;exact absurd ⟨e1,t,by rw [e2]⟩ h
  ·rename_i heq;injection heq with e1 e2;rw [e1,e2]
private theorem parts_spl (x : PySem.Str) : ∀ (k j a : Nat),x.cps.toList.length - j = k → j ≤ x.cps.toList.length → a ≤ j →
  (partsFrom x 2 a ((List.range' j (x.cps.toList.length + 1 - j)).filter (atC x.cps.toList))).map (·.cps.toList) = addP ((x.cps.toList.drop a).take (j - a)) (spl (x.cps.toList.drop j)):=by
 intro k
 induction k using Nat.strongRecOn with
 | ind k IH =>
  intro j a hk hj ha
  have hlen : x.length = x.cps.toList.length:=rfl
  by_cases hje : j = x.cps.toList.length
  ·rw [hje,show x.cps.toList.length + 1 - x.cps.toList.length = 1 by lia]
   have : atC x.cps.toList x.cps.toList.length = false:=by unfold atC;rw [List.drop_length];rfl
   rw [List.range'_one,List.filter_cons_of_neg (by rw [this];exact Bool.false_ne_true)]
   show [(strSub x a x.length).cps.toList] = _
   rw [strSub_toList,List.drop_length,hlen]
   show _ = [_ ++ []]
   rw [List.append_nil]
  ·have hjl : j < x.cps.toList.length:=by lia
   rw [show x.cps.toList.length + 1 - j = (x.cps.toList.length - j) + 1 by lia,List.range'_succ]
   by_cases c : atC x.cps.toList j = true
   ·obtain ⟨c1,r,e1,e2⟩:=w8p c
    have h2 : j + 2 ≤ x.cps.toList.length:=by
     have:=congrArg List.length e1
     rw [List.length_drop,List.length_cons,List.length_cons] at this
     lia
    rw [List.filter_cons_of_pos c,show x.cps.toList.length - j = (x.cps.toList.length + 1 - (j + 2)) + 1 by lia,List.range'_succ,List.filter_cons_of_neg (by rw [c1];exact Bool.false_ne_true)]
    show (strSub x a j).cps.toList :: (partsFrom x 2 (j + 2) _).map (·.cps.toList) = _
    rw [IH (x.cps.toList.length - (j + 2)) (by lia) (j + 2) (j + 2) rfl h2 (Nat.le_refl _),strSub_toList,e1,e2,Nat.sub_self,List.take_zero]
    show _ = addP _ ([] :: spl r)
    cases q : spl r with
    | nil => exact absurd q (spl_ne r)
    | cons h t => simp [addP]
   ·rw [List.filter_cons_of_neg c,show x.cps.toList.length - j = x.cps.toList.length + 1 - (j + 1) by lia]
    rw [IH (x.cps.toList.length - (j + 1)) (by lia) (j + 1) a rfl (by lia) (by lia)]
    have e1 : x.cps.toList.drop j = x.cps.toList[j] :: x.cps.toList.drop (j + 1):=List.drop_eq_getElem_cons hjl
    have e2 : (x.cps.toList.drop a).take (j + 1 - a) = (x.cps.toList.drop a).take (j - a) ++ [x.cps.toList[j]]:=by
     rw [show j + 1 - a = (j - a) + 1 by lia,List.take_add_one,List.getElem?_drop,show a + (j - a) = j by lia,List.getElem?_eq_getElem hjl];rfl
    rw [e2,e1,w7l,addP_addH _ _ _ (spl_ne _)]
    rintro ⟨q1,t,q2⟩
    refine c ?_
    unfold atC
    rw [e1,q1,q2];rfl
private theorem q5o : ∀ {a b : List PySem.Str},a.map (·.cps.toList) = b.map (·.cps.toList) → a = b
 | [],[],_ => rfl
 | [],_ :: _,h => nomatch h
 | _ :: _,[],h => nomatch h
 | x :: a,y :: b,h => by
  rw [List.map_cons,List.map_cons] at h
  injection h with h1 h2
  rw [q5a h1,q5o h2]
private theorem split_spl (x : PySem.Str) : PySem.Txt.split x sCr = (spl x.cps.toList).map fun l => (⟨l.toArray⟩ : PySem.Str):=by
 have main : partsBetween x (occurrences x sCr 0 x.length (x.length + 1)) sCr.length = (spl x.cps.toList).map fun l => (⟨l.toArray⟩ : PySem.Str):=by
  rw [partsBetween_eq,w4c]
  apply q5o
  have:=parts_spl x _ 0 0 rfl (Nat.zero_le _) (Nat.le_refl _)
  rw [Nat.sub_zero,Nat.sub_zero,List.drop_zero,List.take_zero] at this
  rw [List.map_map]
  refine Eq.trans this ?_
  have e : ∀ q : List (List Nat),q ≠ [] → addP [] q = q.map ((fun y : PySem.Str => y.cps.toList) ∘ fun l : List Nat => (⟨l.toArray⟩ : PySem.Str)):=fun q hq => by
   have : (fun y : PySem.Str => y.cps.toList) ∘ (fun l : List Nat => (⟨l.toArray⟩ : PySem.Str)) = id:=by funext l;simp
   rw [this,List.map_id]
   cases q with
   | nil => exact absurd rfl hq
   | cons h t => rfl
  exact e _ (spl_ne _)
 have one : occurrences x sCr 0 x.length (x.length + 1) = [] → [x] = partsBetween x (occurrences x sCr 0 x.length (x.length + 1)) sCr.length:=fun h => by
  rw [h,partsBetween_eq]
  show [x] = [strSub x 0 x.length]
  rw [sub_whole]
 unfold PySem.Txt.split
 split
 ·rename_i h
  refine (one ?_).trans main
  have h1 : decide (PySem.Builtin.Str.strKind x < PySem.Builtin.Str.strKind sCr) = false:=by
   rw [decide_eq_false_iff_not]
   have : PySem.Builtin.Str.strKind sCr = 1:=by decide +kernel
   rw [this]
   unfold PySem.Builtin.Str.strKind
   split
   ·lia
   ·split <;> lia
  rw [h1,Bool.or_false,decide_eq_true_eq] at h
  rw [w4c,List.filter_eq_nil_iff]
  intro i hi q
  have:=((w7b x i).mpr q).1
  lia
 ·split
  ·rename_i h
   exact (one (List.isEmpty_iff.mp h)).trans main
  ·exact main
private theorem w7k : ∀ {b r : List Nat},13 ∉ b → spl (b ++ 13 :: 10 :: r) = b :: spl r
 | [],r,_ => rfl
 | c :: b,r,h => by
  have hc : c ≠ 13:=fun q => h (q ▸ .head _)
  rw [List.cons_append,w7l (fun q => hc q.1),w7k (fun q => h (.tail _ q))];rfl
private theorem crlf_cons {c : Nat} {r : List Nat} (h1 : c ≠ 13) (h2 : c ≠ 10) : crlf (c :: r) = c :: crlf r:=by
 conv => lhs;unfold crlf
 split <;> rename_i heq <;> first
  | (injection heq with e1 e2;first | exact absurd e1 h1 | exact absurd e1 h2 | (rw [e1,e2]))
  | cases heq
private theorem w5a : ∀ {b r : List Nat},13 ∉ b → 10 ∉ b → crlf (b ++ r) = b ++ crlf r
 | [],_,_,_ => rfl
 | c :: b,r,h1,h2 => by
  rw [List.cons_append,crlf_cons (fun q => h1 (q ▸ .head _)) (fun q => h2 (q ▸ .head _)),w5a (fun q => h1 (.tail _ q)) (fun q => h2 (.tail _ q))];rfl
private theorem crlf_13 {r : List Nat} (h : r.head? ≠ some 10) : crlf (13 :: r) = 13 :: 10 :: crlf r:=by
 conv => lhs;unfold crlf
 split <;> rename_i heq
 ·cases heq
 ·injection heq with e1 e2;rw [e2] at h;exact absurd rfl h
 ·injection heq with e1 e2;rw [e2]
 ·cases heq
 ·simp_all
private theorem q9x : ∀ {b r : List Nat},10 ∉ b → dotted false (b ++ 10 :: r) = b ++ 10 :: dotted true r
 | [],r,_ => rfl
 | c :: b,r,h => by
  have hc : (c == 10) = false:=by rw [beq_eq_false_iff_ne];exact fun q => h (q ▸ .head _)
  show c :: dotted (c == 10) (b ++ 10 :: r) = _
  rw [hc,q9x (fun q => h (.tail _ q))];rfl
noncomputable def lead (b : List Nat) : List Nat:=if b.head? = some 46 then 46 :: b else b
private theorem w6s {b r : List Nat} (h1 : 10 ∉ b) : dotted true (b ++ 13 :: 10 :: r) = lead b ++ 13 :: 10 :: dotted true r:=by
 have e : ∀ b : List Nat,10 ∉ b → dotted false (b ++ 13 :: 10 :: r) = b ++ 13 :: 10 :: dotted true r:=fun b h => by
  have:=q9x (b:=b ++ [13]) (r:=r) (fun q => by
   rcases List.mem_append.mp q with q | q
   ·exact h q
   ·simp at q)
  simpa using this
 cases b with
 | nil => rfl
 | cons c b =>
  have hc : (c == 10) = false:=by rw [beq_eq_false_iff_ne];exact fun q => h1 (q ▸ .head _)
  have h2 : 10 ∉ b:=fun q => h1 (.tail _ q)
  by_cases q : c = 46
  ·subst q
   show 46 :: 46 :: dotted false (b ++ 13 :: 10 :: r) = 46 :: 46 :: b ++ 13 :: 10 :: dotted true r
   rw [e b h2];rfl
  ·have l1 : lead (c :: b) = c :: b:=if_neg fun h => q (Option.some.inj h)
   have l2 : dotted true (c :: b ++ 13 :: 10 :: r) = c :: dotted (c == 10) (b ++ 13 :: 10 :: r):=if_neg (by simpa using q)
   rw [l1,l2,hc,e b h2];rfl
end
section
open PySem PySem.W
set_option maxHeartbeats 8000000
noncomputable def nb : (b : List Stmt) ×' PLift (PySem.Challenge.pw_sr0073_02.main.body = b):=⟨_,⟨by (conv => lhs;reduce)⟩⟩
noncomputable def stI (i : Nat) : Stmt:=(nb.1[i]?).getD default
noncomputable def mI (i j : Nat) : Stmt:=match stI i with | .ClassDef _ _ _ body .. => (body[j]?).getD default | _ => default
noncomputable def fdef (st : Stmt) : Option (PySem.Str × Arguments × List Stmt × PySem.Scope):=match st with
 | .FunctionDef name params body _ _ _ scope _ _ _ => some (name,params,body,scope)
 | _ => none
noncomputable def fnS (st : Stmt) (fd : FuncData) : Obj:=(fdef st).elim default fun q => { cls:=.type "function",data:=.func { fd with name:=q.1,params:=q.2.1,body:=.stmts q.2.2.1,scope:=q.2.2.2 } }
noncomputable def dE (P : Params) (x : PySem.Str) (t : Nat) (v : Value) : DictEntry:={ hash:=PyData.keyHash P x,key:=.str x t,val:=v }
noncomputable def bTab : List (String × Value):=[("__name__",.str ⟨#[98,117,105,108,116,105,110,115]⟩ 160)] ++ [("__doc__",.builtin "builtins.__doc__:str#opaque")] ++ [("__package__",.builtin "builtins.__package__:str#opaque")] ++ [("__loader__",.builtin "builtins.__loader__:shared#opaque")] ++ [("__spec__",.builtin "builtins.__spec__#opaque")] ++ ((["__build_class__","__import__","abs","all","any","ascii","bin","breakpoint","callable","chr","compile","delattr","dir","divmod","eval","exec","format","getattr","globals","hasattr","hash","hex","id","input","isinstance","issubclass","iter","aiter","len","locals","max","min","next","anext","oct","ord","pow","print","repr","round","setattr","sorted","sum","vars"] : List String).map fun n => (n,Value.builtin n)) ++ [("None",.none)] ++ [("Ellipsis",.ellipsis)] ++ [("NotImplemented",.notImplemented)] ++ [("False",.bool false)] ++ [("True",.bool true)] ++ ((["bool","memoryview","bytearray","bytes","classmethod","complex","dict","enumerate","filter","float","frozenset","property","int","list","map","object","range","reversed","set","slice","staticmethod","str","super","tuple","type","zip"] : List String).map fun n => (n,Value.type n)) ++ [("__debug__",.bool true)] ++ ((["BaseException","BaseExceptionGroup","Exception","GeneratorExit","KeyboardInterrupt","SystemExit","ArithmeticError","AssertionError","AttributeError","BufferError","EOFError","ImportError","LookupError","MemoryError","NameError","OSError","ReferenceError","RuntimeError","StopAsyncIteration","StopIteration","SyntaxError","SystemError","TypeError","ValueError","Warning","FloatingPointError","OverflowError","ZeroDivisionError","BytesWarning","DeprecationWarning","EncodingWarning","FutureWarning","ImportWarning","PendingDeprecationWarning","ResourceWarning","RuntimeWarning","SyntaxWarning","UnicodeWarning","UserWarning","BlockingIOError","ChildProcessError","ConnectionError","FileExistsError","FileNotFoundError","InterruptedError","IsADirectoryError","NotADirectoryError","PermissionError","ProcessLookupError","TimeoutError","IndentationError","_IncompleteInputError","IndexError","KeyError","ModuleNotFoundError","NotImplementedError","PythonFinalizationError","RecursionError","UnboundLocalError","UnicodeError","BrokenPipeError","ConnectionAbortedError","ConnectionRefusedError","ConnectionResetError","TabError","UnicodeDecodeError","UnicodeEncodeError","UnicodeTranslateError","ExceptionGroup"] : List String).map fun n => (n,Value.type n)) ++ [("EnvironmentError",.type "OSError")] ++ [("IOError",.type "OSError")] ++ ((["open"] : List String).map fun n => (n,Value.builtin n)) ++ [("quit",.builtin "builtins.quit#opaque")] ++ [("exit",.builtin "builtins.exit#opaque")] ++ [("copyright",.builtin "builtins.copyright#opaque")] ++ [("credits",.builtin "builtins.credits#opaque")] ++ [("license",.builtin "builtins.license#opaque")] ++ [("help",.builtin "builtins.help#opaque")]
namespace hd
noncomputable def zo_39 : Params → Obj:=fun P => { cls:=.type "dict",data:=.dict ((bTab.zipIdx.map fun e => dE P (PySem.Str.ofString e.1.1) (e.2 + 1) e.1.2).toArray) 159 }
noncomputable def zo_41 : Params → Obj:=fun P => { cls:=.none,data:=.dict #[dE P ⟨#[105,109,112,111,114,116,46,108,111,97,100,101,100,46,95,115,114,101]⟩ 183 (.bool true),dE P ⟨#[99,108,97,115,115,46,95,102,114,111,122,101,110,95,105,109,112,111,114,116,108,105,98,46,66,117,105,108,116,105,110,73,109,112,111,114,116,101,114]⟩ 185 (.ref 14),dE P ⟨#[119,97,116,99,104,101,100,46,105,109,112,111,114,116]⟩ 206 (.ref 18),dE P ⟨#[99,108,97,115,115,46,95,102,114,111,122,101,110,95,105,109,112,111,114,116,108,105,98,46,77,111,100,117,108,101,83,112,101,99]⟩ 216 (.ref 22),dE P ⟨#[115,121,115,46,109,111,100,117,108,101,115,46,98,111,111,107,101,100,45,101,112,111,99,104]⟩ 245 (.int 3 0),dE P ⟨#[105,109,112,111,114,116,46,108,97,116,101,114,45,108,97,105,100,46,95,115,114,101]⟩ 270 (.bool true),dE P ⟨#[119,97,116,99,104,101,100,46,108,105,98,114,97,114,121]⟩ 272 (.ref 27),dE P ⟨#[119,97,116,99,104,101,100,46,108,105,98,114,97,114,121,45,111,98,106,101,99,116,115]⟩ 0 (.str ⟨#[12]⟩ 0),dE P ⟨#[119,97,116,99,104,101,100,46,108,105,98,114,97,114,121,45,100,101,101,112,46,95,115,114,101]⟩ 273 (.str ⟨#[4,0,0,11,4,0,0,11,4,0,0,3,4,0,0,11,8,4,100,105,99,116,2]⟩ 0)] 9 }
noncomputable def zo_42 : Params → Obj:=fun P => { cls:=.type SZ.s14018661285674007319x4,data:=.dict #[dE P ⟨#[95,95,110,97,109,101,95,95]⟩ 165 (.str ⟨#[108,97,119,95,115,114,48,48,55,51,95,48,50]⟩ 650),dE P ⟨#[95,95,100,111,99,95,95]⟩ 166 .none,dE P ⟨#[95,95,112,97,99,107,97,103,101,95,95]⟩ 167 .none,dE P ⟨#[95,95,108,111,97,100,101,114,95,95]⟩ 168 (.builtin SZ.s7097527257260152453x26),dE P ⟨#[95,95,115,112,101,99,95,95]⟩ 169 .none,dE P ⟨#[95,95,97,110,110,111,116,97,116,105,111,110,115,95,95]⟩ 170 (.ref 6),dE P ⟨#[95,95,98,117,105,108,116,105,110,115,95,95]⟩ 171 (.ref 4),dE P ⟨#[95,95,102,105,108,101,95,95]⟩ 173 (.str ⟨#[47,99,108,97,105,109,47,99,117,116,46,112,121]⟩ 172),dE P ⟨#[95,95,99,97,99,104,101,100,95,95]⟩ 174 .none,dE P ⟨#[95,115,114,101]⟩ 275 (.ref 12),dE P ⟨#[95,119,97,108,108]⟩ 288 (.ref 38),dE P ⟨#[95,116,119,105,110,95,114,101,95,49]⟩ 306 (.ref 43),dE P ⟨#[95,116,119,105,110,95,114,101,95,50]⟩ 348 (.ref 48),dE P ⟨#[67,82,76,70]⟩ 350 (.str ⟨#[13,10]⟩ 349),dE P ⟨#[113,117,111,116,101,100,97,116,97]⟩ 357 (.ref 55),dE P ⟨#[95,68,73,86,95,76,73,77,73,84]⟩ 361 (.int 4000 360),dE P ⟨#[95,100,105,118,50,110,49,110]⟩ 378 (.ref 62),dE P ⟨#[95,100,105,118,51,110,50,110]⟩ 392 (.ref 69),dE P ⟨#[95,105,110,116,50,100,105,103,105,116,115]⟩ 403 (.ref 76),dE P ⟨#[95,100,105,103,105,116,115,50,105,110,116]⟩ 414 (.ref 83),dE P ⟨#[95,100,105,118,109,111,100,95,112,111,115]⟩ 429 (.ref 90),dE P ⟨#[105,110,116,95,100,105,118,109,111,100]⟩ 439 (.ref 97),dE P ⟨#[78,76]⟩ 443 (.str ⟨#[10]⟩ 442),dE P ⟨#[69,77,80,84,89,83,84,82,73,78,71]⟩ 445 (.str ⟨#[]⟩ 444),dE P ⟨#[95,86,97,108,117,101,70,111,114,109,97,116,116,101,114]⟩ 553 (.ref 170),dE P ⟨#[95,65,99,99,117,109,117,108,97,116,111,114]⟩ 649 (.ref 254),dE P ⟨#[95,108,97,119,95,102,105,114,115,116]⟩ 661 (.ref 265),dE P ⟨#[95,108,97,119,95,106,111,105,110,101,100]⟩ 667 (.ref 270),dE P ⟨#[108,97,119]⟩ 673 (.ref 275)] 29 }
noncomputable def zo_62 : Params → Obj:=fun P => { cls:=.type SZ.s2766695959194262286x5,data:=.seq #[.int 14 0,.int 4 0,.int 0 0,.int 1 0,.int 1 0,.int 6 0,.int 1 0,.int 16 0,.int 46 0,.int 1 0] }
noncomputable def zo_63 : Params → Obj:=fun P => { cls:=.type SZ.s12171344214640291687x10,data:=.fields #[.str ⟨#[40,63,109,41,94,92,46]⟩ 292,.int 40 305,.int 0 0,.none,.none,.ref 42,.int 0 0] }
noncomputable def zo_64 : Params → Obj:=fun P => { cls:=.type SZ.s2766695959194262286x5,data:=.seq #[.int 14 0,.int 9 0,.int 4 0,.int 1 0,.int 2 0,.int 16 0,.int 10 0,.int 16 0,.int 13 0,.int 0 0,.int 7 0,.int 7 0,.int 16 0,.int 13 0,.int 16 0,.int 10 0,.int 15 0,.int 18 0,.int 5 0,.int 16 0,.int 10 0,.int 15 0,.int 13 0,.int 11 0,.int 16 0,.int 13 0,.int 5 0,.int 5 0,.int 0 0,.int 16 0,.int 10 0,.int 1 0,.int 15 0,.int 2 0,.int 0 0,.int 1 0] }
noncomputable def zo_65 : Params → Obj:=fun P => { cls:=.type SZ.s12171344214640291687x10,data:=.fields #[.str ⟨#[40,63,58,92,114,92,110,124,92,110,124,92,114,40,63,33,92,110,41,41]⟩ 308,.int 32 347,.int 0 0,.none,.none,.ref 47,.int 0 0] }
noncomputable def zo_71 : Params → Obj:=fun P => { cls:=.type SZ.s5856160107412720595x4,data:=.fields #[.str ⟨#[113,117,111,116,101,100,97,116,97]⟩ 351,.str ⟨#[113,117,111,116,101,100,97,116,97]⟩ 352,.str ⟨#[47,99,108,97,105,109,47,99,117,116,46,112,121]⟩ 353,.int 9 0,.int 1 0,.int 0 0,.int 0 0,.int 3 0,.ref 49,.bool true,.int 276 0,.ref 50,.none,.ref 51,.ref 52,.ref 53,.int 355 0,.int 9 0,.str ⟨#[47,99,108,97,105,109,47,99,117,116,46,112,121]⟩ 356] }
noncomputable def y72 : (o : Obj) ×' PLift (fnS (stI 6) { (default : FuncData) with qualname:=⟨#[113,117,111,116,101,100,97,116,97]⟩,globals:=3,closure:=[],defaults:=.none,kwdefaults:=.none,pyModule:=.str ⟨#[99,112,121,51,49,51,46,115,109,116,112,108,105,98]⟩ 289,code:=.ref 54 } = o):=⟨_,⟨by (conv => lhs;reduce)⟩⟩
noncomputable def zo_72 : Params → Obj:=fun _ => y72.1
noncomputable def zo_78 : Params → Obj:=fun P => { cls:=.type SZ.s5856160107412720595x4,data:=.fields #[.str ⟨#[95,100,105,118,50,110,49,110]⟩ 362,.str ⟨#[95,100,105,118,50,110,49,110]⟩ 363,.str ⟨#[47,99,108,97,105,109,47,99,117,116,46,112,121]⟩ 364,.int 13 0,.int 3 0,.int 0 0,.int 0 0,.int 3 0,.ref 56,.bool true,.int 276 0,.ref 57,.none,.ref 58,.ref 59,.ref 60,.int 376 0,.int 13 0,.str ⟨#[47,99,108,97,105,109,47,99,117,116,46,112,121]⟩ 377] }
noncomputable def y79 : (o : Obj) ×' PLift (fnS (stI 9) { (default : FuncData) with qualname:=⟨#[95,100,105,118,50,110,49,110]⟩,globals:=3,closure:=[],defaults:=.none,kwdefaults:=.none,pyModule:=.str ⟨#[99,112,121,51,49,51,46,95,112,121,108,111,110,103]⟩ 358,code:=.ref 61 } = o):=⟨_,⟨by (conv => lhs;reduce)⟩⟩
noncomputable def zo_79 : Params → Obj:=fun _ => y79.1
noncomputable def zo_85 : Params → Obj:=fun P => { cls:=.type SZ.s5856160107412720595x4,data:=.fields #[.str ⟨#[95,100,105,118,51,110,50,110]⟩ 379,.str ⟨#[95,100,105,118,51,110,50,110]⟩ 380,.str ⟨#[47,99,108,97,105,109,47,99,117,116,46,112,121]⟩ 381,.int 29 0,.int 6 0,.int 0 0,.int 0 0,.int 3 0,.ref 63,.bool true,.int 276 0,.ref 64,.none,.ref 65,.ref 66,.ref 67,.int 390 0,.int 29 0,.str ⟨#[47,99,108,97,105,109,47,99,117,116,46,112,121]⟩ 391] }
noncomputable def y86 : (o : Obj) ×' PLift (fnS (stI 10) { (default : FuncData) with qualname:=⟨#[95,100,105,118,51,110,50,110]⟩,globals:=3,closure:=[],defaults:=.none,kwdefaults:=.none,pyModule:=.str ⟨#[99,112,121,51,49,51,46,95,112,121,108,111,110,103]⟩ 358,code:=.ref 68 } = o):=⟨_,⟨by (conv => lhs;reduce)⟩⟩
noncomputable def zo_86 : Params → Obj:=fun _ => y86.1
noncomputable def zo_88 : Params → Obj:=fun P => { cls:=.none,data:=.fields #[] }
noncomputable def zo_92 : Params → Obj:=fun P => { cls:=.type SZ.s5856160107412720595x4,data:=.fields #[.str ⟨#[95,105,110,116,50,100,105,103,105,116,115]⟩ 393,.str ⟨#[95,105,110,116,50,100,105,103,105,116,115]⟩ 394,.str ⟨#[47,99,108,97,105,109,47,99,117,116,46,112,121]⟩ 395,.int 39 0,.int 2 0,.int 0 0,.int 0 0,.int 3 0,.ref 70,.bool true,.int 276 0,.ref 71,.none,.ref 72,.ref 73,.ref 74,.int 401 0,.int 39 0,.str ⟨#[47,99,108,97,105,109,47,99,117,116,46,112,121]⟩ 402] }
noncomputable def y93 : (o : Obj) ×' PLift (fnS (stI 11) { (default : FuncData) with qualname:=⟨#[95,105,110,116,50,100,105,103,105,116,115]⟩,globals:=3,closure:=[],defaults:=.none,kwdefaults:=.none,pyModule:=.str ⟨#[99,112,121,51,49,51,46,95,112,121,108,111,110,103]⟩ 358,code:=.ref 75 } = o):=⟨_,⟨by (conv => lhs;reduce)⟩⟩
noncomputable def zo_93 : Params → Obj:=fun _ => y93.1
noncomputable def zo_95 : Params → Obj:=fun P => { cls:=.none,data:=.fields #[] }
noncomputable def zo_99 : Params → Obj:=fun P => { cls:=.type SZ.s5856160107412720595x4,data:=.fields #[.str ⟨#[95,100,105,103,105,116,115,50,105,110,116]⟩ 404,.str ⟨#[95,100,105,103,105,116,115,50,105,110,116]⟩ 405,.str ⟨#[47,99,108,97,105,109,47,99,117,116,46,112,121]⟩ 406,.int 55 0,.int 2 0,.int 0 0,.int 0 0,.int 3 0,.ref 77,.bool true,.int 276 0,.ref 78,.none,.ref 79,.ref 80,.ref 81,.int 412 0,.int 55 0,.str ⟨#[47,99,108,97,105,109,47,99,117,116,46,112,121]⟩ 413] }
noncomputable def y100 : (o : Obj) ×' PLift (fnS (stI 12) { (default : FuncData) with qualname:=⟨#[95,100,105,103,105,116,115,50,105,110,116]⟩,globals:=3,closure:=[],defaults:=.none,kwdefaults:=.none,pyModule:=.str ⟨#[99,112,121,51,49,51,46,95,112,121,108,111,110,103]⟩ 358,code:=.ref 82 } = o):=⟨_,⟨by (conv => lhs;reduce)⟩⟩
noncomputable def zo_100 : Params → Obj:=fun _ => y100.1
noncomputable def zo_106 : Params → Obj:=fun P => { cls:=.type SZ.s5856160107412720595x4,data:=.fields #[.str ⟨#[95,100,105,118,109,111,100,95,112,111,115]⟩ 415,.str ⟨#[95,100,105,118,109,111,100,95,112,111,115]⟩ 416,.str ⟨#[47,99,108,97,105,109,47,99,117,116,46,112,121]⟩ 417,.int 64 0,.int 2 0,.int 0 0,.int 0 0,.int 3 0,.ref 84,.bool true,.int 276 0,.ref 85,.none,.ref 86,.ref 87,.ref 88,.int 427 0,.int 64 0,.str ⟨#[47,99,108,97,105,109,47,99,117,116,46,112,121]⟩ 428] }
noncomputable def y107 : (o : Obj) ×' PLift (fnS (stI 13) { (default : FuncData) with qualname:=⟨#[95,100,105,118,109,111,100,95,112,111,115]⟩,globals:=3,closure:=[],defaults:=.none,kwdefaults:=.none,pyModule:=.str ⟨#[99,112,121,51,49,51,46,95,112,121,108,111,110,103]⟩ 358,code:=.ref 89 } = o):=⟨_,⟨by (conv => lhs;reduce)⟩⟩
noncomputable def zo_107 : Params → Obj:=fun _ => y107.1
noncomputable def zo_113 : Params → Obj:=fun P => { cls:=.type SZ.s5856160107412720595x4,data:=.fields #[.str ⟨#[105,110,116,95,100,105,118,109,111,100]⟩ 430,.str ⟨#[105,110,116,95,100,105,118,109,111,100]⟩ 431,.str ⟨#[47,99,108,97,105,109,47,99,117,116,46,112,121]⟩ 432,.int 75 0,.int 2 0,.int 0 0,.int 0 0,.int 3 0,.ref 91,.bool true,.int 276 0,.ref 92,.none,.ref 93,.ref 94,.ref 95,.int 437 0,.int 75 0,.str ⟨#[47,99,108,97,105,109,47,99,117,116,46,112,121]⟩ 438] }
noncomputable def y114 : (o : Obj) ×' PLift (fnS (stI 14) { (default : FuncData) with qualname:=⟨#[105,110,116,95,100,105,118,109,111,100]⟩,globals:=3,closure:=[],defaults:=.none,kwdefaults:=.none,pyModule:=.str ⟨#[99,112,121,51,49,51,46,95,112,121,108,111,110,103]⟩ 358,code:=.ref 96 } = o):=⟨_,⟨by (conv => lhs;reduce)⟩⟩
noncomputable def zo_114 : Params → Obj:=fun _ => y114.1
noncomputable def zo_120 : Params → Obj:=fun P => { cls:=.type SZ.s5856160107412720595x4,data:=.fields #[.str ⟨#[95,95,105,110,105,116,95,95]⟩ 458,.str ⟨#[95,86,97,108,117,101,70,111,114,109,97,116,116,101,114,46,95,95,105,110,105,116,95,95]⟩ 459,.str ⟨#[47,99,108,97,105,109,47,99,117,116,46,112,121]⟩ 460,.int 91 0,.int 5 0,.int 0 0,.int 0 0,.int 3 0,.ref 105,.bool true,.int 276 0,.ref 106,.none,.ref 107,.ref 108,.ref 109,.int 466 0,.int 91 0,.str ⟨#[47,99,108,97,105,109,47,99,117,116,46,112,121]⟩ 467] }
noncomputable def y121 : (o : Obj) ×' PLift (fnS (mI 18 0) { (default : FuncData) with qualname:=⟨#[95,86,97,108,117,101,70,111,114,109,97,116,116,101,114,46,95,95,105,110,105,116,95,95]⟩,globals:=3,closure:=[],defaults:=.none,kwdefaults:=.none,pyModule:=.str ⟨#[99,112,121,51,49,51,46,101,109,97,105,108,46,104,101,97,100,101,114]⟩ 440,code:=.ref 110 } = o):=⟨_,⟨by (conv => lhs;reduce)⟩⟩
noncomputable def zo_121 : Params → Obj:=fun _ => y121.1
noncomputable def zo_127 : Params → Obj:=fun P => { cls:=.type SZ.s5856160107412720595x4,data:=.fields #[.str ⟨#[95,115,116,114]⟩ 469,.str ⟨#[95,86,97,108,117,101,70,111,114,109,97,116,116,101,114,46,95,115,116,114]⟩ 470,.str ⟨#[47,99,108,97,105,109,47,99,117,116,46,112,121]⟩ 471,.int 99 0,.int 2 0,.int 0 0,.int 0 0,.int 3 0,.ref 112,.bool true,.int 276 0,.ref 113,.none,.ref 114,.ref 115,.ref 116,.int 474 0,.int 99 0,.str ⟨#[47,99,108,97,105,109,47,99,117,116,46,112,121]⟩ 475] }
noncomputable def y128 : (o : Obj) ×' PLift (fnS (mI 18 1) { (default : FuncData) with qualname:=⟨#[95,86,97,108,117,101,70,111,114,109,97,116,116,101,114,46,95,115,116,114]⟩,globals:=3,closure:=[],defaults:=.none,kwdefaults:=.none,pyModule:=.str ⟨#[99,112,121,51,49,51,46,101,109,97,105,108,46,104,101,97,100,101,114]⟩ 440,code:=.ref 117 } = o):=⟨_,⟨by (conv => lhs;reduce)⟩⟩
noncomputable def zo_128 : Params → Obj:=fun _ => y128.1
noncomputable def zo_141 : Params → Obj:=fun P => { cls:=.type SZ.s5856160107412720595x4,data:=.fields #[.str ⟨#[110,101,119,108,105,110,101]⟩ 484,.str ⟨#[95,86,97,108,117,101,70,111,114,109,97,116,116,101,114,46,110,101,119,108,105,110,101]⟩ 485,.str ⟨#[47,99,108,97,105,109,47,99,117,116,46,112,121]⟩ 486,.int 106 0,.int 1 0,.int 0 0,.int 0 0,.int 3 0,.ref 126,.bool true,.int 276 0,.ref 127,.none,.ref 128,.ref 129,.ref 130,.int 489 0,.int 106 0,.str ⟨#[47,99,108,97,105,109,47,99,117,116,46,112,121]⟩ 490] }
noncomputable def y142 : (o : Obj) ×' PLift (fnS (mI 18 3) { (default : FuncData) with qualname:=⟨#[95,86,97,108,117,101,70,111,114,109,97,116,116,101,114,46,110,101,119,108,105,110,101]⟩,globals:=3,closure:=[],defaults:=.none,kwdefaults:=.none,pyModule:=.str ⟨#[99,112,121,51,49,51,46,101,109,97,105,108,46,104,101,97,100,101,114]⟩ 440,code:=.ref 131 } = o):=⟨_,⟨by (conv => lhs;reduce)⟩⟩
noncomputable def zo_142 : Params → Obj:=fun _ => y142.1
noncomputable def zo_176 : Params → Obj:=fun P => { cls:=.type SZ.s5856160107412720595x4,data:=.fields #[.str ⟨#[95,97,112,112,101,110,100,95,99,104,117,110,107]⟩ 526,.str ⟨#[95,86,97,108,117,101,70,111,114,109,97,116,116,101,114,46,95,97,112,112,101,110,100,95,99,104,117,110,107]⟩ 527,.str ⟨#[47,99,108,97,105,109,47,99,117,116,46,112,121]⟩ 528,.int 129 0,.int 3 0,.int 0 0,.int 0 0,.int 3 0,.ref 161,.bool true,.int 276 0,.ref 162,.none,.ref 163,.ref 164,.ref 165,.int 537 0,.int 129 0,.str ⟨#[47,99,108,97,105,109,47,99,117,116,46,112,121]⟩ 538] }
noncomputable def y177 : (o : Obj) ×' PLift (fnS (mI 18 8) { (default : FuncData) with qualname:=⟨#[95,86,97,108,117,101,70,111,114,109,97,116,116,101,114,46,95,97,112,112,101,110,100,95,99,104,117,110,107]⟩,globals:=3,closure:=[],defaults:=.none,kwdefaults:=.none,pyModule:=.str ⟨#[99,112,121,51,49,51,46,101,109,97,105,108,46,104,101,97,100,101,114]⟩ 440,code:=.ref 166 } = o):=⟨_,⟨by (conv => lhs;reduce)⟩⟩
noncomputable def zo_177 : Params → Obj:=fun _ => y177.1
noncomputable def zo_179 : Params → Obj:=fun P => { cls:=.type SZ.s14018661285674007319x4,data:=.dict #[dE P ⟨#[95,95,109,111,100,117,108,101,95,95]⟩ 453 (.str ⟨#[99,112,121,51,49,51,46,101,109,97,105,108,46,104,101,97,100,101,114]⟩ 440),dE P ⟨#[95,95,102,105,114,115,116,108,105,110,101,110,111,95,95]⟩ 457 (.int 89 456),dE P ⟨#[95,95,105,110,105,116,95,95]⟩ 468 (.ref 111),dE P ⟨#[95,115,116,114]⟩ 476 (.ref 118),dE P ⟨#[95,95,115,116,114,95,95]⟩ 483 (.ref 125),dE P ⟨#[110,101,119,108,105,110,101]⟩ 491 (.ref 132),dE P ⟨#[97,100,100,95,116,114,97,110,115,105,116,105,111,110]⟩ 498 (.ref 139),dE P ⟨#[102,101,101,100]⟩ 508 (.ref 146),dE P ⟨#[95,109,97,120,108,101,110,103,116,104,115]⟩ 515 (.ref 153),dE P ⟨#[95,97,115,99,105,105,95,115,112,108,105,116]⟩ 525 (.ref 160),dE P ⟨#[95,97,112,112,101,110,100,95,99,104,117,110,107]⟩ 539 (.ref 167),dE P ⟨#[95,95,115,116,97,116,105,99,95,97,116,116,114,105,98,117,116,101,115,95,95]⟩ 546 (.ref 168),dE P ⟨#[95,95,100,105,99,116,95,95]⟩ 548 (.ref 171),dE P ⟨#[95,95,119,101,97,107,114,101,102,95,95]⟩ 550 (.ref 172),dE P ⟨#[95,95,100,111,99,95,95]⟩ 551 .none] 4 }
noncomputable def zo_180 : Params → Obj:=fun P => { cls:=.type SZ.s17162191345867700912x4,data:=.cls { name:=⟨#[95,86,97,108,117,101,70,111,114,109,97,116,116,101,114]⟩,bases:=[.type SZ.s2742458400755230247x6],mro:=[.ref 170,.type SZ.s2742458400755230247x6],ns:=169,qualname:=⟨#[95,86,97,108,117,101,70,111,114,109,97,116,116,101,114]⟩ },slots:=#[none,none,some (.str ⟨#[95,86,97,108,117,101,70,111,114,109,97,116,116,101,114]⟩ 446),some (.str ⟨#[95,86,97,108,117,101,70,111,114,109,97,116,116,101,114]⟩ 454),some (.builtin SZ.s11443829558043349243x14),some (.bool true)] }
noncomputable def zo_184 : Params → Obj:=fun P => { cls:=.type SZ.s15660640913423913556x4,data:=.cell (some (.ref 254)) }
noncomputable def zo_185 : Params → Obj:=fun P => { cls:=.type SZ.s2766695959194262286x5,data:=.seq #[.int 0 566] }
noncomputable def zo_192 : Params → Obj:=fun P => { cls:=.type SZ.s5856160107412720595x4,data:=.fields #[.str ⟨#[95,95,105,110,105,116,95,95]⟩ 567,.str ⟨#[95,65,99,99,117,109,117,108,97,116,111,114,46,95,95,105,110,105,116,95,95]⟩ 568,.str ⟨#[47,99,108,97,105,109,47,99,117,116,46,112,121]⟩ 569,.int 157 0,.int 2 0,.int 0 0,.int 0 0,.int 3 0,.ref 185,.bool true,.int 276 0,.ref 186,.none,.ref 187,.ref 188,.ref 189,.int 573 0,.int 157 0,.str ⟨#[47,99,108,97,105,109,47,99,117,116,46,112,121]⟩ 574] }
noncomputable def y193 : (o : Obj) ×' PLift (fnS (mI 19 0) { (default : FuncData) with qualname:=⟨#[95,65,99,99,117,109,117,108,97,116,111,114,46,95,95,105,110,105,116,95,95]⟩,globals:=3,closure:=[(⟨#[95,95,99,108,97,115,115,95,95]⟩,178)],defaults:=.ref 183,kwdefaults:=.none,pyModule:=.str ⟨#[99,112,121,51,49,51,46,101,109,97,105,108,46,104,101,97,100,101,114]⟩ 440,code:=.ref 190,closureTuple:=.ref 184 } = o):=⟨_,⟨by (conv => lhs;reduce)⟩⟩
noncomputable def zo_193 : Params → Obj:=fun _ => y193.1
noncomputable def zo_199 : Params → Obj:=fun P => { cls:=.type SZ.s5856160107412720595x4,data:=.fields #[.str ⟨#[112,117,115,104]⟩ 576,.str ⟨#[95,65,99,99,117,109,117,108,97,116,111,114,46,112,117,115,104]⟩ 577,.str ⟨#[47,99,108,97,105,109,47,99,117,116,46,112,121]⟩ 578,.int 161 0,.int 3 0,.int 0 0,.int 0 0,.int 3 0,.ref 192,.bool true,.int 276 0,.ref 193,.none,.ref 194,.ref 195,.ref 196,.int 582 0,.int 161 0,.str ⟨#[47,99,108,97,105,109,47,99,117,116,46,112,121]⟩ 583] }
noncomputable def y200 : (o : Obj) ×' PLift (fnS (mI 19 1) { (default : FuncData) with qualname:=⟨#[95,65,99,99,117,109,117,108,97,116,111,114,46,112,117,115,104]⟩,globals:=3,closure:=[],defaults:=.none,kwdefaults:=.none,pyModule:=.str ⟨#[99,112,121,51,49,51,46,101,109,97,105,108,46,104,101,97,100,101,114]⟩ 440,code:=.ref 197 } = o):=⟨_,⟨by (conv => lhs;reduce)⟩⟩
noncomputable def zo_200 : Params → Obj:=fun _ => y200.1
noncomputable def zo_201 : Params → Obj:=fun P => { cls:=.type SZ.s2766695959194262286x5,data:=.seq #[.int 0 585] }
noncomputable def zo_207 : Params → Obj:=fun P => { cls:=.type SZ.s5856160107412720595x4,data:=.fields #[.str ⟨#[112,111,112,95,102,114,111,109]⟩ 586,.str ⟨#[95,65,99,99,117,109,117,108,97,116,111,114,46,112,111,112,95,102,114,111,109]⟩ 587,.str ⟨#[47,99,108,97,105,109,47,99,117,116,46,112,121]⟩ 588,.int 164 0,.int 2 0,.int 0 0,.int 0 0,.int 3 0,.ref 200,.bool true,.int 276 0,.ref 201,.none,.ref 202,.ref 203,.ref 204,.int 592 0,.int 164 0,.str ⟨#[47,99,108,97,105,109,47,99,117,116,46,112,121]⟩ 593] }
noncomputable def y208 : (o : Obj) ×' PLift (fnS (mI 19 2) { (default : FuncData) with qualname:=⟨#[95,65,99,99,117,109,117,108,97,116,111,114,46,112,111,112,95,102,114,111,109]⟩,globals:=3,closure:=[],defaults:=.ref 199,kwdefaults:=.none,pyModule:=.str ⟨#[99,112,121,51,49,51,46,101,109,97,105,108,46,104,101,97,100,101,114]⟩ 440,code:=.ref 205 } = o):=⟨_,⟨by (conv => lhs;reduce)⟩⟩
noncomputable def zo_208 : Params → Obj:=fun _ => y208.1
noncomputable def zo_215 : Params → Obj:=fun P => { cls:=.type SZ.s5856160107412720595x4,data:=.fields #[.str ⟨#[112,111,112]⟩ 595,.str ⟨#[95,65,99,99,117,109,117,108,97,116,111,114,46,112,111,112]⟩ 596,.str ⟨#[47,99,108,97,105,109,47,99,117,116,46,112,121]⟩ 597,.int 169 0,.int 1 0,.int 0 0,.int 0 0,.int 3 0,.ref 208,.bool true,.int 276 0,.ref 209,.none,.ref 210,.ref 211,.ref 212,.int 600 0,.int 169 0,.str ⟨#[47,99,108,97,105,109,47,99,117,116,46,112,121]⟩ 601] }
noncomputable def y216 : (o : Obj) ×' PLift (fnS (mI 19 3) { (default : FuncData) with qualname:=⟨#[95,65,99,99,117,109,117,108,97,116,111,114,46,112,111,112]⟩,globals:=3,closure:=[(⟨#[95,95,99,108,97,115,115,95,95]⟩,178)],defaults:=.none,kwdefaults:=.none,pyModule:=.str ⟨#[99,112,121,51,49,51,46,101,109,97,105,108,46,104,101,97,100,101,114]⟩ 440,code:=.ref 213,closureTuple:=.ref 207 } = o):=⟨_,⟨by (conv => lhs;reduce)⟩⟩
noncomputable def zo_216 : Params → Obj:=fun _ => y216.1
noncomputable def zo_218 : Params → Obj:=fun P => { cls:=.none,data:=.fields #[] }
noncomputable def zo_222 : Params → Obj:=fun P => { cls:=.type SZ.s5856160107412720595x4,data:=.fields #[.str ⟨#[95,95,108,101,110,95,95]⟩ 603,.str ⟨#[95,65,99,99,117,109,117,108,97,116,111,114,46,95,95,108,101,110,95,95]⟩ 604,.str ⟨#[47,99,108,97,105,109,47,99,117,116,46,112,121]⟩ 605,.int 174 0,.int 1 0,.int 0 0,.int 0 0,.int 3 0,.ref 215,.bool true,.int 276 0,.ref 216,.none,.ref 217,.ref 218,.ref 219,.int 607 0,.int 174 0,.str ⟨#[47,99,108,97,105,109,47,99,117,116,46,112,121]⟩ 608] }
noncomputable def y223 : (o : Obj) ×' PLift (fnS (mI 19 4) { (default : FuncData) with qualname:=⟨#[95,65,99,99,117,109,117,108,97,116,111,114,46,95,95,108,101,110,95,95]⟩,globals:=3,closure:=[],defaults:=.none,kwdefaults:=.none,pyModule:=.str ⟨#[99,112,121,51,49,51,46,101,109,97,105,108,46,104,101,97,100,101,114]⟩ 440,code:=.ref 220 } = o):=⟨_,⟨by (conv => lhs;reduce)⟩⟩
noncomputable def zo_223 : Params → Obj:=fun _ => y223.1
noncomputable def zo_225 : Params → Obj:=fun P => { cls:=.none,data:=.fields #[] }
noncomputable def zo_229 : Params → Obj:=fun P => { cls:=.type SZ.s5856160107412720595x4,data:=.fields #[.str ⟨#[95,95,115,116,114,95,95]⟩ 610,.str ⟨#[95,65,99,99,117,109,117,108,97,116,111,114,46,95,95,115,116,114,95,95]⟩ 611,.str ⟨#[47,99,108,97,105,109,47,99,117,116,46,112,121]⟩ 612,.int 177 0,.int 1 0,.int 0 0,.int 0 0,.int 3 0,.ref 222,.bool true,.int 276 0,.ref 223,.none,.ref 224,.ref 225,.ref 226,.int 614 0,.int 177 0,.str ⟨#[47,99,108,97,105,109,47,99,117,116,46,112,121]⟩ 615] }
noncomputable def y230 : (o : Obj) ×' PLift (fnS (mI 19 5) { (default : FuncData) with qualname:=⟨#[95,65,99,99,117,109,117,108,97,116,111,114,46,95,95,115,116,114,95,95]⟩,globals:=3,closure:=[],defaults:=.none,kwdefaults:=.none,pyModule:=.str ⟨#[99,112,121,51,49,51,46,101,109,97,105,108,46,104,101,97,100,101,114]⟩ 440,code:=.ref 227 } = o):=⟨_,⟨by (conv => lhs;reduce)⟩⟩
noncomputable def zo_230 : Params → Obj:=fun _ => y230.1
noncomputable def zo_231 : Params → Obj:=fun P => { cls:=.type SZ.s2766695959194262286x5,data:=.seq #[.none] }
noncomputable def zo_237 : Params → Obj:=fun P => { cls:=.type SZ.s5856160107412720595x4,data:=.fields #[.str ⟨#[114,101,115,101,116]⟩ 617,.str ⟨#[95,65,99,99,117,109,117,108,97,116,111,114,46,114,101,115,101,116]⟩ 618,.str ⟨#[47,99,108,97,105,109,47,99,117,116,46,112,121]⟩ 619,.int 180 0,.int 2 0,.int 0 0,.int 0 0,.int 3 0,.ref 230,.bool true,.int 276 0,.ref 231,.none,.ref 232,.ref 233,.ref 234,.int 622 0,.int 180 0,.str ⟨#[47,99,108,97,105,109,47,99,117,116,46,112,121]⟩ 623] }
noncomputable def y238 : (o : Obj) ×' PLift (fnS (mI 19 6) { (default : FuncData) with qualname:=⟨#[95,65,99,99,117,109,117,108,97,116,111,114,46,114,101,115,101,116]⟩,globals:=3,closure:=[],defaults:=.ref 229,kwdefaults:=.none,pyModule:=.str ⟨#[99,112,121,51,49,51,46,101,109,97,105,108,46,104,101,97,100,101,114]⟩ 440,code:=.ref 235 } = o):=⟨_,⟨by (conv => lhs;reduce)⟩⟩
noncomputable def zo_238 : Params → Obj:=fun _ => y238.1
noncomputable def zo_244 : Params → Obj:=fun P => { cls:=.type SZ.s5856160107412720595x4,data:=.fields #[.str ⟨#[105,115,95,111,110,108,121,119,115]⟩ 625,.str ⟨#[95,65,99,99,117,109,117,108,97,116,111,114,46,105,115,95,111,110,108,121,119,115]⟩ 626,.str ⟨#[47,99,108,97,105,109,47,99,117,116,46,112,121]⟩ 627,.int 186 0,.int 1 0,.int 0 0,.int 0 0,.int 3 0,.ref 237,.bool true,.int 276 0,.ref 238,.none,.ref 239,.ref 240,.ref 241,.int 629 0,.int 186 0,.str ⟨#[47,99,108,97,105,109,47,99,117,116,46,112,121]⟩ 630] }
noncomputable def y245 : (o : Obj) ×' PLift (fnS (mI 19 7) { (default : FuncData) with qualname:=⟨#[95,65,99,99,117,109,117,108,97,116,111,114,46,105,115,95,111,110,108,121,119,115]⟩,globals:=3,closure:=[],defaults:=.none,kwdefaults:=.none,pyModule:=.str ⟨#[99,112,121,51,49,51,46,101,109,97,105,108,46,104,101,97,100,101,114]⟩ 440,code:=.ref 242 } = o):=⟨_,⟨by (conv => lhs;reduce)⟩⟩
noncomputable def zo_245 : Params → Obj:=fun _ => y245.1
noncomputable def zo_252 : Params → Obj:=fun P => { cls:=.type SZ.s5856160107412720595x4,data:=.fields #[.str ⟨#[112,97,114,116,95,99,111,117,110,116]⟩ 632,.str ⟨#[95,65,99,99,117,109,117,108,97,116,111,114,46,112,97,114,116,95,99,111,117,110,116]⟩ 633,.str ⟨#[47,99,108,97,105,109,47,99,117,116,46,112,121]⟩ 634,.int 189 0,.int 1 0,.int 0 0,.int 0 0,.int 3 0,.ref 245,.bool true,.int 276 0,.ref 246,.none,.ref 247,.ref 248,.ref 249,.int 637 0,.int 189 0,.str ⟨#[47,99,108,97,105,109,47,99,117,116,46,112,121]⟩ 638] }
noncomputable def y253 : (o : Obj) ×' PLift (fnS (mI 19 8) { (default : FuncData) with qualname:=⟨#[95,65,99,99,117,109,117,108,97,116,111,114,46,112,97,114,116,95,99,111,117,110,116]⟩,globals:=3,closure:=[(⟨#[95,95,99,108,97,115,115,95,95]⟩,178)],defaults:=.none,kwdefaults:=.none,pyModule:=.str ⟨#[99,112,121,51,49,51,46,101,109,97,105,108,46,104,101,97,100,101,114]⟩ 440,code:=.ref 250,closureTuple:=.ref 244 } = o):=⟨_,⟨by (conv => lhs;reduce)⟩⟩
noncomputable def zo_253 : Params → Obj:=fun _ => y253.1
noncomputable def zo_255 : Params → Obj:=fun P => { cls:=.type SZ.s14018661285674007319x4,data:=.dict #[dE P ⟨#[95,95,109,111,100,117,108,101,95,95]⟩ 561 (.str ⟨#[99,112,121,51,49,51,46,101,109,97,105,108,46,104,101,97,100,101,114]⟩ 440),dE P ⟨#[95,95,102,105,114,115,116,108,105,110,101,110,111,95,95]⟩ 565 (.int 155 564),dE P ⟨#[95,95,105,110,105,116,95,95]⟩ 575 (.ref 191),dE P ⟨#[112,117,115,104]⟩ 584 (.ref 198),dE P ⟨#[112,111,112,95,102,114,111,109]⟩ 594 (.ref 206),dE P ⟨#[112,111,112]⟩ 602 (.ref 214),dE P ⟨#[95,95,108,101,110,95,95]⟩ 609 (.ref 221),dE P ⟨#[95,95,115,116,114,95,95]⟩ 616 (.ref 228),dE P ⟨#[114,101,115,101,116]⟩ 624 (.ref 236),dE P ⟨#[105,115,95,111,110,108,121,119,115]⟩ 631 (.ref 243),dE P ⟨#[112,97,114,116,95,99,111,117,110,116]⟩ 639 (.ref 251),dE P ⟨#[95,95,115,116,97,116,105,99,95,97,116,116,114,105,98,117,116,101,115,95,95]⟩ 641 (.ref 252),dE P ⟨#[95,95,100,105,99,116,95,95]⟩ 644 (.ref 255),dE P ⟨#[95,95,119,101,97,107,114,101,102,95,95]⟩ 646 (.ref 256),dE P ⟨#[95,95,100,111,99,95,95]⟩ 647 .none] 5 }
noncomputable def zo_256 : Params → Obj:=fun P => { cls:=.type SZ.s17162191345867700912x4,data:=.cls { name:=⟨#[95,65,99,99,117,109,117,108,97,116,111,114]⟩,bases:=[.type SZ.s9222952809800978799x4],mro:=[.ref 254,.type SZ.s9222952809800978799x4,.type SZ.s2742458400755230247x6],ns:=253,qualname:=⟨#[95,65,99,99,117,109,117,108,97,116,111,114]⟩ },slots:=#[some (.ref 175),none,some (.str ⟨#[95,65,99,99,117,109,117,108,97,116,111,114]⟩ 554),some (.str ⟨#[95,65,99,99,117,109,117,108,97,116,111,114]⟩ 562),some (.builtin SZ.s896114127876100448x12),some (.bool true)] }
noncomputable def zo_264 : Params → Obj:=fun P => { cls:=.type SZ.s5856160107412720595x4,data:=.fields #[.str ⟨#[95,108,97,119,95,102,105,114,115,116]⟩ 652,.str ⟨#[95,108,97,119,95,102,105,114,115,116]⟩ 653,.str ⟨#[47,99,108,97,105,109,47,99,117,116,46,112,121]⟩ 654,.int 192 0,.int 2 0,.int 0 0,.int 0 0,.int 3 0,.ref 259,.bool true,.int 276 0,.ref 260,.none,.ref 261,.ref 262,.ref 263,.int 659 0,.int 192 0,.str ⟨#[47,99,108,97,105,109,47,99,117,116,46,112,121]⟩ 660] }
noncomputable def y265 : (o : Obj) ×' PLift (fnS (stI 21) { (default : FuncData) with qualname:=⟨#[95,108,97,119,95,102,105,114,115,116]⟩,globals:=3,closure:=[],defaults:=.none,kwdefaults:=.none,pyModule:=.str ⟨#[108,97,119,95,115,114,48,48,55,51,95,48,50]⟩ 650,code:=.ref 264 } = o):=⟨_,⟨by (conv => lhs;reduce)⟩⟩
noncomputable def zo_265 : Params → Obj:=fun _ => y265.1
noncomputable def zo_269 : Params → Obj:=fun P => { cls:=.type SZ.s5856160107412720595x4,data:=.fields #[.str ⟨#[95,108,97,119,95,106,111,105,110,101,100]⟩ 662,.str ⟨#[95,108,97,119,95,106,111,105,110,101,100]⟩ 663,.str ⟨#[47,99,108,97,105,109,47,99,117,116,46,112,121]⟩ 664,.int 197 0,.int 2 0,.int 0 0,.int 0 0,.int 3 0,.ref 266,.bool true,.int 276 0,.ref 267,.none,.none,.none,.ref 268,.int 665 0,.int 197 0,.str ⟨#[47,99,108,97,105,109,47,99,117,116,46,112,121]⟩ 666] }
noncomputable def y270 : (o : Obj) ×' PLift (fnS (stI 22) { (default : FuncData) with qualname:=⟨#[95,108,97,119,95,106,111,105,110,101,100]⟩,globals:=3,closure:=[],defaults:=.none,kwdefaults:=.none,pyModule:=.str ⟨#[108,97,119,95,115,114,48,48,55,51,95,48,50]⟩ 650,code:=.ref 269 } = o):=⟨_,⟨by (conv => lhs;reduce)⟩⟩
noncomputable def zo_270 : Params → Obj:=fun _ => y270.1
noncomputable def zo_274 : Params → Obj:=fun P => { cls:=.type SZ.s5856160107412720595x4,data:=.fields #[.str ⟨#[108,97,119]⟩ 668,.str ⟨#[108,97,119]⟩ 669,.str ⟨#[47,99,108,97,105,109,47,99,117,116,46,112,121]⟩ 670,.int 215 0,.int 1 0,.int 0 0,.int 0 0,.int 3 0,.ref 271,.bool true,.int 276 0,.ref 272,.none,.none,.none,.ref 273,.int 671 0,.int 215 0,.str ⟨#[47,99,108,97,105,109,47,99,117,116,46,112,121]⟩ 672] }
noncomputable def y275 : (o : Obj) ×' PLift (fnS (stI 23) { (default : FuncData) with qualname:=⟨#[108,97,119]⟩,globals:=3,closure:=[],defaults:=.none,kwdefaults:=.none,pyModule:=.str ⟨#[108,97,119,95,115,114,48,48,55,51,95,48,50]⟩ 650,code:=.ref 274 } = o):=⟨_,⟨by (conv => lhs;reduce)⟩⟩
noncomputable def zo_275 : Params → Obj:=fun _ => y275.1
noncomputable def heap_275 : Params → Frag:=fun P => [(0,zo_39 P),(2,zo_41 P),(3,zo_42 P),(42,zo_62 P),(43,zo_63 P),(47,zo_64 P),(48,zo_65 P),(54,zo_71 P),(55,zo_72 P),(61,zo_78 P),(62,zo_79 P),(68,zo_85 P),(69,zo_86 P),(71,zo_88 P),(75,zo_92 P),(76,zo_93 P),(78,zo_95 P),(82,zo_99 P),(83,zo_100 P),(89,zo_106 P),(90,zo_107 P),(96,zo_113 P),(97,zo_114 P),(110,zo_120 P),(111,zo_121 P),(117,zo_127 P),(118,zo_128 P),(131,zo_141 P),(132,zo_142 P),(166,zo_176 P),(167,zo_177 P),(169,zo_179 P),(170,zo_180 P),(178,zo_184 P),(183,zo_185 P),(190,zo_192 P),(191,zo_193 P),(197,zo_199 P),(198,zo_200 P),(199,zo_201 P),(205,zo_207 P),(206,zo_208 P),(213,zo_215 P),(214,zo_216 P),(216,zo_218 P),(220,zo_222 P),(221,zo_223 P),(223,zo_225 P),(227,zo_229 P),(228,zo_230 P),(229,zo_231 P),(235,zo_237 P),(236,zo_238 P),(242,zo_244 P),(243,zo_245 P),(250,zo_252 P),(251,zo_253 P),(253,zo_255 P),(254,zo_256 P),(264,zo_264 P),(265,zo_265 P),(269,zo_269 P),(270,zo_270 P),(274,zo_274 P),(275,zo_275 P)]
end hd
end
section
open PySem PySem.W PySem.Calls PyProof.Rows
noncomputable def tabL : List Addr:=[71,78,216,223]
noncomputable def TL : List (Addr × Addr × PySem.Str):=[(75,71,⟨#[95,105,110,116,50,100,105,103,105,116,115,46,60,108,111,99,97,108,115,62,46,105,110,110,101,114]⟩),(82,78,⟨#[95,100,105,103,105,116,115,50,105,110,116,46,60,108,111,99,97,108,115,62,46,105,110,110,101,114]⟩),(220,216,⟨#[95,65,99,99,117,109,117,108,97,116,111,114,46,95,95,108,101,110,95,95,46,60,108,111,99,97,108,115,62,46,60,103,101,110,101,120,112,114,62]⟩),(227,223,⟨#[95,65,99,99,117,109,117,108,97,116,111,114,46,95,95,115,116,114,95,95,46,60,108,111,99,97,108,115,62,46,60,103,101,110,101,120,112,114,62]⟩)]
noncomputable def Ks (P : Params) : Frag:=(Mine.hd.heap_275 P).filter fun p => !tabL.contains p.1
noncomputable abbrev fdOf (o : Obj) : FuncData:=match o.data with | .func fd => fd | _ => default
noncomputable abbrev bdOf (fd : FuncData) : List Stmt:=match fd.body with | .stmts b => b | _ => []
structure CfgOk (P : Params) (C : Cfg) : Prop where
 K : C.K = Ks P
 T : C.T = TL
private theorem CfgOk.now {P : Params} {C : Cfg} {s : Shared} {mu : List Addr} (h : CfgOk P C) : CfgOk P (C.now s mu):=⟨h.K,h.T⟩
variable {P : Params} {C : Cfg}
noncomputable abbrev cFmt : Addr:=170
noncomputable abbrev cAcc : Addr:=254
noncomputable abbrev q7p : Addr:=178
noncomputable abbrev a_re1 : Addr:=43
noncomputable abbrev a_re2 : Addr:=48
noncomputable abbrev a_div2 : Addr:=62
noncomputable abbrev q9u (P : Params) : FuncData:=fdOf (Mine.hd.zo_79 P)
noncomputable abbrev bd_div2 (P : Params) : List Stmt:=bdOf (q9u P)
private theorem q8h (hC : CfgOk P C) : Def C a_div2 (q9u P) (bd_div2 P):=.ofK ⟨Mine.hd.zo_79 P,by rw [hC.K];kernel_rfl,rfl⟩ rfl (by rw [hC.K];kernel_rfl) rfl rfl rfl rfl rfl
noncomputable abbrev a_div3 : Addr:=69
noncomputable abbrev w2x (P : Params) : FuncData:=fdOf (Mine.hd.zo_86 P)
noncomputable abbrev bd_div3 (P : Params) : List Stmt:=bdOf (w2x P)
private theorem w3b (hC : CfgOk P C) : Def C a_div3 (w2x P) (bd_div3 P):=.ofK ⟨Mine.hd.zo_86 P,by rw [hC.K];kernel_rfl,rfl⟩ rfl (by rw [hC.K];kernel_rfl) rfl rfl rfl rfl rfl
noncomputable abbrev a_i2d : Addr:=76
noncomputable abbrev fd_i2d (P : Params) : FuncData:=fdOf (Mine.hd.zo_93 P)
noncomputable abbrev bd_i2d (P : Params) : List Stmt:=bdOf (fd_i2d P)
private theorem w6t (hC : CfgOk P C) : Def C a_i2d (fd_i2d P) (bd_i2d P):=.ofK ⟨Mine.hd.zo_93 P,by rw [hC.K];kernel_rfl,rfl⟩ rfl (by rw [hC.K];kernel_rfl) rfl rfl rfl rfl rfl
noncomputable abbrev a_d2i : Addr:=83
noncomputable abbrev fd_d2i (P : Params) : FuncData:=fdOf (Mine.hd.zo_100 P)
noncomputable abbrev bd_d2i (P : Params) : List Stmt:=bdOf (fd_d2i P)
private theorem w6u (hC : CfgOk P C) : Def C a_d2i (fd_d2i P) (bd_d2i P):=.ofK ⟨Mine.hd.zo_100 P,by rw [hC.K];kernel_rfl,rfl⟩ rfl (by rw [hC.K];kernel_rfl) rfl rfl rfl rfl rfl
noncomputable abbrev a_dpos : Addr:=90
noncomputable abbrev fd_dpos (P : Params) : FuncData:=fdOf (Mine.hd.zo_107 P)
noncomputable abbrev bd_dpos (P : Params) : List Stmt:=bdOf (fd_dpos P)
private theorem w8j (hC : CfgOk P C) : Def C a_dpos (fd_dpos P) (bd_dpos P):=.ofK ⟨Mine.hd.zo_107 P,by rw [hC.K];kernel_rfl,rfl⟩ rfl (by rw [hC.K];kernel_rfl) rfl rfl rfl rfl rfl
noncomputable abbrev a_idm : Addr:=97
noncomputable abbrev fd_idm (P : Params) : FuncData:=fdOf (Mine.hd.zo_114 P)
noncomputable abbrev bd_idm (P : Params) : List Stmt:=bdOf (fd_idm P)
private theorem q9y (hC : CfgOk P C) : Def C a_idm (fd_idm P) (bd_idm P):=.ofK ⟨Mine.hd.zo_114 P,by rw [hC.K];kernel_rfl,rfl⟩ rfl (by rw [hC.K];kernel_rfl) rfl rfl rfl rfl rfl
noncomputable abbrev w7d : Addr:=55
noncomputable abbrev w8e (P : Params) : FuncData:=fdOf (Mine.hd.zo_72 P)
noncomputable abbrev bd_quote (P : Params) : List Stmt:=bdOf (w8e P)
private theorem w4w (hC : CfgOk P C) : Def C w7d (w8e P) (bd_quote P):=.ofK ⟨Mine.hd.zo_72 P,by rw [hC.K];kernel_rfl,rfl⟩ rfl (by rw [hC.K];kernel_rfl) rfl rfl rfl rfl rfl
noncomputable abbrev w7e : Addr:=265
noncomputable abbrev q6x : Addr:=270
noncomputable abbrev w8f (P : Params) : FuncData:=fdOf (Mine.hd.zo_265 P)
noncomputable abbrev q6q (P : Params) : FuncData:=fdOf (Mine.hd.zo_270 P)
noncomputable abbrev bd_first (P : Params) : List Stmt:=bdOf (w8f P)
noncomputable abbrev bd_joined (P : Params) : List Stmt:=bdOf (q6q P)
private theorem w4x (hC : CfgOk P C) : Def C w7e (w8f P) (bd_first P):=.ofK ⟨Mine.hd.zo_265 P,by rw [hC.K];kernel_rfl,rfl⟩ rfl (by rw [hC.K];kernel_rfl) rfl rfl rfl rfl rfl
private theorem w1m (hC : CfgOk P C) : Def C q6x (q6q P) (bd_joined P):=.ofK ⟨Mine.hd.zo_270 P,by rw [hC.K];kernel_rfl,rfl⟩ rfl (by rw [hC.K];kernel_rfl) rfl rfl rfl rfl rfl
noncomputable abbrev a_law : Addr:=275
noncomputable abbrev fd_law (P : Params) : FuncData:=fdOf (Mine.hd.zo_275 P)
noncomputable abbrev bd_law (P : Params) : List Stmt:=bdOf (fd_law P)
private theorem def_law (hC : CfgOk P C) : Def C a_law (fd_law P) (bd_law P):=.ofK ⟨Mine.hd.zo_275 P,by rw [hC.K];kernel_rfl,rfl⟩ rfl (by rw [hC.K];kernel_rfl) rfl rfl rfl rfl rfl
noncomputable abbrev q3b : Addr:=111
noncomputable abbrev q2q (P : Params) : FuncData:=fdOf (Mine.hd.zo_121 P)
noncomputable abbrev bd_f_init (P : Params) : List Stmt:=bdOf (q2q P)
private theorem def_f_init (hC : CfgOk P C) : Def C q3b (q2q P) (bd_f_init P):=.ofK ⟨Mine.hd.zo_121 P,by rw [hC.K];kernel_rfl,rfl⟩ rfl (by rw [hC.K];kernel_rfl) rfl rfl rfl rfl rfl
noncomputable abbrev q8j : Addr:=118
noncomputable abbrev w4o (P : Params) : FuncData:=fdOf (Mine.hd.zo_128 P)
noncomputable abbrev bd_f__str (P : Params) : List Stmt:=bdOf (w4o P)
private theorem w1n (hC : CfgOk P C) : Def C q8j (w4o P) (bd_f__str P):=.ofK ⟨Mine.hd.zo_128 P,by rw [hC.K];kernel_rfl,rfl⟩ rfl (by rw [hC.K];kernel_rfl) rfl rfl rfl rfl rfl
noncomputable abbrev q1s : Addr:=132
noncomputable abbrev q2p (P : Params) : FuncData:=fdOf (Mine.hd.zo_142 P)
noncomputable abbrev q7x (P : Params) : List Stmt:=bdOf (q2p P)
private theorem q4i (hC : CfgOk P C) : Def C q1s (q2p P) (q7x P):=.ofK ⟨Mine.hd.zo_142 P,by rw [hC.K];kernel_rfl,rfl⟩ rfl (by rw [hC.K];kernel_rfl) rfl rfl rfl rfl rfl
noncomputable abbrev q6b : Addr:=167
noncomputable abbrev q6r (P : Params) : FuncData:=fdOf (Mine.hd.zo_177 P)
noncomputable abbrev bd_f_app (P : Params) : List Stmt:=bdOf (q6r P)
private theorem w4y (hC : CfgOk P C) : Def C q6b (q6r P) (bd_f_app P):=.ofK ⟨Mine.hd.zo_177 P,by rw [hC.K];kernel_rfl,rfl⟩ rfl (by rw [hC.K];kernel_rfl) rfl rfl rfl rfl rfl
noncomputable abbrev q5k : Addr:=191
noncomputable abbrev q4b (P : Params) : FuncData:=fdOf (Mine.hd.zo_193 P)
noncomputable abbrev bd_a_init (P : Params) : List Stmt:=bdOf (q4b P)
private theorem def_a_init (hC : CfgOk P C) : Def C q5k (q4b P) (bd_a_init P):=.ofK ⟨Mine.hd.zo_193 P,by rw [hC.K];kernel_rfl,rfl⟩ rfl (by rw [hC.K];kernel_rfl) rfl rfl rfl rfl rfl
noncomputable abbrev q4k : Addr:=198
noncomputable abbrev w4p (P : Params) : FuncData:=fdOf (Mine.hd.zo_200 P)
noncomputable abbrev bd_a_push (P : Params) : List Stmt:=bdOf (w4p P)
private theorem q3g (hC : CfgOk P C) : Def C q4k (w4p P) (bd_a_push P):=.ofK ⟨Mine.hd.zo_200 P,by rw [hC.K];kernel_rfl,rfl⟩ rfl (by rw [hC.K];kernel_rfl) rfl rfl rfl rfl rfl
noncomputable abbrev q2i : Addr:=206
noncomputable abbrev q4w (P : Params) : FuncData:=fdOf (Mine.hd.zo_208 P)
noncomputable abbrev w5d (P : Params) : List Stmt:=bdOf (q4w P)
private theorem q2y (hC : CfgOk P C) : Def C q2i (q4w P) (w5d P):=.ofK ⟨Mine.hd.zo_208 P,by rw [hC.K];kernel_rfl,rfl⟩ rfl (by rw [hC.K];kernel_rfl) rfl rfl rfl rfl rfl
noncomputable abbrev q6c : Addr:=214
noncomputable abbrev q6s (P : Params) : FuncData:=fdOf (Mine.hd.zo_216 P)
noncomputable abbrev bd_a_pop (P : Params) : List Stmt:=bdOf (q6s P)
private theorem q6u (hC : CfgOk P C) : Def C q6c (q6s P) (bd_a_pop P):=.ofK ⟨Mine.hd.zo_216 P,by rw [hC.K];kernel_rfl,rfl⟩ rfl (by rw [hC.K];kernel_rfl) rfl rfl rfl rfl rfl
noncomputable abbrev w3l : Addr:=221
noncomputable abbrev w8h (P : Params) : FuncData:=fdOf (Mine.hd.zo_223 P)
noncomputable abbrev bd_a_len (P : Params) : List Stmt:=bdOf (w8h P)
private theorem def_a_len (hC : CfgOk P C) : Def C w3l (w8h P) (bd_a_len P):=.ofK ⟨Mine.hd.zo_223 P,by rw [hC.K];kernel_rfl,rfl⟩ rfl (by rw [hC.K];kernel_rfl) rfl rfl rfl rfl rfl
noncomputable abbrev w0i : Addr:=228
noncomputable abbrev w8g (P : Params) : FuncData:=fdOf (Mine.hd.zo_230 P)
noncomputable abbrev bd_a_str (P : Params) : List Stmt:=bdOf (w8g P)
private theorem def_a_str (hC : CfgOk P C) : Def C w0i (w8g P) (bd_a_str P):=.ofK ⟨Mine.hd.zo_230 P,by rw [hC.K];kernel_rfl,rfl⟩ rfl (by rw [hC.K];kernel_rfl) rfl rfl rfl rfl rfl
noncomputable abbrev q3q : Addr:=236
noncomputable abbrev q5h (P : Params) : FuncData:=fdOf (Mine.hd.zo_238 P)
noncomputable abbrev w1r (P : Params) : List Stmt:=bdOf (q5h P)
private theorem q4j (hC : CfgOk P C) : Def C q3q (q5h P) (w1r P):=.ofK ⟨Mine.hd.zo_238 P,by rw [hC.K];kernel_rfl,rfl⟩ rfl (by rw [hC.K];kernel_rfl) rfl rfl rfl rfl rfl
noncomputable abbrev q8k : Addr:=243
noncomputable abbrev w4q (P : Params) : FuncData:=fdOf (Mine.hd.zo_245 P)
noncomputable abbrev bd_a_only (P : Params) : List Stmt:=bdOf (w4q P)
private theorem w1o (hC : CfgOk P C) : Def C q8k (w4q P) (bd_a_only P):=.ofK ⟨Mine.hd.zo_245 P,by rw [hC.K];kernel_rfl,rfl⟩ rfl (by rw [hC.K];kernel_rfl) rfl rfl rfl rfl rfl
noncomputable abbrev q4z : Addr:=251
noncomputable abbrev q5i (P : Params) : FuncData:=fdOf (Mine.hd.zo_253 P)
noncomputable abbrev bd_a_count (P : Params) : List Stmt:=bdOf (q5i P)
private theorem q9z (hC : CfgOk P C) : Def C q4z (q5i P) (bd_a_count P):=.ofK ⟨Mine.hd.zo_253 P,by rw [hC.K];kernel_rfl,rfl⟩ rfl (by rw [hC.K];kernel_rfl) rfl rfl rfl rfl rfl
noncomputable def gB : List (PySem.Str × Value):=[(⟨#[108,101,110]⟩,.builtin "len"),(⟨#[100,105,118,109,111,100]⟩,.builtin "divmod"),(⟨#[115,117,109]⟩,.builtin "sum"),(⟨#[115,111,114,116,101,100]⟩,.builtin "sorted"),(⟨#[109,97,120]⟩,.builtin "max"),(⟨#[109,105,110]⟩,.builtin "min"),(⟨#[97,98,115]⟩,.builtin "abs"),(⟨#[114,101,118,101,114,115,101,100]⟩,.type "reversed"),(⟨#[114,97,110,103,101]⟩,.type "range"),(⟨#[115,116,114]⟩,.type "str"),(⟨#[115,117,112,101,114]⟩,.type "super")]
noncomputable def gM : List (PySem.Str × Value):=[(⟨#[95,100,105,118,50,110,49,110]⟩,.ref a_div2),(⟨#[95,100,105,118,51,110,50,110]⟩,.ref a_div3),(⟨#[95,105,110,116,50,100,105,103,105,116,115]⟩,.ref a_i2d),(⟨#[95,100,105,103,105,116,115,50,105,110,116]⟩,.ref a_d2i),(⟨#[95,100,105,118,109,111,100,95,112,111,115]⟩,.ref a_dpos),(⟨#[105,110,116,95,100,105,118,109,111,100]⟩,.ref a_idm),(⟨#[113,117,111,116,101,100,97,116,97]⟩,.ref w7d),(⟨#[95,65,99,99,117,109,117,108,97,116,111,114]⟩,.ref cAcc),(⟨#[95,86,97,108,117,101,70,111,114,109,97,116,116,101,114]⟩,.ref cFmt),(⟨#[95,116,119,105,110,95,114,101,95,49]⟩,.ref a_re1),(⟨#[95,116,119,105,110,95,114,101,95,50]⟩,.ref a_re2),(⟨#[95,108,97,119,95,102,105,114,115,116]⟩,.ref w7e),(⟨#[95,108,97,119,95,106,111,105,110,101,100]⟩,.ref q6x)]
noncomputable def gTab : List (PySem.Str × Value):=gB ++ gM
private theorem glob_m (hC : CfgOk P C) : gM.map (fun e => nsIn C.K mainGlobals e.1) = gM.map (fun e => some (some e.2)):=by rw [hC.K];kernel_rfl
private theorem glob_n (hC : CfgOk P C) : gB.map (fun e => nsIn C.K mainGlobals e.1) = gB.map (fun _ => some none):=by rw [hC.K];kernel_rfl
private theorem glob_b (hC : CfgOk P C) : gB.map (fun e => nsIn C.K builtinsNs e.1) = gB.map (fun e => some (some e.2)):=by rw [hC.K];kernel_rfl
private theorem q0e (hC : CfgOk P C) {x : PySem.Str} {v : Value} (h : gTab.lookup x = some v) : Glob C x v:=(List.mem_append.mp (q0j h)).elim
 (fun m => .inr ⟨List.map_inj_left.mp (glob_n hC) _ m,List.map_inj_left.mp (glob_b hC) _ m⟩) fun m => .inl (List.map_inj_left.mp (glob_m hC) _ m)
private theorem g_limit (hC : CfgOk P C) : ∃ t,Glob C ⟨#[95,68,73,86,95,76,73,77,73,84]⟩ (.int 4000 t):=⟨360,.inl (by rw [hC.K];kernel_rfl)⟩
private theorem g_crlf (hC : CfgOk P C) : ∃ t,Glob C ⟨#[67,82,76,70]⟩ (.str ⟨#[13,10]⟩ t):=⟨349,.inl (by rw [hC.K];kernel_rfl)⟩
private theorem g_empty (hC : CfgOk P C) : ∃ t,Glob C ⟨#[69,77,80,84,89,83,84,82,73,78,71]⟩ (.str ⟨#[]⟩ t):=⟨444,.inl (by rw [hC.K];kernel_rfl)⟩
end
section
open PySem PySem.W PySem.Calls PyProof.Rows
variable {prog : Program} {w : World}
section
variable {A : Around} {E : Value → Shared → Prop} {h : Heap} {g : Array GenState} {d : Drawn} {t : Nat} {os : OsState}
private theorem own_len : ".".intercalate ("list.__len__".cutAt '.').dropLast = "list":=by decide +kernel
private theorem own_init : ".".intercalate ("list.__init__".cutAt '.').dropLast = "list":=by decide +kernel
private theorem own_pop : ".".intercalate ("list.pop".cutAt '.').dropLast = "list":=by decide +kernel
private theorem bd_len {x Cl : Addr} {ox : Obj} {Q : Fin → Shared → Prop} (hx : h.get? x = some ox) (hc : ox.cls = .ref Cl) (hi : Looks (model prog w) h (isSubtype (.ref Cl) (.type "list")) true)
  (hq : Q (.done (.ret (.ref h.objs.size))) ⟨h.push { cls:=.type "method-wrapper",data:=.fields #[.builtin "list.__len__",.ref x] },g,d,t,os⟩) :
  wpAny (model prog w) A (Builtin.«wrapper_descriptor.__get__» ⟨[.builtin "list.__len__",.ref x,.ref Cl],[]⟩) Q E ⟨h,g,d,t,os⟩:=by
 unfold Builtin.«wrapper_descriptor.__get__»
 repeat (first | (refine wpAny_loadPart_at hx ?_;rw [hc]) | (rw [own_len];with_reducible refine Looks.at hi ?_) | wp_step)
 all_goals exact hq
private theorem bd_init {x Cl : Addr} {ox : Obj} {Q : Fin → Shared → Prop} (hx : h.get? x = some ox) (hc : ox.cls = .ref Cl) (hi : Looks (model prog w) h (isSubtype (.ref Cl) (.type "list")) true)
  (hq : Q (.done (.ret (.ref h.objs.size))) ⟨h.push { cls:=.type "method-wrapper",data:=.fields #[.builtin "list.__init__",.ref x] },g,d,t,os⟩) :
  wpAny (model prog w) A (Builtin.«wrapper_descriptor.__get__» ⟨[.builtin "list.__init__",.ref x,.ref Cl],[]⟩) Q E ⟨h,g,d,t,os⟩:=by
 unfold Builtin.«wrapper_descriptor.__get__»
 repeat (first | (refine wpAny_loadPart_at hx ?_;rw [hc]) | (rw [own_init];with_reducible refine Looks.at hi ?_) | wp_step)
 all_goals exact hq
private theorem bd_pop {x Cl : Addr} {ox : Obj} {Q : Fin → Shared → Prop} (hx : h.get? x = some ox) (hc : ox.cls = .ref Cl) (hi : Looks (model prog w) h (isSubtype (.ref Cl) (.type "list")) true)
  (hq : Q (.done (.ret (.ref h.objs.size))) ⟨h.push { cls:=.type "builtin_function_or_method",data:=.fields #[.builtin "list.pop",.ref x] },g,d,t,os⟩) :
  wpAny (model prog w) A (Builtin.«method_descriptor.__get__» ⟨[.builtin "list.pop",.ref x,.ref Cl],[]⟩) Q E ⟨h,g,d,t,os⟩:=by
 unfold Builtin.«method_descriptor.__get__»
 repeat (first | (refine wpAny_loadPart_at hx ?_;rw [hc]) | (rw [own_pop];with_reducible refine Looks.at hi ?_) | wp_step)
 all_goals exact hq
private theorem sup_ga {so D x Cc : Addr} {id gid T : String} {ob : Obj} {l₀ l : List Value} {K : Frag} {name : Str} {tk : Tok} {Q : Fin → Shared → Prop}
  (hso : h.get? so = some { cls:=.type "super",dict:=none,data:=.fields #[.ref D,.ref x,.ref Cc],slots:=#[] }) (hno : Looks (model prog w) h (opaqueClassAbove (.ref Cc)) none)
  (hC : Looks (model prog w) h (mroOf (.ref Cc)) l₀) (hl : (l₀.dropWhile (· != .ref D)).drop 1 = l) (X : K.In h)
  (hf : alongIn K name l = some (some (.builtin id))) (hty : typeOf (.builtin id) = pure (.type T)) (hg : typeLookup (.type T) "__get__" = pure (some (.builtin gid))) (hxC : x ≠ Cc) (hn : (name == ("__class__" : Str)) = false)
  (hcall : ∀ (A : Around) (Q : Value → Shared → Prop) (E : Value → Shared → Prop),Q (.ref h.objs.size) ⟨h.push ob,g,d,t,os⟩ → wpAny (model prog w) A (call (.builtin gid) [.builtin id,.ref x,.ref Cc]) Q E ⟨h,g,d,t,os⟩)
  (hq : Q (.done (.ret (.ref h.objs.size))) ⟨h.push ob,g,d,t,os⟩) :
  wpAny (model prog w) A (Builtin.«super.__getattribute__» ⟨[.ref so,.str name tk],[]⟩) Q E ⟨h,g,d,t,os⟩:=by
 have hne : (Value.ref x == Value.ref Cc) = false:=by simp [hxC]
 have hdt : ({ cls:=.type "super",dict:=none,data:=.fields #[.ref D,.ref x,.ref Cc],slots:=#[] } : Obj).data = .fields #[.ref D,.ref x,.ref Cc]:=rfl
 have f0 : (#[.ref D,.ref x,.ref Cc] : Array Value)[0]? = some (.ref D):=rfl
 have f1 : (#[.ref D,.ref x,.ref Cc] : Array Value)[1]? = some (.ref x):=rfl
 have f2 : (#[.ref D,.ref x,.ref Cc] : Array Value)[2]? = some (.ref Cc):=rfl
 unfold Builtin.«super.__getattribute__»
 repeat (first
  | (with_reducible refine wpAny_field hso hdt f0 ?_) | (with_reducible refine wpAny_field hso hdt f1 ?_) | (with_reducible refine wpAny_field hso hdt f2 ?_)
  | (with_reducible refine ks_wpAny_notOpaque hno ?_)
  | (with_reducible refine Looks.at hC ?_;rw [hl])
  | (refine ks_forIn_along X (fun _ _ => rfl) rfl ?_ hf)
  | (with_reducible refine wpAny_of_eq hty ?_)
  | (with_reducible refine wpAny_of_eq hg ?_)
  | (with_reducible refine hcall _ _ _ ?_)
  | (simp only [hn,hne,Bool.or_false,Bool.false_eq_true,if_false])
  | wp_step
  | dsimp only)
 all_goals exact hq
end
end
section
open PySem PySem.W PySem.Calls PyProof.Rows
variable {prog : Program} {w : World}
section
variable {A : Around} {E : Value → Shared → Prop} {h : Heap} {g : Array GenState} {d : Drawn} {t : Nat} {os : OsState}
private theorem w8v {so D x Cc : Addr} {id gid T : String} {ob : Obj} {l₀ l : List Value} {K : Frag} {name : Str} {pl : Sem Bool} {Q : Value × List Value → Shared → Prop}
  (hso : h.get? so = some { cls:=.type "super",dict:=none,data:=.fields #[.ref D,.ref x,.ref Cc],slots:=#[] }) (hno : Looks (model prog w) h (opaqueClassAbove (.ref Cc)) none)
  (hC : Looks (model prog w) h (mroOf (.ref Cc)) l₀) (hl : (l₀.dropWhile (· != .ref D)).drop 1 = l) (X : K.In h)
  (hf : alongIn K name l = some (some (.builtin id))) (hty : typeOf (.builtin id) = pure (.type T)) (hg : typeLookup (.type T) "__get__" = pure (some (.builtin gid))) (hxC : x ≠ Cc) (hn : (name == ("__class__" : Str)) = false)
  (hcall : ∀ (t : Nat) (A : Around) (Q : Value → Shared → Prop) (E : Value → Shared → Prop),Q (.ref h.objs.size) ⟨h.push ob,g,d,t,os⟩ → wpAny (model prog w) A (call (.builtin gid) [.builtin id,.ref x,.ref Cc]) Q E ⟨h,g,d,t,os⟩)
  (hq : Q (.ref h.objs.size,[]) ⟨h.push ob,g,d,t + 1,os⟩) : wpAny (model prog w) A (getMethod (.ref so) name pl) Q E ⟨h,g,d,t,os⟩:=by
 have hlk:=PySem.F.ks_slot_super_ga.lookup
 have hcan:=PySem.F.ks_canon_super_ga
 have hT : ∀ t',(⟨h,g,d,t',os⟩ : Shared).TypeIs (.ref so) "super":=fun _ => ⟨_,hso,rfl⟩
 have run:=sup_ga (prog:=prog) (w:=w) (A:=A.in1) (t:=t + 1) (g:=g) (d:=d) (os:=os) (tk:=t) (Q:=fun fin s' => ∃ v,fin = .done (.ret v) ∧ v = .ref h.objs.size ∧ s' = ⟨h.push ob,g,d,t + 1,os⟩) (E:=fun _ _ => False) hso hno hC hl X hf hty hg hxC hn (hcall _) ⟨_,rfl,rfl,rfl⟩
 unfold getMethod
 refine wpAny_bind (wpAny_specialOf (hT _) hlk ?_)
 show wpAny _ _ (if (Manifest.canonical "super.__getattribute__" != "object.__getattribute__") = true then _ else _) _ _ _
 rw [if_pos hcan]
 unfold getAttr getAttrBy
 refine wpAny_bind (wpAny_bind (wpAny_mkText (wpAny_holding (wpAny_bind (wpAny_typeOf (hT _) (wpAny_bind (wpAny_of_eq hlk ?_)))))))
 show wpAny _ _ (getAttrByItsOwn (.ref so) (.str name t) (.type "super") (.builtin "super.__getattribute__") true false) _ _ _
 unfold getAttrByItsOwn hookBefore callGetattribute boundAndCalled
 refine wpAny_bind (wpAny_of_eq (show (if onTheHeap (.type "super") then typeLookup (.type "super") "__getattr__" else pure none) = pure none from rfl) ?_)
 refine wpAny_bind (wpAny_attempt (wpAny_holding ?_))
 show wpAny _ _ (bindSpecial (.builtin "super.__getattribute__") (.ref so) >>= _) _ _ _
 refine wpAny_bind (wpAny_of_eq (PySem.F.ks_slot_super_ga.bind _) ?_)
 refine wpAny_mono (Q:=fun v s' => v = .ref h.objs.size ∧ s' = ⟨h.push ob,g,d,t + 1,os⟩) (E:=fun _ _ => False)
  (wpAny_call_entry (rest:=[.str name t]) PySem.F.ks_slot_super_ga (hT _) PySem.F.ks_entry_super_ga (wpAny_mono run (fun fin s' hv => ?_) fun _ _ e => e) (PySem.F.ks_gaArgs_super _ _)) (fun v s' hv => ?_) fun _ _ z => z.elim
 ·obtain ⟨v,h1,h2,h3⟩:=hv
  exact ⟨v,h1,h2,h3⟩
 ·obtain ⟨rfl,rfl⟩:=hv
  exact wpAny_pure (wpAny_pure hq)
private theorem q7q {b x : Addr} {T id : String} {B : Builtin} {S : PySem.Spec} {pos : Pos} {Q : Value → Shared → Prop} (hT : T = "builtin_function_or_method" ∨ T = "method-wrapper") (hb : h.get? b = some { cls:=.type T,dict:=none,data:=.fields #[.builtin id,.ref x],slots:=#[] })
  (hck : ∀ (A : Around) (Q : Unit → Shared → Prop) (E : Value → Shared → Prop),Q () ⟨h,g,d,t,os⟩ → wpAny (model prog w) A (checkBoundCall id ⟨[.ref x],[]⟩) Q E ⟨h,g,d,t,os⟩)
  (hp : plainId id = true) (entry : entryFor table id = some B) (gm : Meets (B ⟨[.ref x],[]⟩) S) (hS : S A (wants Q E) ⟨h,g,d,t,os⟩) :
  wpAny (model prog w) A (callWith pos (.ref b) [] (backTo pos (starEach [] env)) []) Q E ⟨h,g,d,t,os⟩:=by
 have run : wpAny (model prog w) A (call (.ref b) []) Q E ⟨h,g,d,t,os⟩:=by
  refine wpAny_call (codeAny_of_tree ?_)
  show wpAny _ A.in1 (callAny (.ref b) ⟨[],[]⟩) _ _ _
  unfold callAny
  refine wpAny_bind (wpAny_load hb ?_)
  have hc : ((Value.type T == Value.type "method") || (Value.type T == Value.type "builtin_function_or_method") || (Value.type T == Value.type "method-wrapper")) = true:=by rcases hT with rfl | rfl <;> decide
  have hc2 : (Value.type T != Value.type "method") = true:=by rcases hT with rfl | rfl <;> decide
  dsimp only
  rw [if_pos hc]
  show wpAny _ A.in1 (if (Value.type T != Value.type "method") = true then _ else _) _ _ _
  rw [if_pos hc2]
  refine wpAny_bind (hck _ _ _ ?_)
  exact wpAny_pure ⟨plainId_quiet hp _,codeAny_builtin entry (by rw [Around.under_plainId hp _];exact gm prog w A (wants Q E) _ hS)⟩
 unfold callWith
 refine wpAny_bind (wpAny_holding (evalArgs_nil3 (wpAny_bind (wpAny_standAt ?_))))
 have hk : (Value.type T != Value.type "method") = true:=by rcases hT with rfl | rfl <;> decide
 have hk2 : (Value.type T == Value.type "builtin_function_or_method" || Value.type T == Value.type "method-wrapper") = true:=by rcases hT with rfl | rfl <;> decide
 refine wpAny_bind (m:=keeperOf (.ref b)) ?_
 unfold keeperOf
 refine wpAny_bind (wpAny_load hb ?_)
 show wpAny _ _ (if (Value.type T != Value.type "method") = true then _ else _) _ _ _
 rw [if_pos hk]
 refine wpAny_pure ?_
 dsimp only
 rw [if_pos hk2]
 show wpAny _ _ (call (.ref b) [] >>= _) _ _ _
 exact wpAny_bind (wpAny_mono run (fun r s₂ hr => wpAny_bind (wpAny_holding (wpAny_point (wpAny_pure hr)))) fun _ _ x => x)
private theorem q9n : builtinKind "list.__len__" = some .slot ∧ builtinKind "list.__init__" = some .slot ∧ builtinKind "list.pop" = some .method:=by decide +kernel
private theorem w0g {i : String} {x : Addr} {s : Shared} {Q : Unit → Shared → Prop} {M : Model} (hk : builtinKind i = some .slot) (ha : argsOk i ⟨[.ref x],[]⟩) (hq : Q () s) : wpAny M A (checkBoundCall i ⟨[.ref x],[]⟩) Q E s:=by
 unfold checkBoundCall
 cases hsig : Manifest.signature? i with
 | none => exact wpAny_pure hq
 | some sig =>
  simp only [argsOk,hsig] at ha
  have h2 : Bind.checkArgs i sig ⟨[.ref x],[]⟩ = pure ():=ha
  simp only [hk]
  rw [if_pos (by decide),h2]
  exact wpAny_pure hq
private theorem sig_pop : Manifest.signature? "list.pop" = some ⟨.positional,"list.pop","pop",.self,[⟨"index",.posOnly,false⟩]⟩:=by kernel_rfl
private theorem va_pop : Manifest.varargsMethods.contains "list.pop" = false:=by decide +kernel
private theorem args_pop (x : Addr) : Bind.checkArgs "list.pop" ⟨.positional,s!"{"_Accumulator"}.{Bind.lastOf "list.pop"}","pop",.self,[⟨"index",.posOnly,false⟩]⟩ ⟨[.ref x],[]⟩ = pure ():=by kernel_rfl
private theorem check_popB {x Cl : Addr} {ox : Obj} {cd : ClassData} {Q : Unit → Shared → Prop} {K : Frag} (X : K.In h) (hx : h.get? x = some ox) (hc : ox.cls = .ref Cl) (hn : ∀ c,ox.data ≠ .cls c) (hcd : clsIn K Cl = some cd) (hm : mroIn K Cl (.type "module") = some false) (htc : typeIn K (.ref Cl) = some (.type "type")) (hqn : cd.qualname.toString = "_Accumulator") (hq : Q () ⟨h,g,d,t,os⟩) :
  wpAny (model prog w) A (checkBoundCall "list.pop" ⟨[.ref x],[]⟩) Q E ⟨h,g,d,t,os⟩:=by
 have hty : Looks (model prog w) h (typeOf (.ref x)) (.ref Cl):=hc ▸ (Looks.ld hx).andThen .now
 unfold checkBoundCall
 rw [sig_pop]
 simp only [q9n.2.2]
 rw [if_neg (by decide)]
 have hmod : Looks (model prog w) h (isInstance (.ref x) (.type "module")) false:=hty.andThen (looks_mroIn X hm)
 refine wpAny_bind (hmod.at ?_)
 simp only [va_pop,Bool.or_self,Bool.false_eq_true,if_false]
 refine wpAny_bind (m:=isType (.ref x)) (ks_wpAny_isType_inst hx hn ?_)
 simp only [Bool.false_eq_true,if_false]
 refine wpAny_bind (hty.at ?_)
 dsimp only
 refine wpAny_bind ((looks_clsIn (M:=model prog w) X hcd).at ?_)
 refine wpAny_bind ((looks_typeIn (M:=model prog w) X htc).at ?_)
 rw [if_pos (by decide),hqn,args_pop]
 exact wpAny_pure hq
end
end
section
open PySem PySem.W PySem.Calls PyProof.Rows
variable {prog : Program} {w : World}
section
variable {C : Cfg} {mu mu' nu : List Addr} {s₀ s s' : Shared} {env cenv : Env} {ρ : List (PySem.Str × PV)} {σ σ' : List (Addr × MO)} {A : Around} {E : Value → Shared → Prop} {K : Frag}
private theorem l_global {x : PySem.Str} {v : Value} {L : Addr} {Q : Value → Shared → Prop} (X : K.In s.heap) (c : CEnv env L) (hl : env.kindOf x = some .globalImplicit) (hv : GlobK K x v) (h : Q v s) : wpAny (model prog w) A (loadName env x) Q E s:=by
 have e : loadName env x = loadGlobal env x:=by
  unfold loadName Env.blockKind
  rw [c.kind,hl]
  rfl
 rw [e]
 unfold loadGlobal
 rw [c.gl,c.bi]
 rcases hv with hv | ⟨h1,h2⟩
 ·exact wpAny_bind ((looks_nsIn X hv).here (wpAny_pure h))
 ·exact wpAny_bind ((looks_nsIn X h1).here (wpAny_bind ((looks_nsIn X h2).here (wpAny_pure h))))
structure SupOk (prog : Program) (K : Frag) (D cc f : Addr) (fd : FuncData) (code : Addr) : Prop where
 sup : GlobK K "super" (.type "super")
 cell : ∃ cl d sl,K.lookup cc = some ⟨cl,d,.cell (some (.ref D)),sl⟩
 cls : ∃ cd,clsIn K D = some cd
 fn : ∃ oc od osl,K.lookup f = some ⟨oc,od,.func fd,osl⟩
 arg : ∃ ar,(fd.params.posonlyargs ++ fd.params.args).head? = some ar ∧ ar.arg = "self"
 codeEq : fd.code = .ref code
 file : ∃ cl d vs sl file tf,K.lookup code = some ⟨cl,d,.fields vs,sl⟩ ∧ vs[2]? = some (.str file tf) ∧ ((prog.main.file : PySem.Str) == file) = true
 sub : mroIn K D (.ref D) = some true
 top : (prog.main.scope.names.lookup ("super" : PySem.Str)).isSome = false
 opaq : nsIn K cStatics "thirdparty.any" = some none
 clo : fd.closure = [(("__class__" : PySem.Str),cc)]
 ks : fd.scope.names.lookup ("super" : PySem.Str) = some .globalImplicit
 kc : fd.scope.names.lookup ("__class__" : PySem.Str) = some .free
 kself : fd.scope.names.lookup ("self" : PySem.Str) = some .local
 kind : fd.scope.kind = .function
private theorem w1t {L D cc f code x dx : Addr} {fd : FuncData} {body : List Stmt} {ps : List PV} {od : Obj} {cd : ClassData} {l : List Value} {name : PySem.Str} {p0 p1 apos pos : Pos} {id gid T : String} {pl : Sem Bool} {Q : Value → Shared → Prop}
  (S : SupOk prog C.K D cc f fd code) (I : In C mu nu (callEnv fd L f) ρ σ s₀ s) (hself : ρ.lookup ("self" : PySem.Str) = some (.val (.ref x))) (hl : σ.lookup x = some (.seq (.ref D) (some dx) ps)) (hod : σ.lookup dx = some (.raw od))
  (hcd : clsIn C.K D = some cd) (hmro : (cd.mro.dropWhile (· != .ref D)).drop 1 = l) (hxD : x ≠ D)
  (hf : alongIn C.K name l = some (some (.builtin id))) (hty : typeOf (.builtin id) = pure (.type T)) (hg : typeLookup (.type T) "__get__" = pure (some (.builtin gid))) (hn : (name == ("__class__" : PySem.Str)) = false)
  {T2 : String}
  (hcall : ∀ (h : Heap) (g : Array GenState) (d : Drawn) (t : Nat) (os : OsState) (ox : Obj) (A : Around) (Q : Value → Shared → Prop) (E : Value → Shared → Prop),C.K.In h → h.get? x = some ox → ox.cls = .ref D → Q (.ref h.objs.size) ⟨h.push { cls:=.type T2,data:=.fields #[.builtin id,.ref x] },g,d,t,os⟩ →
   wpAny (model prog w) A (call (.builtin gid) [.builtin id,.ref x,.ref D]) Q E ⟨h,g,d,t,os⟩)
  (k : ∀ b s',In C mu nu (callEnv fd L f) ρ σ s₀ s' → s'.heap.get? b = some { cls:=.type T2,data:=.fields #[.builtin id,.ref x] } → wpAny (model prog w) A (callWith pos (.ref b) [] (backTo pos (starEach [] (callEnv fd L f))) []) Q E s')
  (he : autoParam (eval (.Call (.Attribute (.Call (.Name "super" p0) [] [] p1) name apos) [] [] pos) (callEnv fd L f) = (do
   let ov ← attributeBase (.Call (.Name "super" p0) [] [] p1) name (callEnv fd L f) (eval (.Call (.Name "super" p0) [] [] p1) (callEnv fd L f))
   standAt apos.atName
   let (ff,first) ← holding [ov] (getMethod ov name pl)
   callWith pos ff first (backTo pos (starEach [] (callEnv fd L f))) [])) tR) :
  _root_.PySem.wpAt (model prog w) A (.func body (callEnv fd L f)) (eval (.Call (.Attribute (.Call (.Name "super" p0) [] [] p1) name apos) [] [] pos) (callEnv fd L f)) Q E s:=by
 refine ks_wpAt_MethodCall (pl:=pl) ?_ he
 obtain ⟨oc,odf,osl,hfn⟩:=S.fn
 obtain ⟨ar,har,hars⟩:=S.arg
 obtain ⟨ccl,ccd,ccs,hcell⟩:=S.cell
 obtain ⟨fcl,fdd,fvs,fsl,file,tf,hcode,hvs,hfile⟩:=S.file
 have X:=I.ok.K
 have hcdD : ∃ oD,s.heap.get? D = some oD ∧ oD.data = .cls cd:=by
  obtain ⟨o,e,q⟩:=w6z hcd
  exact ⟨o,X _ _ e,q⟩
 obtain ⟨oD,hD1,hD2⟩:=hcdD
 obtain ⟨vs,n,hox,hvsx,IA⟩:=I.act.inst hl hod
 have cE : CEnv (callEnv fd L f) L:=⟨S.kind,I.act.gl,I.act.bi,rfl⟩
 refine ks_wpAt_super_base S.ks S.kc hn rfl (X _ _ hfn) rfl har (show (callEnv fd L f).code = .ref code from S.codeEq) (X _ _ hcode) rfl hvs hfile S.top ?_
 refine l_global X cE S.ks S.sup ⟨rfl,?_⟩
 refine wpAny_loadName_free (c:=cc) S.kind S.kc (by show fd.closure.lookup _ = _;rw [S.clo];rfl) ⟨_,X _ _ hcell,rfl⟩ ?_
 obtain ⟨m,hns,hm⟩:=I.act.ns
 obtain ⟨v,e1,y⟩:=hm "self" _ hself S.kself
 cases (show v = .ref x from y)
 rw [hars]
 refine wpAny_loadName_local S.kind S.kself hns e1 ?_
 refine ks_wpAny_isType_cls hD1 hD2 ⟨rfl,?_⟩
 obtain ⟨hh,gg,dr,tk,os⟩:=s
 refine ks_wpAny_call_super hD1 hD2 hox rfl (fun c e => by cases e) (looks_mroIn X S.sub) fun h' e kk => ?_
 have I₁ : In C mu nu (callEnv fd L f) ρ σ s₀ ⟨h',gg,dr,tk,os⟩:=I.next (s':=⟨h',gg,dr,tk,os⟩) (I.ok.keep (tk:=tk) kk) (Kp.of_keep (s:=⟨hh,gg,dr,tk,os⟩) (tk:=tk) kk)
 have X₁:=I₁.ok.K
 have hmroL : Looks (model prog w) h' (mroOf (.ref D)) cd.mro:=(looks_clsIn X₁ hcd).andThen .now
 refine w8v e (looks_opaque X₁ S.opaq) hmroL hmro X₁ hf hty hg hxD hn (fun t A Q E hq => hcall h' gg dr t os _ A Q E X₁ (kk _ _ hox) rfl hq) ?_
 refine k _ _ (I₁.next (s':=⟨h'.push { cls:=.type T2,data:=.fields #[.builtin id,.ref x] },gg,dr,tk + 1,os⟩) (I₁.ok.push (tk:=tk + 1)) (Kp.of_keep (s:=⟨h',gg,dr,tk,os⟩) (tk:=tk + 1) fun b o e => Heap.get?_push_of_some _ e)) (Heap.get?_push_size _ rfl)
end
end
section
open PySem PySem.W PySem.Calls PyProof.Rows
variable {prog : Program} {w : World}
section
variable {C : Cfg} {mu mu' nu : List Addr} {s₀ s s' : Shared} {env cenv : Env} {ρ : List (PySem.Str × PV)} {σ σ' : List (Addr × MO)} {A : Around} {E : Value → Shared → Prop} {K : Frag}
private theorem q7n {f : Addr} {fd : FuncData} {body : List Stmt} {n : Nat} {names : List PySem.Str} {ps : List PV} {vs vs0 : List Value} {cc : Addr} {Q : Value → Shared → Prop} (D : DefAt s f fd body) (r : Rm A (n + 1)) (O : Ok C mu s)
  (hy : Sims s.heap mu ps vs) (hbind : BindsTo s fd ⟨vs0,[]⟩ (names.zip vs)) (hlen : names.length = ps.length) (hclo : fd.closure = [(("__class__" : PySem.Str),cc)]) (hcc : ∃ o,C.H.get? cc = some o)
  (hloc : names.all (fun x => fd.scope.names.lookup x == some .local && okName x) = true) (hcell : fd.scope.names.all (fun x => x.2 != .cell) = true)
  (h : ∀ L s₁,s.heap.get? L = none → In C (L :: mu) [L] (callEnv fd L f) (names.zip ps).reverse [] s s₁ → Rm (A.deeper (callEnv fd L f)) n → (∀ b o,s.heap.get? b = some o → s₁.heap.get? b = some o) →
   _root_.PySem.wpAt (model prog w) (A.deeper (callEnv fd L f)) (.func body (callEnv fd L f)) (execs body (callEnv fd L f)) (fun fl s' => match fl with | .ret v => Q v s' | _ => Q .none s') (fun _ _ => False) s₁) :
  wpAny (model prog w) A (call (.ref f) vs0) Q E s:=by
 obtain ⟨o,hl,hd⟩:=D.look
 have hvl : vs.length = ps.length:=hy.length
 have hln : ∀ x ∈ names,fd.scope.names.lookup x = some .local ∧ okName x = true:=fun x hx => by
  have:=List.all_eq_true.mp hloc x hx
  rw [Bool.and_eq_true,beq_iff_eq] at this
  exact this
 have memρ : ∀ x p,(names.zip ps).reverse.lookup x = some p → x ∈ names:=fun x p e => (List.of_mem_zip (List.mem_reverse.mp (q0j e))).1
 have one : ∀ x c,fd.closure.lookup x = some c → x = ("__class__" : PySem.Str) ∧ c = cc:=fun x c e => by
  rw [hclo,List.lookup_cons] at e
  cases hx : x == ("__class__" : PySem.Str) with
  | true => rw [hx] at e;cases e;exact ⟨eq_of_beq hx,rfl⟩
  | false => rw [hx] at e;cases e
 refine wpAny_call (ks_codeAny_call_defAt (binds:=names.zip vs) r.room hl hd O.nolimit D.code D.body hbind (fun x hx => by simpa using List.all_eq_true.mp hcell x hx)
  (fun x hx => (hln x.1 (List.of_mem_zip hx).1).1) (fun h₀ hns hk => ?_) D.co D.gen D.kind)
 have hnone:=Ok.size_none s
 have hL : ∃ o,h₀.get? s.heap.objs.size = some o:=let ⟨o,_,_,ho,_⟩:=hns;⟨o,ho⟩
 obtain ⟨oL,hoL⟩:=hL
 have O₁ : Ok C (s.heap.objs.size :: mu) { s with heap:=h₀,toks:=s.toks + (names.zip vs).length }:=O.fresh hnone hoL hk (O.fresh' hnone).1
 have hy₁ : Sims h₀ (s.heap.objs.size :: mu) ps vs:=(hy.new hnone).keeps (fun _ _ z _ => z) fun b o _ _ e => hk b o e
 refine ks_wpAt_mono (h s.heap.objs.size _ hnone ⟨O₁,⟨fun _ _ e => (nomatch e),D.kind,D.gl,D.bi,.head _,⟨_,hns,fun x p e hlc => ?_⟩,fun x p e => ?_,fun x c hx hxl hc => ?_,fun x p e => ?_,fun x y c h1 h2 => ?_⟩,
  Kp.of_keep hk,fun a h => by simp at h;subst h;exact .head _,fun x hx => ?_⟩ (r.deeper _) hk) (fun fl s' hq => ?_) fun _ _ f => f.elim
 ·exact q2a names ps vs hlen hy₁ x p e
 ·exact .inl (hln x (memρ x p e)).1
 ·exact absurd (one x c hc).1 hx
 ·exact q1i (hln x (memρ x p e)).2
 ·rw [(one x c h1).1,(one y c h2).1]
 ·right
  have hx' : x ∈ fd.closure:=hx
  rw [hclo] at hx'
  simp at hx'
  rw [hx']
  exact hcc
 ·cases fl <;> exact hq
end
end
section
open PySem PySem.W PySem.Calls PyProof.Rows
variable {prog : Program} {w : World}
private theorem w2e (name : PySem.Str) (hs : Int) (key v : Value) : ∀ es : List DictEntry,(putL name hs key v es).length ≤ es.length + 1
 | [] => Nat.le_refl _
 | e :: es => by
  unfold putL
  split
  ·exact Nat.le_succ _
  ·exact Nat.succ_le_succ (w2e name hs key v es)
structure ClsOk (K : Frag) (Cl : Addr) (cd : ClassData) : Prop where
 hc : clsIn K Cl = some cd
 dict : cd.hasDict = true
 st : Stores cd.mro
 ga : findIn K (.ref Cl) "__getattribute__" = some (some (.builtin "object.__getattribute__")) ∨ (findIn K (.ref Cl) "__getattribute__" = some (some (.builtin "list.__getattribute__")) ∧ mroIn K Cl (.type "list") = some true)
 gk : findIn K (.ref Cl) "__getattr__" = some none
 sa : findIn K (.ref Cl) "__setattr__" = some (some (.builtin "object.__setattr__"))
section
variable {A : Around} {E : Value → Shared → Prop} {s : Shared} {K : Frag} {x Cl : Addr} {ox : Obj} {od : Option Obj}
private theorem q8c : Slot "list" "__getattribute__" "list.__getattribute__":=.of (owner:="list") (n:="__getattribute__") (by rw [typeLookup_type,builtinLookup_eq_fast];kernel_rfl) (by decide +kernel) (by decide +kernel) (by decide +kernel)
 (by first | exact .inl (by decide +kernel) | exact .inr (by decide +kernel)) (by rw [isSubtype_type];kernel_rfl)
private theorem args_lga (a b : Value) : argsOk "list.__getattribute__" ⟨[a,b],[]⟩:=by unfold argsOk;kernel_rfl
private theorem lk_lga : builtinKind "list.__getattribute__" = some .slot:=by decide +kernel
private theorem sp_lga : splitId "list.__getattribute__" = some ("list","__getattribute__"):=by decide +kernel
private theorem ck_lga {M : Model} {Q : Unit → Shared → Prop} {x : Addr} {b : Value} (hi : Looks M s.heap (isInstance (.ref x) (.type "list")) true) (q : Q () s) : wpAny M A (checkBuiltinCall "list.__getattribute__" ⟨[.ref x,b],[]⟩) Q E s:=
 have:=@q6v M A E s "list.__getattribute__" "list" "__getattribute__" (.ref x) [b] Q (.inl lk_lga) sp_lga hi
 this (args_lga _ _) q
private theorem inst_attrL {cd : ClassData} {o : Obj} {name : PySem.Str} {v : Value} {expr : Bool} {Q : Value → Shared → Prop} (X : K.In s.heap) (I : InstAt s.heap x ox Cl (some o)) (hga : findIn K (.ref Cl) "__getattribute__" = some (some (.builtin "list.__getattribute__"))) (hm : mroIn K Cl (.type "list") = some true) (hgk : findIn K (.ref Cl) "__getattr__" = some none)
  (hc : clsIn K Cl = some cd) (hd : cd.hasDict = true) (hf : findIn K (.ref Cl) name = some none) (hl : lookIn name o = some (some v)) (hh : handedIn v = true) (h : Q v { s with toks:=s.toks + 1 }) : wpAny (model prog w) A (getAttr (.ref x) name expr) Q E s:=by
 obtain ⟨hp,g,d,t,os⟩:=s
 have L0:=I.type (M:=model prog w)
 have L1:=looks_findIn (M:=model prog w) X hga
 have L2:=looks_findIn (M:=model prog w) X hgk
 have L3:=looks_find (M:=model prog w) X I (q9s hc hd hf hl)
 have hi : Looks (model prog w) hp (isInstance (.ref x) (.type "list")) true:=I.type.andThen (looks_mroIn X hm)
 have run : wpAny (model prog w) A (call (.builtin "list.__getattribute__") [.ref x,.str name t]) (fun v' s' => v' = v ∧ s' = ⟨hp,g,d,t + 1,os⟩) (fun _ _ => False) ⟨hp,g,d,t + 1,os⟩:=by
  refine wpAny_call (codeAny_call_builtin q8c.plain PySem.am_entry_list_getattribute (ck_lga hi ?_))
  unfold Builtin.«object.__getattribute__»
  repeat (first | (with_reducible refine Looks.at L0 ?_) | (with_reducible refine Looks.at L3 ?_) | wp_step)
  all_goals exact ⟨rfl,rfl⟩
 unfold getAttr getAttrBy
 refine wpAny_bind (wpAny_mkText (wpAny_holding (wpAny_bind (L0.at (wpAny_bind (L1.at ?_))))))
 dsimp only
 rw [if_neg (by rw [show (Value.builtin "list.__getattribute__" == Value.builtin "object.__getattribute__") = false from by decide +kernel,Bool.and_false];exact Bool.false_ne_true)]
 unfold getAttrByItsOwn hookBefore callGetattribute boundAndCalled
 refine wpAny_bind (L2.at ?_)
 refine wpAny_bind (wpAny_attempt (wpAny_holding ?_))
 rw [if_neg (by show ¬ ((expr && onTheHeap (Value.builtin "list.__getattribute__")) = true);rw [show onTheHeap (Value.builtin "list.__getattribute__") = false from rfl,Bool.and_false];exact Bool.false_ne_true)]
 rw [q8c.bind]
 refine wpAny_bind (wpAny_pure ?_)
 show wpAny _ _ (call (.builtin "list.__getattribute__") [.ref x,.str name t]) _ _ _
 refine wpAny_mono run (fun v' s' hv => ?_) fun _ _ e => e.elim
 obtain ⟨rfl,rfl⟩:=hv
 show wpAny _ _ (handedOut v') _ _ _
 rw [handedOut_of hh]
 exact wpAny_pure h
end
section
variable {A : Around} {E : Value → Shared → Prop} {s : Shared} {K : Frag} {x Cl : Addr} {ox : Obj} {od : Option Obj} {cd : ClassData}
private theorem w8l {o : Obj} {name : PySem.Str} {v : Value} {expr : Bool} {Q : Value → Shared → Prop} (k : ClsOk K Cl cd) (X : K.In s.heap) (I : InstAt s.heap x ox Cl (some o)) (hf : findIn K (.ref Cl) name = some none) (hl : lookIn name o = some (some v)) (hh : handedIn v = true) (h : Q v { s with toks:=s.toks + 1 }) :
  wpAny (model prog w) A (getAttr (.ref x) name expr) Q E s:=by
 rcases k.ga with hg | ⟨hg,hm⟩
 ·exact inst_attr X I hg k.hc k.dict hf hl hh h
 ·exact inst_attrL X I hg hm k.gk k.hc k.dict hf hl hh h
private theorem canon_lga : (Manifest.canonical "list.__getattribute__" != "object.__getattribute__") = false:=by decide +kernel
private theorem q7o {f tf : Value} {name : PySem.Str} {pl : Sem Bool} {Q : Value × List Value → Shared → Prop} (k : ClsOk K Cl cd) (X : K.In s.heap) (I : InstAt s.heap x ox Cl od)
  (hf : findIn K (.ref Cl) name = some (some f)) (ht : typeIn K f = some tf) (htf : (tf != .type "function" && tf != .type "method_descriptor" && tf != .type "wrapper_descriptor") = false) (hs : shadowIn od name = some false) (h : Q (f,[.ref x]) s) :
  wpAny (model prog w) A (getMethod (.ref x) name pl) Q E s:=by
 rcases k.ga with hg | ⟨hg,hm⟩
 ·exact q9q PySem.F.canon_object_ga X I hg k.gk hf ht htf hs h
 ·exact q9q canon_lga X I hg k.gk hf ht htf hs h
end
noncomputable def SInst (σ : List (Addr × MO)) (x dx Cl : Addr) (od : Obj) : Prop:=σ.lookup dx = some (.raw od) ∧ ((∃ ps,σ.lookup x = some (.seq (.ref Cl) (some dx) ps)) ∨ σ.lookup x = some (.raw (instObj Cl dx)))
section
variable {C : Cfg} {mu mu' nu : List Addr} {s₀ s s' : Shared} {env cenv : Env} {ρ : List (PySem.Str × PV)} {σ σ' : List (Addr × MO)} {A : Around} {E : Value → Shared → Prop} {K : Frag} {x dx Cl : Addr} {od : Obj} {cd : ClassData}
private theorem SInst.at (h : SInst σ x dx Cl od) (a : Act env mu s.heap ρ σ) : ∃ ox,InstAt s.heap x ox Cl (some od) ∧ ox.dict = some dx:=by
 obtain ⟨h1,⟨ps,h2⟩ | h2⟩:=h
 ·obtain ⟨vs,n,_,_,I⟩:=a.inst h2 h1
  exact ⟨_,I,rfl⟩
 ·have e:=(a.st x _ h2).2.2
  exact ⟨_,⟨e,rfl,rfl,(a.st dx _ h1).2.2⟩,rfl⟩
private theorem q3s {value : Expr} {name : PySem.Str} {pos : Pos} {v : Value} {p : PV} (k : ClsOk C.K Cl cd) (ho : PurE prog w C mu A env ρ σ value (.val (.ref x))) (hi : SInst σ x dx Cl od) (hf : findIn C.K (.ref Cl) name = some none) (hl : lookIn name od = some (some v)) (hh : handedIn v = true) (hv : ∀ h mu,Sim h mu p v)
  (he : eval (.Attribute value name pos) env = (do
   let o ← eval value env
   standAt pos.atName
   let r ← holding [o] (getAttr o name true)
   letTemporaryGo value o r
   pure r):=by with_unfolding_all rfl) : PurE prog w C mu A env ρ σ (.Attribute value name pos) p:=fun s O a Q E kk =>
 Attribute_any_ (ho s O a _ _ fun o s₁ O₁ k₁ y₁ => by
  cases (show o = .ref x from y₁)
  obtain ⟨ox,I,_⟩:=hi.at (a.kp O k₁)
  exact w8l k O₁.K I hf hl hh (kk v _ O₁.tok (k₁.trans ⟨fun _ _ _ _ e => e⟩) (hv _ _))) he
private theorem tk_attr {y name : PySem.Str} {py pos : Pos} {v : Value} {p : PV} (k : ClsOk C.K Cl cd) (hy : ρ.lookup y = some (.val (.ref x))) (hyl : env.kindOf y = some .local) (hd : (y == ("__debug__" : PySem.Str)) = false) (hi : SInst σ x dx Cl od) (hf : findIn C.K (.ref Cl) name = some none) (hl : lookIn name od = some (some v)) (hh : handedIn v = true) (hv : ∀ h,Sim h [] p v)
  (he : eval (.Attribute (.Name y py) name pos) env = (do
   let o ← eval (.Name y py) env
   standAt pos.atName
   let r ← holding [o] (getAttr o name true)
   letTemporaryGo (.Name y py) o r
   pure r):=by with_unfolding_all rfl) : PurTk prog w C mu A env ρ σ (.Attribute (.Name y py) name pos) p:=fun s O a Q E kk =>
 Attribute_any_ (by
  obtain ⟨m,hns,hm⟩:=a.ns
  obtain ⟨u,e1,y1⟩:=hm y _ hy hyl
  cases (show u = .ref x from y1)
  refine wpAny_Name (wpAny_loadName_local a.kind hyl hns e1 ?_) hd
  obtain ⟨ox,I,_⟩:=hi.at a
  exact w8l k O.K I hf hl hh (kk v _ (Nat.le_succ _) hv)) he
private theorem q2f {o : Expr} {name : PySem.Str} {apos pos : Pos} {f : Addr} {fd : FuncData} {body : List Stmt} {pl : Sem Bool} {Q : Value → Shared → Prop} (k : ClsOk C.K Cl cd) (O : Ok C mu s) (a : Act env mu s.heap ρ σ) (ho : PurE prog w C mu A env ρ σ o (.val (.ref x))) (hi : SInst σ x dx Cl od)
  (hf : findIn C.K (.ref Cl) name = some (some (.ref f))) (ht : typeIn C.K (.ref f) = some (.type "function")) (hsh : lookIn name od = some none) (D : Def C f fd body)
  (h : ∀ s₁,Ok C mu s₁ → Kp C [] s s₁ → wpAny (model prog w) A (call (.ref f) [.ref x]) Q E s₁)
  (he : autoParam (eval (.Call (.Attribute o name apos) [] [] pos) env = (do let ov ← eval o env;standAt apos.atName;let __x ← holding [ov] (getMethod ov name pl);match __x with | (f,first) => callWith pos f first (backTo pos (starEach [] env)) [])) tR) :
  wpAny (model prog w) A (eval (.Call (.Attribute o name apos) [] [] pos) env) Q E s:=by
 refine MethodCall_ (pl:=pl) (ho s O a _ _ fun v s₁ O₁ k₁ y₁ => ?_) he
 cases (show v = .ref x from y₁)
 have a₁:=a.kp O k₁
 obtain ⟨ox,I,_⟩:=hi.at a₁
 refine q7o k O₁.K I hf ht (by decide) (by show (lookIn name od).map (·.isSome) = some false;rw [hsh];rfl) ?_
 obtain ⟨o',hl,hd⟩:=(D.at O₁).look
 refine callWith_function (o:=o') (fd:=fd) ?_
 exact evalArgs_nil3 ⟨⟨hl,hd⟩,h s₁ O₁ k₁⟩
private theorem q2r {o e : Expr} {es : List Expr} {name : PySem.Str} {apos pos : Pos} {f : Addr} {fd : FuncData} {body : List Stmt} {ps : List PV} {pl : Sem Bool} {Q : Value → Shared → Prop} (k : ClsOk C.K Cl cd) (O : Ok C mu s) (a : Act env mu s.heap ρ σ) (ho : PurE prog w C mu A env ρ σ o (.val (.ref x))) (hi : SInst σ x dx Cl od)
  (hf : findIn C.K (.ref Cl) name = some (some (.ref f))) (ht : typeIn C.K (.ref f) = some (.type "function")) (hsh : lookIn name od = some none) (D : Def C f fd body) (ha : PurEs prog w C mu A env ρ σ (e :: es) ps)
  (h : ∀ s₁ vs,Ok C mu s₁ → Kp C [] s s₁ → Sims s₁.heap mu ps vs → wpAny (model prog w) A (call (.ref f) (.ref x :: vs)) Q E s₁)
  (he : autoParam (eval (.Call (.Attribute o name apos) (e :: es) [] pos) env = (do let ov ← eval o env;standAt apos.atName;let __x ← holding [ov] (getMethod ov name pl);match __x with | (f,first) => callWith pos f first (backTo pos (starEach (e :: es) env)) [])) tR)
  (hs : autoParam (starEach (e :: es) env = (false,eval e env) :: starEach es env) tR) : wpAny (model prog w) A (eval (.Call (.Attribute o name apos) (e :: es) [] pos) env) Q E s:=by
 refine MethodCall_ (pl:=pl) (ho s O a _ _ fun v s₁ O₁ k₁ y₁ => ?_) he
 cases (show v = .ref x from y₁)
 have a₁:=a.kp O k₁
 obtain ⟨ox,I,_⟩:=hi.at a₁
 refine q7o k O₁.K I hf ht (by decide) (by show (lookIn name od).map (·.isSome) = some false;rw [hsh];rfl) ?_
 obtain ⟨o',hl,hd⟩:=(D.at O₁).look
 refine callWith_function (o:=o') (fd:=fd) ?_
 have hp:=ha pos s₁ O₁ a₁
 rw [hs] at hp ⊢
 exact evalArgs_plain (hp _ _ fun vs s₂ O₂ k₂ y₂ => ⟨⟨k₂.keep _ _ (fun h => nomatch h) (O₁.fnNotTab hl hd) hl,hd⟩,h s₂ vs O₂ (k₁.trans k₂) y₂⟩)
private theorem w3y {o : Expr} {name : PySem.Str} {apos pos : Pos} {f : Addr} {fd : FuncData} {body : List Stmt} {z : PV} {pl : Sem Bool} (k : ClsOk C.K Cl cd) (ho : PurE prog w C mu A env ρ σ o (.val (.ref x))) (hi : SInst σ x dx Cl od)
  (hf : findIn C.K (.ref Cl) name = some (some (.ref f))) (ht : typeIn C.K (.ref f) = some (.type "function")) (hsh : lookIn name od = some none) (D : Def C f fd body)
  (h : ∀ s,Ok C mu s → Act env mu s.heap ρ σ → Pur prog w C mu A (call (.ref f) [.ref x]) z s)
  (he : autoParam (eval (.Call (.Attribute o name apos) [] [] pos) env = (do let ov ← eval o env;standAt apos.atName;let __x ← holding [ov] (getMethod ov name pl);match __x with | (f,first) => callWith pos f first (backTo pos (starEach [] env)) [])) tR) :
  PurE prog w C mu A env ρ σ (.Call (.Attribute o name apos) [] [] pos) z:=fun s O a Q E kk =>
 q2f k O a ho hi hf ht hsh D (fun s₁ O₁ k₁ => h s₁ O₁ (a.kp O k₁) _ _ fun v s' O' k' y' => kk v s' O' (k₁.trans k') y') he
private theorem q3c {o e : Expr} {name : PySem.Str} {opos pos : Pos} {p : PV} {es : List DictEntry} {n : Nat} {Q : Flow → Shared → Prop} (k : ClsOk C.K Cl cd) (I : In C mu nu env ρ σ s₀ s) (he : PurE prog w C mu A env ρ σ e p) (ho : PurE prog w C mu A env ρ σ o (.val (.ref x))) (hi : SInst σ x dx Cl (dictOf es n)) (hdn : dx ∈ nu)
  (ht : findIn C.K (.ref Cl) name = some none) (hl : (getL name es).isSome = true) (hz : es.length + 1 ≤ 1000)
  (kk : ∀ v hs t s',Sim s'.heap mu p v → In C mu nu env ρ ((dx,.raw (dictOf (putL name hs (.str name t) v es) (putN name es n))) :: σ) s₀ s' → Q .next s')
  (hsw : autoParam (swapsWith e (some (.Attribute o name opos)) pos.line env = pure false) tR) : wpAny (model prog w) A (exec (.Assign [.Attribute o name opos] e pos) env) Q E s:=by
 refine plainObj_wpAny_Assign_Attribute ?_ hsw
 refine he s I.ok I.act _ _ fun v s₁ O₁ k₁ y₁ => ?_
 have I₁:=I.next O₁ k₁
 refine ho s₁ I₁.ok I₁.act _ _ fun ov s₂ O₂ k₂ y₂ => ?_
 cases (show ov = .ref x from y₂)
 have I₂:=I₁.next O₂ k₂
 obtain ⟨ox,IA,hd⟩:=hi.at I₂.act
 have hdm:=(I₂.act.st dx _ hi.1).1
 refine q7t I₂.ok.K IA hd k.hc k.st k.dict k.sa ht hl (Nat.le_trans (w2e ..) hz) fun h' e1 e2 => ?_
 have yv:=y₁.kp0 O₁ k₂
 refine kk v _ _ _ (yv.keeps (fun _ _ z _ => z) fun b o hb _ e => e2 b o (fun q => hb (q ▸ hdm)) e) (I₂.mut (tk:=s₂.toks + 2) hi.1 hdn e2 e1)
end
end
section
open PySem PySem.W PySem.Calls PyProof.Rows
variable {prog : Program} {w : World}
structure SubOk (K : Frag) (Cl : Addr) : Prop where
 lst : mroIn K Cl (.type "list") = some true
 deq : mroIn K Cl (.type "collections.deque") = some false
 get : findIn K (.ref Cl) "__getitem__" = some (some (.builtin "list.__getitem__"))
 set : findIn K (.ref Cl) "__setitem__" = some (some (.builtin "list.__setitem__"))
 iter : findIn K (.ref Cl) "__iter__" = some (some (.builtin "list.__iter__"))
 app : findIn K (.ref Cl) "append" = some (some (.builtin "list.append"))
section
variable {C : Cfg} {mu mu' nu : List Addr} {s₀ s s' : Shared} {env cenv : Env} {ρ : List (PySem.Str × PV)} {σ σ' : List (Addr × MO)} {A : Around} {E : Value → Shared → Prop} {K : Frag} {x dx Cl : Addr} {od : Obj} {cd : ClassData} {l : List PV}
private theorem w1s {K : Frag} : typeIn K (.builtin "list.append") = some (.type "method_descriptor"):=by kernel_rfl
private theorem q7r {o e : Expr} {apos pos epos : Pos} {p : PV} {pl : Sem Bool} {name : PySem.Str} {Q : Flow → Shared → Prop} (k : ClsOk C.K Cl cd) (sk : SubOk C.K Cl) (I : In C mu nu env ρ σ s₀ s) (hl : σ.lookup x = some (.seq (.ref Cl) (some dx) l)) (hod : σ.lookup dx = some (.raw od)) (hnu : x ∈ nu) (ho : PurE prog w C mu A env ρ σ o (.val (.ref x)))
  (ha : PurEs prog w C mu A env ρ σ [e] [p]) (hsh : lookIn "append" od = some none) (hsz : l.length ≤ sizeLine) (kk : ∀ s',In C mu nu env ρ ((x,.seq (.ref Cl) (some dx) (l ++ [p])) :: σ) s₀ s' → Q .next s') (hname : name = PySem.Str.ofString "append")
  (he : autoParam (eval (.Call (.Attribute o name apos) [e] [] pos) env = (do let ov ← eval o env;standAt apos.atName;let __x ← holding [ov] (getMethod ov name pl);match __x with | (f,first) => callWith pos f first (backTo pos (starEach [e] env)) [])) tR)
  (hs : autoParam (starEach [e] env = (false,eval e env) :: starEach [] env) tR) (hplain : autoParam ((backTo pos (starEach [] env)).any (·.1) = false) tR)
  (hi : autoParam (interactive env = false) tR) (hsw : autoParam (swapsWith (.Call (.Attribute o name apos) [e] [] pos) none epos.line env = pure false) tR) :
  wpAny (model prog w) A (exec (.Expr (.Call (.Attribute o name apos) [e] [] pos) epos) env) Q E s:=by
 subst hname
 refine wpAny_Expr_any (MethodCall_ (pl:=pl) (ho s I.ok I.act _ _ fun v s₁ O₁ k₁ y₁ => ?_) he) hi hsw
 cases (show v = .ref x from y₁)
 have I₁:=I.next O₁ k₁
 obtain ⟨vs,n,hol,hvs,IA⟩:=I₁.act.inst hl hod
 refine q7o k O₁.K IA sk.app w1s (by decide) (by show (lookIn _ od).map (·.isSome) = some false;rw [show (PySem.Str.ofString "append") = ("append" : PySem.Str) from rfl,hsh];rfl) ?_
 refine callWith_method1 (ha pos s₁ I₁.ok I₁.act _ _ fun ws s₂ O₂ k₂ y₂ => ?_) hs hplain
 have I₂:=I₁.next O₂ k₂
 obtain ⟨v₁,r,rfl,z,hr⟩:=y₂
 cases (show r = [] from hr)
 obtain ⟨vs,n,hol,hvs,IA⟩:=I₂.act.inst hl hod
 have hxm:=(I₂.act.st x _ hl).1
 have hsz' : vs.toArray.size ≤ sizeLine:=by simpa [hvs.length] using hsz
 refine w1w (n:="append") I₂.ok.K IA sk.lst (by decide +kernel) (by decide +kernel) slot_list_append.plain entry_list_append (args_list_append _ _) (w8w (.ref Cl) (some dx) x vs.toArray n v₁ hsz') ⟨hol,?_⟩
 have hsb : Heap.SameBut x s₂.heap (s₂.heap.update x (Obj.mapSeq fun a => a.push v₁)):=Heap.SameBut.update ..
 have up : ∀ {l : List PV} {vs : List Value},Sims s₂.heap mu l vs → Sims (s₂.heap.update x (Obj.mapSeq fun a => a.push v₁)) mu l vs:=fun y => y.keeps (fun _ _ z _ => z) fun b o hb _ e => hsb.extBut b o (fun q => hb (q ▸ hxm)) e
 refine kk _ (I₂.mut (tk:=s₂.toks) hl hnu hsb.extBut ⟨vs ++ [v₁],n + 1,?_,(up hvs).append (up ⟨_,_,rfl,z,rfl⟩)⟩)
 rw [Heap.get?_update_self _ hol rfl]
 simp [Obj.mapSeq]
private theorem q8z {value slice : Expr} {pos : Pos} {j : Nat} {p : PV} (sk : SubOk C.K Cl) (hv : PurE prog w C mu A env ρ σ value (.val (.ref x))) (hl : σ.lookup x = some (.seq (.ref Cl) (some dx) l)) (hod : σ.lookup dx = some (.raw od)) (hi : PurE prog w C mu A env ρ σ slice (.int j)) (hx : l[j]? = some p) (hsz : l.length < 2 ^ 60)
  (hs : autoParam (∀ o i,subscripted slice false o i = operate [o,i] (getItem o i)) tR) : PurE prog w C mu A env ρ σ (.Subscript value slice pos) p:=fun s O a Q E kk =>
 Subscript_ (hv s O a _ _ fun v s₁ O₁ k₁ y₁ => hi s₁ O₁ (a.kp O k₁) _ _ fun u s₂ O₂ k₂ y₂ => by
  cases (show v = .ref x from y₁)
  obtain ⟨t,rfl⟩:=y₂
  obtain ⟨vs,n,hol,hvs,IA⟩:=((a.kp O k₁).kp O₁ k₂).inst hl hod
  obtain ⟨z,e1,e2⟩:=hvs.get j p hx
  have hlt:=(List.getElem?_eq_some_iff.mp hx).1
  have key : ∀ i : Int,i = (j : Int) → wpAny (model prog w) A (getItem (.ref x) (.int i t)) Q E s₂:=fun i hi => by
   have e1' : vs.toArray[i.toNat]? = some z:=by rw [hi];simpa using e1
   exact q8q O₂.K IA sk.lst sk.deq sk.get (sub_itemI (.ref Cl) (some dx) x vs.toArray n i t z (by lia) e1' (fitsIndex_of (by lia) (by lia))) ⟨hol,kk z s₂ O₂ (k₁.trans k₂) e2⟩
  exact w7i O₂.K IA sk.get (key _ rfl) (hs _ _))
private theorem w2h {value : Expr} {lower upper : Option Expr} {p pos : Pos} {lo hi : Option Int} (sk : SubOk C.K Cl) (hv : PurE prog w C mu A env ρ σ value (.val (.ref x))) (hl : σ.lookup x = some (.seq (.ref Cl) (some dx) l)) (hod : σ.lookup dx = some (.raw od)) (h1 : q1t prog w C mu A env ρ σ lower lo) (h2 : q1t prog w C mu A env ρ σ upper hi) (hsz : l.length ≤ 2 ^ 20) :
  PurNE prog w C mu A env ρ σ (.Subscript value (.Slice lower upper none p) pos) (q5w l lo hi):=fun s O a Q E kk => by
 have hS : sizeLine = 2 ^ 24:=by decide +kernel
 refine Subscript_ (hv s O a _ _ fun v s₁ O₁ k₁ y₁ => wpAny_Slice (q3w h1 O₁ (a.kp O k₁) fun vl s₂ O₂ k₂ p₂ => q3w h2 O₂ ((a.kp O k₁).kp O₁ k₂) fun vu s₃ O₃ k₃ p₃ => ?_))
 rw [evalPart_none]
 refine wpAny_pure ?_
 cases (show v = .ref x from y₁)
 have a₃:=((a.kp O k₁).kp O₁ k₂).kp O₂ k₃
 have hk1 : ∀ b o,s₃.heap.get? b = some o → (s₃.heap.push { cls:=.type "slice",data:=.fields #[vl,vu,.none] }).get? b = some o:=fun b o e => Heap.get?_push_of_some _ e
 have kk1 : Kp C [] s₃ { s₃ with heap:=s₃.heap.push { cls:=.type "slice",data:=.fields #[vl,vu,.none] } }:=Kp.of_keep (tk:=s₃.toks) hk1
 have O₄ : Ok C mu { s₃ with heap:=s₃.heap.push { cls:=.type "slice",data:=.fields #[vl,vu,.none] } }:=O₃.push (tk:=s₃.toks)
 have a₄:=a₃.kp O₃ kk1
 obtain ⟨vs,n,hol,hvs,IA⟩:=a₄.inst hl hod
 have hlen : vs.toArray.size = l.length:=by simp [hvs.length]
 have hsl : (s₃.heap.push { cls:=.type "slice",data:=.fields #[vl,vu,.none] }).IsSliceOf s₃.heap.objs.size vl vu .none:=Heap.IsSliceOf.new ..
 refine w7i O₄.K IA sk.get (q8q O₄.K IA sk.lst sk.deq sk.get (sub_slice (.ref Cl) (some dx) x s₃.heap.objs.size vs.toArray n vl vu lo hi p₂ p₃ (by lia)) ⟨hol,hsl,?_⟩) (ops:=[.ref s₃.heap.objs.size,.ref x]) rfl
 have hk2 : ∀ b o,s₃.heap.get? b = some o → ((s₃.heap.push { cls:=.type "slice",data:=.fields #[vl,vu,.none] }).push { cls:=.type "list",data:=.seq (slicePick vs.toArray lo hi none) }).get? b = some o:=fun b o e => Heap.get?_push_of_some _ (hk1 b o e)
 have hnew : s₃.heap.get? (s₃.heap.objs.size + 1) = none:=Heap.get?_none_of_le (Nat.le_succ _)
 have esz : (s₃.heap.push { cls:=.type "slice",data:=.fields #[vl,vu,.none] }).objs.size = s₃.heap.objs.size + 1:=Heap.size_push ..
 show Q (.ref (s₃.heap.push { cls:=.type "slice",data:=.fields #[vl,vu,.none] }).objs.size) _
 rw [esz]
 refine kk _ _ (O₃.keep (tk:=s₃.toks) hk2) (((k₁.trans k₂).trans k₃).trans (Kp.of_keep (tk:=s₃.toks) hk2)) (q4y O₃ ((k₁.trans k₂).trans k₃) hnew) ?_
 refine ⟨(sliceRange (sliceBounds lo hi none l.length).1 (sliceBounds lo hi none l.length).2.1 (sliceBounds lo hi none l.length).2.2).filterMap (vs[·]?),0,?_,?_⟩
 ·have e : slicePick vs.toArray lo hi none = List.toArray ((sliceRange (sliceBounds lo hi none l.length).1 (sliceBounds lo hi none l.length).2.1 (sliceBounds lo hi none l.length).2.2).filterMap (vs[·]?)):=by
   unfold slicePick
   rw [hlen]
   simp
  rw [← e,← esz]
  exact Heap.get?_push_size _ rfl
 ·have hn4 : (s₃.heap.push { cls:=.type "slice",data:=.fields #[vl,vu,.none] }).get? (s₃.heap.objs.size + 1) = none:=Heap.get?_none_of_le (by rw [esz];exact Nat.le_refl _)
  exact ((hvs.pick _).new hn4).keeps (fun _ _ z _ => z) fun b o _ _ e => Heap.get?_push_of_some _ e
private theorem q9l (c : Value) (d : Option Addr) (items : Array Value) (n : Nat) (ff : Array Value → Array Value) : ∃ m,Obj.mapSeq ff (subO c d items n) = subO c d (ff items) m:=⟨_,rfl⟩
noncomputable def pvSet (l new : List PV) (lo hi : Option Int) : List PV:=
 l.take (sliceBounds lo hi none l.length).1.toNat ++ new ++ l.drop (max (sliceBounds lo hi none l.length).1 (sliceBounds lo hi none l.length).2.1).toNat
private theorem pvSet_from (l new : List PV) (i : Nat) (h : i ≤ l.length) : pvSet l new (some i) none = l.take i ++ new:=by
 have h1 : ¬ ((i : Int) < 0):=by lia
 have e1 : max (0 : Int) (min (i : Int) (l.length : Int)) = i:=by lia
 have e2 : max (i : Int) (l.length : Int) = l.length:=by lia
 unfold pvSet sliceBounds
 simp [h1,e1,e2]
private theorem pvSet_all (l new : List PV) : pvSet l new none none = new:=by
 unfold pvSet sliceBounds
 simp
private theorem ext_le {α : Type} (xs : Array α) (a b : Nat) : (xs.extract a b).size ≤ xs.size:=by
 rw [Array.size_extract]
 exact Nat.le_trans (Nat.sub_le _ _) (Nat.min_le_right _ _)
private theorem w3u {o e : Expr} {lower upper : Option Expr} {sp opos pos : Pos} {lo hi : Option Int} {new : List PV} {Q : Flow → Shared → Prop} (sk : SubOk C.K Cl) (I : In C mu nu env ρ σ s₀ s) (hl : σ.lookup x = some (.seq (.ref Cl) (some dx) l)) (hod : σ.lookup dx = some (.raw od)) (hnu : x ∈ nu) (ho : PurE prog w C mu A env ρ σ o (.val (.ref x)))
  (he : PurE prog w C mu A env ρ σ e (.lst new)) (h1 : q1t prog w C mu A env ρ σ lower lo) (h2 : q1t prog w C mu A env ρ σ upper hi) (hsz : l.length + new.length ≤ 2 ^ 20)
  (kk : ∀ s',In C mu nu env ρ ((x,.seq (.ref Cl) (some dx) (pvSet l new lo hi)) :: σ) s₀ s' → Q .next s')
  (hsw : autoParam (swapsWith e (some (.Subscript o (.Slice lower upper none sp) opos)) pos.line env = pure false) tR) : wpAny (model prog w) A (exec (.Assign [.Subscript o (.Slice lower upper none sp) opos] e pos) env) Q E s:=by
 have hS : sizeLine = 2 ^ 24:=by decide +kernel
 refine wpAny_Assign_Subscript (he s I.ok I.act _ _ fun v s₁ O₁ k₁ y₁ => ?_) hsw
 have I₁:=I.next O₁ k₁
 refine ho s₁ I₁.ok I₁.act _ _ fun ov s₂ O₂ k₂ y₂ => ?_
 cases (show ov = .ref x from y₂)
 have I₂:=I₁.next O₂ k₂
 refine wpAny_Slice (q3w h1 I₂.ok I₂.act fun vl s₃ O₃ k₃ p₃ => q3w h2 O₃ (I₂.next O₃ k₃).act fun vu s₄ O₄ k₄ p₄ => ?_)
 have I₄:=(I₂.next O₃ k₃).next O₄ k₄
 rw [evalPart_none]
 refine wpAny_pure ?_
 have hk1 : ∀ b o,s₄.heap.get? b = some o → (s₄.heap.push { cls:=.type "slice",data:=.fields #[vl,vu,.none] }).get? b = some o:=fun b o e => Heap.get?_push_of_some _ e
 have I₅ : In C mu nu env ρ σ s₀ { s₄ with heap:=s₄.heap.push { cls:=.type "slice",data:=.fields #[vl,vu,.none] } }:=I₄.next (s':={ s₄ with heap:=s₄.heap.push { cls:=.type "slice",data:=.fields #[vl,vu,.none] } }) (O₄.push (tk:=s₄.toks)) (Kp.of_keep (tk:=s₄.toks) hk1)
 have yv:=(((y₁.kp0 O₁ k₂).kp0 O₂ k₃).kp0 O₃ k₄)
 have yv5 : Sim (s₄.heap.push { cls:=.type "slice",data:=.fields #[vl,vu,.none] }) mu (.lst new) v:=yv.keeps (fun _ _ z _ => z) fun b o _ _ e => hk1 b o e
 obtain ⟨b,ws,m,rfl,hb,hbo,hws⟩:=yv5
 obtain ⟨vs,n,hol,hvs,IA⟩:=I₅.act.inst hl hod
 have hxm:=(I₅.act.st x _ hl).1
 have hbx : b ≠ x:=fun q => hb (q ▸ hxm)
 have hlen : vs.toArray.size = l.length:=by simp [hvs.length]
 have hwl : ws.toArray.size = new.length:=by simp [hws.length]
 have hsl : (s₄.heap.push { cls:=.type "slice",data:=.fields #[vl,vu,.none] }).IsSliceOf s₄.heap.objs.size vl vu .none:=Heap.IsSliceOf.new ..
 have hz' : (setSl vs.toArray ws.toArray lo hi).size ≤ sizeLine + 1:=by
  unfold setSl
  rw [Array.size_append,Array.size_append]
  exact Nat.le_trans (Nat.add_le_add (Nat.add_le_add_right (ext_le _ _ _) _) (ext_le _ _ _)) (by lia)
 refine w5i I₅.ok.K IA sk.lst sk.deq sk.set (w3r (.ref Cl) (some dx) x s₄.heap.objs.size b vs.toArray ws.toArray n m vl vu lo hi p₃ p₄ (by lia) hbx hz') ⟨hol,hsl,hbo,?_⟩
 generalize hff : (fun xs : Array Value => xs.extract 0 (sliceBounds lo hi none vs.toArray.size).1.toNat ++ ws.toArray ++ xs.extract (max (sliceBounds lo hi none vs.toArray.size).1 (sliceBounds lo hi none vs.toArray.size).2.1).toNat xs.size) = ff
 have hsb : Heap.SameBut x (s₄.heap.push { cls:=.type "slice",data:=.fields #[vl,vu,.none] }) ((s₄.heap.push { cls:=.type "slice",data:=.fields #[vl,vu,.none] }).update x (Obj.mapSeq ff)):=Heap.SameBut.update ..
 have up : ∀ {l : List PV} {vs : List Value},Sims (s₄.heap.push { cls:=.type "slice",data:=.fields #[vl,vu,.none] }) mu l vs → Sims ((s₄.heap.push { cls:=.type "slice",data:=.fields #[vl,vu,.none] }).update x (Obj.mapSeq ff)) mu l vs:=fun y => y.keeps (fun _ _ z _ => z) fun b o hb _ e => hsb.extBut b o (fun q => hb (q ▸ hxm)) e
 have hseq:=((hvs.take (sliceBounds lo hi none l.length).1.toNat).append hws).append (hvs.drop (max (sliceBounds lo hi none l.length).1 (sliceBounds lo hi none l.length).2.1).toNat)
 have ea : ∀ a b : Nat,vs.toArray.extract 0 a ++ ws.toArray ++ vs.toArray.extract b vs.toArray.size = (vs.take a ++ ws ++ vs.drop b).toArray:=fun a b => by
  apply Array.ext'
  have : (vs.drop b).take (vs.length - b) = vs.drop b:=List.take_of_length_le (by simp)
  simp [this]
 obtain ⟨m',hm'⟩:=q9l (.ref Cl) (some dx) vs.toArray n ff
 refine kk _ (I₅.mut (tk:=s₄.toks) hl hnu hsb.extBut ⟨_,m',?_,up hseq⟩)
 rw [Heap.get?_update_self _ hol (by rw [hm'];rfl),hm',← hff]
 dsimp only
 rw [ea,hlen]
end
end
section
set_option tactic.hygienic true
open PySem PySem.W PySem.Calls PyProof.Rows
variable {P : Params} {C : Cfg} {prog : Program}
noncomputable abbrev cdOf (o : Obj) : ClassData:=match o.data with | .cls cd => cd | _ => default
structure ProgOk (prog : Program) : Prop where
 file : prog.main.file = ⟨#[47,99,108,97,105,109,47,99,117,116,46,112,121]⟩
 top : (prog.main.scope.names.lookup ("super" : PySem.Str)).isSome = false
noncomputable def fileIn (K : Frag) (a : Addr) (f : PySem.Str) : Bool:=match K.lookup a with
 | some ⟨_,_,.fields vs,_⟩ => (match vs[2]? with | some (Value.str x _) => x == f | _ => false)
 | _ => false
private theorem w6p {K : Frag} {a : Addr} {f : PySem.Str} (h : fileIn K a f = true) (hp : ((prog.main.file : PySem.Str) == f) = true) : ∃ cl d vs sl file tf,K.lookup a = some ⟨cl,d,.fields vs,sl⟩ ∧ vs[2]? = some (.str file tf) ∧ ((prog.main.file : PySem.Str) == file) = true:=by
 unfold fileIn at h
 split at h
 ·rename_i cl d vs sl e
  split at h
  ·rename_i x t e2
   exact ⟨cl,d,vs,sl,x,t,e,e2,by rw [eq_of_beq h];exact hp⟩
  ·cases h
 ·cases h
noncomputable abbrev cd_acc (P : Params) : ClassData:=cdOf (Mine.hd.zo_256 P)
private theorem w2q : (cd_acc P).mro = [.ref cAcc,.type "list",.type "object"]:=by kernel_rfl
private theorem q0o (hC : CfgOk P C) : ClsOk C.K cAcc (cd_acc P):=⟨by rw [hC.K];kernel_rfl,by kernel_rfl,by rw [w2q];exact w5n _,.inr ⟨by rw [hC.K];kernel_rfl,by rw [hC.K];kernel_rfl⟩,by rw [hC.K];kernel_rfl,by rw [hC.K];kernel_rfl⟩
noncomputable abbrev cd_fmt (P : Params) : ClassData:=cdOf (Mine.hd.zo_180 P)
private theorem mro_fmt : (cd_fmt P).mro = [.ref cFmt,.type "object"]:=by kernel_rfl
private theorem q1r (hC : CfgOk P C) : ClsOk C.K cFmt (cd_fmt P):=⟨by rw [hC.K];kernel_rfl,by kernel_rfl,by rw [mro_fmt];exact w1x _,.inl (by rw [hC.K];kernel_rfl),by rw [hC.K];kernel_rfl,by rw [hC.K];kernel_rfl⟩
private theorem q1p (hC : CfgOk P C) : SubOk C.K cAcc:=⟨by rw [hC.K];kernel_rfl,by rw [hC.K];kernel_rfl,by rw [hC.K];kernel_rfl,by rw [hC.K];kernel_rfl,by rw [hC.K];kernel_rfl,by rw [hC.K];kernel_rfl⟩
private theorem m_a_init (hC : CfgOk P C) : findIn C.K (.ref cAcc) ⟨#[95,95,105,110,105,116,95,95]⟩ = some (some (.ref q5k)):=by rw [hC.K];kernel_rfl
private theorem t_a_init (hC : CfgOk P C) : typeIn C.K (.ref q5k) = some (.type "function"):=by rw [hC.K];kernel_rfl
private theorem q8f (hC : CfgOk P C) : findIn C.K (.ref cAcc) ⟨#[112,117,115,104]⟩ = some (some (.ref q4k)):=by rw [hC.K];kernel_rfl
private theorem q8b (hC : CfgOk P C) : typeIn C.K (.ref q4k) = some (.type "function"):=by rw [hC.K];kernel_rfl
private theorem q5z (hC : CfgOk P C) : findIn C.K (.ref cAcc) ⟨#[112,111,112,95,102,114,111,109]⟩ = some (some (.ref q2i)):=by rw [hC.K];kernel_rfl
private theorem q5u (hC : CfgOk P C) : typeIn C.K (.ref q2i) = some (.type "function"):=by rw [hC.K];kernel_rfl
private theorem m_a_pop (hC : CfgOk P C) : findIn C.K (.ref cAcc) ⟨#[112,111,112]⟩ = some (some (.ref q6c)):=by rw [hC.K];kernel_rfl
private theorem t_a_pop (hC : CfgOk P C) : typeIn C.K (.ref q6c) = some (.type "function"):=by rw [hC.K];kernel_rfl
private theorem m_a_len (hC : CfgOk P C) : findIn C.K (.ref cAcc) ⟨#[95,95,108,101,110,95,95]⟩ = some (some (.ref w3l)):=by rw [hC.K];kernel_rfl
private theorem t_a_len (hC : CfgOk P C) : typeIn C.K (.ref w3l) = some (.type "function"):=by rw [hC.K];kernel_rfl
private theorem m_a_str (hC : CfgOk P C) : findIn C.K (.ref cAcc) ⟨#[95,95,115,116,114,95,95]⟩ = some (some (.ref w0i)):=by rw [hC.K];kernel_rfl
private theorem t_a_str (hC : CfgOk P C) : typeIn C.K (.ref w0i) = some (.type "function"):=by rw [hC.K];kernel_rfl
private theorem w4i (hC : CfgOk P C) : findIn C.K (.ref cAcc) ⟨#[114,101,115,101,116]⟩ = some (some (.ref q3q)):=by rw [hC.K];kernel_rfl
private theorem w3q (hC : CfgOk P C) : typeIn C.K (.ref q3q) = some (.type "function"):=by rw [hC.K];kernel_rfl
private theorem m_a_only (hC : CfgOk P C) : findIn C.K (.ref cAcc) ⟨#[105,115,95,111,110,108,121,119,115]⟩ = some (some (.ref q8k)):=by rw [hC.K];kernel_rfl
private theorem t_a_only (hC : CfgOk P C) : typeIn C.K (.ref q8k) = some (.type "function"):=by rw [hC.K];kernel_rfl
private theorem m_a_count (hC : CfgOk P C) : findIn C.K (.ref cAcc) ⟨#[112,97,114,116,95,99,111,117,110,116]⟩ = some (some (.ref q4z)):=by rw [hC.K];kernel_rfl
private theorem t_a_count (hC : CfgOk P C) : typeIn C.K (.ref q4z) = some (.type "function"):=by rw [hC.K];kernel_rfl
private theorem m_f_init (hC : CfgOk P C) : findIn C.K (.ref cFmt) ⟨#[95,95,105,110,105,116,95,95]⟩ = some (some (.ref q3b)):=by rw [hC.K];kernel_rfl
private theorem t_f_init (hC : CfgOk P C) : typeIn C.K (.ref q3b) = some (.type "function"):=by rw [hC.K];kernel_rfl
private theorem m_f__str (hC : CfgOk P C) : findIn C.K (.ref cFmt) ⟨#[95,115,116,114]⟩ = some (some (.ref q8j)):=by rw [hC.K];kernel_rfl
private theorem t_f__str (hC : CfgOk P C) : typeIn C.K (.ref q8j) = some (.type "function"):=by rw [hC.K];kernel_rfl
private theorem q9m (hC : CfgOk P C) : findIn C.K (.ref cFmt) ⟨#[110,101,119,108,105,110,101]⟩ = some (some (.ref q1s)):=by rw [hC.K];kernel_rfl
private theorem q8n (hC : CfgOk P C) : typeIn C.K (.ref q1s) = some (.type "function"):=by rw [hC.K];kernel_rfl
private theorem m_f_app (hC : CfgOk P C) : findIn C.K (.ref cFmt) ⟨#[95,97,112,112,101,110,100,95,99,104,117,110,107]⟩ = some (some (.ref q6b)):=by rw [hC.K];kernel_rfl
private theorem t_f_app (hC : CfgOk P C) : typeIn C.K (.ref q6b) = some (.type "function"):=by rw [hC.K];kernel_rfl
noncomputable abbrev w3c : Addr:=183
noncomputable abbrev dO_a_init (P : Params) : Obj:=Mine.hd.zo_185 P
private theorem w4t (hC : CfgOk P C) : C.K.lookup w3c = some (dO_a_init P):=by rw [hC.K];kernel_rfl
noncomputable abbrev q6a : Addr:=199
noncomputable abbrev w4z (P : Params) : Obj:=Mine.hd.zo_201 P
private theorem q7v (hC : CfgOk P C) : C.K.lookup q6a = some (w4z P):=by rw [hC.K];kernel_rfl
noncomputable abbrev w0a : Addr:=229
noncomputable abbrev dO_a_reset (P : Params) : Obj:=Mine.hd.zo_231 P
private theorem w1k (hC : CfgOk P C) : C.K.lookup w0a = some (dO_a_reset P):=by rw [hC.K];kernel_rfl
private theorem n_bool (hC : CfgOk P C) : findIn C.K (.ref cAcc) "__bool__" = some none:=by rw [hC.K];kernel_rfl
private theorem n_size (hC : CfgOk P C) : findIn C.K (.ref cAcc) ⟨#[95,105,110,105,116,105,97,108,95,115,105,122,101]⟩ = some none:=by rw [hC.K];kernel_rfl
private theorem q7j (hC : CfgOk P C) : findIn C.K (.ref cFmt) ⟨#[95,109,97,120,108,101,110]⟩ = some none:=by rw [hC.K];kernel_rfl
private theorem q5y (hC : CfgOk P C) : findIn C.K (.ref cFmt) ⟨#[95,99,111,110,116,105,110,117,97,116,105,111,110,95,119,115]⟩ = some none:=by rw [hC.K];kernel_rfl
private theorem q4g (hC : CfgOk P C) : findIn C.K (.ref cFmt) ⟨#[95,99,111,110,116,105,110,117,97,116,105,111,110,95,119,115,95,108,101,110]⟩ = some none:=by rw [hC.K];kernel_rfl
private theorem q5n (hC : CfgOk P C) : findIn C.K (.ref cFmt) ⟨#[95,115,112,108,105,116,99,104,97,114,115]⟩ = some none:=by rw [hC.K];kernel_rfl
private theorem w4f (hC : CfgOk P C) : findIn C.K (.ref cFmt) ⟨#[95,108,105,110,101,115]⟩ = some none:=by rw [hC.K];kernel_rfl
private theorem q4l (hC : CfgOk P C) : findIn C.K (.ref cFmt) ⟨#[95,99,117,114,114,101,110,116,95,108,105,110,101]⟩ = some none:=by rw [hC.K];kernel_rfl
private theorem mk_acc (hC : CfgOk P C) : w2s C.K cAcc = true:=by rw [hC.K];kernel_rfl
private theorem mk_fmt (hC : CfgOk P C) : makesIn C.K cFmt = true:=by rw [hC.K];kernel_rfl
private theorem mod_acc (hC : CfgOk P C) : mroIn C.K cAcc (.type "module") = some false:=by rw [hC.K];kernel_rfl
private theorem ty_acc (hC : CfgOk P C) : typeIn C.K (.ref cAcc) = some (.type "type"):=by rw [hC.K];kernel_rfl
private theorem qn_acc : (cd_acc P).qualname.toString = "_Accumulator":=by kernel_rfl
private theorem al_len (hC : CfgOk P C) : alongIn C.K "__len__" [.type "list",.type "object"] = some (some (.builtin "list.__len__")):=by kernel_rfl
private theorem al_init (hC : CfgOk P C) : alongIn C.K "__init__" [.type "list",.type "object"] = some (some (.builtin "list.__init__")):=by kernel_rfl
private theorem al_pop (hC : CfgOk P C) : alongIn C.K "pop" [.type "list",.type "object"] = some (some (.builtin "list.pop")):=by kernel_rfl
private theorem q6z (hC : CfgOk P C) (hp : ProgOk prog) : SupOk prog C.K cAcc q7p q5k (q4b P) 190 where
 sup:=.inr ⟨by rw [hC.K];kernel_rfl,by rw [hC.K];kernel_rfl⟩
 cell:=⟨.type "cell",none,#[],by rw [hC.K];kernel_rfl⟩
 cls:=⟨_,(q0o hC).hc⟩
 fn:=⟨.type "function",none,#[],by rw [hC.K];kernel_rfl⟩
 arg:=⟨_,rfl,rfl⟩
 codeEq:=by kernel_rfl
 file:=w6p (f:=⟨#[47,99,108,97,105,109,47,99,117,116,46,112,121]⟩) (by rw [hC.K];kernel_rfl) (by rw [hp.file];exact beq_self_eq_true _)
 sub:=by rw [hC.K];kernel_rfl
 top:=hp.top
 opaq:=by rw [hC.K];kernel_rfl
 clo:=by kernel_rfl
 ks:=by kernel_rfl
 kc:=by kernel_rfl
 kself:=by kernel_rfl
 kind:=by kernel_rfl
private theorem q4m (hC : CfgOk P C) (hp : ProgOk prog) : SupOk prog C.K cAcc q7p q6c (q6s P) 213 where
 sup:=.inr ⟨by rw [hC.K];kernel_rfl,by rw [hC.K];kernel_rfl⟩
 cell:=⟨.type "cell",none,#[],by rw [hC.K];kernel_rfl⟩
 cls:=⟨_,(q0o hC).hc⟩
 fn:=⟨.type "function",none,#[],by rw [hC.K];kernel_rfl⟩
 arg:=⟨_,rfl,rfl⟩
 codeEq:=by kernel_rfl
 file:=w6p (f:=⟨#[47,99,108,97,105,109,47,99,117,116,46,112,121]⟩) (by rw [hC.K];kernel_rfl) (by rw [hp.file];exact beq_self_eq_true _)
 sub:=by rw [hC.K];kernel_rfl
 top:=hp.top
 opaq:=by rw [hC.K];kernel_rfl
 clo:=by kernel_rfl
 ks:=by kernel_rfl
 kc:=by kernel_rfl
 kself:=by kernel_rfl
 kind:=by kernel_rfl
private theorem q5v (hC : CfgOk P C) (hp : ProgOk prog) : SupOk prog C.K cAcc q7p q4z (q5i P) 250 where
 sup:=.inr ⟨by rw [hC.K];kernel_rfl,by rw [hC.K];kernel_rfl⟩
 cell:=⟨.type "cell",none,#[],by rw [hC.K];kernel_rfl⟩
 cls:=⟨_,(q0o hC).hc⟩
 fn:=⟨.type "function",none,#[],by rw [hC.K];kernel_rfl⟩
 arg:=⟨_,rfl,rfl⟩
 codeEq:=by kernel_rfl
 file:=w6p (f:=⟨#[47,99,108,97,105,109,47,99,117,116,46,112,121]⟩) (by rw [hC.K];kernel_rfl) (by rw [hp.file];exact beq_self_eq_true _)
 sub:=by rw [hC.K];kernel_rfl
 top:=hp.top
 opaq:=by rw [hC.K];kernel_rfl
 clo:=by kernel_rfl
 ks:=by kernel_rfl
 kc:=by kernel_rfl
 kself:=by kernel_rfl
 kind:=by kernel_rfl
end
section
open PySem PySem.W PySem.Calls PyProof.Rows
variable {prog : Program} {w : World} {P : Params} {C : Cfg}
section
variable {mu mu' nu : List Addr} {s₀ s s' : Shared} {env : Env} {ρ : List (PySem.Str × PV)} {σ σ' : List (Addr × MO)} {A : Around} {E : Value → Shared → Prop}
private theorem In.knowR {d : Addr} {m : MO} (I : In C mu nu env ρ σ s₀ s) (hd : d ∈ mu) (hown : d ∉ q0i env) (hm : MOAt mu s.heap d m) : In C mu nu env ρ ((d,m) :: σ) s₀ s:=
 ⟨I.ok,(I.know hd hown hm).act,I.kp,I.sub,I.cells⟩
noncomputable abbrev sSize : PySem.Str:="_initial_size"
inductive AccD (od : Obj) (k : Int) : Prop
 | mk (hs : Int) (t t' n : Nat) (e : od = dictOf [⟨hs,.str sSize t,.int k t'⟩] n) : AccD od k
structure AccAt (mu : List Addr) (h : Heap) (x dx : Addr) (l : List (PySem.Str × PySem.Str)) (k : Int) : Prop where
 hx : x ∈ mu
 hd : dx ∈ mu
 ne : x ≠ dx
 at_ : MOAt mu h x (.seq (.ref cAcc) (some dx) (l.map pairPV))
 dict : ∃ od,AccD od k ∧ h.get? dx = some od
noncomputable abbrev sAcc (x dx : Addr) (l : List (PySem.Str × PySem.Str)) (od : Obj) : List (Addr × MO):=[(x,.seq (.ref cAcc) (some dx) (l.map pairPV)),(dx,.raw od)]
private theorem sAcc_x {x dx : Addr} {l : List (PySem.Str × PySem.Str)} {od : Obj} : (sAcc x dx l od).lookup x = some (.seq (.ref cAcc) (some dx) (l.map pairPV)):=by simp [List.lookup_cons]
private theorem sAcc_d {x dx : Addr} {l : List (PySem.Str × PySem.Str)} {od : Obj} (h : x ≠ dx) : (sAcc x dx l od).lookup dx = some (.raw od):=by
 have : (dx == x) = false:=by simpa using Ne.symm h
 simp [List.lookup_cons,this]
private theorem q3z {x dx : Addr} {l : List (PySem.Str × PySem.Str)} {od : Obj} (h : x ≠ dx) : SInst (sAcc x dx l od) x dx cAcc od:=⟨sAcc_d h,.inl ⟨_,sAcc_x⟩⟩
private theorem AccAt.keeps {mu mu' : List Addr} {h h' : Heap} {x dx : Addr} {l : List (PySem.Str × PySem.Str)} {k : Int} (a : AccAt mu h x dx l k) (hmu : ∀ a ∈ mu,a ∈ mu') (hn : ∀ a o,a ∉ mu → h.get? a = some o → a ∉ mu') (hk : ∀ b o,h.get? b = some o → h'.get? b = some o) : AccAt mu' h' x dx l k:=
 ⟨hmu _ a.hx,hmu _ a.hd,a.ne,a.at_.keeps (fun o e => hk _ o e) hn fun b o _ _ e => hk b o e,let ⟨od,h1,h2⟩:=a.dict;⟨od,h1,hk _ _ h2⟩⟩
private theorem AccAt.kp {h' : Heap} {x dx : Addr} {l : List (PySem.Str × PySem.Str)} {k : Int} (a : AccAt mu s.heap x dx l k) (O : Ok C mu s) {ds : List Addr} (kp : Kp C ds s s') (hds : ∀ a ∈ ds,a ∈ mu) (hx : x ∉ ds) (hd : dx ∉ ds) : AccAt mu s'.heap x dx l k:=
 ⟨a.hx,a.hd,a.ne,a.at_.kp O kp hds a.hx hx,let ⟨od,h1,h2⟩:=a.dict;⟨od,h1,kp.keep _ _ hd (O.notTab a.hd) h2⟩⟩
private theorem AccAt.ofAct {x dx : Addr} {l : List (PySem.Str × PySem.Str)} {od : Obj} {k : Int} (a : Act env mu s.heap ρ σ) (h1 : σ.lookup x = some (.seq (.ref cAcc) (some dx) (l.map pairPV))) (h2 : σ.lookup dx = some (.raw od)) (hne : x ≠ dx) (hk : AccD od k) : AccAt mu s.heap x dx l k:=
 ⟨(a.st x _ h1).1,(a.st dx _ h2).1,hne,(a.st x _ h1).2.2,od,hk,(a.st dx _ h2).2.2⟩
private theorem AccAt.tell {L : Addr} {s₁ : Shared} {x dx : Addr} {l : List (PySem.Str × PySem.Str)} {k : Int} (a : AccAt mu s.heap x dx l k) (I : In C (L :: mu) nu env ρ [] s s₁) (hL : s.heap.get? L = none) (hloc : env.locals = L) (hcells : ∀ c ∈ env.cells,∃ o,C.H.get? c.2 = some o) (hk : ∀ b o,s.heap.get? b = some o → s₁.heap.get? b = some o) :
  ∃ od,AccD od k ∧ In C (L :: mu) nu env ρ (sAcc x dx l od) s s₁:=by
 obtain ⟨od,h1,h2⟩:=a.dict
 have a' : AccAt (L :: mu) s₁.heap x dx l k:=a.keeps (fun _ h => .tail _ h) (fun b o hb e q => by rcases List.mem_cons.mp q with rfl | q;(rw [hL] at e;cases e);exact hb q) hk
 have own : ∀ b ∈ mu,(∃ o,s.heap.get? b = some o) → b ∉ q0i env:=fun b hb ⟨o,ho⟩ q => by
  rcases List.mem_cons.mp q with e | q
  ·rw [e,hloc,hL] at ho;cases ho
  ·obtain ⟨c,hc,rfl⟩:=List.mem_map.mp q
   obtain ⟨o,ho⟩:=hcells c hc
   have:=(I.ok.live c.2 (.tail _ hb)).1
   rw [ho] at this;cases this
 have hx0 : ∃ o,s.heap.get? x = some o:=let ⟨vs,n,e1,_⟩:=a.at_;⟨_,e1⟩
 have I₁ : In C (L :: mu) nu env ρ [(dx,.raw od)] s s₁:=I.knowR (m:=.raw od) a'.hd (own _ a.hd ⟨_,h2⟩) (hk _ _ h2)
 exact ⟨od,h1,I₁.knowR a'.hx (own _ a.hx hx0) a'.at_⟩
end
end
section
open PySem PySem.W PySem.Calls PyProof.Rows
variable {prog : Program} {w : World}
private theorem ty_len : typeOf (.builtin "list.__len__") = pure (.type "wrapper_descriptor"):=by show builtinType _ = _;rw [builtinType_eq_fast];kernel_rfl
private theorem ty_init : typeOf (.builtin "list.__init__") = pure (.type "wrapper_descriptor"):=by show builtinType _ = _;rw [builtinType_eq_fast];kernel_rfl
private theorem ty_pop : typeOf (.builtin "list.pop") = pure (.type "method_descriptor"):=by show builtinType _ = _;rw [builtinType_eq_fast];kernel_rfl
private theorem q6f : Slot "wrapper_descriptor" "__get__" "wrapper_descriptor.__get__":=
 .of (owner:="wrapper_descriptor") (n:="__get__") (by rw [typeLookup_type,builtinLookup_eq_fast];kernel_rfl) (by decide +kernel) (by decide +kernel) (by decide +kernel)
  (by first | exact .inl (by decide +kernel) | exact .inr (by decide +kernel)) (by rw [isSubtype_type];kernel_rfl)
private theorem w3v : Slot "method_descriptor" "__get__" "method_descriptor.__get__":=
 .of (owner:="method_descriptor") (n:="__get__") (by rw [typeLookup_type,builtinLookup_eq_fast];kernel_rfl) (by decide +kernel) (by decide +kernel) (by decide +kernel)
  (by first | exact .inl (by decide +kernel) | exact .inr (by decide +kernel)) (by rw [isSubtype_type];kernel_rfl)
private theorem w1h : entryFor table "wrapper_descriptor.__get__" = some Builtin.«wrapper_descriptor.__get__»:=entryFor_of_tree (by kernel_rfl)
private theorem entry_mget : entryFor table "method_descriptor.__get__" = some Builtin.«method_descriptor.__get__»:=entryFor_of_tree (by kernel_rfl)
private theorem w5e (a b c : Value) : argsOk "wrapper_descriptor.__get__" ⟨[a,b,c],[]⟩:=by unfold argsOk;kernel_rfl
private theorem args_mget (a b c : Value) : argsOk "method_descriptor.__get__" ⟨[a,b,c],[]⟩:=by unfold argsOk;kernel_rfl
section
variable {A : Around} {E : Value → Shared → Prop} {h : Heap} {g : Array GenState} {d : Drawn} {t : Nat} {os : OsState}
private theorem call_len {x Cl : Addr} {ox : Obj} {Q : Value → Shared → Prop} (hx : h.get? x = some ox) (hc : ox.cls = .ref Cl) (hi : Looks (model prog w) h (isSubtype (.ref Cl) (.type "list")) true)
  (hq : Q (.ref h.objs.size) ⟨h.push { cls:=.type "method-wrapper",data:=.fields #[.builtin "list.__len__",.ref x] },g,d,t,os⟩) :
  wpAny (model prog w) A (call (.builtin "wrapper_descriptor.__get__") [.builtin "list.__len__",.ref x,.ref Cl]) Q E ⟨h,g,d,t,os⟩:=
 wpAny_call_entry (rest:=[.ref x,.ref Cl]) q6f ty_len w1h (bd_len hx hc hi ⟨_,rfl,hq⟩) (w5e _ _ _)
private theorem call_init {x Cl : Addr} {ox : Obj} {Q : Value → Shared → Prop} (hx : h.get? x = some ox) (hc : ox.cls = .ref Cl) (hi : Looks (model prog w) h (isSubtype (.ref Cl) (.type "list")) true)
  (hq : Q (.ref h.objs.size) ⟨h.push { cls:=.type "method-wrapper",data:=.fields #[.builtin "list.__init__",.ref x] },g,d,t,os⟩) :
  wpAny (model prog w) A (call (.builtin "wrapper_descriptor.__get__") [.builtin "list.__init__",.ref x,.ref Cl]) Q E ⟨h,g,d,t,os⟩:=
 wpAny_call_entry (rest:=[.ref x,.ref Cl]) q6f ty_init w1h (bd_init hx hc hi ⟨_,rfl,hq⟩) (w5e _ _ _)
private theorem call_pop {x Cl : Addr} {ox : Obj} {Q : Value → Shared → Prop} (hx : h.get? x = some ox) (hc : ox.cls = .ref Cl) (hi : Looks (model prog w) h (isSubtype (.ref Cl) (.type "list")) true)
  (hq : Q (.ref h.objs.size) ⟨h.push { cls:=.type "builtin_function_or_method",data:=.fields #[.builtin "list.pop",.ref x] },g,d,t,os⟩) :
  wpAny (model prog w) A (call (.builtin "method_descriptor.__get__") [.builtin "list.pop",.ref x,.ref Cl]) Q E ⟨h,g,d,t,os⟩:=
 wpAny_call_entry (rest:=[.ref x,.ref Cl]) w3v ty_pop entry_mget (bd_pop hx hc hi ⟨_,rfl,hq⟩) (args_mget _ _ _)
private theorem ck_len (x : Addr) (A : Around) (Q : Unit → Shared → Prop) (E : Value → Shared → Prop) (s : Shared) (q : Q () s) : wpAny (model prog w) A (checkBoundCall "list.__len__" ⟨[.ref x],[]⟩) Q E s:=
 @w0g A E "list.__len__" x s Q (model prog w) q9n.1 (args_list_len _) q
private theorem ck_init (x : Addr) (A : Around) (Q : Unit → Shared → Prop) (E : Value → Shared → Prop) (s : Shared) (q : Q () s) : wpAny (model prog w) A (checkBoundCall "list.__init__" ⟨[.ref x],[]⟩) Q E s:=
 @w0g A E "list.__init__" x s Q (model prog w) q9n.2.1 (by unfold argsOk;kernel_rfl) q
end
end
local macro_rules | `(tactic| walk_at "sto") => `(tactic| exact ⟨rfl,.inl ⟨rfl,by repeat (first | exact .head _ | apply List.Mem.tail)⟩⟩)
local macro_rules | `(tactic| walk_at "pe") => `(tactic| first
 | ((with_reducible refine' q0b ?h ?d);(case h => first | exact rfl | assumption);(case d => exact rfl))
 | (with_reducible (first | exact q0r | exact q0k | exact q2t | exact w2f | exact op_add | exact op_sub | exact op_and | exact op_or | exact op_xor | exact op_le | exact op_lt | exact op_gt | exact op_eq | exact op_ne | exact op_neg | exact q0d | refine' q0l ?_ ?_ ?_ | refine' q3k ?_ ?_ | refine' op_mul ?_ | refine' op_shl ?_ ?_ | refine' op_shr ?_ | refine' op_len ?_ | refine' op_divmod ?_ ?_))
 | ((with_reducible refine' q0g ?_ ?_ ?_ ?m);(case m => exact rfl))
 | ((with_reducible refine' q0f ?h ?l ?d);(case h => exact q0e (by assumption) rfl);(case l => exact rfl);(case d => exact rfl))
 | (with_reducible exact pur_gint (by assumption) rfl rfl)
 | (with_reducible exact w7n (by assumption) rfl rfl)
 | ((with_reducible refine' q6h ?o (q9k ?n) w2l ?e);(case n => decide +kernel);(case e => exact rfl))
 | ((with_reducible refine' q0c ?_ ?_ ?e);(case e => exact fun _ => rfl))
 | ((with_reducible refine' pur_Tuple ?_ ?l);(case l => exact Nat.le_of_ble_eq_true rfl))
 | ((with_reducible refine' q5c ?_ ?l);(case l => exact Nat.le_of_ble_eq_true rfl))
 | ((with_reducible refine' q0u ?f ?a ?o ?e ?p);(case e => exact fun _ => rfl);(case p => exact rfl);(case f => exact q0f (q0e (by assumption) rfl) rfl rfl))
 | ((with_reducible show PurE _ _ _ _ _ _ _ _ (PySem.Expr.Constant _ _ _) _);exact q0k))
local macro_rules | `(tactic| walk_at "mem") => `(tactic| repeat (first | exact .head _ | apply List.Mem.tail))
local macro_rules | `(tactic| walk_at "stc") => `(tactic| exact ⟨rfl,.inr ⟨rfl,_,rfl,by walk_at "mem"⟩⟩)
local macro_rules | `(tactic| walk_at "look") => `(tactic| ((repeat (refine List.forall_mem_cons.mpr ⟨by first | exact rfl | assumption,?_⟩));(exact fun _ h => (nomatch h))))
section
open PySem PySem.W PySem.Calls PyProof.Rows
variable {prog : Program} {w : World} {P : Params} {C : Cfg}
section
variable {mu mu' nu : List Addr} {s₀ s s' : Shared} {env : Env} {ρ : List (PySem.Str × PV)} {σ σ' : List (Addr × MO)} {A : Around} {E : Value → Shared → Prop}
private theorem q1v (hC : CfgOk P C) (O : Ok C mu s) : ∃ o,C.H.get? q7p = some o:=by
 obtain ⟨o,e⟩ : ∃ o,C.K.lookup q7p = some o:=⟨{ cls:=.type "cell",data:=.cell (some (.ref cAcc)) },by rw [hC.K];kernel_rfl⟩
 exact ⟨o,O.kin _ _ e⟩
private theorem AccAt.neCls (hC : CfgOk P C) (O : Ok C mu s) {x dx : Addr} {l : List (PySem.Str × PySem.Str)} {k : Int} (a : AccAt mu s.heap x dx l k) : x ≠ cAcc:=fun q => by
 obtain ⟨o,e⟩ : ∃ o,C.K.lookup cAcc = some o:=by
  obtain ⟨o,e,_⟩:=w6z (q0o hC).hc
  exact ⟨o,e⟩
 have:=(O.live x a.hx).1
 rw [q,O.kin _ _ e] at this;cases this
private theorem acc_count (hC : CfgOk P C) (hp : ProgOk prog) {n : Nat} {x dx : Addr} {l : List (PySem.Str × PySem.Str)} {k : Int} (r : Rm A (n + 1)) (O : Ok C mu s) (ha : AccAt mu s.heap x dx l k) (hsz : l.length ≤ 2 ^ 20) :
  Pur prog w C mu A (call (.ref q4z) [.ref x]) (.int l.length) s:=by
 intro Q E kk
 refine q7n (names:=[⟨#[115,101,108,102]⟩]) (ps:=[.val (.ref x)]) ((q9z hC).at O) r O ⟨_,_,rfl,rfl,rfl⟩ (BindsTo.of_eq rfl) rfl (q5v hC hp).clo (q1v hC O) rfl rfl fun L s₁ hL I r' hk => ?_
 obtain ⟨od,hod,I₁⟩:=ha.tell I hL rfl (fun c hc => by
  have hc' : c ∈ (q5i P).closure:=hc
  rw [(q5v hC hp).clo] at hc'
  simp at hc'
  rw [hc'];exact q1v hC O) hk
 refine ks_wpAt_execs_cons (ks_wpAt_Return_some (w1t (q5v hC hp) I₁ rfl sAcc_x (sAcc_d ha.ne) (q0o hC).hc (l:=[.type "list",.type "object"]) (by rw [w2q];rfl) (ha.neCls hC O) (al_len hC) ty_len q6f.lookup rfl
  (fun h g d t os ox A Q E X hx hc hq => call_len hx hc (looks_mroIn X (q1p hC).lst) hq) fun b s₂ I₂ hb => ?_))
 obtain ⟨vs,m,hox,hvs,IA⟩:=I₂.act.inst sAcc_x (sAcc_d ha.ne)
 obtain ⟨hh,gg,dr,tk,os⟩:=s₂
 refine q7q (.inr rfl) hb (fun A Q E hq => ck_len x A Q E _ hq) slot_list_len.plain entry_list_len (sub_len (.ref cAcc) (some dx) x vs.toArray m) ⟨hox,?_⟩
 have hl : vs.toArray.size = l.length:=by simp [hvs.length]
 have I₃:=I₂.next (s':=⟨hh,gg,dr,tk + 1,os⟩) (I₂.ok.tok (tk:=tk + 1)) ⟨fun _ _ _ _ e => e⟩
 exact kk _ _ (I₃.out hL).1 (I₃.out hL).2 ⟨_,by rw [hl]⟩
end
end
section
open PySem PySem.W PySem.Calls PyProof.Rows
set_option maxHeartbeats 2000000
variable {prog : Program} {w : World} {P : Params} {C : Cfg}
structure AccSz (l : List (PySem.Str × PySem.Str)) (k : Int) : Prop where
 len : l.length ≤ 1024
 each : ∀ p ∈ l,p.1.length ≤ 1024 ∧ p.2.length ≤ 1024
 k0 : 0 ≤ k
 k1 : k ≤ 2 ^ 20
noncomputable def lenP (p : PySem.Str × PySem.Str) : Int:=(p.1.length : Int) + p.2.length
noncomputable def accLen (l : List (PySem.Str × PySem.Str)) (k : Int) : Int:=k + (l.map lenP).sum
private theorem w6d {l : List (PySem.Str × PySem.Str)} (h : ∀ p ∈ l,p.1.length ≤ 1024 ∧ p.2.length ≤ 1024) : 0 ≤ (l.map lenP).sum ∧ (l.map lenP).sum ≤ 2048 * (l.length : Int):=by
 induction l with
 | nil => simp
 | cons p l ih =>
  have h1:=h p (.head _)
  have h2:=ih fun q hq => h q (.tail _ hq)
  simp only [List.map_cons,List.sum_cons,List.length_cons]
  have e : lenP p = (p.1.length : Int) + p.2.length:=rfl
  lia
private theorem AccSz.nonneg {l : List (PySem.Str × PySem.Str)} {k : Int} (h : AccSz l k) : 0 ≤ accLen l k ∧ accLen l k < 2 ^ 60:=by
 have h1:=w6d h.each
 have h2:=h.k0
 have h3:=h.k1
 have h4:=h.len
 unfold accLen
 lia
section
variable {mu mu' nu : List Addr} {s₀ s s' : Shared} {env : Env} {ρ : List (PySem.Str × PV)} {σ σ' : List (Addr × MO)} {A : Around} {E : Value → Shared → Prop}
private theorem GenE.ofSub {e : Expr} {l : List (PySem.Str × PySem.Str)} {g : PySem.Str × PySem.Str → PV}
  (h : ∀ s,Ok C mu s → Act env mu s.heap ρ σ → ∀ (Q : Value → Shared → Prop) (E : Value → Shared → Prop),
   (∀ ga s' fp wr St G,Ok C mu s' → Kp C [] s s' → WalksS prog w A.in4 ga fp wr G l.length (fun j y => ∃ p,l[j]? = some p ∧ ∀ h,Sim h [] (g p) y) St → (∀ i s,St i s → s.TypeIs (.ref ga) "generator") → St 0 s' → ga ∈ fp → (∀ b ∈ fp,b < s'.heap.objs.size) →
    (∀ s'',Moved wr G s' s'' → Ok C mu s'' ∧ Kp C [] s s'') → Q (.ref ga) s') → wpAny (model prog w) A (eval e env) Q E s) : GenE prog w C mu A env ρ σ e (l.map g):=fun s O a Q E k =>
 h s O a Q E fun ga s' fp wr St G O' k' W hT hst hga hfp hM => k ga s' fp wr St G O' k' (w7g W (by rw [List.length_map]) fun j y ⟨p,hp,hy⟩ => ⟨g p,by rw [List.getElem?_map,hp];rfl,hy⟩) hT hst hga hfp hM
private theorem acc_len (hC : CfgOk P C) {n : Nat} {x dx : Addr} {l : List (PySem.Str × PySem.Str)} {k : Int} (r : Rm A (n + 3)) (O : Ok C mu s) (ha : AccAt mu s.heap x dx l k) (hz : AccSz l k) :
  Pur prog w C mu A (call (.ref w3l) [.ref x]) (.int (accLen l k)) s:=by
 intro Q E kk
 refine q1f (ρc:=[]) (names:=[⟨#[115,101,108,102]⟩]) (ps:=[.val (.ref x)]) ((def_a_len hC).at O) r O ⟨_,_,rfl,rfl,rfl⟩ (BindsTo.of_eq rfl) rfl Clo.nil rfl rfl fun L s₁ hL I r' hk => ?_
 rw [List.append_nil] at I
 obtain ⟨od,hod,I₁⟩:=ha.tell I hL rfl (fun c hc => nomatch hc) hk
 obtain ⟨hs,t,t',m,rfl⟩:=hod
 have h1:=w6d hz.each
 have h2:=hz.len
 refine q0a (q0n I₁ (pur_sumGen (ns:=l.map lenP) (ps:=l.map fun p => .int (lenP p)) (k:=k) (by rw [List.map_map];rfl) r'.none ?b ?c ?d ⟨by have:=hz.k0;lia,by have:=hz.k1;lia⟩ (fun j hj => ?e) (fun _ => rfl) (fun _ => rfl)) fun v s' I' y => ?f)
 case b => exact q0f (q0e hC rfl) rfl rfl
 case d => exact tk_attr (q0o hC) rfl rfl rfl (q3z ha.ne) (n_size hC) rfl rfl (fun h => ⟨t',rfl⟩)
 case c =>
  refine GenE.ofSub fun s O a Q E kg => gen_sub (cl:=[]) (x:=x) (dx:=dx) (Cl:=cAcc) (tb:=TL[2]) (g:=fun p => .int (lenP p)) O a r'.none r'.room ?a1 ?a2 ?a3 ?a4 ?a5 ?a6 ?a7 ?a8 ?a9 sAcc_x (sAcc_d ha.ne) (q1p hC).lst (q1p hC).iter ?b1 ?b2 ?b3 ?b4 (fun _ => rfl) ?b5 kg
  case a1 => exact rfl
  case a2 => exact rfl
  case a3 => decide
  case a4 => exact rfl
  case a5 => exact rfl
  case a6 => exact rfl
  case a7 => decide
  case a8 => exact rfl
  case a9 => exact q0b rfl rfl
  case b1 => rw [hC.T];decide +kernel
  case b2 => exact rfl
  case b3 => kernel_rfl
  case b4 => rw [hC.T];decide +kernel
  case b5 =>
   intro A' E' L' code p va vb s₂ m₂ hA' _ _ hp hva hvb X hn ha' hb'
   exact elt_len (b:=p) X ⟨rfl,rfl,rfl,rfl⟩ hn rfl (q0e hC rfl) rfl rfl hva hvb ha' hb' (by have:=(hz.each p hp).1;(with_reducible refine nae ?_;decide)) (by have:=(hz.each p hp).2;(with_reducible refine nae ?_;decide)) rfl rfl
 case e =>
  have hj' : j < l.length:=by simpa using hj
  have hp:=hz.each l[j] (List.getElem_mem hj')
  have e1 : (l.map lenP).getD j 0 = lenP l[j]:=by simp [List.getD_eq_getElem?_getD,hj']
  have e2:=w6d (l:=l.take (j + 1)) fun q hq => hz.each q (List.mem_of_mem_take hq)
  have e3 : ((l.map lenP).take (j + 1)) = (l.take (j + 1)).map lenP:=by rw [List.map_take]
  have e4 : (l.take (j + 1)).length ≤ l.length:=by rw [List.length_take];with_reducible exact Nat.min_le_right _ _
  have e5 : lenP l[j] = (l[j].1.length : Int) + l[j].2.length:=rfl
  have:=hz.k0
  have:=hz.k1
  rw [e1,e3]
  refine ⟨⟨?_,?_⟩,?_,?_⟩ <;> lia
 case f => exact kk v s' (I'.out hL).1 (I'.out hL).2 (y.sub fun a h => .tail _ h)
end
end
section
open PySem PySem.W PySem.Calls PyProof.Rows
set_option maxHeartbeats 2000000
variable {prog : Program} {w : World} {P : Params} {C : Cfg}
private theorem join0 : ∀ ys : List PySem.Str,(PySem.Txt.join ⟨#[]⟩ ys).cps.toList = (ys.map (·.cps.toList)).flatten:=fun ys => by
 show (PySem.Builtin.Str.glued ⟨#[]⟩ ys).cps.toList = _
 rw [StrLaws.glued_eq_join]
 induction ys with
 | nil => rfl
 | cons y ys ih =>
  cases ys with
  | nil => simp [Str.join]
  | cons z zs =>
   show (y ++ (⟨#[]⟩ : PySem.Str) ++ Str.join ⟨#[]⟩ (z :: zs)).cps.toList = _
   have e : (y ++ (⟨#[]⟩ : PySem.Str) ++ Str.join ⟨#[]⟩ (z :: zs)).cps.toList = y.cps.toList ++ (Str.join ⟨#[]⟩ (z :: zs)).cps.toList:=by
    show (y.cps ++ #[] ++ (Str.join ⟨#[]⟩ (z :: zs)).cps).toList = _
    simp
   rw [e,ih]
   simp
noncomputable def accStr (l : List (PySem.Str × PySem.Str)) : PySem.Str:=⟨((l.map fun p => p.1.cps.toList ++ p.2.cps.toList).flatten).toArray⟩
private theorem w5m {a b : PySem.Str} (h : a.cps.toList = b.cps.toList) : a = b:=by
 cases a;cases b;congr;exact Array.ext' h
private theorem join2 (a b : PySem.Str) : PySem.Txt.join ⟨#[]⟩ [a,b] = a ++ b:=w5m (by rw [join0];show _ = (a.cps ++ b.cps).toList;simp)
private theorem accStr_eq (l : List (PySem.Str × PySem.Str)) : PySem.Txt.join ⟨#[]⟩ (l.map fun p => PySem.Txt.join ⟨#[]⟩ [p.1,p.2]) = accStr l:=w5m (by
 rw [join0,List.map_map]
 unfold accStr
 simp only [List.toList_toArray]
 congr 1
 apply List.map_congr_left
 intro p _
 show (PySem.Txt.join ⟨#[]⟩ [p.1,p.2]).cps.toList = _
 rw [join0]
 simp)
private theorem q7m (a b : PySem.Str) : (a ++ b).length = a.length + b.length:=by
 show (a.cps ++ b.cps).size = _
 exact Array.size_append
section
variable {mu mu' nu : List Addr} {s₀ s s' : Shared} {env : Env} {ρ : List (PySem.Str × PV)} {σ σ' : List (Addr × MO)} {A : Around} {E : Value → Shared → Prop}
private theorem sum_lens {l : List (PySem.Str × PySem.Str)} (h : ∀ p ∈ l,p.1.length ≤ 64 ∧ p.2.length ≤ 64) : ((l.map fun p => PySem.Txt.join ⟨#[]⟩ [p.1,p.2]).map (·.length)).sum ≤ 128 * l.length:=by
 induction l with
 | nil => simp
 | cons p l ih =>
  have h1:=h p (.head _)
  have h2:=ih fun q hq => h q (.tail _ hq)
  simp only [List.map_cons,List.sum_cons,List.length_cons,join2,q7m] at h2 ⊢
  lia
private theorem acc_str (hC : CfgOk P C) {n : Nat} {x dx : Addr} {l : List (PySem.Str × PySem.Str)} {k : Int} (r : Rm A (n + 3)) (O : Ok C mu s) (ha : AccAt mu s.heap x dx l k) (hz : AccSz l k) (hsm : ∀ p ∈ l,p.1.length ≤ 64 ∧ p.2.length ≤ 64) :
  Pur prog w C mu A (call (.ref w0i) [.ref x]) (.str (accStr l)) s:=by
 intro Q E kk
 refine q1f (ρc:=[]) (names:=[⟨#[115,101,108,102]⟩]) (ps:=[.val (.ref x)]) ((def_a_str hC).at O) r O ⟨_,_,rfl,rfl,rfl⟩ (BindsTo.of_eq rfl) rfl Clo.nil rfl rfl fun L s₁ hL I r' hk => ?_
 rw [List.append_nil] at I
 obtain ⟨od,hod,I₁⟩:=ha.tell I hL rfl (fun c hc => nomatch hc) hk
 have h2:=hz.len
 obtain ⟨t0,hg0⟩:=g_empty hC
 have hs:=sum_lens hsm
 refine q0a (q0n I₁ (w5t (sep:=⟨#[]⟩) (ys:=l.map fun p => PySem.Txt.join ⟨#[]⟩ [p.1,p.2]) (ps:=l.map fun p => .str (PySem.Txt.join ⟨#[]⟩ [p.1,p.2])) (by rw [List.map_map];rfl) r'.none ?b ?c rfl ?d ?e) fun v s' I' y => ?f)
 case b => exact w7n hg0 rfl rfl
 case d => exact joinOk_of_weight (by rw [List.length_map];lia) (by decide)
 case e => rw [List.length_map];(with_reducible refine nad ?_;decide)
 case c =>
  refine GenE.ofSub fun s O a Q E kg => gen_sub (cl:=[]) (x:=x) (dx:=dx) (Cl:=cAcc) (tb:=TL[3]) (g:=fun p => .str (PySem.Txt.join ⟨#[]⟩ [p.1,p.2])) O a r'.none r'.room ?a1 ?a2 ?a3 ?a4 ?a5 ?a6 ?a7 ?a8 ?a9 sAcc_x (sAcc_d ha.ne) (q1p hC).lst (q1p hC).iter ?b1 ?b2 ?b3 ?b4 (fun _ => rfl) ?b5 kg
  case a1 => exact rfl
  case a2 => exact rfl
  case a3 => decide
  case a4 => exact rfl
  case a5 => exact rfl
  case a6 => exact rfl
  case a7 => decide
  case a8 => exact rfl
  case a9 => exact q0b rfl rfl
  case b1 => rw [hC.T];decide +kernel
  case b2 => exact rfl
  case b3 => kernel_rfl
  case b4 => rw [hC.T];decide +kernel
  case b5 =>
   intro A' E' L' code p va vb s₂ m₂ hA' _ _ hp hva hvb X hn ha' hb'
   have:=hsm p hp
   exact elt_join rfl X ⟨rfl,rfl,rfl,rfl⟩ hn rfl hg0 rfl rfl hva hvb ha' hb' (by lia) rfl rfl rfl
 case f => exact kk v s' (I'.out hL).1 (I'.out hL).2 (by rw [← accStr_eq];exact y.sub fun a h => .tail _ h)
end
end
section
set_option tactic.hygienic true
open PySem PySem.W PySem.Calls PyProof.Rows
noncomputable def tailL (k : Nat) : List Nat:=if k % 2 = 1 then [120,46] else []
noncomputable def nlL (k : Nat) : List Nat:=([[10],[13],[13,10]] : List (List Nat)).getD (k % 3) []
noncomputable def bodyL (sz : List Nat) (k : Nat) : List Nat:=List.replicate (sz.getD k 0) 46 ++ tailL k
noncomputable def txtL (sz : List Nat) (ks : List Nat) : List Nat:=(ks.map fun k => bodyL sz k ++ nlL k).flatten
private theorem q5j (sz : List Nat) (k : Nat) : 13 ∉ bodyL sz k ∧ 10 ∉ bodyL sz k:=by
 have h : ∀ c ∈ bodyL sz k,c = 46 ∨ c = 120:=fun c hc => by
  rcases List.mem_append.mp hc with q | q
  ·exact .inl (List.eq_of_mem_replicate q)
  ·unfold tailL at q
   split at q
   ·simp at q;lia
   ·cases q
 exact ⟨(fun q => by rcases h _ q with e | e <;> cases e),(fun q => by rcases h _ q with e | e <;> cases e)⟩
noncomputable def okNl (sz : List Nat) : List Nat → Prop
 | [] => True
 | k :: ks => (k % 3 = 1 → (txtL sz ks).head? ≠ some 10) ∧ okNl sz ks
private theorem w8k (sz : List Nat) : ∀ ks : List Nat,okNl sz ks → crlf (txtL sz ks) = (ks.map fun k => bodyL sz k ++ [13,10]).flatten
 | [],_ => rfl
 | k :: ks,⟨h1,h2⟩ => by
  have ih:=w8k sz ks h2
  have e : crlf (nlL k ++ txtL sz ks) = 13 :: 10 :: crlf (txtL sz ks):=by
   have : k % 3 = 0 ∨ k % 3 = 1 ∨ k % 3 = 2:=by lia
   unfold nlL
   rcases this with q | q | q
   ·rw [q];rfl
   ·rw [q];exact crlf_13 (h1 q)
   ·rw [q];rfl
  show crlf ((bodyL sz k ++ nlL k) ++ txtL sz ks) = (bodyL sz k ++ [13,10]) ++ _
  rw [List.append_assoc,w5a (q5j sz k).1 (q5j sz k).2,e,ih,List.append_assoc];rfl
private theorem w1j (sz : List Nat) : ∀ ks : List Nat,dotted true ((ks.map fun k => bodyL sz k ++ [13,10]).flatten) = (ks.map fun k => lead (bodyL sz k) ++ [13,10]).flatten
 | [] => rfl
 | k :: ks => by
  show dotted true ((bodyL sz k ++ [13,10]) ++ _) = (lead (bodyL sz k) ++ [13,10]) ++ _
  rw [List.append_assoc,List.append_assoc]
  show dotted true (bodyL sz k ++ 13 :: 10 :: (ks.map fun k => bodyL sz k ++ [13,10]).flatten) = lead (bodyL sz k) ++ 13 :: 10 :: (ks.map fun k => lead (bodyL sz k) ++ [13,10]).flatten
  rw [w6s (q5j sz k).2,w1j sz ks]
private theorem lead_mem {b : List Nat} {c : Nat} (h : c ∈ lead b) : c ∈ b ∨ c = 46:=by
 unfold lead at h
 split at h
 ·rcases List.mem_cons.mp h with q | q
  ·exact .inr q
  ·exact .inl q
 ·exact .inl h
private theorem spl_txt (sz : List Nat) : ∀ ks : List Nat,spl ((ks.map fun k => lead (bodyL sz k) ++ [13,10]).flatten) = ks.map (fun k => lead (bodyL sz k)) ++ [[]]
 | [] => rfl
 | k :: ks => by
  show spl ((lead (bodyL sz k) ++ [13,10]) ++ _) = lead (bodyL sz k) :: _
  rw [List.append_assoc]
  show spl (lead (bodyL sz k) ++ 13 :: 10 :: (ks.map fun k => lead (bodyL sz k) ++ [13,10]).flatten) = lead (bodyL sz k) :: (ks.map (fun k => lead (bodyL sz k)) ++ [[]])
  rw [w7k (fun q => by rcases lead_mem q with q | q;exact (q5j sz k).1 q;cases q),spl_txt sz ks]
private theorem lead_body (sz : List Nat) (k : Nat) : lead (bodyL sz k) = List.replicate (min 1 (sz.getD k 0)) 46 ++ bodyL sz k:=by
 unfold bodyL
 cases sz.getD k 0 with
 | zero =>
  show lead (tailL k) = tailL k
  unfold tailL
  split <;> rfl
 | succ n =>
  rw [show min 1 (n + 1) = 1 by lia]
  rfl
private theorem w8c (sz : List Nat) (k : Nat) (ks : List Nat) (h : k % 3 ≠ 0 ∨ k % 2 = 1) : (txtL sz (k :: ks)).head? ≠ some 10:=by
 show ((bodyL sz k ++ nlL k) ++ txtL sz ks).head? ≠ some 10
 unfold bodyL
 cases sz.getD k 0 with
 | succ n => intro q;cases q
 | zero =>
  unfold tailL
  split
  ·intro q;cases q
  ·rename_i h2
   have : k % 3 = 1 ∨ k % 3 = 2:=by lia
   unfold nlL
   rcases this with q | q <;> rw [q] <;> intro q <;> cases q
private theorem okNl_all (sz : List Nat) : okNl sz (List.range 8):=by
 show okNl sz [0,1,2,3,4,5,6,7]
 exact ⟨fun h => (nomatch h),fun _ => w8c sz 2 _ (.inl (by decide)),fun h => (nomatch h),fun h => (nomatch h),fun _ => w8c sz 5 _ (.inr (by decide)),fun h => (nomatch h),fun h => (nomatch h),fun _ h => (nomatch h),trivial⟩
noncomputable def sTail (k : Nat) : PySem.Str:=⟨(tailL k).toArray⟩
noncomputable def sNlk (k : Nat) : PySem.Str:=⟨(nlL k).toArray⟩
noncomputable def lineS (sz : List Nat) (k : Nat) : PySem.Str:=(dots (sz.getD k 0) ++ sTail k) ++ sNlk k
noncomputable def mailT (sz : List Nat) : PySem.Str:=PySem.Txt.join ⟨#[]⟩ ((List.range 8).map (lineS sz))
noncomputable def sentS (sz : List Nat) (k : Nat) : PySem.Str:=(dots (min 1 (sz.getD k 0)) ++ dots (sz.getD k 0)) ++ sTail k
private theorem w4h (sz : List Nat) : (mailT sz).cps.toList = txtL sz (List.range 8):=by
 unfold mailT txtL
 rw [q8g]
 unfold catS
 rw [List.map_map]
 congr 1
 refine List.map_congr_left fun k _ => ?_
 show (lineS sz k).cps.toList = _
 unfold lineS
 rw [q0s,q0s]
 rfl
private theorem mail_split (sz : List Nat) : PySem.Txt.split (quoteS (mailT sz)) sCr = (List.range 8).map (sentS sz) ++ [⟨#[]⟩]:=by
 rw [split_spl]
 have : (quoteS (mailT sz)).cps.toList = ((List.range 8).map fun k => lead (bodyL sz k) ++ [13,10]).flatten:=by
  show dotted true (crlf (mailT sz).cps.toList) = _
  rw [w4h,w8k sz _ (okNl_all sz),w1j]
 rw [this,spl_txt,List.map_append,List.map_map]
 congr 1
 refine List.map_congr_left fun k _ => ?_
 apply q5a
 show lead (bodyL sz k) = _
 rw [lead_body]
 unfold sentS
 rw [q0s,q0s]
 show _ = List.replicate _ 46 ++ List.replicate _ 46 ++ tailL k
 rw [List.append_assoc];rfl
private theorem w7h (k : Nat) : (tailL k).length ≤ 2:=by unfold tailL;split <;> decide
private theorem nl_len (k : Nat) : (nlL k).length ≤ 2:=by
 have : k % 3 = 0 ∨ k % 3 = 1 ∨ k % 3 = 2:=by lia
 unfold nlL
 rcases this with q | q | q <;> rw [q] <;> decide
private theorem txt_len (sz : List Nat) (h7 : ∀ s ∈ sz,s ≤ 7) : ∀ ks : List Nat,(txtL sz ks).length ≤ 11 * ks.length
 | [] => Nat.le_refl _
 | k :: ks => by
  have h1:=txt_len sz h7 ks
  have h2:=w7h k
  have h3:=nl_len k
  have h4 : sz.getD k 0 ≤ 7:=by
   rw [List.getD_eq_getElem?_getD]
   cases e : sz[k]? with
   | none => exact Nat.zero_le _
   | some s => exact h7 s (List.mem_of_getElem? e)
  show ((bodyL sz k ++ nlL k) ++ txtL sz ks).length ≤ 11 * (ks.length + 1)
  unfold bodyL
  rw [List.length_append,List.length_append,List.length_append,List.length_replicate]
  lia
private theorem w7w {sz : List Nat} (h7 : ∀ s ∈ sz,s ≤ 7) : (mailT sz).cps.size ≤ 88:=by
 rw [← Array.length_toList,w4h]
 exact txt_len sz h7 _
private theorem quote_len {sz : List Nat} (h7 : ∀ s ∈ sz,s ≤ 7) : (quoteS (mailT sz)).length ≤ 2 ^ 20:=by
 show (quoteS (mailT sz)).cps.size ≤ _
 rw [← Array.length_toList]
 show (dotted true (crlf (mailT sz).cps.toList)).length ≤ _
 have h1:=w7w h7
 have h2:=w0b (mailT sz).cps.toList
 have h0 : (mailT sz).cps.toList.length = (mailT sz).cps.size:=Array.length_toList
 have h3 : ∀ (l : List Nat) b,(dotted b l).length ≤ 2 * l.length:=fun l => by
  induction l with
  | nil => intro b;exact Nat.le_refl _
  | cons c l ih =>
   intro b
   unfold dotted
   split
   ·have:=ih false;simp only [List.length_cons];lia
   ·have:=ih (c == 10);simp only [List.length_cons];lia
 have:=h3 (crlf (mailT sz).cps.toList) true
 lia
private theorem dots_x : ∀ n,n < 9 → (PySem.Txt.split (dots n) ⟨#[120]⟩).head? = some (dots n) ∧ (PySem.Txt.split (dots n ++ ⟨#[120,46]⟩) ⟨#[120]⟩).head? = some (dots n):=by decide +kernel
end
section
set_option tactic.hygienic true
open PySem PySem.W PySem.Calls PyProof.Rows
variable {prog : Program} {w : World} {P : Params} {C : Cfg}
private theorem div0 (hC : CfgOk P C) {a b n : Int} (hb : b ≠ 0) (hp : Builtin.divisionGoesByPylong a b = false) (hn : (Builtin.Int.intBits a : Int) - n ≤ 4000) : FnOk prog w C a_div2 1 [.int a,.int b,.int n] (.tup [.int (a.fdiv b),.int (a.fmod b)]):=by
 refine FnOk.of (names:=[⟨#[97]⟩,⟨#[98]⟩,⟨#[110]⟩]) (q8h hC) (fun vs h => ?_) rfl rfl rfl rfl fun A mu L s s₁ r hL I => ?_
 ·obtain ⟨_,_,_,rfl⟩:=len3 h;rfl
 ·obtain ⟨tl,hl⟩:=g_limit hC
  refine q0a (st_If (b:=decide ((Builtin.Int.intBits a : Int) - n ≤ 4000)) I (by repeat' walk_at "pe") fun s₂ I₂ => ?_)
  rw [decide_eq_true hn]
  refine q0a (q0n I₂ (p:=.tup [.int (a.fdiv b),.int (a.fmod b)]) ?_ fun v s' I' y => ⟨v,_,rfl,I',y⟩)
  repeat' walk_at "pe"
  all_goals assumption
noncomputable def dval (n : Nat) : List Int → Int
 | [] => 0
 | d :: l => d + dval n l * 2 ^ n
private theorem q9v (n : Nat) : ∀ (a b : List Int),dval n (a ++ b) = dval n a + dval n b * 2 ^ (n * a.length)
 | [],b => by simp [dval]
 | d :: a,b => by
  have e : (2 : Int) ^ (n * (a.length + 1)) = 2 ^ (n * a.length) * 2 ^ n:=by rw [Nat.mul_add,Nat.mul_one,Int.pow_add]
  simp only [List.cons_append,dval,q9v n a b,List.length_cons,e]
  rw [Int.add_mul,Int.mul_assoc,Int.add_assoc]
private theorem w1i (n : Nat) : ∀ (l : List Int),(∀ d ∈ l,0 ≤ d ∧ d < 2 ^ n) → 0 ≤ dval n l ∧ dval n l < 2 ^ (n * l.length)
 | [],_ => by simp [dval]
 | d :: l,h => by
  obtain ⟨h1,h2⟩:=h d (.head _)
  obtain ⟨h3,h4⟩:=w1i n l fun x hx => h x (.tail _ hx)
  have e : (2 : Int) ^ (n * (l.length + 1)) = 2 ^ (n * l.length) * 2 ^ n:=by rw [Nat.mul_add,Nat.mul_one,Int.pow_add]
  have hp : (0 : Int) < 2 ^ n:=Int.pow_pos (by decide)
  simp only [dval,List.length_cons,e]
  refine ⟨Int.add_nonneg h1 (Int.mul_nonneg h3 (Int.le_of_lt hp)),?_⟩
  have : (dval n l + 1) * 2 ^ n ≤ 2 ^ (n * l.length) * 2 ^ n:=Int.mul_le_mul_of_nonneg_right (by lia) (Int.le_of_lt hp)
  rw [Int.add_mul] at this
  omega
private theorem q3f {a : Int} {m : Nat} (h0 : 0 ≤ a) (h : a < 2 ^ m) : Builtin.Int.intBits a ≤ m:=by
 rw [intBits_le_iff]
 obtain ⟨k,rfl⟩:=Int.eq_ofNat_of_zero_le h0
 have : ((2 ^ m : Nat) : Int) = (2 : Int) ^ m:=by simp
 rw [← this] at h
 simp only [Int.natAbs_natCast]
 omega
noncomputable def seg {α : Type} (l : List α) (L R : Nat) : List α:=(l.drop L).take (R - L)
private theorem seg_split {α : Type} (l : List α) {L M R : Nat} (h1 : L ≤ M) (h2 : M ≤ R) : seg l L R = seg l L M ++ seg l M R:=by
 unfold seg
 have e : l.drop M = (l.drop L).drop (M - L):=by rw [List.drop_drop];congr 1;with_reducible exact nc4
 rw [e]
 have e2 : R - L = (M - L) + (R - M):=by with_reducible exact nb4
 rw [e2,List.take_add]
private theorem w0t {α : Type} (l : List α) {L R : Nat} (h : R ≤ l.length) : (seg l L R).length = R - L:=by unfold seg;rw [List.length_take,List.length_drop];with_reducible exact nb5
private theorem seg_mem {α : Type} {l : List α} {L R : Nat} {x : α} (h : x ∈ seg l L R) : x ∈ l:=List.mem_of_mem_drop (List.mem_of_mem_take h)
noncomputable abbrev ib_d2i (P : Params) : List Stmt:=(fdef ((bd_d2i P).getD 0 default)).elim [] (·.2.2.1)
noncomputable abbrev is_d2i (P : Params) : PySem.Scope:=(fdef ((bd_d2i P).getD 0 default)).elim default (·.2.2.2)
noncomputable abbrev ip_d2i (P : Params) : Arguments:=(fdef ((bd_d2i P).getD 0 default)).elim default (·.2.1)
noncomputable abbrev w3e (c1 c2 c3 : Addr) : List (PySem.Str × Addr):=[(⟨#[110]⟩,c1),(⟨#[105,110,110,101,114]⟩,c2),(⟨#[100,105,103,105,116,115]⟩,c3)]
noncomputable abbrev w6y (f : Addr) (l : List Int) (n : Nat) : List (PySem.Str × PV):=[(⟨#[110]⟩,.int n),(⟨#[105,110,110,101,114]⟩,.val (.ref f)),(⟨#[100,105,103,105,116,115]⟩,.lst (l.map .int))]
private theorem clo3 {α : Type} {x a b c : PySem.Str} {p u v z : α} {Q : Prop} (h : [(a,u),(b,v),(c,z)].lookup x = some p) (h1 : x = a → p = u → Q) (h2 : x = b → p = v → Q) (h3 : x = c → p = z → Q) : Q:=by
 simp only [List.lookup_cons] at h
 split at h
 ·rename_i e;cases h;exact h1 (eq_of_beq e) rfl
 ·split at h
  ·rename_i e;cases h;exact h2 (eq_of_beq e) rfl
  ·split at h
   ·rename_i e;cases h;exact h3 (eq_of_beq e) rfl
   ·cases h
private theorem d2i_inner (hC : CfgOk P C) {f c1 c2 c3 : Addr} {nm q : PySem.Str} {doc pm cd ct : Value} (D : Def C f (fnX nm q (ip_d2i P) (ib_d2i P) (is_d2i P) (w3e c1 c2 c3) .none .none doc pm none cd ct) (ib_d2i P))
  (l : List Int) (n : Nat) (hl : ∀ d ∈ l,0 ≤ d ∧ d < 2 ^ n) (hb : n * l.length ≤ 2 ^ 26) (hl2 : l.length ≤ 2 ^ 20) (hn : n ≤ 2 ^ 20) : ∀ (k L R : Nat),L < R → R ≤ l.length → R - L ≤ 2 ^ k →
   FnOkC prog w C f (w3e c1 c2 c3) (w6y f l n) (is_d2i P).names (k + 1) [.int L,.int R] (.int (dval n (seg l L R))):=by
 intro k
 induction k using Nat.strongRecOn with
 | ind k IH =>
  intro L R h1 h2 h3
  refine FnOkC.of (names:=[⟨#[76]⟩,⟨#[82]⟩]) D (fun vs h => ?_) rfl rfl rfl fun A mu L₀ s s₁ r hL I hal => ?_
  ·obtain ⟨_,_,rfl⟩:=len2 h;rfl
  ·by_cases he : L + 1 = R
   ·refine q0a (st_IfT I ((show ((L : Int) + 1 == (R : Int)) = true by rw [beq_iff_eq];lia) ▸ (by repeat' walk_at "pe")) fun s₂ I₂ => ?_)
    have hlt : L < l.length:=by with_reducible exact naa
    have e1 : seg l L R = [l[L]]:=by
     unfold seg
     rw [List.drop_eq_getElem_cons hlt,show R - L = 1 by lia]
     rfl
    have e2 : dval n (seg l L R) = l[L]:=by rw [e1];simp [dval]
    rw [e2]
    refine q0a (q0n I₂ (p:=.int l[L]) (q1e (l:=l.map .int) (j:=L) (q0m (by walk_at "pe")) (by walk_at "pe") (by simp [hlt]) (by simp;(with_reducible refine nae ?_;decide))) fun v s' I' y => ⟨v,_,_,rfl,I',y⟩)
   ·refine q0a (st_IfN I ((show ((L : Int) + 1 == (R : Int)) = false by rw [beq_eq_false_iff_ne];lia) ▸ (by repeat' walk_at "pe")) fun s₂ I₂ => ?_)
    obtain ⟨k,rfl⟩ : ∃ k',k = k' + 1:=⟨k - 1,by
     have : k ≠ 0:=fun q => by subst q;lia
     with_reducible exact ni1⟩
    obtain ⟨M,hM⟩ : ∃ M,M = (L + R) / 2:=⟨_,rfl⟩
    have hLM : L < M:=by with_reducible exact ne5
    have hMR : M < R:=by with_reducible exact ne2
    have hmid : ((L : Int) + R).fdiv (2 ^ (1 : Int).toNat) = (M : Int):=by
     show ((L : Int) + R).fdiv 2 = _
     rw [Int.fdiv_eq_ediv_of_nonneg _ (by decide)]
     lia
    have hs : ((M : Int) - L) * n = ((n * (M - L) : Nat) : Int):=by
     rw [← Int.ofNat_sub (by with_reducible exact na0),Nat.mul_comm];push_cast;rfl
    refine q0a (q0h I₂ (by walk_at "sto") (p:=.int (M : Int)) (hmid ▸ (by (repeat' walk_at "pe");decide)) fun s₃ I₃ => ?_)
    have hmul : IntMulOk ((M : Int) - L) n:=IntMulOk.of_le (m:=64) (n:=64) (q3f (by lia) (by lia)) (q3f (by lia) (by lia)) (by decide)
    refine q0a (q0h I₃ (by walk_at "sto") (p:=.int ((n * (M - L) : Nat) : Int)) (hs ▸ (by (repeat' walk_at "pe");exact hmul)) fun s₄ I₄ => ?_)
    have k2 : 2 ^ (k + 1) = 2 * 2 ^ k:=by rw [Nat.pow_succ];lia
    have f1:=IH k (by lia) M R hMR h2 (by lia)
    have f2:=IH k (by lia) L M hLM (by lia) (by lia)
    obtain ⟨b1,b2⟩:=w1i n (seg l M R) fun d hd => hl d (seg_mem hd)
    have hbits : (Builtin.Int.intBits (dval n (seg l M R)) : Int) + ((n * (M - L) : Nat) : Int) ≤ 2 ^ 27:=by
     have:=q3f b1 b2
     rw [w0t l h2] at this
     have e3 : n * (R - M) + n * (M - L) ≤ n * l.length:=by rw [← Nat.mul_add];exact Nat.mul_le_mul_left _ (by with_reducible exact ne9)
     lia
    have hval : dval n (seg l M R) * 2 ^ ((n * (M - L) : Nat) : Int).toNat + dval n (seg l L M) = dval n (seg l L R):=by
     rw [seg_split l (Nat.le_of_lt hLM) (Nat.le_of_lt hMR),q9v,w0t l (by lia),Int.toNat_natCast,Int.add_comm]
    rw [← hval]
    have hcall : ∀ {X Y : Nat} {s : Shared} {vs : List Value} {z : PV},FnOkC prog w C f (w3e c1 c2 c3) (w6y f l n) (is_d2i P).names (k + 1) [.int X,.int Y] z → Ok C (L₀ :: mu) s →
      Act (callEnv (fnX nm q (ip_d2i P) (ib_d2i P) (is_d2i P) (w3e c1 c2 c3) .none .none doc pm none cd ct) L₀ f) (L₀ :: mu) s.heap ((⟨#[115,104,105,102,116]⟩,.int ((n * (M - L) : Nat) : Int)) :: (⟨#[109,105,100]⟩,.int M) :: (([(⟨#[76]⟩ : PySem.Str),⟨#[82]⟩].zip [PV.int L,.int R]).reverse ++ w6y f l n)) [] →
      Sims s.heap (L₀ :: mu) [.int X,.int Y] vs → Pur prog w C (L₀ :: mu) A (call (.ref f) vs) z s:=fun F O a y => by
     refine F _ _ _ _ r O (Clo.ofAct a (fun x c h => ?_) (fun x p h => ?_) fun x hx => ?_) y
     ·exact ⟨h,by refine clo3 h (fun e _ => ?_) (fun e _ => ?_) fun e _ => ?_;all_goals subst e;exact (show some NameKind.free ≠ some NameKind.local by decide)⟩
     ·refine clo3 h (fun e e' => ?_) (fun e e' => ?_) fun e e' => ?_
      all_goals subst e e';exact ⟨rfl,rfl,rfl,_,rfl⟩
     ·exact (hal x hx).imp (.tail _) id
    refine q0a (q0n I₄ (p:=.int _) (q0l (q0l (p:=.int (dval n (seg l M R))) (q9c (ps:=[.int M,.int R]) (f:=f) (by walk_at "pe") (by repeat' walk_at "pe") D (fun s vs O a y => hcall f1 O a y) (fun _ => rfl)) (by walk_at "pe") (op_shl (by lia) hbits))
     (q9c (ps:=[.int L,.int M]) (f:=f) (by walk_at "pe") (by repeat' walk_at "pe") D (fun s vs O a y => hcall f2 O a y) (fun _ => rfl)) op_add) fun v s' I' y => ⟨v,_,_,rfl,I',y⟩)
private theorem d2i (hC : CfgOk P C) {l : List Int} {n k : Nat} (hl : ∀ d ∈ l,0 ≤ d ∧ d < 2 ^ n) (hb : n * l.length ≤ 2 ^ 26) (hl2 : l.length ≤ 2 ^ 20) (hn : n ≤ 2 ^ 20) (hk : l.length ≤ 2 ^ k) : FnOk prog w C a_d2i (k + 2) [.lst (l.map .int),.int n] (.int (dval n l)):=by
 refine FnOk.ofC (names:=[⟨#[100,105,103,105,116,115]⟩,⟨#[110]⟩]) (w6u hC) (fun vs h => ?_) rfl rfl rfl (of_decide_eq_true rfl) fun A mu L s s₁ r I hL => ?_
 ·obtain ⟨_,_,rfl⟩:=len2 h;rfl
 ·refine q0a (st_Def (x:=TL[1]) I (by rw [hC.T];exact .tail _ (.head _)) rfl rfl (by rw [hC.T];decide +kernel) rfl (by walk_at "stc") rfl rfl rfl rfl rfl rfl fun f s₂ s₃ doc pm cd ct D I₃ O₂ => ?_)
  have hC':=hC.now (s:=s₂) (mu:=q0i (callEnvC (fd_d2i P) L a_d2i) ++ mu)
  refine q0a (q0n I₃ (p:=.int (dval n l)) ?_ fun v s' I' y => ⟨v,rfl,(I'.outD O₂ hL).1,(I'.outD O₂ hL).2,y.sub fun a h => List.mem_append_right _ h⟩)
  refine pur_IfExp (b:=(l.map PV.int).length != 0) (q1h (by walk_at "pe") (w2i (by simp;lia)) fun _ => rfl) (fun hne => ?_) fun he => ?_
  ·have hpos : 0 < l.length:=by
    simp at hne
    exact List.length_pos_iff.mpr hne
   have e0 : dval n l = dval n (seg l 0 l.length):=by simp [seg]
   rw [e0]
   refine q9c (ps:=[.int (0 : Nat),.int l.length]) (f:=f) (by walk_at "pe") ?_ D (fun s vs O a y => ?_) (fun _ => rfl)
   ·have e1 : (l.length : Int) = ((l.map PV.int).length : Nat):=by simp
    rw [e1]
    repeat' walk_at "pe"
    all_goals (rw [List.length_map];lia)
   ·refine d2i_inner hC' D l n hl hb hl2 hn k 0 l.length hpos (Nat.le_refl _) (by with_reducible exact nb3) _ _ _ _ r O (Clo.ofAct a (fun x c h => ?_) (fun x p h => ?_) fun x hx => ?_) y
    ·refine ⟨?_,?_⟩
     ·refine clo3 h (fun e e' => ?_) (fun e e' => ?_) fun e e' => ?_
      all_goals subst e e';rfl
     ·refine clo3 h (fun e _ => ?_) (fun e _ => ?_) fun e _ => ?_
      all_goals subst e;exact (show some NameKind.cell ≠ some NameKind.local by decide)
    ·refine clo3 h (fun e e' => ?_) (fun e e' => ?_) fun e e' => ?_
     all_goals subst e e';exact ⟨rfl,rfl,rfl,_,rfl⟩
    ·exact I₃.cells x (by
      rcases hx with _ | ⟨_,_ | ⟨_,_ | ⟨_,hx⟩⟩⟩
      ·walk_at "mem"
      ·walk_at "mem"
      ·walk_at "mem"
      ·cases hx)
  ·have e0 : l = []:=by simpa using he
   subst e0
   exact q0k
end
section
open PySem PySem.W PySem.Calls PyProof.Rows
variable {prog : Program} {w : World} {P : Params} {C : Cfg}
private theorem land_high (x s : Nat) : x &&& (x / 2 ^ s * 2 ^ s) = x / 2 ^ s * 2 ^ s:=by
 apply Nat.eq_of_testBit_eq
 intro i
 rw [Nat.testBit_and,← Nat.shiftRight_eq_div_pow,← Nat.shiftLeft_eq,Nat.testBit_shiftLeft,Nat.testBit_shiftRight]
 by_cases h : i ≥ s
 ·simp [h]
 ·simp [h]
private theorem land_apart (a b s : Nat) (h : b < 2 ^ s) : (a * 2 ^ s) &&& b = 0:=by
 apply Nat.eq_of_testBit_eq
 intro i
 rw [Nat.testBit_and,← Nat.shiftLeft_eq,Nat.testBit_shiftLeft,Nat.zero_testBit]
 by_cases hi : i ≥ s
 ·have : b.testBit i = false:=Nat.testBit_lt_two_pow (Nat.lt_of_lt_of_le h (Nat.pow_le_pow_right (by decide) hi))
  simp [this]
 ·simp [hi]
private theorem xor_low (x s : Nat) : Builtin.bitXor (x : Int) (((x : Int).fdiv (2 ^ (s : Int).toNat)) * 2 ^ (s : Int).toNat) = ((x % 2 ^ s : Nat) : Int):=by
 have e : ((x : Int).fdiv (2 ^ (s : Int).toNat)) * 2 ^ (s : Int).toNat = ((x / 2 ^ s * 2 ^ s : Nat) : Int):=by
  rw [Int.toNat_natCast,Int.fdiv_eq_ediv_of_nonneg _ (Int.le_of_lt (Int.pow_pos (by decide)))]
  push_cast
  rfl
 rw [e,bitXor_and,bitAnd_pp (by lia) (by omega),Int.toNat_natCast,Int.toNat_natCast,land_high]
 have:=Nat.div_add_mod x (2 ^ s)
 rw [Nat.mul_comm] at this
 lia
private theorem w7s (a b s : Nat) (h : b < 2 ^ s) : Builtin.bitOr (((a : Nat) : Int) * 2 ^ s) (b : Nat) = ((a * 2 ^ s + b : Nat) : Int):=by
 have e : ((a : Nat) : Int) * 2 ^ s = ((a * 2 ^ s : Nat) : Int):=by push_cast;rfl
 rw [e,bitOr_and,bitAnd_pp (by omega) (by lia),Int.toNat_natCast,Int.toNat_natCast,land_apart _ _ _ h]
 push_cast
 lia
noncomputable def digs (n : Nat) : Nat → Nat → List Nat
 | _,0 => []
 | x,m + 1 => x % 2 ^ n :: digs n (x / 2 ^ n) m
private theorem q3p (n : Nat) : ∀ (m x : Nat),(digs n x m).length = m
 | 0,_ => rfl
 | m + 1,x => by simp [digs,q3p n m]
private theorem digs_lt (n : Nat) : ∀ (m x d : Nat),d ∈ digs n x m → d < 2 ^ n
 | 0,_,_,h => by cases h
 | m + 1,x,d,h => by
  rcases List.mem_cons.mp h with rfl | h
  ·exact Nat.mod_lt _ (Nat.pow_pos (by decide))
  ·exact digs_lt n m _ d h
private theorem w1l (n : Nat) : ∀ (a b x : Nat),digs n x (a + b) = digs n (x % 2 ^ (n * a)) a ++ digs n (x / 2 ^ (n * a)) b
 | 0,b,x => by simp [digs]
 | a + 1,b,x => by
  have e1 : 2 ^ (n * (a + 1)) = 2 ^ n * 2 ^ (n * a):=by rw [Nat.mul_add,Nat.mul_one,Nat.pow_add,Nat.mul_comm]
  rw [show a + 1 + b = (a + b) + 1 by lia]
  simp only [digs,List.cons_append]
  rw [w1l n a b,e1,Nat.mod_mul_right_div_self,Nat.mod_mul_right_mod,Nat.div_div_eq_div_mul]
private theorem digs_one {n x : Nat} (h : x < 2 ^ n) : digs n x 1 = [x]:=by simp [digs,Nat.mod_eq_of_lt h]
private theorem w4v (n : Nat) : ∀ (m x : Nat),x < 2 ^ (n * m) → dval n ((digs n x m).map Int.ofNat) = x
 | 0,x,h => by simp at h;subst h;rfl
 | m + 1,x,h => by
  have e1 : 2 ^ (n * (m + 1)) = 2 ^ n * 2 ^ (n * m):=by rw [Nat.mul_add,Nat.mul_one,Nat.pow_add,Nat.mul_comm]
  have h' : x / 2 ^ n < 2 ^ (n * m):=Nat.div_lt_of_lt_mul (by rw [← e1];exact h)
  simp only [digs,List.map_cons,dval,w4v n m _ h']
  have:=Nat.div_add_mod x (2 ^ n)
  have e2 : (Int.ofNat (x % 2 ^ n)) + ((x / 2 ^ n : Nat) : Int) * 2 ^ n = ((x % 2 ^ n + x / 2 ^ n * 2 ^ n : Nat) : Int):=by push_cast;rfl
  rw [e2]
  congr 1
  rw [Nat.mul_comm]
  lia
noncomputable def put {α : Type} (l : List α) (L : Nat) (ds : List α) : List α:=l.take L ++ ds ++ l.drop (L + ds.length)
private theorem put_length {α : Type} (l : List α) (L : Nat) (ds : List α) (h : L + ds.length ≤ l.length) : (put l L ds).length = l.length:=by unfold put;simp;with_reducible exact nh7
private theorem put_put {α : Type} (l : List α) (L : Nat) (a b : List α) (h : L + a.length + b.length ≤ l.length) : put (put l L a) (L + a.length) b = put l L (a ++ b):=by
 unfold put
 have h1 : (l.take L ++ a).length = L + a.length:=by simp;lia
 rw [List.take_append_of_le_length (by lia),List.take_of_length_le (Nat.le_of_eq h1)]
 have e : (List.take L l ++ a ++ List.drop (L + a.length) l).drop (L + a.length + b.length) = l.drop (L + (a ++ b).length):=by
  rw [List.drop_append,List.drop_of_length_le (by lia),List.nil_append,List.drop_drop,h1,List.length_append]
  congr 1
  with_reducible exact nh2
 rw [e]
 simp [List.append_assoc]
private theorem put_set {α : Type} (l : List α) (L : Nat) (x : α) (h : L < l.length) : put l L [x] = l.set L x:=by
 unfold put
 rw [List.set_eq_take_append_cons_drop,if_pos h]
 simp
private theorem put_all {α : Type} (l ds : List α) (h : ds.length = l.length) : put l 0 ds = ds:=by unfold put;simp [h]
noncomputable abbrev ib_i2d (P : Params) : List Stmt:=(fdef ((bd_i2d P).getD 1 default)).elim [] (·.2.2.1)
noncomputable abbrev is_i2d (P : Params) : PySem.Scope:=(fdef ((bd_i2d P).getD 1 default)).elim default (·.2.2.2)
noncomputable abbrev ip_i2d (P : Params) : Arguments:=(fdef ((bd_i2d P).getD 1 default)).elim default (·.2.1)
noncomputable abbrev q4x (c1 c2 c3 : Addr) : List (PySem.Str × Addr):=[(⟨#[110]⟩,c1),(⟨#[105,110,110,101,114]⟩,c2),(⟨#[97,95,100,105,103,105,116,115]⟩,c3)]
noncomputable abbrev w0e (f d : Addr) (n : Nat) : List (PySem.Str × PV):=[(⟨#[110]⟩,.int n),(⟨#[105,110,110,101,114]⟩,.val (.ref f)),(⟨#[97,95,100,105,103,105,116,115]⟩,.val (.ref d))]
noncomputable abbrev pvd (l : List Nat) : List PV:=l.map fun (x : Nat) => PV.int x
private theorem lk0 {d : Addr} {m : MO} {r : List (Addr × MO)} : ((d,m) :: r).lookup d = some m:=by simp [List.lookup_cons]
private theorem i2d_inner (hC : CfgOk P C) {f d c1 c2 c3 : Addr} {nm q : PySem.Str} {doc pm cd ct : Value} (D : Def C f (fnX nm q (ip_i2d P) (ib_i2d P) (is_i2d P) (q4x c1 c2 c3) .none .none doc pm none cd ct) (ib_i2d P))
  (n len : Nat) (hb : n * len ≤ 2 ^ 26) (hl2 : len ≤ 2 ^ 20) (hn : n ≤ 2 ^ 20) : ∀ (k x L R : Nat) (l : List PV),l.length = len → L < R → R ≤ len → R - L ≤ 2 ^ k → x < 2 ^ (n * (R - L)) →
   ∀ A mu s vs (Q : Value → Shared → Prop) (E : Value → Shared → Prop),Rm A (k + 1) → Ok C mu s → Clo C mu s.heap (q4x c1 c2 c3) (w0e f d n) (is_i2d P).names → d ∈ mu → MOAt mu s.heap d (Mlst l) → Sims s.heap mu [.int x,.int L,.int R] vs →
    (∀ s',Ok C mu s' → Kp C [d] s s' → MOAt mu s'.heap d (Mlst (put l L (pvd (digs n x (R - L))))) → Q .none s') → wpAny (model prog w) A (call (.ref f) vs) Q E s:=by
 intro k
 induction k using Nat.strongRecOn with
 | ind k IH =>
  intro x L R l hl h1 h2 h3 hx A mu s vs Q E r O hclo hd hm hy K
  refine q1f (names:=[⟨#[120]⟩,⟨#[76]⟩,⟨#[82]⟩]) (ρc:=w0e f d n) (D.at O) r O hy (BindsTo.of_eq ?_) rfl hclo rfl rfl fun L₀ s₁ hL I r' hk => ?_
  ·obtain ⟨v1,_,rfl,_,v2,_,rfl,_,v3,_,rfl,_,hr⟩:=hy
   cases hr
   rfl
  ·have hdL : d ≠ L₀:=fun q => by obtain ⟨o,e⟩:=(O.live d hd).2;rw [q,hL] at e;cases e
   have hcl : ∀ x c,(q4x c1 c2 c3).lookup x = some c → d ≠ c:=fun x c hc e => by
    obtain ⟨_,ov,⟨o,ho,hdat⟩,_⟩:=hclo.cell x c (by refine clo3 hc (fun e _ => ?_) (fun e _ => ?_) fun e _ => ?_;all_goals subst e;decide) hc
    obtain ⟨vs,n,e',_⟩:=hm
    rw [e,ho] at e';cases e';cases hdat
   have hown : d ∉ q0i (callEnv (fnX nm q (ip_i2d P) (ib_i2d P) (is_i2d P) (q4x c1 c2 c3) .none .none doc pm none cd ct) L₀ f):=fun h => by
    rcases h with _ | ⟨_,_ | ⟨_,_ | ⟨_,_ | ⟨_,h⟩⟩⟩⟩
    ·exact hdL rfl
    ·exact hcl ⟨#[110]⟩ _ rfl rfl
    ·exact hcl ⟨#[105,110,110,101,114]⟩ _ rfl rfl
    ·exact hcl ⟨#[97,95,100,105,103,105,116,115]⟩ _ rfl rfl
    ·cases h
   have hm₁ : MOAt (L₀ :: mu) s₁.heap d (Mlst l):=hm.keeps (fun o e => hk _ _ e) (fun a o ha e q => by rcases List.mem_cons.mp q with rfl | q;(rw [hL] at e;cases e);exact ha q) fun a o _ _ e => hk _ _ e
   have I:=I.know (.tail _ hd) hown hm₁
   -- the way out
   have out : ∀ {ρ' σ' s'} {m' : List PV},In C (L₀ :: mu) [d,L₀] (callEnv (fnX nm q (ip_i2d P) (ib_i2d P) (is_i2d P) (q4x c1 c2 c3) .none .none doc pm none cd ct) L₀ f) ρ' ((d,Mlst m') :: σ') s s' → m' = put l L (pvd (digs n x (R - L))) → Q .none s':=fun {ρ' σ' s' m'} I' e => by
    refine K s' (I'.ok.sub fun a h => .tail _ h) ⟨fun b o hb ht e => I'.kp.keep b o (fun q => ?_) ht e⟩ ?_
    ·rcases List.mem_cons.mp q with rfl | q
     ·exact hb (.head _)
     ·simp at q;subst q;rw [hL] at e;cases e
    ·have:=(I'.act.st d (Mlst m') lk0).2.2
     rw [e] at this
     exact this.keeps (fun _ e => e) (fun _ _ h _ q => h (.tail _ q)) fun _ _ _ _ e => e
   by_cases he : L + 1 = R
   ·refine q0a (st_IfT I ((show ((L : Int) + 1 == (R : Int)) = true by rw [beq_iff_eq];lia) ▸ (by repeat' walk_at "pe")) fun s₂ I₂ => ?_)
    have e1 : R - L = 1:=by lia
    rw [e1,Nat.mul_one] at hx
    refine q0a (w8y (a:=d) (l:=l) (p:=.int x) (j:=L) I₂ lk0 (.head _) (by walk_at "pe") (by walk_at "pe") (by walk_at "pe") (by lia) (by lia) fun s₃ I₃ => ?_)
    refine q0a (wpAny_Return_none ?_)
    exact out I₃ (by rw [e1,digs_one hx];exact (put_set l L (.int x) (by lia)).symm)
   ·refine q0a (st_IfN I ((show ((L : Int) + 1 == (R : Int)) = false by rw [beq_eq_false_iff_ne];lia) ▸ (by repeat' walk_at "pe")) fun s₂ I₂ => ?_)
    obtain ⟨k,rfl⟩ : ∃ k',k = k' + 1:=⟨k - 1,by
     have : k ≠ 0:=fun q => by subst q;lia
     with_reducible exact ni1⟩
    obtain ⟨M,hM⟩ : ∃ M,M = (L + R) / 2:=⟨_,rfl⟩
    have hLM : L < M:=by with_reducible exact ne5
    have hMR : M < R:=by with_reducible exact ne2
    have hmid : ((L : Int) + R).fdiv (2 ^ (1 : Int).toNat) = (M : Int):=by
     show ((L : Int) + R).fdiv 2 = _
     rw [Int.fdiv_eq_ediv_of_nonneg _ (by decide)]
     lia
    have hs : ((M : Int) - L) * n = ((n * (M - L) : Nat) : Int):=by
     rw [← Int.ofNat_sub (by with_reducible exact na0),Nat.mul_comm];push_cast;rfl
    refine q0a (q0h I₂ (by walk_at "sto") (p:=.int (M : Int)) (hmid ▸ (by (repeat' walk_at "pe");decide)) fun s₃ I₃ => ?_)
    have hmul : IntMulOk ((M : Int) - L) n:=IntMulOk.of_le (m:=64) (n:=64) (q3f (by lia) (by lia)) (q3f (by lia) (by lia)) (by decide)
    refine q0a (q0h I₃ (by walk_at "sto") (p:=.int ((n * (M - L) : Nat) : Int)) (hs ▸ (by (repeat' walk_at "pe");exact hmul)) fun s₄ I₄ => ?_)
    obtain ⟨S,hS⟩ : ∃ S,S = n * (M - L):=⟨_,rfl⟩
    rw [← hS] at I₄
    have hup : (x : Int).fdiv (2 ^ (S : Int).toNat) = ((x / 2 ^ S : Nat) : Int):=by
     rw [Int.toNat_natCast,Int.fdiv_eq_ediv_of_nonneg _ (Int.le_of_lt (Int.pow_pos (by decide)))];push_cast;rfl
    refine q0a (q0h I₄ (by walk_at "sto") (p:=.int ((x / 2 ^ S : Nat) : Int)) (hup ▸ (by (repeat' walk_at "pe");lia)) fun s₅ I₅ => ?_)
    have e5 : n * (R - L) = S + n * (R - M):=by rw [hS,← Nat.mul_add];congr 1;with_reducible exact ne4
    have hSle : n * (R - L) ≤ n * len:=Nat.mul_le_mul_left _ (by with_reducible exact nb3)
    have hub : x / 2 ^ S < 2 ^ (n * (R - M)):=Nat.div_lt_of_lt_mul (by rw [← Nat.pow_add,← e5];exact hx)
    have hbits : (Builtin.Int.intBits ((x / 2 ^ S : Nat) : Int) : Int) + (S : Int) ≤ 2 ^ 27:=by
     have:=q3f (a:=((x / 2 ^ S : Nat) : Int)) (m:=n * (R - M)) (Int.natCast_nonneg _) (by exact_mod_cast hub)
     lia
    have hlow:=xor_low x S
    rw [hup] at hlow
    refine q0a (q0h I₅ (by walk_at "sto") (p:=.int ((x % 2 ^ S : Nat) : Int)) (hlow ▸ (by (repeat' walk_at "pe");all_goals first | assumption | lia)) fun s₆ I₆ => ?_)
    have k2 : 2 ^ (k + 1) = 2 * 2 ^ k:=by rw [Nat.pow_succ];lia
    have hlb : x % 2 ^ S < 2 ^ (n * (M - L)):=by rw [← hS];exact Nat.mod_lt _ (Nat.pow_pos (by decide))
    have hcl' : ∀ {ρ' σ' s'} ,In C (L₀ :: mu) [d,L₀] (callEnv (fnX nm q (ip_i2d P) (ib_i2d P) (is_i2d P) (q4x c1 c2 c3) .none .none doc pm none cd ct) L₀ f) (ρ' ++ ([(⟨#[120]⟩,PV.int x),(⟨#[76]⟩,.int L),(⟨#[82]⟩,.int R)].reverse ++ w0e f d n)) σ' s s' → True:=fun _ => trivial
    have clo : ∀ {σ' s'} {p1 p2 p3 p4 : PV},In C (L₀ :: mu) [d,L₀] (callEnv (fnX nm q (ip_i2d P) (ib_i2d P) (is_i2d P) (q4x c1 c2 c3) .none .none doc pm none cd ct) L₀ f) ((⟨#[108,111,119,101,114]⟩,p1) :: (⟨#[117,112,112,101,114]⟩,p2) :: (⟨#[115,104,105,102,116]⟩,p3) :: (⟨#[109,105,100]⟩,p4) :: (([(⟨#[120]⟩ : PySem.Str),⟨#[76]⟩,⟨#[82]⟩].zip [PV.int x,.int L,.int R]).reverse ++ w0e f d n)) σ' s s' →
      Clo C (L₀ :: mu) s'.heap (q4x c1 c2 c3) (w0e f d n) (is_i2d P).names:=fun I' => by
     refine Clo.ofAct I'.act (fun x c h => ⟨h,?_⟩) (fun x p h => ?_) fun x hx => ?_
     ·refine clo3 h (fun e _ => ?_) (fun e _ => ?_) fun e _ => ?_;all_goals subst e;exact (show some NameKind.free ≠ some NameKind.local by decide)
     ·refine clo3 h (fun e e' => ?_) (fun e e' => ?_) fun e e' => ?_
      all_goals subst e e';exact ⟨rfl,rfl,rfl,_,rfl⟩
     ·exact (hclo.alive x hx).imp (.tail _) id
    refine q0a (q4p (ps:=[.int (x % 2 ^ S : Nat),.int L,.int M]) (f:=f) I₆ (by walk_at "pe") (by repeat' walk_at "pe") D (fun s₇ vs I₇ y => ?_) (fun _ => rfl))
    refine IH k (by lia) (x % 2 ^ S) L M l hl hLM (by lia) (by lia) hlb _ _ _ _ _ _ r' I₇.ok (clo I₇) (.tail _ hd) (I₇.act.st d _ lk0).2.2 y fun s₈ O₈ k₈ m₈ => ?_
    have I₈:=I₇.change1 O₈ k₈ lk0 (.head _) m₈
    refine q0a (q4p (ps:=[.int (x / 2 ^ S : Nat),.int M,.int R]) (f:=f) I₈ (by walk_at "pe") (by repeat' walk_at "pe") D (fun s₉ vs I₉ y => ?_) (fun _ => rfl))
    have hdl : (pvd (digs n (x % 2 ^ S) (M - L))).length = M - L:=by simp [q3p]
    refine IH k (by lia) (x / 2 ^ S) M R (put l L (pvd (digs n (x % 2 ^ S) (M - L)))) (by rw [put_length _ _ _ (by lia),hl]) hMR h2 (by lia) hub _ _ _ _ _ _ r' I₉.ok (clo I₉) (.tail _ hd) (I₉.act.st d _ lk0).2.2 y fun s₁₀ O₁₀ k₁₀ m₁₀ => ?_
    have I₁₀:=I₉.change1 O₁₀ k₁₀ lk0 (.head _) m₁₀
    refine wpAny_execs_nil ?_
    refine out I₁₀ ?_
    have e6 : M = L + (pvd (digs n (x % 2 ^ S) (M - L))).length:=by lia
    have e7 : R - L = (M - L) + (R - M):=by with_reducible exact ne4
    have hud : (pvd (digs n (x / 2 ^ S) (R - M))).length = R - M:=by simp [q3p]
    have e8 : ∀ a b : List Nat,pvd (a ++ b) = pvd a ++ pvd b:=fun a b => List.map_append
    have h9:=put_put l L (pvd (digs n (x % 2 ^ S) (M - L))) (pvd (digs n (x / 2 ^ S) (R - M))) (by lia)
    rw [← e6] at h9
    rw [e7,w1l,← hS,e8]
    exact h9
noncomputable def ndig (a n : Nat) : Nat:=(Builtin.Int.intBits (a : Int) + n - 1) / n
private theorem i2d (hC : CfgOk P C) {a n k : Nat} (hn1 : 1 ≤ n) (hn : n ≤ 2 ^ 20) (ha : Builtin.Int.intBits (a : Int) ≤ 2 ^ 19) (hk : ndig a n ≤ 2 ^ k) : FnOk prog w C a_i2d (k + 2) [.int a,.int n] (.lst (pvd (digs n a (ndig a n)))):=by
 have hm : n * ndig a n ≤ Builtin.Int.intBits (a : Int) + n - 1:=by unfold ndig;exact Nat.mul_div_le _ _
 have hm2 : ndig a n ≤ Builtin.Int.intBits (a : Int):=by
  unfold ndig
  rw [Nat.div_le_iff_le_mul_add_pred hn1]
  have:=Nat.le_mul_of_pos_left (Builtin.Int.intBits (a : Int)) hn1
  with_reducible exact nf8
 have hab : a < 2 ^ (n * ndig a n):=by
  have h1 : Builtin.Int.intBits (a : Int) ≤ n * ndig a n:=by
   unfold ndig
   have:=Nat.lt_mul_div_succ (Builtin.Int.intBits (a : Int) + n - 1) hn1
   rw [Nat.mul_add] at this
   with_reducible exact ng3
  have h2:=intBits_le_iff.mp h1
  simpa using h2
 refine FnOk.ofC (names:=[⟨#[97]⟩,⟨#[110]⟩]) (w6t hC) (fun vs h => ?_) rfl rfl rfl (of_decide_eq_true rfl) fun A mu L s s₁ r I hL => ?_
 ·obtain ⟨_,_,rfl⟩:=len2 h;rfl
 ·have hfd : ((Builtin.Int.intBits (a : Int) : Int) + n - 1).fdiv n = ((ndig a n : Nat) : Int):=by
   have e : ((Builtin.Int.intBits (a : Int) : Int) + n - 1) = ((Builtin.Int.intBits (a : Int) + n - 1 : Nat) : Int):=by omega
   rw [e,Int.fdiv_eq_ediv_of_nonneg _ (by lia)]
   unfold ndig
   push_cast
   rfl
  have hrep : ((List.replicate (ndig a n) [PV.int 0]).flatten) = List.replicate (ndig a n) (PV.int 0):=by
   generalize ndig a n = m
   induction m with
   | zero => rfl
   | succ m ih => rw [List.replicate_succ,List.flatten_cons,ih,List.replicate_succ];rfl
  refine q0a (w5o (l:=(List.replicate (ndig a n) [PV.int 0]).flatten) I rfl (by walk_at "mem") (q7d (p:=.lst [.int 0]) (q:=.int (ndig a n : Nat)) (q5c (by repeat' walk_at "pe") (by decide +kernel)) (hfd ▸ ?_) (q9h (by simp;lia) (by lia))) fun d s₂ hd hdm I₂ => ?_)
  ·(repeat' walk_at "pe")
   exact op_fdiv (by lia) (PyProof.noPylong_small (by lia))
  rw [hrep] at I₂
  refine q0a (st_Def (x:=TL[0]) I₂ (by rw [hC.T];exact .head _) rfl rfl (by rw [hC.T];decide +kernel) rfl (by walk_at "stc") rfl rfl rfl rfl rfl rfl fun f s₃ s₄ doc pm cd ct D I₄ O₃ => ?_)
  have hC':=hC.now (s:=s₃) (mu:=d :: (q0i (callEnvC (fd_i2d P) L a_i2d) ++ mu))
  have hL' : ∀ a ∈ d :: q0i (callEnvC (fd_i2d P) L a_i2d),s.heap.get? a = none:=fun b hb => by
   rcases List.mem_cons.mp hb with rfl | hb
   ·exact hd
   ·exact hL b hb
  have fin : ∀ {ρ' σ' s'},In (C.now s₃ (d :: (q0i (callEnvC (fd_i2d P) L a_i2d) ++ mu))) (d :: (q0i (callEnvC (fd_i2d P) L a_i2d) ++ mu)) (d :: q0i (callEnvC (fd_i2d P) L a_i2d)) (callEnvC (fd_i2d P) L a_i2d) ((⟨#[105,110,110,101,114]⟩,.val (.ref f)) :: (⟨#[97,95,100,105,103,105,116,115]⟩,.val (.ref d)) :: ρ') ((d,Mlst (pvd (digs n a (ndig a n)))) :: σ') s s' →
    wpAny (model prog w) A (execs ((bd_i2d P).drop 3) (callEnvC (fd_i2d P) L a_i2d)) (fun fl s' => ∃ v,fl = .ret v ∧ Ok C mu s' ∧ Kp C [] s s' ∧ Sim s'.heap mu (.lst (pvd (digs n a (ndig a n)))) v) (fun _ _ => False) s':=fun {ρ' σ' s'} I' => by
   refine q0a (q0n I' (p:=.val (.ref d)) (by walk_at "pe") fun v s'' I'' y => ⟨v,rfl,(In.outD (Ls:=d :: q0i (callEnvC (fd_i2d P) L a_i2d)) O₃ I'' hL').1,(In.outD (Ls:=d :: q0i (callEnvC (fd_i2d P) L a_i2d)) O₃ I'' hL').2,?_⟩)
   cases (show v = .ref d from y)
   obtain ⟨vs,m,e,hv⟩:=(I''.act.st d _ lk0).2.2
   exact ⟨d,vs,m,rfl,fun h => hdm (List.mem_append_right _ h),e,hv.sub fun b h => .tail _ (List.mem_append_right _ h)⟩
  by_cases ha0 : a = 0
  ·subst ha0
   have e0 : ndig 0 n = 0:=by
    unfold ndig
    have : Builtin.Int.intBits ((0 : Nat) : Int) = 0:=by decide
    rw [this]
    exact Nat.div_eq_of_lt (by lia)
   refine q0a (st_IfN I₄ (q1h (p:=.int (0 : Nat)) (b:=((0 : Nat) : Int) != 0) (by walk_at "pe") q1j fun _ => rfl) fun s₅ I₅ => ?_)
   rw [show List.replicate (ndig 0 n) (PV.int 0) = pvd (digs n 0 (ndig 0 n)) by rw [e0];rfl] at I₅
   exact fin I₅
  ·refine q0a (st_IfT I₄ ((show ((a : Int) != 0) = true by simpa using ha0) ▸ (q1h (p:=.int a) (by walk_at "pe") q1j fun _ => rfl)) fun s₅ I₅ => ?_)
   have hpos : 0 < ndig a n:=by
    rcases Nat.eq_zero_or_pos (ndig a n) with h | h
    ·rw [h] at hab;simp at hab;exact absurd hab ha0
    ·exact h
   have hlen : (List.replicate (ndig a n) (PV.int 0)).length = ndig a n:=by simp
   refine q0a (q4p (ps:=[.int a,.int (0 : Nat),.int (List.replicate (ndig a n) (PV.int 0)).length]) (f:=f) I₅ (by walk_at "pe") ?_ D (fun s₆ vs I₆ y => ?_) (fun _ => rfl))
   ·refine q0c (by walk_at "pe") (q0c (by walk_at "pe") (q0c (pur_lenM (a:=d) ?_ (by walk_at "pe") lk0 (by rw [hlen];lia)) q0d fun _ => rfl) fun _ => rfl) fun _ => rfl
    exact q0f (q0e hC' rfl) rfl rfl
   ·rw [hlen] at y
    refine i2d_inner hC' D n (ndig a n) (by (with_reducible refine nd4 ?_;decide)) (by lia) hn k a 0 (ndig a n) _ hlen hpos (Nat.le_refl _) (by with_reducible exact nb3) (by rw [Nat.sub_zero];exact hab) _ _ _ _ _ _ r I₆.ok (Clo.ofAct I₆.act (fun x c h => ?_) (fun x p h => ?_) fun x hx => ?_) (.head _) (I₆.act.st d _ lk0).2.2 y fun s₇ O₇ k₇ m₇ => ?_
    ·refine ⟨?_,?_⟩
     ·refine clo3 h (fun e e' => ?_) (fun e e' => ?_) fun e e' => ?_
      all_goals subst e e';rfl
     ·refine clo3 h (fun e _ => ?_) (fun e _ => ?_) fun e _ => ?_
      all_goals subst e;exact (show some NameKind.cell ≠ some NameKind.local by decide)
    ·refine clo3 h (fun e e' => ?_) (fun e e' => ?_) fun e e' => ?_
     all_goals subst e e';exact ⟨rfl,rfl,rfl,_,rfl⟩
    ·exact I₆.cells x (by
      rcases hx with _ | ⟨_,_ | ⟨_,_ | ⟨_,hx⟩⟩⟩
      ·walk_at "mem"
      ·walk_at "mem"
      ·walk_at "mem"
      ·cases hx)
    have I₇:=I₆.change1 O₇ k₇ lk0 (.head _) m₇
    refine wpAny_execs_nil ?_
    rw [Nat.sub_zero,put_all _ _ (by rw [hlen];simp [q3p])] at I₇
    exact fin I₇
end
section
set_option tactic.hygienic true
open PySem PySem.W PySem.Calls PyProof.Rows
variable {prog : Program} {w : World} {P : Params} {C : Cfg}
private theorem shadow2 {α : Type} {a b : PySem.Str} {p q p' q' : α} {r : List (PySem.Str × α)} : ∀ x z,((a,p) :: (b,q) :: r).lookup x = some z → ((a,p) :: (b,q) :: (a,p') :: (b,q') :: r).lookup x = some z:=fun x z h => by
 simp only [List.lookup_cons] at h ⊢
 split at h
 ·rename_i e;exact h
 ·split at h
  ·exact h
  ·exact h
private theorem shadow1 {α : Type} {a : PySem.Str} {p p' : α} {r : List (PySem.Str × α)} : ∀ x z,((a,p) :: r).lookup x = some z → ((a,p) :: (a,p') :: r).lookup x = some z:=fun x z h => by
 simp only [List.lookup_cons] at h ⊢
 cases hx : x == a with
 | true => rw [hx] at h;exact h
 | false => rw [hx] at h;exact h
private theorem swap2 {α : Type} {a b : PySem.Str} {p q : α} {r : List (PySem.Str × α)} (hab : (a == b) = false) : ∀ x z,((a,p) :: (b,q) :: r).lookup x = some z → ((b,q) :: (a,p) :: r).lookup x = some z:=fun x z h => by
 simp only [List.lookup_cons] at h ⊢
 by_cases h1 : x = a
 ·subst h1
  rw [hab]
  simpa using h
 ·have : (x == a) = false:=by simpa using h1
  rw [this] at h ⊢
  simpa using h
private theorem q9t (a b : Nat) : ((a : Int).fdiv b = ((a / b : Nat) : Int)) ∧ ((a : Int).fmod b = ((a % b : Nat) : Int)):=by
 rw [Int.fdiv_eq_ediv_of_nonneg _ (Int.natCast_nonneg _),Int.fmod_eq_emod_of_nonneg _ (Int.natCast_nonneg _)]
 exact ⟨by push_cast;rfl,by push_cast;rfl⟩
private theorem bitsN {a m : Nat} (h : a < 2 ^ m) : Builtin.Int.intBits (a : Int) ≤ m:=by rw [intBits_le_iff];simpa using h
private theorem noPy {a : Int} {b m : Nat} (h : b < 2 ^ m) (hm : m ≤ 9000) : Builtin.divisionGoesByPylong a b = false:=by
 refine PyProof.noPylong_of_log2 ?_
 rw [Int.natAbs_natCast]
 by_cases hb : b = 0
 ·subst hb;decide +kernel
 ·have:=(Nat.log2_lt hb).mpr h
  with_reducible exact naa
private theorem div0n (hC : CfgOk P C) {a b n m : Nat} (hb : 0 < b) (hbm : b < 2 ^ m) (hm : m ≤ 9000) (hn : a < 2 ^ (n + 4000)) : FnOk prog w C a_div2 1 [.int a,.int b,.int n] (.tup [.int (a / b : Nat),.int (a % b : Nat)]):=by
 have h:=div0 (prog:=prog) (w:=w) hC (a:=a) (b:=b) (n:=n) (by lia) (noPy hbm hm) (by have:=bitsN hn;lia)
 rw [(q9t a b).1,(q9t a b).2] at h
 exact h
private theorem q8y {a b q r : Nat} (h : a = q * b + r) (hr : r < b) : q = a / b ∧ r = a % b:=by
 subst h
 constructor
 ·rw [Nat.mul_comm,Nat.mul_add_div (by lia),Nat.div_eq_of_lt hr];rfl
 ·rw [Nat.mul_comm,Nat.mul_add_mod,Nat.mod_eq_of_lt hr]
private theorem div3 (hC : CfgOk P C) {a12 a3 b b1 b2 n : Nat} (hb : b = b1 * 2 ^ n + b2) (h1 : 0 < b1) (hb1 : b1 < 2 ^ n) (h2 : b2 < 2 ^ n) (h3 : a3 < 2 ^ n) (ha : a12 * 2 ^ n + a3 < b * 2 ^ n) (hn : n ≤ 4000) :
  FnOk prog w C a_div3 2 [.int a12,.int a3,.int b,.int b1,.int b2,.int n] (.tup [.int ((a12 * 2 ^ n + a3) / b : Nat),.int ((a12 * 2 ^ n + a3) % b : Nat)]):=by
 have hbpos : 0 < b:=by rw [hb];have:=Nat.mul_pos h1 (Nat.two_pow_pos n);lia
 have hbb : b < 2 ^ (n + n):=by
  rw [hb,Nat.pow_add]
  have : (b1 + 1) * 2 ^ n ≤ 2 ^ n * 2 ^ n:=Nat.mul_le_mul_right _ hb1
  rw [Nat.add_mul] at this
  with_reducible exact ni6
 have ha12 : a12 < b:=by
  have : a12 * 2 ^ n < b * 2 ^ n:=by lia
  exact Nat.lt_of_mul_lt_mul_right this
 refine FnOk.of (names:=[⟨#[97,49,50]⟩,⟨#[97,51]⟩,⟨#[98]⟩,⟨#[98,49]⟩,⟨#[98,50]⟩,⟨#[110]⟩]) (w3b hC) (fun vs h => ?_) rfl rfl rfl rfl fun A mu L s s₁ r hL I => ?_
 ·obtain ⟨_,_,_,_,_,_,rfl⟩:=len6 h;rfl
 ·refine q1x fun KK hKK => ?_
  -- the estimate
  have est : ∀ {Q : Flow → Shared → Prop},(∀ q r : Nat,∀ s₂,(a12 = q * b1 + r) → (a12 * 2 ^ n + a3) / b ≤ q → q < 2 ^ (n + n + 1) → r < 2 ^ (n + n + 1) → In C (L :: mu) [L] (callEnv (w2x P) L a_div3) ((⟨#[114]⟩,.int r) :: (⟨#[113]⟩,.int q) :: ([(⟨#[97,49,50]⟩ : PySem.Str),⟨#[97,51]⟩,⟨#[98]⟩,⟨#[98,49]⟩,⟨#[98,50]⟩,⟨#[110]⟩].zip [PV.int a12,.int a3,.int b,.int b1,.int b2,.int n]).reverse) [] s s₂ → Q .next s₂) →
    wpAny (model prog w) A (exec ((bd_div3 P).headD default) (callEnv (w2x P) L a_div3)) Q (fun _ _ => False) s₁:=fun {Q} K => by
   have hsh : (a12 : Int).fdiv (2 ^ (n : Int).toNat) = ((a12 / 2 ^ n : Nat) : Int):=by
    rw [Int.toNat_natCast,Int.fdiv_eq_ediv_of_nonneg _ (Int.le_of_lt (Int.pow_pos (by decide)))];push_cast;rfl
   have hdm:=Nat.div_add_mod a12 (2 ^ n)
   have hNb : (a12 * 2 ^ n + a3) / b < 2 ^ n:=Nat.div_lt_of_lt_mul ha
   by_cases hc : a12 / 2 ^ n = b1
   ·refine st_IfT I ((show (((a12 / 2 ^ n : Nat) : Int) == (b1 : Int)) = true by rw [hc];simp) ▸ hsh ▸ (by (repeat' walk_at "pe");lia)) fun s₂ I₂ => ?_
    have hle : b1 * 2 ^ n ≤ a12:=by rw [← hc];rw [Nat.mul_comm] at hdm;lia
    have e1 : (1 : Int) * 2 ^ (n : Int).toNat - 1 = ((2 ^ n - 1 : Nat) : Int):=by
     have : 1 ≤ 2 ^ n:=Nat.one_le_two_pow
     rw [Int.toNat_natCast,Int.one_mul]
     push_cast [this]
     rfl
    have e2 : (a12 : Int) - (b1 : Int) * 2 ^ (n : Int).toNat + b1 = ((a12 - b1 * 2 ^ n + b1 : Nat) : Int):=by
     rw [Int.toNat_natCast]
     push_cast [hle]
     rfl
    refine q0a (q8u (p:=.int (2 ^ n - 1 : Nat)) (q:=.int (a12 - b1 * 2 ^ n + b1 : Nat)) I₂ r.none (by walk_at "sto") (by walk_at "sto") (e1 ▸ e2 ▸ ?_) fun s₃ I₃ => ?_)
    ·refine wpAny_execs_nil (K (2 ^ n - 1) (a12 - b1 * 2 ^ n + b1) s₃ ?_ (by with_reducible exact ng4) ?_ ?_ (I₃.forget (swap2 (by decide)) fun _ _ h => h))
     ·have h0 : 1 ≤ 2 ^ n:=Nat.one_le_two_pow
      rw [Nat.sub_mul,Nat.one_mul,Nat.mul_comm (2 ^ n) b1]
      have : b1 ≤ b1 * 2 ^ n:=Nat.le_mul_of_pos_right _ h0
      with_reducible exact nf4
     ·have : 2 ^ n ≤ 2 ^ (n + n + 1):=Nat.pow_le_pow_right (by decide) (by lia)
      have:=Nat.two_pow_pos n
      with_reducible exact ng6
     ·have : 2 ^ (n + n + 1) = 2 ^ (n + n) + 2 ^ (n + n):=by rw [Nat.pow_succ];lia
      have : 2 ^ n ≤ 2 ^ (n + n):=Nat.pow_le_pow_right (by decide) (by lia)
      lia
    ·(repeat' walk_at "pe")
     ·lia
     ·rw [show Builtin.Int.intBits 1 = 1 by decide];lia
     ·lia
     ·have:=bitsN hb1;lia
   ·refine st_IfE I ((show (((a12 / 2 ^ n : Nat) : Int) == (b1 : Int)) = false by rw [beq_eq_false_iff_ne];lia) ▸ hsh ▸ (by (repeat' walk_at "pe");lia)) fun s₂ I₂ => ?_
    have hfn:=div0n (prog:=prog) (w:=w) (m:=n) (n:=n) hC h1 hb1 (by (with_reducible refine nad ?_;decide)) (Nat.lt_of_lt_of_le (Nat.lt_trans ha12 hbb) (Nat.pow_le_pow_right (by decide) (by lia)))
    refine q0a (q2c I₂ r.none (by walk_at "sto") (by walk_at "sto") (q0t (q0f (q0e hC rfl) rfl rfl) (by repeat' walk_at "pe") (q8h hC) hfn r (fun _ => rfl)) fun s₃ I₃ => ?_)
    have hdm1:=Nat.div_add_mod a12 b1
    have hml:=Nat.mod_lt a12 h1
    rw [Nat.mul_comm] at hdm1
    refine wpAny_execs_nil (K (a12 / b1) (a12 % b1) s₃ hdm1.symm ?_ ?_ ?_ I₃)
    ·apply Nat.le_of_lt_succ
     refine Nat.div_lt_of_lt_mul ?_
     have g1 : a12 + 1 ≤ (a12 / b1 + 1) * b1:=by rw [Nat.add_mul];lia
     have g2 : (a12 + 1) * 2 ^ n ≤ (a12 / b1 + 1) * b1 * 2 ^ n:=Nat.mul_le_mul_right _ g1
     have g3 : (a12 / b1 + 1) * b1 * 2 ^ n ≤ (a12 / b1 + 1) * b:=by rw [Nat.mul_assoc];exact Nat.mul_le_mul_left _ (by lia)
     rw [Nat.add_mul] at g2
     rw [Nat.mul_comm b]
     show _ < (a12 / b1 + 1) * b
     omega
    ·have:=Nat.div_le_self a12 b1
     have : 2 ^ (n + n + 1) = 2 ^ (n + n) + 2 ^ (n + n):=by rw [Nat.pow_succ];lia
     lia
    ·have : 2 ^ (n + n + 1) = 2 ^ (n + n) + 2 ^ (n + n):=by rw [Nat.pow_succ];lia
     have : 2 ^ n ≤ 2 ^ (n + n):=Nat.pow_le_pow_right (by decide) (by lia)
     lia
  refine q0a (est fun q r₀ s₂ hq hge hqb hrb I₂ => ?_)
  have hbq:=bitsN hqb
  have hbr:=bitsN hrb
  obtain ⟨N,hN⟩ : ∃ N,N = a12 * 2 ^ n + a3:=⟨_,rfl⟩
  rw [← hN] at hge hKK
  have hor:=w7s r₀ a3 n h3
  have hr1 : (Builtin.bitOr ((r₀ : Int) * 2 ^ (n : Int).toNat) (a3 : Int)) - (q : Int) * b2 = (N : Int) - q * b:=by
   rw [Int.toNat_natCast,hor,hN,hb,hq]
   push_cast
   rw [Int.mul_add,Int.add_mul,Int.mul_assoc]
   lia
  refine q0a (q0h I₂ (by walk_at "sto") (p:=.int ((N : Int) - q * b)) (hr1 ▸ ?_) fun s₃ I₃ => ?_)
  ·(repeat' walk_at "pe")
   ·lia
   ·lia
   ·exact IntMulOk.of_le (m:=n + n + 1) (n:=n) hbq (bitsN h2) (by lia)
  have I₃:=I₃.forget (ρ':=(⟨#[114]⟩,.int ((N : Int) - q * b)) :: (⟨#[113]⟩,.int q) :: ([(⟨#[97,49,50]⟩ : PySem.Str),⟨#[97,51]⟩,⟨#[98]⟩,⟨#[98,49]⟩,⟨#[98,50]⟩,⟨#[110]⟩].zip [PV.int a12,.int a3,.int b,.int b1,.int b2,.int n]).reverse) (σ':=[]) shadow1 (fun _ _ h => nomatch h)
  refine q0a (st_While (J:=fun k ρ => ∃ q : Nat,k = q ∧ N / b ≤ q ∧ ρ = (⟨#[114]⟩,.int ((N : Int) - q * b)) :: (⟨#[113]⟩,.int q) :: ([(⟨#[97,49,50]⟩ : PySem.Str),⟨#[97,51]⟩,⟨#[98]⟩,⟨#[98,49]⟩,⟨#[98,50]⟩,⟨#[110]⟩].zip [PV.int a12,.int a3,.int b,.int b1,.int b2,.int n]).reverse) ?_ q ⟨q,rfl,hge,rfl⟩ I₃)
  rintro k ρ s₄ ⟨q,rfl,hge,rfl⟩ I₄
  have hdm:=Nat.div_add_mod N b
  have hml:=Nat.mod_lt N hbpos
  refine ⟨decide ((N : Int) - k * b < 0),by repeat' walk_at "pe",fun ht E' s₅ I₅ => ?_,fun hf s₅ I₅ => ?_⟩
  ·refine q1x fun K' hK' => ?_
   have hlt : N < k * b:=by
    have:=of_decide_eq_true ht
    have e : ((k * b : Nat) : Int) = (k : Int) * b:=by push_cast;rfl
    lia
   have hk1 : N / b < k:=(Nat.div_lt_iff_lt_mul hbpos).mpr hlt
   have hk0 : 0 < k:=Nat.lt_of_le_of_lt (Nat.zero_le _) hk1
   have e1 : (k : Int) - 1 = ((k - 1 : Nat) : Int):=by lia
   refine q0a (q1u I₅ (.head _) rfl (by walk_at "pe") (e1 ▸ op_isub) fun s₆ I₆ => ?_)
   have e2 : (N : Int) - k * b + b = (N : Int) - ((k - 1 : Nat) : Int) * b:=by rw [← e1,Int.sub_mul];lia
   refine q0a (q1u I₆ (.head _) rfl (by walk_at "pe") (e2 ▸ op_iadd) fun s₇ I₇ => ?_)
   exact wpAny_execs_nil (hK' _ _ ⟨rfl,k - 1,_,Nat.sub_lt (Nat.lt_of_le_of_lt (Nat.zero_le _) hk1) (by decide),⟨k - 1,rfl,Nat.le_sub_one_of_lt hk1,rfl⟩,I₇.forget shadow2 fun _ _ h => h⟩)
  ·have hlt : k * b ≤ N:=by
    have:=of_decide_eq_false hf
    have e : ((k * b : Nat) : Int) = (k : Int) * b:=by push_cast;rfl
    lia
   have hk1 : k ≤ N / b:=(Nat.le_div_iff_mul_le hbpos).mpr hlt
   have hk : k = N / b:=Nat.le_antisymm hk1 hge
   have e2 : (N : Int) - k * b = ((N % b : Nat) : Int):=by
    rw [hk,Int.mul_comm]
    have e : ((b * (N / b) : Nat) : Int) = (b : Int) * ((N / b : Nat) : Int):=by push_cast;rfl
    lia
   rw [e2] at I₅
   rw [hk] at I₅
   refine q0a (q0n I₅ (p:=.tup [.int (N / b : Nat),.int (N % b : Nat)]) (by repeat' walk_at "pe") fun v s' I' y => hKK _ _ ⟨v,_,rfl,I',y⟩)
end
section
open PySem PySem.W PySem.Calls PyProof.Rows
variable {prog : Program} {w : World} {P : Params} {C : Cfg}
private theorem w2d (a n : Nat) : (a : Int).fdiv (2 ^ (n : Int).toNat) = ((a / 2 ^ n : Nat) : Int):=by
 rw [Int.toNat_natCast,Int.fdiv_eq_ediv_of_nonneg _ (Int.le_of_lt (Int.pow_pos (by decide)))];push_cast;rfl
private theorem w3h (a n : Nat) : Builtin.bitAnd (a : Int) ((2 ^ n - 1 : Nat) : Int) = ((a % 2 ^ n : Nat) : Int):=by
 have e : ((2 ^ n - 1 : Nat) : Int) = 2 ^ n - 1:=by
  have : 1 ≤ 2 ^ n:=Nat.one_le_two_pow
  push_cast [this];rfl
 rw [e,kbt_mask]
 push_cast
 rfl
private theorem div2_core {a b h q1 r1 q2 r2 : Nat} (hb : 0 < b) (e1 : q1 = (a / 2 ^ (h + h) * 2 ^ h + a / 2 ^ h % 2 ^ h) / b) (e2 : r1 = (a / 2 ^ (h + h) * 2 ^ h + a / 2 ^ h % 2 ^ h) % b) (e3 : q2 = (r1 * 2 ^ h + a % 2 ^ h) / b) (e4 : r2 = (r1 * 2 ^ h + a % 2 ^ h) % b) :
  q1 * 2 ^ h + q2 = a / b ∧ r2 = a % b:=by
 have hh : a / 2 ^ (h + h) * 2 ^ h + a / 2 ^ h % 2 ^ h = a / 2 ^ h:=by
  rw [Nat.pow_add,← Nat.div_div_eq_div_mul]
  have:=Nat.div_add_mod (a / 2 ^ h) (2 ^ h)
  rw [Nat.mul_comm] at this
  exact this
 rw [hh] at e1 e2
 have h1:=Nat.div_add_mod (a / 2 ^ h) b
 have h2:=Nat.div_add_mod (r1 * 2 ^ h + a % 2 ^ h) b
 have h3:=Nat.div_add_mod a (2 ^ h)
 have hr2 : r2 < b:=e4 ▸ Nat.mod_lt _ hb
 rw [← e1,← e2] at h1
 rw [← e3,← e4] at h2
 refine q8y ?_ hr2
 have : a / 2 ^ h * 2 ^ h = (b * q1 + r1) * 2 ^ h:=by rw [h1]
 rw [Nat.add_mul] at this
 rw [Nat.mul_comm] at h3
 have e5 : (q1 * 2 ^ h + q2) * b = b * q1 * 2 ^ h + b * q2:=by rw [Nat.add_mul,Nat.mul_comm b q1,Nat.mul_comm b q2,Nat.mul_right_comm]
 lia
private theorem div2 (hC : CfgOk P C) {a b n : Nat} (hn2 : n ≤ 7000) (hb1 : 2 ^ (n - 1) ≤ b) (hb2 : b < 2 ^ n) (ha : a < b * 2 ^ n) : FnOk prog w C a_div2 3 [.int a,.int b,.int n] (.tup [.int (a / b : Nat),.int (a % b : Nat)]):=by
 have hb0 : 0 < b:=Nat.lt_of_lt_of_le (Nat.two_pow_pos _) hb1
 by_cases hsmall : Builtin.Int.intBits (a : Int) ≤ n + 4000
 ·have hh:=div0n (prog:=prog) (w:=w) (n:=n) (m:=n) hC hb0 hb2 (by (with_reducible refine nad ?_;decide)) (by have:=intBits_le_iff.mp hsmall;simpa using this)
  exact fun A mu r => hh A mu (r.mono (by lia))
 ·have hn : 2 ≤ n:=by
   have:=bitsN (a:=a) (m:=n + n) (by rw [Nat.pow_add];exact Nat.lt_trans ha (Nat.mul_lt_mul_of_pos_right hb2 (Nat.two_pow_pos n)))
   lia
  refine FnOk.of (names:=[⟨#[97]⟩,⟨#[98]⟩,⟨#[110]⟩]) (q8h hC) (fun vs h => ?_) rfl rfl rfl rfl fun A mu L s s₁ r hL I => ?_
  ·obtain ⟨_,_,_,rfl⟩:=len3 h;rfl
  ·obtain ⟨tl,hl⟩:=g_limit hC
   refine q0a (st_IfN I ((show decide ((Builtin.Int.intBits (a : Int) : Int) - n ≤ 4000) = false by rw [decide_eq_false_iff_not];lia) ▸ (by repeat' walk_at "pe")) fun s₂ I₂ => ?_)
   have hpad : Builtin.bitAnd (n : Int) 1 = ((n % 2 : Nat) : Int):=by rw [bitAnd_m1];push_cast;rfl
   refine q0a (q0h I₂ (by walk_at "sto") (p:=.int (n % 2 : Nat)) (hpad ▸ (by repeat' walk_at "pe")) fun s₃ I₃ => ?_)
   -- the rest,of padded values
   have rest : ∀ (a' b' h : Nat) (ρ : List (PySem.Str × PV)) (s₄ : Shared),In C (L :: mu) [L] (callEnv (q9u P) L a_div2) ρ [] s s₄ → ρ.lookup ⟨#[97]⟩ = some (.int a') → ρ.lookup ⟨#[98]⟩ = some (.int b') → ρ.lookup ⟨#[110]⟩ = some (.int (h + h : Nat)) → ρ.lookup ⟨#[112,97,100]⟩ = some (.int (n % 2 : Nat)) →
     1 ≤ h → h ≤ 3600 → 2 ^ (h + h - 1) ≤ b' → b' < 2 ^ (h + h) → a' < b' * 2 ^ (h + h) → a' / b' = a / b → a' % b' / 2 ^ (n % 2) = a % b →
     wpAny (model prog w) A (execs ((bd_div2 P).drop 3) (callEnv (q9u P) L a_div2)) (fun fl s' => ∃ v ρ',fl = .ret v ∧ In C (L :: mu) [L] (callEnv (q9u P) L a_div2) ρ' [] s s' ∧ Sim s'.heap (L :: mu) (.tup [.int (a / b : Nat),.int (a % b : Nat)]) v) (fun _ _ => False) s₄:=by
    intro a' b' h ρ s₄ I₄ la lb ln lp hh1 hh2 hb1' hb2' ha' hq hr
    refine q1x fun KK hKK => ?_
    have hb0' : 0 < b':=Nat.lt_of_lt_of_le (Nat.two_pow_pos _) hb1'
    have e1 : ((h + h : Nat) : Int).fdiv (2 ^ (1 : Int).toNat) = (h : Int):=by
     show ((h + h : Nat) : Int).fdiv 2 = _
     rw [Int.fdiv_eq_ediv_of_nonneg _ (by decide)];lia
    refine q0a (q0h I₄ (by walk_at "sto") (p:=.int h) (e1 ▸ (by (repeat' walk_at "pe");decide)) fun s₅ I₅ => ?_)
    have e2 : (1 : Int) * 2 ^ (h : Int).toNat - 1 = ((2 ^ h - 1 : Nat) : Int):=by
     have : 1 ≤ 2 ^ h:=Nat.one_le_two_pow
     rw [Int.toNat_natCast,Int.one_mul]
     push_cast [this]
     rfl
    refine q0a (q0h I₅ (by walk_at "sto") (p:=.int (2 ^ h - 1 : Nat)) (e2 ▸ (by
     (repeat' walk_at "pe")
     ·lia
     ·rw [show Builtin.Int.intBits 1 = 1 by decide];lia)) fun s₆ I₆ => ?_)
    refine q0a (q8u (p:=.int (b' / 2 ^ h : Nat)) (q:=.int (b' % 2 ^ h : Nat)) I₆ r.none (by walk_at "sto") (by walk_at "sto") (w2d b' h ▸ w3h b' h ▸ ?_) fun s₇ I₇ => ?_)
    rotate_left
    ·(repeat' walk_at "pe")
     all_goals lia
    have hbd:=Nat.div_add_mod b' (2 ^ h)
    rw [Nat.mul_comm] at hbd
    have hbml:=Nat.mod_lt b' (Nat.two_pow_pos h)
    have hbh : b' / 2 ^ h < 2 ^ h:=Nat.div_lt_of_lt_mul (by rw [← Nat.pow_add];exact hb2')
    have hbp : 0 < b' / 2 ^ h:=Nat.div_pos (Nat.le_trans (Nat.pow_le_pow_right (by decide) (by with_reducible exact ni5)) hb1') (Nat.two_pow_pos h)
    have h12 : a' / 2 ^ (h + h) * 2 ^ h + a' / 2 ^ h % 2 ^ h = a' / 2 ^ h:=by
     rw [Nat.pow_add,← Nat.div_div_eq_div_mul]
     have:=Nat.div_add_mod (a' / 2 ^ h) (2 ^ h)
     rw [Nat.mul_comm] at this
     exact this
    have ha12 : a' / 2 ^ (h + h) * 2 ^ h + a' / 2 ^ h % 2 ^ h < b' * 2 ^ h:=by
     rw [h12]
     refine Nat.div_lt_of_lt_mul ?_
     rw [Nat.pow_add] at ha'
     rw [Nat.mul_comm (2 ^ h),Nat.mul_assoc]
     exact ha'
    have f1:=div3 (prog:=prog) (w:=w) hC hbd.symm hbp hbh hbml (Nat.mod_lt _ (Nat.two_pow_pos h)) ha12 (by (with_reducible refine nad ?_;decide))
    refine q0a (q2c I₇ r.none (by walk_at "sto") (by walk_at "sto") (q0t (ps:=[.int (a' / 2 ^ (h + h) : Nat),.int (a' / 2 ^ h % 2 ^ h : Nat),.int b',.int (b' / 2 ^ h : Nat),.int (b' % 2 ^ h : Nat),.int h]) (q0f (q0e hC rfl) rfl rfl) ?_ (w3b hC) f1 r (fun _ => rfl)) fun s₈ I₈ => ?_)
    ·rw [← w3h (a' / 2 ^ h) h,← w2d a' (h + h),← w2d a' h]
     (repeat' walk_at "pe")
     all_goals lia
    obtain ⟨q1,hq1⟩ : ∃ q,q = (a' / 2 ^ (h + h) * 2 ^ h + a' / 2 ^ h % 2 ^ h) / b':=⟨_,rfl⟩
    obtain ⟨r1,hr1⟩ : ∃ q,q = (a' / 2 ^ (h + h) * 2 ^ h + a' / 2 ^ h % 2 ^ h) % b':=⟨_,rfl⟩
    rw [← hq1,← hr1] at I₈
    have hr1b : r1 < b':=hr1 ▸ Nat.mod_lt _ hb0'
    have ha3 : r1 * 2 ^ h + a' % 2 ^ h < b' * 2 ^ h:=by
     have : (r1 + 1) * 2 ^ h ≤ b' * 2 ^ h:=Nat.mul_le_mul_right _ hr1b
     have:=Nat.mod_lt a' (Nat.two_pow_pos h)
     rw [Nat.add_mul] at *
     with_reducible exact ni6
    have f2:=div3 (prog:=prog) (w:=w) hC hbd.symm hbp hbh hbml (Nat.mod_lt a' (Nat.two_pow_pos h)) ha3 (by (with_reducible refine nad ?_;decide))
    refine q0a (q2c I₈ r.none (by walk_at "sto") (by walk_at "sto") (q0t (ps:=[.int r1,.int (a' % 2 ^ h : Nat),.int b',.int (b' / 2 ^ h : Nat),.int (b' % 2 ^ h : Nat),.int h]) (q0f (q0e hC rfl) rfl rfl) ?_ (w3b hC) f2 r (fun _ => rfl)) fun s₉ I₉ => ?_)
    ·rw [← w3h a' h]
     (repeat' walk_at "pe")
    obtain ⟨q2,hq2⟩ : ∃ q,q = (r1 * 2 ^ h + a' % 2 ^ h) / b':=⟨_,rfl⟩
    obtain ⟨r2,hr2⟩ : ∃ q,q = (r1 * 2 ^ h + a' % 2 ^ h) % b':=⟨_,rfl⟩
    rw [← hq2,← hr2] at I₉
    obtain ⟨g1,g2⟩:=div2_core hb0' hq1 hr1 hq2 hr2
    rw [hq] at g1
    rw [← g2] at hr
    have hq2b : q2 < 2 ^ h:=hq2 ▸ Nat.div_lt_of_lt_mul ha3
    have hq1b : q1 < 2 ^ h:=hq1 ▸ Nat.div_lt_of_lt_mul ha12
    have hor : Builtin.bitOr ((q1 : Int) * 2 ^ (h : Int).toNat) (q2 : Int) = ((a / b : Nat) : Int):=by rw [Int.toNat_natCast,w7s _ _ _ hq2b,g1]
    have hbits:=bitsN hq1b
    rcases Nat.mod_two_eq_zero_or_one n with h0 | h0
    ·rw [h0] at lp hr
     have hr : r2 = a % b:=by simpa using hr
     rw [hr] at I₉
     refine q0a (st_IfN I₉ (q1h (p:=.int (0 : Nat)) (b:=((0 : Nat) : Int) != 0) (by walk_at "pe") q1j fun _ => rfl) fun s₁₀ I₁₀ => ?_)
     refine q0a (q0n I₁₀ (p:=.tup [.int (a / b : Nat),.int (a % b : Nat)]) (hor ▸ ?_) fun v s' I' y => hKK _ _ ⟨v,_,rfl,I',y⟩)
     (repeat' walk_at "pe")
     all_goals lia
    ·rw [h0] at lp hr
     have e3 : ((r2 : Nat) : Int).fdiv (2 ^ (1 : Int).toNat) = ((a % b : Nat) : Int):=by rw [← hr];exact w2d r2 1
     refine q0a (st_IfT I₉ (q1h (p:=.int (1 : Nat)) (b:=((1 : Nat) : Int) != 0) (by walk_at "pe") q1j fun _ => rfl) fun s₁₀ I₁₀ => ?_)
     refine q0a (q1u I₁₀ (.head _) rfl (by walk_at "pe") (e3 ▸ op_ishr (by decide)) fun s₁₁ I₁₁ => ?_)
     refine wpAny_execs_nil ?_
     refine q0a (q0n I₁₁ (p:=.tup [.int (a / b : Nat),.int (a % b : Nat)]) (hor ▸ ?_) fun v s' I' y => hKK _ _ ⟨v,_,rfl,I',y⟩)
     (repeat' walk_at "pe")
     all_goals lia
   rcases Nat.mod_two_eq_zero_or_one n with h0 | h0
   ·rw [h0] at I₃
    obtain ⟨h,rfl⟩ : ∃ h,n = h + h:=⟨n / 2,by lia⟩
    refine q0a (st_IfN I₃ (q1h (p:=.int (0 : Nat)) (b:=((0 : Nat) : Int) != 0) (by walk_at "pe") q1j fun _ => rfl) fun s₄ I₄ => ?_)
    exact rest a b h _ _ I₄ rfl rfl rfl (by rw [h0];rfl) (by lia) (by lia) hb1 hb2 ha rfl (by rw [h0];simp)
   ·rw [h0] at I₃
    obtain ⟨h,hh⟩ : ∃ h,n + 1 = h + h:=⟨(n + 1) / 2,by lia⟩
    have hbb:=bitsN hb2
    have hab:=bitsN (a:=a) (m:=n + n) (by rw [Nat.pow_add];exact Nat.lt_trans ha (Nat.mul_lt_mul_of_pos_right hb2 (Nat.two_pow_pos n)))
    refine q0a (st_IfT I₃ (q1h (p:=.int (1 : Nat)) (b:=((1 : Nat) : Int) != 0) (by walk_at "pe") q1j fun _ => rfl) fun s₄ I₄ => ?_)
    have e1 : (a : Int) * 2 ^ (1 : Int).toNat = ((a * 2 : Nat) : Int):=by push_cast;rfl
    have e2 : (b : Int) * 2 ^ (1 : Int).toNat = ((b * 2 : Nat) : Int):=by push_cast;rfl
    have e3 : (n : Int) + 1 = ((h + h : Nat) : Int):=by lia
    refine q0a (q1u I₄ (.head _) rfl (by walk_at "pe") (e1 ▸ op_ishl (by decide) (by lia)) fun s₅ I₅ => ?_)
    refine q0a (q1u I₅ (.head _) rfl (by walk_at "pe") (e2 ▸ op_ishl (by decide) (by lia)) fun s₆ I₆ => ?_)
    refine q0a (q1u I₆ (.head _) rfl (by walk_at "pe") (e3 ▸ op_iadd) fun s₇ I₇ => ?_)
    refine wpAny_execs_nil ?_
    have p1 : 2 ^ (h + h) = 2 ^ n * 2:=by rw [← hh,Nat.pow_succ]
    have p2 : 2 ^ (h + h - 1) = 2 ^ (n - 1) * 2:=by rw [← Nat.pow_succ];congr 1;with_reducible exact nd1
    refine rest (a * 2) (b * 2) h _ _ I₇ rfl rfl rfl (by rw [h0];rfl) (by lia) (by lia) (by rw [p2];lia) (by rw [p1];lia) ?_ ?_ ?_
    ·rw [p1]
     have : a * 2 < b * 2 ^ n * 2:=by lia
     calc a * 2 < b * 2 ^ n * 2:=this
      _ ≤ b * 2 ^ n * 2 * 2:=by lia
      _ = b * 2 * (2 ^ n * 2):=by rw [Nat.mul_right_comm b,Nat.mul_assoc (b * 2)]
    ·exact Nat.mul_div_mul_right a b (by decide)
    ·rw [h0,Nat.mul_mod_mul_right]
     simp
end
section
open PySem PySem.W PySem.Calls PyProof.Rows
variable {prog : Program} {w : World} {P : Params} {C : Cfg}
noncomputable def nval (n : Nat) : List Nat → Nat
 | [] => 0
 | d :: l => d + nval n l * 2 ^ n
private theorem q6k (n : Nat) : ∀ l : List Nat,dval n (l.map fun (x : Nat) => (x : Int)) = nval n l
 | [] => rfl
 | d :: l => by simp only [List.map_cons,dval,nval,q6k n l];push_cast;rfl
private theorem nval_digs (n m x : Nat) (h : x < 2 ^ (n * m)) : nval n (digs n x m) = x:=by
 have h1:=w4v n m x h
 have h2:=q6k n (digs n x m)
 have e : (digs n x m).map Int.ofNat = (digs n x m).map fun (x : Nat) => (x : Int):=rfl
 rw [e,h2] at h1
 exact_mod_cast h1
private theorem dpos (hC : CfgOk P C) {a b k : Nat} (hb : 0 < b) (hbb : Builtin.Int.intBits (b : Int) ≤ 7000) (ha : Builtin.Int.intBits (a : Int) ≤ 2 ^ 19) (hk : ndig a (Builtin.Int.intBits (b : Int)) ≤ 2 ^ k) : FnOk prog w C a_dpos (k + 4) [.int a,.int b] (.tup [.int (a / b : Nat),.int (a % b : Nat)]):=by
 obtain ⟨n,hn⟩ : ∃ n,n = Builtin.Int.intBits (b : Int):=⟨_,rfl⟩
 rw [← hn] at hbb hk
 have hb2 : b < 2 ^ n:=by have:=intBits_le_iff.mp (Nat.le_of_eq hn.symm);simpa using this
 have hn1 : 1 ≤ n:=by
  rcases Nat.eq_zero_or_pos n with h | h
  ·rw [h] at hb2;simp at hb2;lia
  ·exact h
 have hb1 : 2 ^ (n - 1) ≤ b:=by
  apply Nat.le_of_not_lt
  intro h
  have:=bitsN h
  lia
 obtain ⟨m,hm⟩ : ∃ m,m = ndig a n:=⟨_,rfl⟩
 have hnm : n * ndig a n ≤ Builtin.Int.intBits (a : Int) + n - 1:=by unfold ndig;exact Nat.mul_div_le _ _
 have hm2 : ndig a n ≤ Builtin.Int.intBits (a : Int):=by
  unfold ndig
  rw [Nat.div_le_iff_le_mul_add_pred hn1]
  have:=Nat.le_mul_of_pos_left (Builtin.Int.intBits (a : Int)) hn1
  with_reducible exact nf8
 have hab : a < 2 ^ (n * ndig a n):=by
  have h1 : Builtin.Int.intBits (a : Int) ≤ n * ndig a n:=by
   unfold ndig
   have:=Nat.lt_mul_div_succ (Builtin.Int.intBits (a : Int) + n - 1) hn1
   rw [Nat.mul_add] at this
   with_reducible exact ng3
  have h2:=intBits_le_iff.mp h1
  simpa using h2
 have fi:=i2d (prog:=prog) (w:=w) hC hn1 (by (with_reducible refine nad ?_;decide)) ha hk
 rw [← hm] at hnm hm2 hab fi hk
 obtain ⟨D,hD⟩ : ∃ D,D = digs n a m:=⟨_,rfl⟩
 have hDl : D.length = m:=hD ▸ q3p n m a
 have hDv : nval n D = a:=hD ▸ nval_digs n m a hab
 have hDb : ∀ d ∈ D,d < 2 ^ n:=fun d h => digs_lt n m a d (hD ▸ h)
 rw [← hD] at fi
 refine FnOk.of (names:=[⟨#[97]⟩,⟨#[98]⟩]) (w8j hC) (fun vs h => ?_) rfl rfl rfl rfl fun A mu L s s₁ r hL I => ?_
 ·obtain ⟨_,_,rfl⟩:=len2 h;rfl
 ·refine q1x fun KK hKK => ?_
  refine q0a (q0h I (by walk_at "sto") (p:=.int n) (hn ▸ (by repeat' walk_at "pe")) fun s₂ I₂ => ?_)
  refine q0a (q0h I₂ (by walk_at "sto") (q0t (ps:=[.int a,.int n]) (q0f (q0e hC rfl) rfl rfl) (by repeat' walk_at "pe") (w6t hC) fi (r.mono (by lia)) (fun _ => rfl)) fun s₃ I₃ => ?_)
  refine q0a (q0h I₃ (by walk_at "sto") (p:=.int (0 : Nat)) (by repeat' walk_at "pe") fun s₄ I₄ => ?_)
  refine q0a (w9a (l:=[]) I₄ (.head _) (w3z (by repeat' walk_at "pe") (Nat.le_of_ble_eq_true rfl)) fun d s₅ hd hdm I₅ => ?_)
  -- the loop
  refine q0a (q4o (l:=(pvd D).reverse) I₅ r.none (w2v r.none (q0f (q0e hC rfl) rfl rfl) (by walk_at "pe") (fun _ => rfl))
   (J:=fun i ρ σ => ∃ (qs : List Nat) (r : Nat),qs.length = i ∧ r < b ∧ (∀ q ∈ qs,q < 2 ^ n) ∧ nval n (D.reverse.take i).reverse = nval n qs.reverse * b + r ∧
    ρ.lookup ⟨#[98]⟩ = some (.int b) ∧ ρ.lookup ⟨#[110]⟩ = some (.int n) ∧ ρ.lookup ⟨#[114]⟩ = some (.int r) ∧ ρ.lookup ⟨#[113,95,100,105,103,105,116,115]⟩ = some (.val (.ref d)) ∧ σ.lookup d = some (Mlst (pvd qs)))
   (B:=fun _ _ _ _ => False) ?_ ?_ ?_ fun _ _ _ _ h _ => h.elim)
  ·exact ⟨[],0,rfl,hb,fun _ h => (nomatch h),by simp [nval],rfl,rfl,rfl,rfl,lk0⟩
  ·intro i p v ρ σ s₆ hp hJ I₆ y
   refine q3a I₆ (by walk_at "sto") y fun s₇ I₇ => ?_
   refine q1x fun K' hK' => ?_
   clear I₆ y
   obtain ⟨qs,r₀,hql,hr0,hqb,hval,lb,ln,lr,lq,ld⟩:=hJ
   have hrev : (pvd D).reverse = pvd D.reverse:=by simp [pvd]
   rw [hrev] at hp
   obtain ⟨dg,hdg,rfl⟩ : ∃ dg,D.reverse[i]? = some dg ∧ p = .int dg:=by
    simp only [pvd,List.getElem?_map,Option.map_eq_some_iff] at hp
    obtain ⟨dg,h1,h2⟩:=hp
    exact ⟨dg,h1,h2.symm⟩
   have hdgb : dg < 2 ^ n:=hDb dg (List.mem_reverse.mp (List.mem_of_getElem? hdg))
   have hlt : r₀ * 2 ^ n + dg < b * 2 ^ n:=by
    have : (r₀ + 1) * 2 ^ n ≤ b * 2 ^ n:=Nat.mul_le_mul_right _ hr0
    rw [Nat.add_mul] at this
    with_reducible exact ni6
   have f2:=div2 (prog:=prog) (w:=w) hC (n:=n) (by assumption) hb1 hb2 hlt
   have e1 : (r₀ : Int) * 2 ^ (n : Int).toNat + (dg : Int) = ((r₀ * 2 ^ n + dg : Nat) : Int):=by rw [Int.toNat_natCast];push_cast;rfl
   have hbr:=bitsN (Nat.lt_trans hr0 hb2)
   refine q0a (q2c I₇ r.none (by walk_at "sto") (by walk_at "sto") (q0t (ps:=[.int (r₀ * 2 ^ n + dg : Nat),.int b,.int n]) (q0f (q0e hC rfl) rfl rfl) (e1 ▸ ?_) (q8h hC) f2 (r.mono (by lia)) (fun _ => rfl)) fun s₈ I₈ => ?_)
   rotate_left
   ·(repeat' walk_at "pe")
    all_goals lia
   refine q0a (q8t (a:=d) (l:=pvd qs) (p:=.int ((r₀ * 2 ^ n + dg) / b : Nat)) I₈ ld (.head _) (by walk_at "pe") (by repeat' walk_at "pe") ?_ (fun s₉ I₉ => ?_) (by decide +kernel))
   ·simp only [pvd,List.length_map,hql]
    have hi : i < D.reverse.length:=by
     have:=List.getElem?_eq_some_iff.mp hdg
     exact this.1
    rw [List.length_reverse,hDl] at hi
    have : sizeLine = 2 ^ 24:=by decide +kernel
    lia
   refine wpAny_execs_nil (hK' _ _ ⟨_,_,I₉,qs ++ [(r₀ * 2 ^ n + dg) / b],(r₀ * 2 ^ n + dg) % b,by simp [hql],Nat.mod_lt _ hb,fun q hq => ?_,?_,lb,ln,rfl,lq,?_⟩)
   ·rcases List.mem_append.mp hq with hq | hq
    ·exact hqb q hq
    ·simp at hq
     subst hq
     exact Nat.div_lt_of_lt_mul hlt
   ·rw [List.take_add_one,hdg]
    simp only [Option.toList_some,List.reverse_append,List.reverse_cons,List.reverse_nil,List.nil_append,List.singleton_append,nval]
    rw [hval]
    have h3:=Nat.div_add_mod (r₀ * 2 ^ n + dg) b
    rw [Nat.add_mul,Nat.add_mul,Nat.mul_comm ((r₀ * 2 ^ n + dg) / b) b,Nat.mul_right_comm]
    lia
   ·rw [show pvd (qs ++ [(r₀ * 2 ^ n + dg) / b]) = pvd qs ++ [.int ((r₀ * 2 ^ n + dg) / b : Nat)] from List.map_append]
    exact lk0
  ·rintro ρ σ s₆ ⟨qs,r₀,hql,hr0,hqb,hval,lb,ln,lr,lq,ld⟩ I₆
   refine wpAny_execs_nil ?_
   have hql : qs.length = m:=by rw [hql];simp [pvd,hDl]
   have hval : a = nval n qs.reverse * b + r₀:=by
    rw [← hval,List.take_of_length_le (by simp [pvd]),List.reverse_reverse,hDv]
   obtain ⟨u1,u2⟩:=q8y hval hr0
   have hsl : sizeLine = 2 ^ 24:=by decide +kernel
   refine q0a (w8z (a:=d) (l:=pvd qs) I₆ ld (.head _) (by walk_at "pe") (by simp [pvd,hql];lia) (fun s₇ I₇ => ?_) (by decide +kernel))
   have hrev : (pvd qs).reverse = (qs.reverse.map fun (x : Nat) => (x : Int)).map PV.int:=by simp [pvd]
   rw [hrev] at I₇
   -- the list changes no more
   have I₈:=I₇.freeze (x:=⟨#[113,95,100,105,103,105,116,115]⟩) (σ':=[]) hd hdm lk0 lq (fun _ _ e => nomatch e) (fun a h => by simp at h;subst h;exact .head _)
   have fd:=d2i (prog:=prog) (w:=w) hC (l:=qs.reverse.map fun (x : Nat) => (x : Int)) (n:=n) (k:=k) (fun z hz => by
    obtain ⟨q,hq,rfl⟩:=List.mem_map.mp hz
    have:=hqb q (List.mem_reverse.mp hq)
    exact ⟨by lia,by exact_mod_cast this⟩) (by simp [hql];(with_reducible refine nd4 ?_;decide)) (by simp [hql];lia) (by (with_reducible refine nad ?_;decide)) (by simp [hql];exact hk)
   rw [q6k] at fd
   refine q0a (q0h I₈ (by walk_at "sto") (q0t (ps:=[.lst ((qs.reverse.map fun (x : Nat) => (x : Int)).map PV.int),.int n]) (q0f (q0e hC rfl) rfl rfl) (by repeat' walk_at "pe") (w6u hC) fd (r.mono (by lia)) (fun _ => rfl)) fun s₉ I₉ => ?_)
   rw [u1] at I₉
   rw [u2] at lr
   refine q0a (q0n I₉ (p:=.tup [.int (a / b : Nat),.int (a % b : Nat)]) ?_ fun v s' I' y => hKK _ _ ⟨v,_,rfl,I',y⟩)
   repeat' walk_at "pe"
end
section
noncomputable abbrev dc (z : Nat × Bool) : Nat:=if z.2 then z.1 - 1 else z.1
noncomputable abbrev nT (zs : List (Nat × Bool)) : Nat:=zs.countP (·.2)
noncomputable abbrev okT (zs : List (Nat × Bool)) : Prop:=∀ z ∈ zs,z.2 = true → 0 < z.1
inductive Gr : List Nat → Prop
 | nil : Gr []
 | cons (zs : List (Nat × Bool)) (h : okT zs) (g : Gr (zs.map dc)) : Gr (nT zs :: zs.map (·.1))
private theorem Gr.inv {d : Nat} {r : List Nat} (g : Gr (d :: r)) : ∃ zs : List (Nat × Bool),zs.map (·.1) = r ∧ nT zs = d ∧ okT zs ∧ Gr (zs.map dc):=by
 generalize e : d :: r = l at g
 cases g with
 | nil => cases e
 | cons zs h g => cases e;exact ⟨zs,rfl,rfl,h,g⟩
private theorem Gr.mk {d : Nat} {r : List Nat} {zs : List (Nat × Bool)} (h1 : zs.map (·.1) = r) (h2 : nT zs = d) (h3 : okT zs) (h4 : Gr (zs.map dc)) : Gr (d :: r):=h1 ▸ h2 ▸ Gr.cons zs h3 h4
private theorem perm_lift {α β : Type} (f : α → β) {l l' : List β} (p : l.Perm l') : ∀ zs : List α,zs.map f = l → ∃ zs',zs.Perm zs' ∧ zs'.map f = l':=by
 induction p with
 | nil => exact fun zs h => ⟨zs,.refl _,h⟩
 | cons x _ ih =>
  intro zs h
  match zs,h with
  | z :: zs,h =>
   rw [List.map_cons] at h
   injection h with h1 h2
   obtain ⟨zs',p,e⟩:=ih zs h2
   exact ⟨z :: zs',p.cons z,by rw [List.map_cons,e,h1]⟩
 | swap x y l =>
  intro zs h
  match zs,h with
  | z :: w :: zs,h =>
   rw [List.map_cons,List.map_cons] at h
   injection h with h1 h2
   injection h2 with h2 h3
   exact ⟨w :: z :: zs,List.Perm.swap ..,by rw [List.map_cons,List.map_cons,h1,h2,h3]⟩
 | trans _ _ ih1 ih2 =>
  intro zs h
  obtain ⟨z1,p1,e1⟩:=ih1 zs h
  obtain ⟨z2,p2,e2⟩:=ih2 z1 e1
  exact ⟨z2,p1.trans p2,e2⟩
noncomputable abbrev dc2 (w : Nat × Bool × Bool) : Nat:=w.1 - (if w.2.1 then 1 else 0) - (if w.2.2 then 1 else 0)
noncomputable abbrev ok2 (ws : List (Nat × Bool × Bool)) : Prop:=∀ w ∈ ws,(if w.2.1 then 1 else 0) + (if w.2.2 then 1 else 0) ≤ w.1
noncomputable abbrev b2n (e : Bool) : Nat:=if e then 1 else 0
private theorem zip_two : ∀ (zs ys : List (Nat × Bool)),ys.map (·.1) = zs.map dc → ∃ ws : List (Nat × Bool × Bool),zs = ws.map (fun w => (w.1,w.2.1)) ∧ ys = ws.map (fun w => (dc (w.1,w.2.1),w.2.2))
 | [],ys,h => by
  cases ys with
  | nil => exact ⟨[],rfl,rfl⟩
  | cons y ys => cases h
 | z :: zs,ys,h => by
  cases ys with
  | nil => cases h
  | cons y ys =>
   rw [List.map_cons,List.map_cons] at h
   injection h with h1 h2
   obtain ⟨ws,e1,e2⟩:=zip_two zs ys h2
   exact ⟨(z.1,z.2,y.2) :: ws,by rw [List.map_cons,← e1],by rw [List.map_cons,← e2,← h1]⟩
private theorem q2g {α : Type} (p : α → Bool) (a b : List α) (x : α) : (a ++ x :: b).countP p = (a ++ b).countP p + if p x then 1 else 0:=by
 rw [List.countP_append,List.countP_cons,List.countP_append,Nat.add_assoc]
private theorem q4t {α : Type} {a b : List α} {x z : α} : z ∈ a ++ x :: b ↔ z = x ∨ z ∈ a ++ b:=List.perm_middle.mem_iff.trans List.mem_cons
private theorem ok2_mk : ∀ (n : Nat) (b c : Bool),(b = true → 0 < n) → (c = true → 0 < dc (n,b)) → b2n b + b2n c ≤ n
 | _,false,false,_,_ => Nat.zero_le _
 | _,true,false,h,_ => h rfl
 | _,false,true,_,h => h rfl
 | _,true,true,_,h => Nat.add_lt_of_lt_sub (h rfl)
private theorem ok2_1 {n : Nat} {b c : Bool} (h : b2n b + b2n c ≤ n) (e : b = true) : 0 < n:=by
 subst e;exact Nat.le_trans (Nat.le_add_right _ _) h
private theorem ok2_2 : ∀ {n : Nat} {b c : Bool},b2n b + b2n c ≤ n → c = true → 0 < dc (n,b)
 | _,false,_,h,rfl => h
 | _,true,_,h,rfl => Nat.lt_sub_of_add_lt h
private theorem dc_dc : ∀ (n : Nat) (b c : Bool),dc (dc (n,b),c) = dc2 (n,b,c)
 | _,false,false => rfl
 | _,true,false => rfl
 | _,false,true => rfl
 | _,true,true => rfl
private theorem dc_add : ∀ (m k : Nat) (e : Bool),(e = true → 0 < m) → (k = dc (m,e) ↔ b2n e + k = m)
 | m,k,false,_ => ⟨fun h => (Nat.zero_add k).trans h,fun h => (Nat.zero_add k).symm.trans h⟩
 | m,k,true,h => ⟨fun q => by have:=h rfl;subst q;exact Nat.add_sub_cancel' this,fun q => by subst q;exact (Nat.add_sub_cancel_left 1 k).symm⟩
private theorem map_dc2 (ws : List (Nat × Bool × Bool)) : (ws.map fun w => (dc (w.1,w.2.1),w.2.2)).map dc = ws.map dc2:=
 List.map_map.trans (List.map_congr_left fun w _ => dc_dc w.1 w.2.1 w.2.2)
private theorem map_one (ws : List (Nat × Bool × Bool)) : (ws.map fun w => (w.1,w.2.1)).map (·.1) = ws.map (·.1):=List.map_map
private theorem nT_one (ws : List (Nat × Bool × Bool)) : nT (ws.map fun w => (w.1,w.2.1)) = ws.countP (·.2.1):=List.countP_map
private theorem nT_two (ws : List (Nat × Bool × Bool)) : nT (ws.map fun w => (dc (w.1,w.2.1),w.2.2)) = ws.countP (·.2.2):=List.countP_map
private theorem nT_cons (z : Nat × Bool) (zs : List (Nat × Bool)) : nT (z :: zs) = b2n z.2 + nT zs:=List.countP_cons.trans (Nat.add_comm _ _)
private theorem Gr.two {x y : Nat} {r : List Nat} : Gr (x :: y :: r) ↔ ∃ (e : Bool) (ws : List (Nat × Bool × Bool)),ws.map (·.1) = r ∧ b2n e + ws.countP (·.2.1) = x ∧ b2n e + ws.countP (·.2.2) = y ∧ ok2 ws ∧ Gr (ws.map dc2):=by
 constructor
 ·intro g
  obtain ⟨zs,h1,h2,h3,h4⟩:=g.inv
  match zs,h1 with
  | (m,e) :: zs,h1 =>
   injection h1 with hy hr
   obtain ⟨ys,k1,k2,k3,k4⟩:=(show Gr (dc (m,e) :: zs.map dc) from h4).inv
   obtain ⟨ws,rfl,rfl⟩:=zip_two zs ys k1
   refine ⟨e,ws,(map_one ws).symm.trans hr,?_,?_,fun w hw => ?_,map_dc2 ws ▸ k4⟩
   ·rw [← nT_one,← h2,nT_cons]
   ·subst hy
    exact (dc_add m _ e (h3 _ (.head _))).mp ((nT_two ws).symm.trans k2)
   ·exact ok2_mk w.1 w.2.1 w.2.2 (h3 (w.1,w.2.1) (.tail _ (List.mem_map_of_mem (f:=fun w : Nat × Bool × Bool => (w.1,w.2.1)) hw))) (k3 (dc (w.1,w.2.1),w.2.2) (List.mem_map_of_mem (f:=fun w : Nat × Bool × Bool => (dc (w.1,w.2.1),w.2.2)) hw))
 ·rintro ⟨e,ws,h1,h2,h3,h4,h5⟩
  have he : e = true → 0 < y:=by
   intro q;subst q h3;exact Nat.lt_of_lt_of_le Nat.zero_lt_one (Nat.le_add_right _ _)
  refine Gr.mk (zs:=(y,e) :: ws.map fun w => (w.1,w.2.1)) (congrArg (y :: ·) ((map_one ws).trans h1)) ?_ (fun z hz => ?_) ?_
  ·rw [nT_cons,nT_one];exact h2
  ·rcases List.mem_cons.mp hz with q | q
   ·subst q;exact he
   ·obtain ⟨w,hw,rfl⟩:=List.mem_map.mp q
    exact ok2_1 (h4 w hw)
  ·rw [List.map_cons,List.map_map]
   refine Gr.mk (zs:=ws.map fun w => (dc (w.1,w.2.1),w.2.2)) List.map_map ?_ (fun z hz => ?_) (map_dc2 ws ▸ h5)
   ·rw [nT_two];exact (dc_add y _ e he).mpr h3
   ·obtain ⟨w,hw,rfl⟩:=List.mem_map.mp hz
    exact ok2_2 (h4 w hw)
private theorem Gr.swap {x y : Nat} {r : List Nat} (g : Gr (x :: y :: r)) : Gr (y :: x :: r):=by
 obtain ⟨e,ws,h1,h2,h3,h4,h5⟩:=Gr.two.mp g
 refine Gr.two.mpr ⟨e,ws.map fun w => (w.1,w.2.2,w.2.1),?_,?_,?_,fun w hw => ?_,?_⟩
 ·rw [List.map_map];exact h1
 ·rw [List.countP_map];exact h3
 ·rw [List.countP_map];exact h2
 ·obtain ⟨u,hu,rfl⟩:=List.mem_map.mp hw
  exact Nat.le_trans (Nat.le_of_eq (Nat.add_comm _ _)) (h4 u hu)
 ·refine (congrArg Gr ?_).mp h5
  rw [List.map_map]
  exact List.map_congr_left fun w _ => Nat.sub_right_comm ..
private theorem Gr.perm : ∀ (n : Nat) {l l' : List Nat},l.length ≤ n → l.Perm l' → Gr l → Gr l'
 | 0,l,l',hn,p,g => by
  have : l = []:=List.length_eq_zero_iff.mp (Nat.le_zero.mp hn)
  subst this
  rw [List.nil_perm.mp p];exact g
 | n + 1,l,l',hn,p,g => by
  induction p with
  | nil => exact g
  | cons x p _ =>
   obtain ⟨zs,h1,h2,h3,h4⟩:=g.inv
   obtain ⟨zs',q,e⟩:=perm_lift (·.1) p zs h1
   refine Gr.mk (zs:=zs') e ?_ (fun z hz => h3 z (q.mem_iff.mpr hz)) ?_
   ·rw [← h2];exact (q.countP_eq _).symm
   ·refine Gr.perm n ?_ (q.map dc) h4
    rw [List.length_map]
    have : zs.length = _:=(congrArg List.length h1).symm.trans (by rw [List.length_map]) |>.symm
    have h5:=congrArg List.length h1
    rw [List.length_map] at h5
    rw [h5]
    exact Nat.le_of_succ_le_succ hn
  | swap x y l => exact g.swap
  | trans p1 _ ih1 ih2 => exact ih2 (p1.length_eq ▸ hn) (ih1 hn g)
private theorem Gr.of_perm {l l' : List Nat} (p : l.Perm l') (g : Gr l) : Gr l':=Gr.perm l.length (Nat.le_refl _) p g
private theorem Gr.move {x y : Nat} {r : List Nat} (h : y + 1 ≤ x) (g : Gr ((x + 1) :: y :: r)) : Gr (x :: (y + 1) :: r):=by
 obtain ⟨e,ws,h1,h2,h3,h4,h5⟩:=Gr.two.mp g
 obtain ⟨w,hw,hb,hc⟩ : ∃ w ∈ ws,w.2.1 = true ∧ w.2.2 = false:=by
  by_cases q : ∃ w ∈ ws,w.2.1 = true ∧ w.2.2 = false
  ·exact q
  ·have : ws.countP (·.2.1) ≤ ws.countP (·.2.2):=List.countP_mono_left fun w hw hb => by
    cases hc : w.2.2
    ·exact absurd ⟨w,hw,hb,hc⟩ q
    ·rfl
   lia
 obtain ⟨a,b,rfl⟩:=List.append_of_mem hw
 obtain ⟨n,c,d⟩:=w
 cases hb
 cases hc
 rw [q2g] at h2 h3
 refine Gr.two.mpr ⟨e,a ++ (n,false,true) :: b,?_,?_,?_,fun u hu => ?_,?_⟩
 ·rw [← h1,List.map_append,List.map_append];rfl
 ·rw [q2g];exact Nat.succ.inj h2
 ·rw [q2g];exact congrArg Nat.succ h3
 ·rcases q4t.mp hu with q | q
  ·subst q;exact h4 (n,true,false) hw
  ·exact h4 u (q4t.mpr (.inr q))
 ·refine (congrArg Gr ?_).mp h5
  rw [List.map_append,List.map_append];rfl
private theorem w6b {a b : List (Nat × Bool)} {m : Nat} {s t : Bool} {z : Nat × Bool} (h : z ∈ a ++ (m,s) :: b) : ∃ z' ∈ a ++ (m,t) :: b,z'.1 = z.1:=
 (q4t.mp h).elim (fun e => ⟨(m,t),q4t.mpr (.inl rfl),(congrArg Prod.fst e).symm⟩) fun h => ⟨z,q4t.mpr (.inr h),rfl⟩
private theorem w7r {α : Type} {a b c d : List α} (x y : α) : List.Perm ((a ++ x :: b) ++ (c ++ y :: d)) (y :: x :: ((a ++ b) ++ (c ++ d))):=
 (List.perm_middle.append List.perm_middle).trans ((List.perm_middle.cons x).trans (.swap ..))
private theorem Gr.top_aux : ∀ (k : Nat) {zlo zhi : List (Nat × Bool)},(∀ z ∈ zlo,∀ y ∈ zhi,z.1 ≤ y.1) → nT zlo = k → nT zlo + nT zhi = zhi.length → okT (zlo ++ zhi) → Gr ((zlo ++ zhi).map dc) →
  (∀ y ∈ zhi,0 < y.1) ∧ Gr (zlo.map (·.1) ++ zhi.map (·.1 - 1))
 | 0,zlo,zhi,hle,hk,hd,ho,g => by
  have h1 : nT zhi = zhi.length:=by lia
  have h2 : ∀ y ∈ zhi,y.2 = true:=fun y hy => by
   have:=List.countP_eq_length.mp h1 y hy
   exact this
  have h3 : ∀ z ∈ zlo,z.2 = false:=fun z hz => by
   have:=List.countP_eq_zero.mp hk z hz
   simpa using this
  refine ⟨fun y hy => ho y (List.mem_append_right _ hy) (h2 y hy),(congrArg Gr ?_).mp g⟩
  rw [List.map_append]
  congr 1
  ·exact List.map_congr_left fun z hz => by simp [dc,h3 z hz]
  ·exact List.map_congr_left fun z hz => by simp [dc,h2 z hz]
 | k + 1,zlo,zhi,hle,hk,hd,ho,g => by
  obtain ⟨z,hz,hzt⟩ : ∃ z ∈ zlo,z.2 = true:=by
   have:=List.countP_pos_iff.mp (show 0 < nT zlo by lia)
   exact this
  obtain ⟨y,hy,hyf⟩ : ∃ y ∈ zhi,y.2 = false:=by
   by_cases q : ∃ y ∈ zhi,y.2 = false
   ·exact q
   ·have : nT zhi = zhi.length:=List.countP_eq_length.mpr fun y hy => by
     cases h : y.2
     ·exact absurd ⟨y,hy,h⟩ q
     ·rfl
    lia
  have hzy:=hle z hz y hy
  have hz0:=ho z (List.mem_append_left _ hz) hzt
  obtain ⟨a,b,rfl⟩:=List.append_of_mem hz
  obtain ⟨c,d,rfl⟩:=List.append_of_mem hy
  obtain ⟨m,zt⟩:=z
  obtain ⟨n,yf⟩:=y
  simp only at hzt hyf hzy hz0
  subst hzt hyf
  have g2 : Gr (((a ++ (m,false) :: b) ++ (c ++ (n,true) :: d)).map dc):=by
   have g1 : Gr (n :: (m - 1) :: ((a ++ b) ++ (c ++ d)).map dc):=g.of_perm ((w7r (m,true) (n,false)).map dc)
   refine Gr.of_perm ((w7r (m,false) (n,true)).map dc).symm ?_
   show Gr ((n - 1) :: m :: ((a ++ b) ++ (c ++ d)).map dc)
   by_cases e : m = n
   ·subst e;exact g1.swap
   ·obtain ⟨n',rfl⟩ : ∃ n',n = n' + 1:=⟨n - 1,by lia⟩
    have:=Gr.move (x:=n') (y:=m - 1) (by lia) g1
    rw [Nat.sub_add_cancel hz0] at this
    exact this
  have hc1 : nT (a ++ (m,true) :: b) = nT (a ++ (m,false) :: b) + 1:=by
   unfold nT;rw [q2g,q2g];rfl
  have hc2 : nT (c ++ (n,true) :: d) = nT (c ++ (n,false) :: d) + 1:=by
   unfold nT;rw [q2g,q2g];rfl
  have hl : (c ++ (n,true) :: d).length = (c ++ (n,false) :: d).length:=by rw [List.length_append,List.length_append];rfl
  have hA : ∀ z ∈ a ++ (m,false) :: b,∀ y ∈ c ++ (n,true) :: d,z.1 ≤ y.1:=by
   intro z hz y hy
   obtain ⟨z',h1,e1⟩:=w6b hz
   obtain ⟨y',h2,e2⟩:=w6b hy
   rw [← e1,← e2]
   exact hle z' h1 y' h2
  have hB : okT ((a ++ (m,false) :: b) ++ (c ++ (n,true) :: d)):=by
   intro z hz ht
   rcases List.mem_append.mp hz with q | q <;> rcases q4t.mp q with q | q
   ·subst q;cases ht
   ·exact ho z (List.mem_append_left _ (q4t.mpr (.inr q))) ht
   ·subst q;exact Nat.lt_of_lt_of_le hz0 hzy
   ·exact ho z (List.mem_append_right _ (q4t.mpr (.inr q))) ht
  obtain ⟨r1,r2⟩:=Gr.top_aux k (zlo:=a ++ (m,false) :: b) (zhi:=c ++ (n,true) :: d) hA (by lia) (by lia) hB g2
  refine ⟨fun y hy => ?_,(congrArg Gr ?_).mp r2⟩
  ·obtain ⟨y',h,e⟩:=w6b hy
   exact e ▸ r1 y' h
  ·rw [List.map_append,List.map_append,List.map_append,List.map_append];rfl
private theorem Gr.top {lo hi : List Nat} (h : ∀ x ∈ lo,∀ y ∈ hi,x ≤ y) : Gr (hi.length :: (lo ++ hi)) ↔ (∀ y ∈ hi,0 < y) ∧ Gr (lo ++ hi.map (· - 1)):=by
 constructor
 ·intro g
  obtain ⟨zs,h1,h2,h3,h4⟩:=g.inv
  obtain ⟨zlo,zhi,rfl,e1,e2⟩:=List.map_eq_append_iff.mp h1
  have hc : nT zlo + nT zhi = zhi.length:=by
   have : zhi.length = hi.length:=by rw [← e2,List.length_map]
   rw [this,← h2]
   unfold nT
   rw [List.countP_append]
  obtain ⟨r1,r2⟩:=Gr.top_aux (nT zlo) (fun z hz y hy => h z.1 (e1 ▸ List.mem_map_of_mem hz) y.1 (e2 ▸ List.mem_map_of_mem hy)) rfl hc h3 h4
  refine ⟨fun y hy => ?_,?_⟩
  ·rw [← e2] at hy
   obtain ⟨z,hz,rfl⟩:=List.mem_map.mp hy
   exact r1 z hz
  ·rw [← e1,← e2,List.map_map];exact r2
 ·rintro ⟨h1,h2⟩
  refine Gr.mk (zs:=lo.map (fun x => (x,false)) ++ hi.map (fun x => (x,true))) ?_ ?_ (fun z hz ht => ?_) ?_
  ·rw [List.map_append,List.map_map,List.map_map]
   show lo.map id ++ hi.map id = _
   rw [List.map_id,List.map_id]
  ·unfold nT
   rw [List.countP_append,List.countP_map,List.countP_map]
   show lo.countP (fun _ => false) + hi.countP (fun _ => true) = _
   simp
  ·rcases List.mem_append.mp hz with q | q
   ·obtain ⟨x,hx,rfl⟩:=List.mem_map.mp q;cases ht
   ·obtain ⟨x,hx,rfl⟩:=List.mem_map.mp q;exact h1 x hx
  ·rw [List.map_append,List.map_map,List.map_map]
   refine (congrArg Gr ?_).mp h2
   congr 1
   show lo = lo.map id
   rw [List.map_id]
private theorem Gr.le {d : Nat} {r : List Nat} (g : Gr (d :: r)) : d ≤ r.length:=by
 obtain ⟨zs,h1,h2,_,_⟩:=g.inv
 rw [← h1,← h2,List.length_map]
 exact List.countP_le_length
end
section
noncomputable def insD (x : Nat) : List Nat → List Nat
 | [] => [x]
 | y :: r => bif Nat.ble y x then x :: y :: r else y :: insD x r
noncomputable def allPos : List Nat → Bool
 | [] => true
 | x :: r => Nat.blt 0 x && allPos r
noncomputable def lessD : Nat → List Nat → Option (List Nat)
 | 0,r => some r
 | _ + 1,[] => none
 | d + 1,x :: r => bif Nat.ble x 0 then none else match lessD d r with | none => none | some q => some (insD (x - 1) q)
noncomputable def hh : Nat → List Nat → Bool
 | 0,_ => true
 | _ + 1,[] => true
 | n + 1,d :: r => match lessD d r with | none => false | some q => hh n q
noncomputable def sentN (x : Nat) : Nat:=x + Nat.min 1 x
noncomputable def sumN : List Nat → Nat
 | [] => 0
 | x :: r => x + sumN r
noncomputable def fairAt (d : List Nat) : Nat → List Nat → Nat → Bool
 | _,[],_ => true
 | n,x :: r,su => bif Nat.ble (sentN x) n then true else bif Nat.ble (su + sentN x) (sumN (d.map (Nat.min · n))) then fairAt d (n + 1) r (su + sentN x) else false
noncomputable def fairD (d : List Nat) : Bool:=bif Nat.beq (sumN d % 2) 0 then fairAt d 1 d 0 else false
noncomputable def chk : Nat → Nat → List Nat → Bool
 | 0,_,acc => hh 8 acc == fairD acc
 | n + 1,lo,acc => (List.range' lo (8 - lo)).all fun x => chk n x (x :: acc)
private theorem chk_all : chk 8 0 [] = true:=by decide +kernel
end
section
private theorem q9r (x : Nat) : ∀ l : List Nat,(insD x l).Perm (x :: l)
 | [] => .refl _
 | y :: r => by
  unfold insD
  cases Nat.ble y x
  ·exact ((q9r x r).cons y).trans (List.Perm.swap ..)
  ·exact .refl _
private theorem w1d (x : Nat) : ∀ {l : List Nat},l.Pairwise (· ≥ ·) → (insD x l).Pairwise (· ≥ ·)
 | [],_ => .cons (fun _ h => nomatch h) .nil
 | y :: r,.cons h1 h2 => by
  unfold insD
  cases e : Nat.ble y x
  ·refine .cons (fun z hz => ?_) (w1d x h2)
   have : ¬ y ≤ x:=fun q => by rw [Nat.ble_eq.mpr q] at e;cases e
   rcases List.mem_cons.mp ((q9r x r).mem_iff.mp hz) with rfl | hz
   ·exact Nat.le_of_lt (Nat.lt_of_not_le this)
   ·exact h1 z hz
  ·have:=Nat.ble_eq.mp e
   refine .cons (fun z hz => ?_) (.cons h1 h2)
   rcases List.mem_cons.mp hz with rfl | hz
   ·exact this
   ·exact Nat.le_trans (h1 z hz) this
private theorem w1b : ∀ (d : Nat) {r q : List Nat},lessD d r = some q → d ≤ r.length ∧ (∀ y ∈ r.take d,0 < y) ∧ q.Perm (r.drop d ++ (r.take d).map (· - 1)) ∧ (r.Pairwise (· ≥ ·) → q.Pairwise (· ≥ ·))
 | 0,r,q,h => by cases h;exact ⟨Nat.zero_le _,fun _ h => (nomatch h),by simp,id⟩
 | d + 1,[],q,h => nomatch h
 | d + 1,x :: r,q,h => by
  unfold lessD at h
  cases e : Nat.ble x 0
  ·rw [e,cond_false] at h
   cases e2 : lessD d r with
   | none => rw [e2] at h;cases h
   | some p =>
    rw [e2] at h
    cases h
    obtain ⟨h1,h2,h3,h4⟩:=w1b d e2
    have hx : 0 < x:=Nat.lt_of_not_le fun q => by rw [Nat.ble_eq.mpr q] at e;cases e
    refine ⟨Nat.succ_le_succ h1,fun y hy => ?_,?_,fun hp => ?_⟩
    ·rcases List.mem_cons.mp hy with rfl | hy
     ·exact hx
     ·exact h2 y hy
    ·refine (q9r _ p).trans ((h3.cons _).trans ?_)
     exact List.perm_middle.symm
    ·cases hp with | cons h5 h6 => exact w1d _ (h4 h6)
  ·rw [e,cond_true] at h;cases h
private theorem w1c : ∀ (d : Nat) {r : List Nat},lessD d r = none → r.length < d ∨ ∃ y ∈ r.take d,y = 0
 | 0,r,h => nomatch h
 | d + 1,[],h => .inl (Nat.succ_pos _)
 | d + 1,x :: r,h => by
  unfold lessD at h
  cases e : Nat.ble x 0
  ·rw [e,cond_false] at h
   cases e2 : lessD d r with
   | some p => rw [e2] at h;cases h
   | none =>
    rcases w1c d e2 with q | ⟨y,hy,q⟩
    ·exact .inl (Nat.succ_lt_succ q)
    ·exact .inr ⟨y,.tail _ hy,q⟩
  ·exact .inr ⟨x,.head _,Nat.le_zero.mp (Nat.ble_eq.mp e)⟩
private theorem w3p {r : List Nat} (h : r.Pairwise (· ≥ ·)) (d : Nat) : ∀ x ∈ r.drop d,∀ y ∈ r.take d,x ≤ y:=fun x hx y hy => by
 rw [← List.take_append_drop d r] at h
 exact (List.pairwise_append.mp h).2.2 y hy x hx
private theorem Gr.perm_iff {l l' : List Nat} (p : l.Perm l') : Gr l ↔ Gr l':=⟨Gr.of_perm p,Gr.of_perm p.symm⟩
private theorem hh_gr : ∀ (n : Nat) {d : List Nat},d.length ≤ n → d.Pairwise (· ≥ ·) → (hh n d = true ↔ Gr d)
 | 0,d,hn,_ => by
  cases List.length_eq_zero_iff.mp (Nat.le_zero.mp hn)
  exact ⟨fun _ => .nil,fun _ => rfl⟩
 | n + 1,[],_,_ => ⟨fun _ => .nil,fun _ => rfl⟩
 | n + 1,d :: r,hn,.cons h1 h2 => by
  have key : d ≤ r.length → (Gr (d :: r) ↔ (∀ y ∈ r.take d,0 < y) ∧ Gr (r.drop d ++ (r.take d).map (· - 1))):=fun hd => by
   have hl : (r.take d).length = d:=List.length_take_of_le hd
   have:=Gr.top (w3p h2 d)
   rw [hl] at this
   refine Iff.trans (Gr.perm_iff (List.Perm.cons d ?_)) this
   have p:=@List.perm_append_comm _ (r.take d) (r.drop d)
   rwa [List.take_append_drop] at p
  show (match lessD d r with | none => false | some q => hh n q) = true ↔ _
  cases e : lessD d r with
  | none =>
   refine ⟨fun h => (nomatch h),fun g => ?_⟩
   rcases w1c d e with q | ⟨y,hy,rfl⟩
   ·exact absurd g.le (Nat.not_le_of_lt q)
   ·exact absurd (((key g.le).mp g).1 0 hy) (Nat.lt_irrefl _)
  | some q =>
   obtain ⟨a1,a2,a3,a4⟩:=w1b d e
   have hq : q.length ≤ n:=by
    have:=a3.length_eq
    rw [List.length_append,List.length_map,List.length_drop,List.length_take] at this
    have hn : r.length + 1 ≤ n + 1:=hn
    lia
   rw [key a1]
   exact (hh_gr n hq (a4 h2)).trans ((Gr.perm_iff a3).trans ⟨fun g => ⟨a2,g⟩,fun g => g.2⟩)
private theorem chk_at : ∀ (n lo : Nat) (acc : List Nat),chk n lo acc = true → ∀ l : List Nat,l.length = n → l.Pairwise (· ≤ ·) → (∀ x ∈ l,lo ≤ x ∧ x ≤ 7) → hh 8 (l.reverse ++ acc) = fairD (l.reverse ++ acc)
 | 0,lo,acc,h,l,hl,_,_ => by
  cases List.length_eq_zero_iff.mp hl
  exact beq_iff_eq.mp h
 | n + 1,lo,acc,h,[],hl,_,_ => nomatch hl
 | n + 1,lo,acc,h,x :: l,hl,.cons h1 h2,hx => by
  have h0:=hx x (.head _)
  have:=List.all_eq_true.mp h x (List.mem_range'_1.mpr ⟨h0.1,by lia⟩)
  rw [List.reverse_cons,List.append_assoc]
  exact chk_at n x (x :: acc) this l (Nat.succ.inj hl) h2 fun y hy => ⟨h1 y hy,(hx y (.tail _ hy)).2⟩
noncomputable def dsc (l : List Nat) : List Nat:=(srt l).reverse
private theorem q9w (l : List Nat) : (dsc l).Pairwise (· ≥ ·):=List.pairwise_reverse.mpr (q3i l)
private theorem q6t (l : List Nat) : (dsc l).Perm l:=(List.reverse_perm _).trans (q1d l)
private theorem gr_fair {l : List Nat} (hl : l.length = 8) (h7 : ∀ x ∈ l,x ≤ 7) : Gr l ↔ fairD (dsc l) = true:=by
 have h:=chk_at 8 0 [] chk_all (srt l) ((q1d l).length_eq.trans hl) (q3i l) fun x hx => ⟨Nat.zero_le _,h7 x ((q1d l).mem_iff.mp hx)⟩
 rw [List.append_nil] at h
 rw [← Gr.perm_iff (q6t l),← hh_gr 8 (Nat.le_of_eq ((q6t l).length_eq.trans hl)) (q9w l)]
 show hh 8 (srt l).reverse = true ↔ fairD (srt l).reverse = true
 rw [h]
noncomputable def turnJ (own : Nat) (rest : List Nat) : Option (List Nat):=
 if rest.length < own then none else if (0 : Nat) ∈ rest.drop (rest.length - own) then none else some (srt (rest.take (rest.length - own) ++ (rest.drop (rest.length - own)).map (· - 1)))
noncomputable def joined : Nat → Int → List Nat → Bool
 | 0,_,pile => pile.length == 0
 | k + 1,o,pile => match pile.drop (o.fmod pile.length).toNat with
  | [] => false
  | own :: tl => match turnJ own (pile.take (o.fmod pile.length).toNat ++ tl) with
   | none => false
   | some q => joined k (o.fdiv pile.length) q
private theorem w4l : ∀ (k : Nat) (o : Int) {pile : List Nat},pile.length = k → pile.Pairwise (· ≤ ·) → (joined k o pile = true ↔ Gr pile)
 | 0,o,pile,hk,_ => by
  cases List.length_eq_zero_iff.mp hk
  exact ⟨fun _ => .nil,fun _ => rfl⟩
 | k + 1,o,pile,hk,hs => by
  unfold joined
  have hpos : (0 : Int) < pile.length:=by lia
  have hlt : (o.fmod pile.length).toNat < pile.length:=by
   have h1:=Int.fmod_lt_of_pos o hpos
   have h2:=Int.fmod_nonneg_of_pos o hpos
   omega
  generalize (o.fmod pile.length).toNat = p at hlt
  obtain ⟨own,tl,e⟩ : ∃ own tl,pile.drop p = own :: tl:=by
   cases e : pile.drop p with
   | nil => rw [List.drop_eq_nil_iff] at e;lia
   | cons own tl => exact ⟨own,tl,rfl⟩
  rw [e]
  show (match turnJ own (pile.take p ++ tl) with | none => false | some q => joined k _ q) = true ↔ _
  have hp : pile.Perm (own :: (pile.take p ++ tl)):=by
   have:=List.take_append_drop p pile
   rw [e] at this
   rw [← this]
   simp only [List.take_append_drop,this]
   conv => lhs;rw [← this]
   exact List.perm_middle
  rw [Gr.perm_iff hp]
  have hrs : (pile.take p ++ tl).Pairwise (· ≤ ·):=by
   rw [← List.take_append_drop p pile,e] at hs
   exact hs.sublist (List.Sublist.append_left (List.sublist_cons_self ..) _)
  have hrl : (pile.take p ++ tl).length = k:=by
   have:=hp.length_eq
   rw [List.length_cons,hk] at this
   lia
  generalize pile.take p ++ tl = rest at hrs hrl
  unfold turnJ
  by_cases c1 : rest.length < own
  ·rw [if_pos c1]
   exact ⟨fun h => (nomatch h),fun g => absurd g.le (Nat.not_le_of_lt c1)⟩
  ·rw [if_neg c1]
   have hl : (rest.drop (rest.length - own)).length = own:=by rw [List.length_drop];lia
   have key:=Gr.top (lo:=rest.take (rest.length - own)) (hi:=rest.drop (rest.length - own)) fun x hx y hy => by
    rw [← List.take_append_drop (rest.length - own) rest] at hrs
    exact (List.pairwise_append.mp hrs).2.2 x hx y hy
   rw [hl,List.take_append_drop] at key
   rw [key]
   by_cases c2 : (0 : Nat) ∈ rest.drop (rest.length - own)
   ·rw [if_pos c2]
    exact ⟨fun h => (nomatch h),fun g => absurd (g.1 0 c2) (Nat.lt_irrefl _)⟩
   ·rw [if_neg c2]
    have hq:=q1d (rest.take (rest.length - own) ++ (rest.drop (rest.length - own)).map (· - 1))
    refine (w4l k _ (hq.length_eq.trans ?_) (q3i _)).trans ((Gr.perm_iff hq).trans ⟨fun g => ⟨fun y hy => Nat.pos_of_ne_zero fun q => c2 (q ▸ hy),g⟩,fun g => g.2⟩)
    rw [List.length_append,List.length_map,List.length_take,hl]
    omega
private theorem w6j {l : List Nat} (hl : l.length = 8) (h7 : ∀ x ∈ l,x ≤ 7) (o : Int) : joined 8 o (srt l) = fairD (dsc l):=by
 rw [Bool.eq_iff_iff,← gr_fair hl h7,w4l 8 o ((q1d l).length_eq.trans hl) (q3i l)]
 exact Gr.perm_iff (q1d l)
end
section
open PySem PySem.W PySem.Calls PyProof.Rows
noncomputable def colsOf : List Nat → List Nat
 | [] => []
 | _ :: r => r.sum :: colsOf r
private theorem w4d (w : Nat) : ∀ l : List Nat,nval w l = l.sum + (2 ^ w - 1) * nval w (colsOf l)
 | [] => rfl
 | c :: r => by
  obtain ⟨V,hV⟩ : ∃ V,2 ^ w = V + 1:=⟨2 ^ w - 1,by have : 0 < 2 ^ w:=Nat.pos_of_ne_zero (by simp);with_reducible exact na4⟩
  show c + nval w r * 2 ^ w = (c :: r).sum + (2 ^ w - 1) * (r.sum + nval w (colsOf r) * 2 ^ w)
  rw [w4d w r,hV,List.sum_cons,Nat.add_sub_cancel]
  generalize nval w (colsOf r) = q
  generalize r.sum = s
  have e1 : (s + V * q) * (V + 1) = s * V + s + V * (q * (V + 1)):=by rw [Nat.add_mul,Nat.mul_add,Nat.mul_one,Nat.mul_assoc]
  have e2 : V * (s + q * (V + 1)) = s * V + V * (q * (V + 1)):=by rw [Nat.mul_add,Nat.mul_comm V s]
  rw [e1,e2]
  lia
private theorem w0d {l : List Nat} : ∀ (n j : Nat),((List.range' j n).map fun k => l.count k).sum = l.countP fun s => decide (j ≤ s) && decide (s < j + n)
 | 0,j => by
  rw [List.range'_zero]
  show 0 = _
  symm
  rw [List.countP_eq_zero]
  intro s _
  simp
 | n + 1,j => by
  rw [List.range'_succ,List.map_cons,List.sum_cons,w0d n (j + 1)]
  induction l with
  | nil => rfl
  | cons s l ih =>
   rw [List.count_cons,List.countP_cons,List.countP_cons]
   by_cases h1 : s = j
   ·subst h1
    simp at ih ⊢
    rw [if_neg (by lia)]
    lia
   ·have e1 : (s == j) = false:=by simpa using h1
    rw [e1]
    have e2 : (decide (j + 1 ≤ s) && decide (s < j + 1 + n)) = (decide (j ≤ s) && decide (s < j + (n + 1))):=by
     rw [Bool.eq_iff_iff]
     simp
     lia
    rw [e2]
    simp at ih ⊢
    lia
noncomputable def colF (sz : List Nat) (j : Nat) : Nat:=sz.countP fun s => decide (j < s)
private theorem q7w {l : List Nat} {m : Nat} (h : ∀ s ∈ l,s < m) : ∀ (n j : Nat),j + n = m → colsOf ((List.range' j n).map fun k => l.count k) = (List.range' j n).map (colF l)
 | 0,j,_ => rfl
 | n + 1,j,hm => by
  rw [List.range'_succ,List.map_cons,List.map_cons]
  show (((List.range' (j + 1) n).map fun k => l.count k).sum :: colsOf _) = _
  rw [q7w h n (j + 1) (by lia),w0d]
  congr 1
  refine List.countP_congr fun s hs => ?_
  have:=h s hs
  simp
  lia
noncomputable def cntL (sz : List Nat) : List Nat:=(List.range 8).map fun k => sz.count k
private theorem cntL_cols {sz : List Nat} (h7 : ∀ s ∈ sz,s ≤ 7) : colsOf (cntL sz) = (List.range 8).map (colF sz):=by
 unfold cntL
 rw [List.range_eq_range']
 exact q7w (m:=8) (fun s hs => Nat.lt_succ_of_le (h7 s hs)) 8 0 rfl
private theorem cntL_sum {sz : List Nat} (hl : sz.length = 8) (h7 : ∀ s ∈ sz,s ≤ 7) : (cntL sz).sum = 8:=by
 unfold cntL
 rw [List.range_eq_range',w0d,← hl,List.countP_eq_length]
 intro s hs
 have:=h7 s hs
 simp
 lia
private theorem q7g (w : Nat) : ∀ (l : List Nat) (n : Nat),nval w (l ++ List.replicate n 0) = nval w l
 | [],0 => rfl
 | [],n + 1 => by
  show 0 + nval w ([] ++ List.replicate n 0) * 2 ^ w = 0
  rw [q7g w [] n]
  simp [nval]
 | d :: l,n => by
  show d + nval w (l ++ List.replicate n 0) * 2 ^ w = d + nval w l * 2 ^ w
  rw [q7g w l n]
private theorem w2n (w : Nat) : ∀ l : List Nat,(∀ d ∈ l,d < 2 ^ w) → nval w l < 2 ^ (w * l.length)
 | [],_ => by simp [nval]
 | d :: l,h => by
  have h1:=h d (.head _)
  have h2:=w2n w l fun x hx => h x (.tail _ hx)
  show d + nval w l * 2 ^ w < 2 ^ (w * (l.length + 1))
  rw [Nat.mul_succ,Nat.pow_add]
  have h3 : (nval w l + 1) * 2 ^ w ≤ 2 ^ (w * l.length) * 2 ^ w:=Nat.mul_le_mul_right _ h2
  rw [Nat.add_mul] at h3
  with_reducible exact ni7
private theorem w4u (w : Nat) : ∀ l : List Nat,(∀ d ∈ l,d < 2 ^ w) → digs w (nval w l) l.length = l
 | [],_ => rfl
 | d :: l,h => by
  have h1:=h d (.head _)
  show (d + nval w l * 2 ^ w) % 2 ^ w :: digs w ((d + nval w l * 2 ^ w) / 2 ^ w) l.length = _
  rw [Nat.add_mul_mod_self_right,Nat.mod_eq_of_lt h1,Nat.add_mul_div_right _ _ (Nat.pos_of_ne_zero (by simp)),Nat.div_eq_of_lt h1,Nat.zero_add,w4u w l fun x hx => h x (.tail _ hx)]
private theorem nval_ge (w : Nat) : ∀ (l : List Nat) (d : Nat),0 < d → 2 ^ (w * l.length) ≤ nval w (l ++ [d])
 | [],d,h => by simp [nval];exact h
 | c :: l,d,h => by
  have:=nval_ge w l d h
  show 2 ^ (w * (l.length + 1)) ≤ c + nval w (l ++ [d]) * 2 ^ w
  rw [Nat.mul_succ,Nat.pow_add]
  exact Nat.le_trans (Nat.mul_le_mul_right _ this) (Nat.le_add_left ..)
private theorem ndig_nval {w : Nat} (hw : 1 ≤ w) {l : List Nat} {d : Nat} (h : ∀ x ∈ l ++ [d],x < 2 ^ w) (hd : 0 < d) : ndig (nval w (l ++ [d])) w = l.length + 1:=by
 have h1:=w2n w _ h
 have h2:=nval_ge w l d hd
 rw [List.length_append,List.length_singleton] at h1
 have b1:=bitsN h1
 have b2 : w * l.length < Builtin.Int.intBits (nval w (l ++ [d]) : Int):=by
  apply Nat.lt_of_not_le
  intro q
  rw [intBits_le_iff] at q
  simp at q
  lia
 unfold ndig
 rw [Nat.mul_succ] at b1
 refine Nat.div_eq_of_lt_le ?_ ?_
 ·rw [Nat.mul_comm,Nat.mul_succ];omega
 ·rw [Nat.mul_comm,Nat.mul_succ,Nat.mul_succ];omega
noncomputable def maxN : List Nat → Nat
 | [] => 0
 | x :: r => max x (maxN r)
private theorem w2r : ∀ {l : List Nat},∀ x ∈ l,x ≤ maxN l
 | y :: r,x,h => by
  rcases List.mem_cons.mp h with rfl | h
  ·exact Nat.le_max_left ..
  ·exact Nat.le_trans (w2r x h) (Nat.le_max_right ..)
private theorem q5g : ∀ {l : List Nat},l ≠ [] → maxN l ∈ l
 | [x],_ => by simp [maxN]
 | x :: y :: r,_ => by
  show max x (maxN (y :: r)) ∈ _
  by_cases h : maxN (y :: r) ≤ x
  ·rw [Nat.max_eq_left h];exact .head _
  ·rw [Nat.max_eq_right (by lia)];exact .tail _ (q5g (by simp))
noncomputable def colL (sz : List Nat) : List Nat:=(List.range (maxN sz)).map (colF sz)
private theorem colF_zero {sz : List Nat} {j : Nat} (h : maxN sz ≤ j) : colF sz j = 0:=by
 unfold colF
 rw [List.countP_eq_zero]
 intro s hs
 have:=w2r s hs
 simp
 with_reducible exact nac
private theorem cols_eq {sz : List Nat} (hne : sz ≠ []) (h7 : ∀ s ∈ sz,s ≤ 7) : (List.range 8).map (colF sz) = colL sz ++ List.replicate (8 - maxN sz) 0:=by
 have hm : maxN sz ≤ 7:=h7 _ (q5g hne)
 have e : List.range 8 = List.range (maxN sz) ++ List.range' (maxN sz) (8 - maxN sz):=by
  have:=List.range'_append_1 (s:=0) (m:=maxN sz) (n:=8 - maxN sz)
  rw [Nat.zero_add,show maxN sz + (8 - maxN sz) = 8 by lia] at this
  rw [List.range_eq_range',List.range_eq_range',this]
 rw [e,List.map_append]
 congr 1
 rw [List.eq_replicate_iff]
 refine ⟨by simp,fun b hb => ?_⟩
 obtain ⟨j,hj,rfl⟩:=List.mem_map.mp hb
 exact colF_zero (List.mem_range'_1.mp hj).1
private theorem w6x (sz : List Nat) (j : Nat) : colF sz j ≤ sz.length:=List.countP_le_length
private theorem div_cols {sz : List Nat} {w : Nat} (hl : sz.length = 8) (h7 : ∀ s ∈ sz,s ≤ 7) (hw : 4 ≤ w) : nval w (cntL sz) / (2 ^ w - 1) = nval w (colL sz) ∧ nval w (cntL sz) % (2 ^ w - 1) = 8:=by
 have hne : sz ≠ []:=fun q => by rw [q] at hl;cases hl
 have h:=w4d w (cntL sz)
 rw [cntL_sum hl h7,cntL_cols h7,cols_eq hne h7,q7g] at h
 have hp : 2 ^ 4 ≤ 2 ^ w:=Nat.pow_le_pow_right (by decide) hw
 rw [h]
 constructor
 ·rw [Nat.add_mul_div_left _ _ (by omega),Nat.div_eq_of_lt (by omega),Nat.zero_add]
 ·rw [Nat.add_mul_mod_self_left,Nat.mod_eq_of_lt (by omega)]
private theorem digs_cols {sz : List Nat} {w : Nat} (hl : sz.length = 8) (hw : 4 ≤ w) : digs w (nval w (colL sz)) (ndig (nval w (colL sz)) w) = colL sz:=by
 have hp : 2 ^ 4 ≤ 2 ^ w:=Nat.pow_le_pow_right (by decide) hw
 have hlt : ∀ x ∈ colL sz,x < 2 ^ w:=fun x hx => by
  obtain ⟨j,_,rfl⟩:=List.mem_map.mp hx
  have:=w6x sz j
  lia
 have hne : sz ≠ []:=fun q => by rw [q] at hl;cases hl
 cases hm : maxN sz with
 | zero =>
  have : colL sz = []:=by unfold colL;rw [hm];rfl
  rw [this]
  have : ndig (nval w []) w = 0:=by
   unfold ndig
   have : Builtin.Int.intBits ((nval w [] : Nat) : Int) ≤ 0:=bitsN (by show 0 < 1;decide)
   rw [Nat.le_zero.mp this]
   exact Nat.div_eq_of_lt (by lia)
  rw [this];rfl
 | succ m =>
  have e : colL sz = (List.range m).map (colF sz) ++ [colF sz m]:=by
   unfold colL;rw [hm,List.range_succ,List.map_append];rfl
  have hd : 0 < colF sz m:=by
   unfold colF
   rw [List.countP_pos_iff]
   exact ⟨maxN sz,q5g hne,by rw [hm];simp⟩
  have hn : ndig (nval w (colL sz)) w = (colL sz).length:=by
   rw [e] at hlt ⊢
   rw [ndig_nval (by lia) hlt hd,List.length_append];rfl
  rw [hn,w4u w _ hlt]
private theorem q8i {sz : List Nat} (hl : sz.length = 8) (h7 : ∀ s ∈ sz,s ≤ 7) : (colL sz).length ≤ 7:=by
 have hne : sz ≠ []:=fun q => by rw [q] at hl;cases hl
 unfold colL
 rw [List.length_map,List.length_range]
 exact h7 _ (q5g hne)
end
section
open PySem PySem.W PySem.Calls PyProof.Rows
noncomputable def longL (sz : List Nat) : List Nat:=(srt (sz.map sentN ++ [0])).reverse
noncomputable def testF (sz : List Nat) (m : Nat) : Bool:=!(decide (m + 1 < (longL sz).getD m 0) && decide (((colL sz).take (m + 1)).sum < ((longL sz).take (m + 1)).sum))
noncomputable def fairB (sz : List Nat) (i : Nat) : Bool:=((colL sz).sum % 2 == 0) && (List.range i).all (testF sz)
private theorem w0s {x y : Nat} (h : x ≤ y) : sentN x ≤ sentN y:=by
 unfold sentN
 have : Nat.min 1 x ≤ Nat.min 1 y:=by simp only [Nat.min_def];split <;> split <;> (first|assumption|with_reducible exact nac|lia)
 lia
private theorem longL_eq (sz : List Nat) : longL sz = (dsc sz).map sentN ++ [0]:=by
 unfold longL
 rw [← srt_eq (l':=((dsc sz).map sentN ++ [0]).reverse),List.reverse_reverse]
 ·exact (List.reverse_perm _).trans (((q6t sz).map sentN).append_right [0])
 ·rw [List.pairwise_reverse,List.pairwise_append]
  refine ⟨?_,List.pairwise_singleton ..,fun a _ b hb => ?_⟩
  ·rw [List.pairwise_map]
   exact (q9w sz).imp fun h => w0s h
  ·simp at hb;rw [hb];exact Nat.zero_le _
private theorem w1v : ∀ l : List Nat,sumN l = l.sum
 | [] => rfl
 | x :: r => by rw [List.sum_cons,← w1v r];rfl
private theorem w3d (sz : List Nat) : ∀ m : Nat,((List.range m).map (colF sz)).sum = (sz.map (Nat.min · m)).sum
 | 0 => by
  have : sz.map (Nat.min · 0) = sz.map fun _ => 0:=List.map_congr_left fun x _ => Nat.min_zero x
  rw [this]
  induction sz with
  | nil => rfl
  | cons x sz ih => rw [List.map_cons,List.sum_cons];simp at ih ⊢;exact ih
 | m + 1 => by
  rw [List.range_succ,List.map_append,List.sum_append,w3d sz m]
  show _ + (colF sz m + 0) = _
  rw [Nat.add_zero]
  unfold colF
  induction sz with
  | nil => rfl
  | cons x sz ih =>
   rw [List.countP_cons,List.map_cons,List.sum_cons,List.map_cons,List.sum_cons,← ih]
   by_cases h : m < x
   ·rw [if_pos (by simpa using h)]
    have e1 : Nat.min x m = m:=Nat.min_eq_right (by with_reducible exact na0)
    have e2 : Nat.min x (m + 1) = m + 1:=Nat.min_eq_right (by lia)
    rw [e1,e2];lia
   ·rw [if_neg (by simpa using h)]
    have e1 : Nat.min x m = x:=Nat.min_eq_left (by lia)
    have e2 : Nat.min x (m + 1) = x:=Nat.min_eq_left (by lia)
    rw [e1,e2];lia
private theorem w6a {sz : List Nat} {m : Nat} (h : maxN sz ≤ m) : sz.map (Nat.min · m) = sz:=by
 refine (List.map_congr_left fun x hx => ?_).trans (List.map_id sz)
 exact Nat.min_eq_left (Nat.le_trans (w2r x hx) h)
private theorem w0c (sz : List Nat) (n : Nat) : ((colL sz).take n).sum = (sz.map (Nat.min · n)).sum:=by
 unfold colL
 rw [← List.map_take,List.take_range,w3d]
 by_cases h : n ≤ maxN sz
 ·rw [Nat.min_eq_left h]
 ·rw [Nat.min_eq_right (by lia),w6a (Nat.le_refl _),w6a (by lia)]
private theorem cols_all (sz : List Nat) : (colL sz).sum = sz.sum:=by
 unfold colL
 rw [w3d,w6a (Nat.le_refl _)]
private theorem dsc_sum (sz : List Nat) (f : Nat → Nat) : ((dsc sz).map f).sum = (sz.map f).sum:=((q6t sz).map f).sum_nat
private theorem long_at {sz : List Nat} {m : Nat} (h : m < (dsc sz).length) : (longL sz).getD m 0 = sentN ((dsc sz)[m]) ∧ ((longL sz).take (m + 1)).sum = (((dsc sz).take m).map sentN).sum + sentN ((dsc sz)[m]):=by
 have h' : m < ((dsc sz).map sentN).length:=by rw [List.length_map];exact h
 rw [longL_eq]
 constructor
 ·rw [List.getD_eq_getElem?_getD,List.getElem?_append_left h',List.getElem?_map,List.getElem?_eq_getElem h];rfl
 ·rw [List.take_append_of_le_length h',List.take_add_one,List.sum_append,← List.map_take,List.getElem?_map,List.getElem?_eq_getElem h]
  show _ + (sentN _ + 0) = _
  rw [Nat.add_zero]
private theorem w4r (sz : List Nat) : ∀ (n k : Nat),k + n = (dsc sz).length → fairAt (dsc sz) (k + 1) ((dsc sz).drop k) (((dsc sz).take k).map sentN).sum = (List.range' k n).all (testF sz)
 | 0,k,h => by rw [List.drop_eq_nil_of_le (by lia)];rfl
 | n + 1,k,h => by
  have hk : k < (dsc sz).length:=by lia
  obtain ⟨l1,l2⟩:=long_at hk
  have hc : sumN ((dsc sz).map (Nat.min · (k + 1))) = ((colL sz).take (k + 1)).sum:=by rw [w1v,dsc_sum,w0c]
  rw [List.drop_eq_getElem_cons hk]
  unfold fairAt
  rw [hc]
  cases e1 : Nat.ble (sentN (dsc sz)[k]) (k + 1)
  ·rw [cond_false]
   have n1 : ¬ sentN (dsc sz)[k] ≤ k + 1:=fun q => by rw [Nat.ble_eq.mpr q] at e1;cases e1
   rw [List.range'_succ,List.all_cons]
   cases e2 : Nat.ble ((((dsc sz).take k).map sentN).sum + sentN (dsc sz)[k]) ((colL sz).take (k + 1)).sum
   ·rw [cond_false]
    have n2 : ¬ (((dsc sz).take k).map sentN).sum + sentN (dsc sz)[k] ≤ ((colL sz).take (k + 1)).sum:=fun q => by rw [Nat.ble_eq.mpr q] at e2;cases e2
    have : testF sz k = false:=by
     unfold testF
     rw [l1,l2,decide_eq_true (by lia),decide_eq_true (by lia)];rfl
    rw [this];rfl
   ·rw [cond_true]
    have n2:=Nat.ble_eq.mp e2
    have : testF sz k = true:=by
     unfold testF
     rw [l2,decide_eq_false (p:=((colL sz).take (k + 1)).sum < _) (by lia),Bool.and_false];rfl
    rw [this,Bool.true_and,← w4r sz n (k + 1) (by lia),List.take_add_one,List.getElem?_eq_getElem hk,List.map_append,List.sum_append]
    rfl
  ·rw [cond_true]
   have n1:=Nat.ble_eq.mp e1
   symm
   rw [List.all_eq_true]
   intro m hm
   obtain ⟨h1,h2⟩:=List.mem_range'_1.mp hm
   have hml : m < (dsc sz).length:=by lia
   unfold testF
   have : sentN (dsc sz)[m] ≤ sentN (dsc sz)[k]:=by
    by_cases q : k = m
    ·subst q;exact Nat.le_refl _
    ·exact w0s (List.pairwise_iff_getElem.mp (q9w sz) k m hk hml (by lia))
   rw [(long_at hml).1,decide_eq_false (p:=m + 1 < _) (by lia),Bool.false_and];rfl
private theorem fairB_eq {sz : List Nat} (hl : sz.length = 8) : fairB sz 8 = fairD (dsc sz):=by
 have h8 : (dsc sz).length = 8:=(q6t sz).length_eq.trans hl
 have h:=w4r sz 8 0 (by lia)
 rw [List.drop_zero,List.take_zero] at h
 unfold fairB fairD
 have e : sumN (dsc sz) = (colL sz).sum:=by
  rw [w1v,cols_all]
  have:=dsc_sum sz id
  rwa [List.map_id,List.map_id] at this
 rw [e,List.range_eq_range',← h]
 have e3 : ∀ x : Nat,(x == 0) = Nat.beq x 0:=fun x => by cases x <;> rfl
 cases q : Nat.beq ((colL sz).sum % 2) 0
 ·have : ((colL sz).sum % 2 == 0) = false:=(e3 _).trans q
  rw [this];rfl
 ·have : ((colL sz).sum % 2 == 0) = true:=(e3 _).trans q
  rw [this];rfl
end
section
open PySem PySem.W PySem.Calls PyProof.Rows
variable {prog : Program} {w : World} {P : Params} {C : Cfg}
private theorem idm (hC : CfgOk P C) {a b k : Nat} (hb : 0 < b) (hbb : Builtin.Int.intBits (b : Int) ≤ 7000) (ha : Builtin.Int.intBits (a : Int) ≤ 2 ^ 19) (hk : ndig a (Builtin.Int.intBits (b : Int)) ≤ 2 ^ k) : FnOk prog w C a_idm (k + 5) [.int a,.int b] (.tup [.int (a / b : Nat),.int (a % b : Nat)]):=by
 have fp:=dpos (prog:=prog) (w:=w) hC hb hbb ha hk
 refine FnOk.of (names:=[⟨#[97]⟩,⟨#[98]⟩]) (q9y hC) (fun vs h => ?_) rfl rfl rfl rfl fun A mu L s s₁ r hL I => ?_
 ·obtain ⟨_,_,rfl⟩:=len2 h;rfl
 ·refine q0a (st_IfE I ((show ((b : Int) == 0) = false by rw [beq_eq_false_iff_ne];lia) ▸ (by repeat' walk_at "pe")) fun s₂ I₂ => ?_)
  refine q0a (st_IfE I₂ ((show decide ((b : Int) < 0) = false by rw [decide_eq_false_iff_not];lia) ▸ (by repeat' walk_at "pe")) fun s₃ I₃ => ?_)
  refine q0a (st_IfE I₃ ((show decide ((a : Int) < 0) = false by rw [decide_eq_false_iff_not];lia) ▸ (by repeat' walk_at "pe")) fun s₄ I₄ => ?_)
  exact q0a (q0n I₄ (q0t (ps:=[.int a,.int b]) (q0f (q0e hC rfl) rfl rfl) (by repeat' walk_at "pe") (w8j hC) fp r (fun _ => rfl)) fun v s' I' y => ⟨v,_,rfl,I',y⟩)
end
section
open PySem PySem.W PySem.Calls PyProof.Rows
set_option maxHeartbeats 4000000
variable {prog : Program} {w : World} {P : Params} {C : Cfg}
private theorem w5x {mu : List Addr} {A : Around} {c : Nat} : Op1 prog w C mu A (unaryOp .Invert) (.int (-(c : Int) - 1)) (.int c):=by
 have e1 : Builtin.bitNot (-(c : Int) - 1) = (c : Int):=by unfold Builtin.bitNot;lia
 have h:=op_inv (prog:=prog) (w:=w) (C:=C) (mu:=mu) (A:=A) (a:=-(c : Int) - 1)
 rw [e1] at h
 exact h
private theorem idmM (hC : CfgOk P C) {c b k : Nat} (hb : 0 < b) (hbb : Builtin.Int.intBits (b : Int) ≤ 7000) (ha : Builtin.Int.intBits (c : Int) ≤ 2 ^ 19) (hk : ndig c (Builtin.Int.intBits (b : Int)) ≤ 2 ^ k) : FnOk prog w C a_idm (k + 6) [.int (-(c : Int) - 1),.int b] (.tup [.int (-((c / b : Nat) : Int) - 1),.int ((b : Int) + (-((c % b : Nat) : Int) - 1))]):=by
 have fp:=idm (prog:=prog) (w:=w) hC hb hbb ha hk
 refine FnOk.of (names:=[⟨#[97]⟩,⟨#[98]⟩]) (q9y hC) (fun vs h => ?_) rfl rfl rfl rfl fun A mu L s s₁ r hL I => ?_
 ·obtain ⟨_,_,rfl⟩:=len2 h;rfl
 ·refine q0a (st_IfE I ((show ((b : Int) == 0) = false by rw [beq_eq_false_iff_ne];lia) ▸ (by repeat' walk_at "pe")) fun s₂ I₂ => ?_)
  refine q0a (st_IfE I₂ ((show decide ((b : Int) < 0) = false by rw [decide_eq_false_iff_not];lia) ▸ (by repeat' walk_at "pe")) fun s₃ I₃ => ?_)
  refine q0a (st_IfT I₃ ((show decide (-(c : Int) - 1 < 0) = true by rw [decide_eq_true_iff];lia) ▸ (by repeat' walk_at "pe")) fun s₄ I₄ => ?_)
  refine q0a (q2c I₄ r.none (by walk_at "sto") (by walk_at "sto") (q0t (ps:=[.int c,.int b]) (q0f (q0e hC rfl) rfl rfl) (q0c (q3k (q0b rfl rfl) (w5x (c:=c))) (by repeat' walk_at "pe") (fun _ => rfl)) (q9y hC) fp r (fun _ => rfl)) fun s₅ I₅ => ?_)
  exact q0a (q0n I₅ (p:=.tup [.int (Builtin.bitNot (c / b : Nat)),.int ((b : Int) + Builtin.bitNot (c % b : Nat))]) (by repeat' (first | exact op_inv | walk_at "pe")) fun v s' I' y => ⟨v,_,rfl,I',y⟩)
private theorem idmZ (hC : CfgOk P C) {o : Int} {b : Nat} (h1 : -1 ≤ o) (h2 : o < 65536) (hb : 1 ≤ b) (hb8 : b ≤ 8) : FnOk prog w C a_idm 10 [.int o,.int b] (.tup [.int (o.fdiv b),.int (o.fmod b)]):=by
 have bb : Builtin.Int.intBits (b : Int) ≤ 4:=bitsN (by (with_reducible refine nae ?_;decide))
 have bl : 1 ≤ Builtin.Int.intBits (b : Int):=by
  apply Decidable.byContradiction
  intro q
  have : Builtin.Int.intBits (b : Int) ≤ 0:=by lia
  rw [intBits_le_iff] at this
  simp at this
  lia
 have dg : ∀ c : Nat,c < 65536 → Builtin.Int.intBits (c : Int) ≤ 16 ∧ ndig c (Builtin.Int.intBits (b : Int)) ≤ 2 ^ 4:=fun c hc => by
  have h : Builtin.Int.intBits (c : Int) ≤ 16:=bitsN (by assumption)
  refine ⟨h,?_⟩
  unfold ndig
  rw [Nat.div_le_iff_le_mul_add_pred (by lia)]
  have : 1 * 16 ≤ Builtin.Int.intBits (b : Int) * 16:=Nat.mul_le_mul_right _ bl
  lia
 by_cases h0 : 0 ≤ o
 ·obtain ⟨a,rfl⟩:=Int.eq_ofNat_of_zero_le h0
  obtain ⟨d1,d2⟩:=dg a (by lia)
  have f:=idm (prog:=prog) (w:=w) hC (a:=a) (b:=b) (k:=4) (by lia) (by (with_reducible refine nad ?_;decide)) (Nat.le_trans d1 (by decide)) d2
  have e1 : ((a : Int).fdiv b) = ((a / b : Nat) : Int):=by rw [Int.fdiv_eq_ediv_of_nonneg _ (by lia)];rfl
  have e2 : ((a : Int).fmod b) = ((a % b : Nat) : Int):=by rw [Int.fmod_eq_emod_of_nonneg _ (by lia)];rfl
  rw [e1,e2]
  exact fun A mu r => f A mu (r.mono (by lia))
 ·have : o = -((0 : Nat) : Int) - 1:=by lia
  subst this
  obtain ⟨d1,d2⟩:=dg 0 (by lia)
  have f:=idmM (prog:=prog) (w:=w) hC (c:=0) (b:=b) (k:=4) (by lia) (by (with_reducible refine nad ?_;decide)) (Nat.le_trans d1 (by decide)) d2
  have hb' : (0 : Int) < b:=by lia
  have e2 : (-((0 : Nat) : Int) - 1).fmod b = (b : Int) + (-((0 % b : Nat) : Int) - 1):=by
   rw [Nat.zero_mod]
   rw [Int.fmod_eq_emod_of_nonneg _ (by lia)]
   have:=Int.add_emod_right (a:=-((0 : Nat) : Int) - 1) (b:=(b : Int))
   rw [← this,Int.emod_eq_of_lt (by lia) (by lia)]
   lia
  have e1 : (-((0 : Nat) : Int) - 1).fdiv b = -((0 / b : Nat) : Int) - 1:=by
   have h:=Int.mul_fdiv_add_fmod (-((0 : Nat) : Int) - 1) b
   rw [e2,Nat.zero_mod] at h
   rw [Nat.zero_div]
   have : (b : Int) * (-((0 : Nat) : Int) - 1).fdiv b = (b : Int) * (-((0 : Nat) : Int) - 1):=by
    rw [Int.mul_sub,Int.mul_one]
    simp at h ⊢
    lia
   exact Int.eq_of_mul_eq_mul_left (by lia) this
  rw [e1,e2]
  exact f
end
section
open PySem PySem.W PySem.Calls PyProof.Rows
set_option maxHeartbeats 2000000
variable {prog : Program} {w : World} {P : Params} {C : Cfg}
section
variable {mu mu' nu : List Addr} {s₀ s s' : Shared} {env : Env} {ρ : List (PySem.Str × PV)} {σ σ' : List (Addr × MO)} {A : Around} {E : Value → Shared → Prop}
private theorem AccAt.tellW {L : Addr} {s₁ : Shared} {x dx : Addr} {l : List (PySem.Str × PySem.Str)} {k : Int} (a : AccAt mu s.heap x dx l k) (I : In C (L :: mu) nu env ρ [] s s₁) (hL : s.heap.get? L = none) (hloc : env.locals = L) (hcells : ∀ c ∈ env.cells,∃ o,C.H.get? c.2 = some o) (hk : ∀ b o,s.heap.get? b = some o → s₁.heap.get? b = some o) :
  ∃ od,AccD od k ∧ In C (L :: mu) (x :: dx :: nu) env ρ (sAcc x dx l od) s s₁:=by
 obtain ⟨od,h1,I'⟩:=a.tell I hL hloc hcells hk
 refine ⟨od,h1,?_⟩
 have hd:=I'.act.st dx _ (sAcc_d a.ne)
 have hx:=I'.act.st x _ sAcc_x
 have Id : In C (L :: mu) (dx :: nu) env ρ [(dx,.raw od)] s s₁:=I.know (m:=.raw od) hd.1 hd.2.1 hd.2.2
 exact Id.know hx.1 hx.2.1 hx.2.2
private theorem AccAt.tellX {L : Addr} {s₁ : Shared} {x dx : Addr} {l : List (PySem.Str × PySem.Str)} {k : Int} (a : AccAt mu s.heap x dx l k) (I : In C (L :: mu) nu env ρ [] s s₁) (hL : s.heap.get? L = none) (hloc : env.locals = L) (hcells : ∀ c ∈ env.cells,∃ o,C.H.get? c.2 = some o) (hk : ∀ b o,s.heap.get? b = some o → s₁.heap.get? b = some o) :
  ∃ od,AccD od k ∧ In C (L :: mu) (x :: nu) env ρ (sAcc x dx l od) s s₁:=by
 obtain ⟨od,h1,I'⟩:=a.tell I hL hloc hcells hk
 have hd:=I'.act.st dx _ (sAcc_d a.ne)
 have hx:=I'.act.st x _ sAcc_x
 exact ⟨od,h1,(I.knowR (m:=.raw od) hd.1 hd.2.1 hd.2.2).know hx.1 hx.2.1 hx.2.2⟩
private theorem w8s {L : Addr} {x dx : Addr} {l : List (PySem.Str × PySem.Str)} {k : Int} {od : Obj} (I : In C (L :: mu) (x :: [L]) env ρ σ s s') (hL : s.heap.get? L = none) (hx : x ∈ mu) (hd : dx ∈ mu) (hne : x ≠ dx)
  (h1 : σ.lookup x = some (.seq (.ref cAcc) (some dx) (l.map pairPV))) (h2 : σ.lookup dx = some (.raw od)) (hk : AccD od k) : Ok C mu s' ∧ Kp C [x] s s' ∧ AccAt mu s'.heap x dx l k:=by
 obtain ⟨_,_,e1⟩:=I.act.st x _ h1
 obtain ⟨_,_,e2⟩:=I.act.st dx _ h2
 refine ⟨I.ok.sub fun a h => .tail _ h,⟨fun b o hb ht e => I.kp.keep b o (fun q => ?_) ht e⟩,hx,hd,hne,e1.keeps (fun _ e => e) (fun _ _ h _ q => h (.tail _ q)) fun _ _ _ _ e => e,od,hk,e2⟩
 rcases List.mem_cons.mp q with q | q
 ·exact hb (q ▸ .head _)
 ·simp at q;rw [q,hL] at e;cases e
private theorem w3j {L : Addr} {x dx : Addr} {l : List (PySem.Str × PySem.Str)} {k : Int} {od : Obj} (I : In C (L :: mu) (x :: dx :: [L]) env ρ σ s s') (hL : s.heap.get? L = none) (hx : x ∈ mu) (hd : dx ∈ mu) (hne : x ≠ dx)
  (h1 : σ.lookup x = some (.seq (.ref cAcc) (some dx) (l.map pairPV))) (h2 : σ.lookup dx = some (.raw od)) (hk : AccD od k) : Ok C mu s' ∧ Kp C [x,dx] s s' ∧ AccAt mu s'.heap x dx l k:=by
 obtain ⟨_,_,e1⟩:=I.act.st x _ h1
 obtain ⟨_,_,e2⟩:=I.act.st dx _ h2
 refine ⟨I.ok.sub fun a h => .tail _ h,⟨fun b o hb ht e => I.kp.keep b o (fun q => ?_) ht e⟩,hx,hd,hne,e1.keeps (fun _ e => e) (fun _ _ h _ q => h (.tail _ q)) fun _ _ _ _ e => e,od,hk,e2⟩
 rcases List.mem_cons.mp q with q | q
 ·exact hb (q ▸ .head _)
 ·rcases List.mem_cons.mp q with q | q
  ·exact hb (q ▸ .tail _ (.head _))
  ·simp at q;rw [q,hL] at e;cases e
noncomputable def AccTo (prog : Program) (w : World) (C : Cfg) (mu : List Addr) (A : Around) (t : Sem Value) (x dx : Addr) (l : List (PySem.Str × PySem.Str)) (k : Int) (z : PV) (s : Shared) : Prop:=
 ∀ (Q : Value → Shared → Prop) (E : Value → Shared → Prop),(∀ v s',Ok C mu s' → Kp C [x,dx] s s' → AccAt mu s'.heap x dx l k → Sim s'.heap mu z v → Q v s') → wpAny (model prog w) A t Q E s
noncomputable def AccToX (prog : Program) (w : World) (C : Cfg) (mu : List Addr) (A : Around) (t : Sem Value) (x dx : Addr) (l : List (PySem.Str × PySem.Str)) (k : Int) (z : PV) (s : Shared) : Prop:=
 ∀ (Q : Value → Shared → Prop) (E : Value → Shared → Prop),(∀ v s',Ok C mu s' → Kp C [x] s s' → AccAt mu s'.heap x dx l k → Sim s'.heap mu z v → Q v s') → wpAny (model prog w) A t Q E s
private theorem AccToX.to {t : Sem Value} {x dx : Addr} {l : List (PySem.Str × PySem.Str)} {k : Int} {z : PV} (h : AccToX prog w C mu A t x dx l k z s) : AccTo prog w C mu A t x dx l k z s:=fun Q E kk =>
 h Q E fun v s' O' k' => kk v s' O' (k'.mono fun a q => by simp at q;rw [q];exact .head _)
private theorem w7x {od : Obj} {k : Int} (h : AccD od k) : lookIn "append" od = some none:=by
 obtain ⟨hs,t,t',n,rfl⟩:=h
 exact rfl
private theorem w3i (hC : CfgOk P C) {n : Nat} {x dx : Addr} {l : List (PySem.Str × PySem.Str)} {k : Int} {a b : PySem.Str} {vs : List Value} (r : Rm A (n + 1)) (O : Ok C mu s) (ha : AccAt mu s.heap x dx l k) (hy : Sims s.heap mu [.str a,.str b] vs) (hsz : l.length ≤ 1024) :
  AccToX prog w C mu A (call (.ref q4k) (.ref x :: vs)) x dx (l ++ [(a,b)]) k .none s:=by
 intro Q E kk
 have hS : sizeLine = 2 ^ 24:=by decide +kernel
 have hlen:=hy.length
 obtain ⟨v₁,v₂,rfl⟩ : ∃ v₁ v₂,vs = [v₁,v₂]:=by
  exact len2 hlen
 refine q1f (ρc:=[]) (names:=[⟨#[115,101,108,102]⟩,⟨#[102,119,115]⟩,⟨#[115,116,114,105,110,103]⟩]) (ps:=[.val (.ref x),.str a,.str b]) ((q3g hC).at O) r O ⟨_,_,rfl,rfl,hy⟩ (BindsTo.of_eq rfl) rfl Clo.nil rfl rfl fun L s₁ hL I r' hk => ?_
 rw [List.append_nil] at I
 obtain ⟨od,hod,I₁⟩:=ha.tellX I hL rfl (fun c hc => nomatch hc) hk
 refine q0a (q7r (p:=.tup [.str a,.str b]) (q0o hC) (q1p hC) I₁ sAcc_x (sAcc_d ha.ne) (.head _) (q0b rfl rfl) (by repeat' walk_at "pe") (w7x hod) (by rw [List.length_map];(with_reducible refine nad ?_;decide)) (fun s' I' => ?_) rfl)
 refine wpAny_execs_nil ?_
 obtain ⟨h1,h2,h3⟩:=w8s (l:=l ++ [(a,b)]) I' hL ha.hx ha.hd ha.ne (by simp) (by
  have : (dx == x) = false:=by simpa using Ne.symm ha.ne
  simp [List.lookup_cons,this]) hod
 exact kk .none s' h1 h2 h3 rfl
end
end
section
open PySem PySem.W PySem.Calls PyProof.Rows
set_option maxHeartbeats 2000000
variable {prog : Program} {w : World} {P : Params} {C : Cfg}
section
variable {mu mu' nu : List Addr} {s₀ s s' : Shared} {env : Env} {ρ : List (PySem.Str × PV)} {σ σ' : List (Addr × MO)} {A : Around} {E : Value → Shared → Prop}
private theorem q1c {od : Obj} {k : Int} (h : AccD od k) {name : PySem.Str} (hn : (sSize == name) = false) : lookIn name od = some none:=by
 obtain ⟨hs,t,t',n,rfl⟩:=h
 show (match ([⟨hs,.str sSize t,.int k t'⟩] : List DictEntry).find? (·.key.isStr name) with | some e => some (some e.val) | none => if ([⟨hs,.str sSize t,.int k t'⟩] : List DictEntry).any (·.refKey) then none else some none) = some none
 have : (Value.str sSize t).isStr name = false:=hn
 simp [this,DictEntry.refKey]
private theorem q2o (hC : CfgOk P C) (hp : ProgOk prog) {n : Nat} {x dx : Addr} {l : List (PySem.Str × PySem.Str)} {od : Obj} {k : Int} {o : Expr} {apos pos : Pos} {pl : Sem Bool} (r : Rm A (n + 1)) (h1 : σ.lookup x = some (.seq (.ref cAcc) (some dx) (l.map pairPV))) (h2 : σ.lookup dx = some (.raw od)) (hne : x ≠ dx) (hk : AccD od k) (hsz : l.length ≤ 1024) (ho : PurE prog w C mu A env ρ σ o (.val (.ref x)))
  (he : autoParam (eval (.Call (.Attribute o ⟨#[112,97,114,116,95,99,111,117,110,116]⟩ apos) [] [] pos) env = (do let ov ← eval o env;standAt apos.atName;let __x ← holding [ov] (getMethod ov ⟨#[112,97,114,116,95,99,111,117,110,116]⟩ pl);match __x with | (f,first) => callWith pos f first (backTo pos (starEach [] env)) [])) tR) :
  PurE prog w C mu A env ρ σ (.Call (.Attribute o ⟨#[112,97,114,116,95,99,111,117,110,116]⟩ apos) [] [] pos) (.int l.length):=
 w3y (q0o hC) ho ⟨h2,.inl ⟨_,h1⟩⟩ (m_a_count hC) (t_a_count hC) (q1c hk (by decide)) (q9z hC) (fun s O a => acc_count hC hp r O (AccAt.ofAct a h1 h2 hne hk) (by (with_reducible refine nad ?_;decide))) he
private theorem acc_pop0 (hC : CfgOk P C) (hp : ProgOk prog) {n : Nat} {x dx : Addr} {k : Int} (r : Rm A (n + 2)) (O : Ok C mu s) (ha : AccAt mu s.heap x dx [] k) :
  AccTo prog w C mu A (call (.ref q6c) [.ref x]) x dx [] k (.tup [.str ⟨#[]⟩,.str ⟨#[]⟩]) s:=by
 intro Q E kk
 refine q7n (names:=[⟨#[115,101,108,102]⟩]) (ps:=[.val (.ref x)]) ((q6u hC).at O) r O ⟨_,_,rfl,rfl,rfl⟩ (BindsTo.of_eq rfl) rfl (q4m hC hp).clo (q1v hC O) rfl rfl fun L s₁ hL I r' hk => ?_
 obtain ⟨od,hod,I₁⟩:=ha.tellW I hL rfl (fun c hc => by
  have hc' : c ∈ (q6s P).closure:=hc
  rw [(q4m hC hp).clo] at hc'
  simp at hc'
  rw [hc'];exact q1v hC O) hk
 refine ks_wpAt_execs_cons (wpAt_of_wpAny (st_IfT I₁ (q0g (q2o hC hp r' sAcc_x (sAcc_d ha.ne) ha.ne hod (by simp) (q0b rfl rfl)) q0k (show Op2 _ _ _ _ _ (compareOp .Eq) (.int (([] : List (PySem.Str × PySem.Str)).length : Int)) (.int 0) (.bool true) from op_eq)) fun s₂ I₂ => ?_))
 refine q0a (q0n (p:=.tup [.str ⟨#[]⟩,.str ⟨#[]⟩]) I₂ (by repeat' walk_at "pe") fun v s' I' y => ?_)
 obtain ⟨h1,h2,h3⟩:=w3j I' hL ha.hx ha.hd ha.ne sAcc_x (sAcc_d ha.ne) hod
 exact kk v s' h1 h2 h3 (y.sub fun a h => .tail _ h)
private theorem w8r (hC : CfgOk P C) (hp : ProgOk prog) {n : Nat} {x dx : Addr} {l : List (PySem.Str × PySem.Str)} {p : PySem.Str × PySem.Str} {k : Int} (r : Rm A (n + 2)) (O : Ok C mu s) (ha : AccAt mu s.heap x dx (l ++ [p]) k) (hsz : l.length < 1024) :
  AccTo prog w C mu A (call (.ref q6c) [.ref x]) x dx l k (pairPV p) s:=by
 intro Q E kk
 have hS : sizeLine = 2 ^ 24:=by decide +kernel
 refine q7n (names:=[⟨#[115,101,108,102]⟩]) (ps:=[.val (.ref x)]) ((q6u hC).at O) r O ⟨_,_,rfl,rfl,rfl⟩ (BindsTo.of_eq rfl) rfl (q4m hC hp).clo (q1v hC O) rfl rfl fun L s₁ hL I r' hk => ?_
 obtain ⟨od,hod,I₁⟩:=ha.tellW I hL rfl (fun c hc => by
  have hc' : c ∈ (q6s P).closure:=hc
  rw [(q4m hC hp).clo] at hc'
  simp at hc'
  rw [hc'];exact q1v hC O) hk
 have hne0 : (((l ++ [p]).length : Nat) : Int) ≠ 0:=by simp;lia
 refine ks_wpAt_execs_cons (wpAt_of_wpAny (st_IfN I₁ ((show ((((l ++ [p]).length : Nat) : Int) == 0) = false by rw [beq_eq_false_iff_ne];exact hne0) ▸ (q0g (q2o hC hp r' sAcc_x (sAcc_d ha.ne) ha.ne hod (by simp;with_reducible exact ng4) (q0b rfl rfl)) q0k op_eq)) fun s₂ I₂ => ?_))
 refine ks_wpAt_execs_cons (ks_wpAt_Return_some (w1t (q4m hC hp) I₂ rfl sAcc_x (sAcc_d ha.ne) (q0o hC).hc (l:=[.type "list",.type "object"]) (by rw [w2q];rfl) (ha.neCls hC O) (al_pop hC) ty_pop w3v.lookup rfl
  (fun h g d t os ox A Q E X hx hc hq => call_pop hx hc (looks_mroIn X (q1p hC).lst) hq) fun b s₃ I₃ hb => ?_))
 obtain ⟨vs,m,hox,hvs,IA⟩:=I₃.act.inst sAcc_x (sAcc_d ha.ne)
 have hvl:=hvs.length
 obtain ⟨ws,v,rfl⟩ : ∃ ws v,vs = ws ++ [v]:=by
  rcases List.eq_nil_or_concat vs with e | ⟨ws,v,e⟩
  ·rw [e] at hvl;simp at hvl
  ·exact ⟨ws,v,by rw [e];simp⟩
 have hwl : ws.length = l.length:=by simpa using hvl
 have hsplit : Sims s₃.heap (L :: mu) (l.map pairPV) ws ∧ Sim s₃.heap (L :: mu) (pairPV p) v:=by
  have e1:=hvs.take l.length
  have e2:=hvs.drop l.length
  rw [List.map_append,List.take_append_of_le_length (by simp),List.take_append_of_le_length (by lia)] at e1
  rw [List.map_append,List.drop_append_of_le_length (by simp),List.drop_append_of_le_length (by lia)] at e2
  rw [List.take_of_length_le (by simp),List.take_of_length_le (by lia)] at e1
  rw [List.drop_of_length_le (by simp),List.drop_of_length_le (by lia)] at e2
  obtain ⟨v',rr,e3,e4,_⟩:=e2
  simp at e3
  exact ⟨e1,by rw [e3.1];exact e4⟩
 obtain ⟨hs1,hs2⟩:=hsplit
 have hxm:=(I₃.act.st x _ sAcc_x).1
 obtain ⟨hh,gg,dr,tk,os⟩:=s₃
 have hox' : hh.get? x = some (subO (.ref cAcc) (some dx) (ws.toArray.push v) m):=by rw [hox];simp
 refine q7q (.inl rfl) hb (fun A Q E hq => check_popB I₃.ok.K hox rfl (fun c e => by cases e) (q0o hC).hc (mod_acc hC) (ty_acc hC) qn_acc hq) PySem.F.slot_list_pop.plain PySem.F.entry_list_pop (sub_pop (.ref cAcc) (some dx) x ws.toArray m v (by rw [List.size_toArray,hwl];lia)) ⟨hox',?_⟩
 have hsb : Heap.SameBut x hh (hh.update x (Obj.mapSeq fun a => a.eraseIdxIfInBounds ws.toArray.size)):=Heap.SameBut.update ..
 obtain ⟨m',hm'⟩:=q9l (.ref cAcc) (some dx) (ws.toArray.push v) m (fun a => a.eraseIdxIfInBounds ws.toArray.size)
 have er : (ws.toArray.push v).eraseIdxIfInBounds ws.toArray.size = ws.toArray:=by
  apply Array.ext'
  unfold Array.eraseIdxIfInBounds
  simp [List.eraseIdx_append_of_length_le]
 have up : ∀ {l : List PV} {vs : List Value},Sims hh (L :: mu) l vs → Sims (hh.update x (Obj.mapSeq fun a => a.eraseIdxIfInBounds ws.toArray.size)) (L :: mu) l vs:=fun y => y.keeps (fun _ _ z _ => z) fun b o hb _ e => hsb.extBut b o (fun q => hb (q ▸ hxm)) e
 have I₄:=I₃.mut (tk:=tk) (m':=.seq (.ref cAcc) (some dx) (l.map pairPV)) sAcc_x (.head _) hsb.extBut ⟨ws,m',by rw [Heap.get?_update_self _ hox' (by rw [hm'];rfl),hm',er],up hs1⟩
 have y : Sim (hh.update x (Obj.mapSeq fun a => a.eraseIdxIfInBounds ws.toArray.size)) (L :: mu) (pairPV p) v:=hs2.keeps (fun _ _ z _ => z) fun b o hb _ e => hsb.extBut b o (fun q => hb (q ▸ hxm)) e
 obtain ⟨h1,h2,h3⟩:=w3j (l:=l) I₄ hL ha.hx ha.hd ha.ne (by simp) (by
  have : (dx == x) = false:=by simpa using Ne.symm ha.ne
  simp [List.lookup_cons,this]) hod
 exact kk v _ h1 h2 h3 (y.sub fun a h => .tail _ h)
end
end
section
open PySem PySem.W PySem.Calls PyProof.Rows
set_option maxHeartbeats 2000000
variable {prog : Program} {w : World} {P : Params} {C : Cfg}
private theorem q7a (l : List PV) (lo hi : Option Int) (a b : Nat) (h1 : (sliceBounds lo hi none l.length).1 = a) (h2 : (sliceBounds lo hi none l.length).2.1 = b) (hab : b ≤ l.length) : q5w l lo hi = (l.take b).drop a:=by
 unfold q5w
 have h3 : (sliceBounds lo hi none l.length).2.2 = 1:=rfl
 rw [h1,h2,h3,sliceRange_one]
 have:=pick_run l.toArray a (b - a)
 simp only [List.getElem?_toArray] at this
 rw [this,List.drop_take]
private theorem q7s (l : List PV) (i : Nat) (h : i ≤ l.length) : q5w l (some i) none = l.drop i:=by
 rw [q7a l (some (i : Int)) none i l.length ?_ ?_ (Nat.le_refl _),List.take_length]
 ·have h1 : ¬ ((i : Int) < 0):=by lia
  have e1 : max (0 : Int) (min (i : Int) (l.length : Int)) = i:=by lia
  unfold sliceBounds
  simp [h1,e1]
 ·unfold sliceBounds
  simp
section
variable {mu mu' nu : List Addr} {s₀ s s' : Shared} {env : Env} {ρ : List (PySem.Str × PV)} {σ σ' : List (Addr × MO)} {A : Around} {E : Value → Shared → Prop}
private theorem part0 : q1t prog w C mu A env ρ σ none none:=trivial
private theorem part1 {e : Expr} {i : Int} (h : PurE prog w C mu A env ρ σ e (.int i)) : q1t prog w C mu A env ρ σ (some e) (some i):=h
private theorem q7y (hC : CfgOk P C) {n : Nat} {x dx : Addr} {l : List (PySem.Str × PySem.Str)} {i : Nat} {k : Int} {vs0 : List Value} {v₁ : Value} (r : Rm A (n + 1)) (O : Ok C mu s) (ha : AccAt mu s.heap x dx l k) (hy : Sim s.heap mu (.int i) v₁) (hb : BindsTo s (q4w P) ⟨vs0,[]⟩ ([(⟨#[115,101,108,102]⟩ : PySem.Str),⟨#[105]⟩].zip [.ref x,v₁])) (hi : i ≤ l.length) (hsz : l.length ≤ 1024) :
  AccToX prog w C mu A (call (.ref q2i) vs0) x dx (l.take i) k (.lst ((l.drop i).map pairPV)) s:=by
 intro Q E kk
 refine q1f (ρc:=[]) (names:=[⟨#[115,101,108,102]⟩,⟨#[105]⟩]) (ps:=[.val (.ref x),.int i]) ((q2y hC).at O) r O ⟨_,_,rfl,rfl,_,_,rfl,hy,rfl⟩ hb rfl Clo.nil rfl rfl fun L s₁ hL I r' hk => ?_
 rw [List.append_nil] at I
 obtain ⟨od,hod,I₁⟩:=ha.tellX I hL rfl (fun c hc => nomatch hc) hk
 refine q0a (q0h I₁ (by walk_at "sto") (w2h (lo:=some i) (hi:=none) (q1p hC) (q0b rfl rfl) sAcc_x (sAcc_d ha.ne) (part1 (q0b rfl rfl)) part0 (by rw [List.length_map];(with_reducible refine nad ?_;decide))).pur (fun s₂ I₂ => ?_))
 rw [q7s _ i (by rw [List.length_map];exact hi),← List.map_drop] at I₂
 refine q0a (w3u (new:=[]) (lo:=some i) (hi:=none) (q1p hC) I₂ sAcc_x (sAcc_d ha.ne) (.head _) (q0b rfl rfl) (by repeat' walk_at "pe") (part1 (q0b rfl rfl)) part0 (by rw [List.length_map];simp;(with_reducible refine nad ?_;decide)) (fun s₃ I₃ => ?_))
 rw [pvSet_from _ _ i (by rw [List.length_map];exact hi),List.append_nil,← List.map_take] at I₃
 refine q0a (q0n I₃ (q0b rfl rfl) fun v s' I' y => ?_)
 obtain ⟨h1,h2,h3⟩:=w8s (l:=l.take i) I' hL ha.hx ha.hd ha.ne (by simp) (by
  have : (dx == x) = false:=by simpa using Ne.symm ha.ne
  simp [List.lookup_cons,this]) hod
 exact kk v s' h1 h2 h3 (y.sub fun a h => .tail _ h)
private theorem w0h (hC : CfgOk P C) {n : Nat} {x dx : Addr} {l : List (PySem.Str × PySem.Str)} {i : Nat} {k : Int} {vs : List Value} (r : Rm A (n + 1)) (O : Ok C mu s) (ha : AccAt mu s.heap x dx l k) (hy : Sims s.heap mu [.int i] vs) (hi : i ≤ l.length) (hsz : l.length ≤ 1024) :
  AccToX prog w C mu A (call (.ref q2i) (.ref x :: vs)) x dx (l.take i) k (.lst ((l.drop i).map pairPV)) s:=by
 obtain ⟨v₁,rfl⟩ : ∃ v₁,vs = [v₁]:=by
  exact len1 hy.length
 obtain ⟨_,_,e,y,_⟩:=hy
 cases e
 exact q7y hC r O ha y (binds_K (T:=q6a) O.K rfl (q7v hC) rfl rfl rfl) hi hsz
private theorem w5h (hC : CfgOk P C) {n : Nat} {x dx : Addr} {l : List (PySem.Str × PySem.Str)} {k : Int} (r : Rm A (n + 1)) (O : Ok C mu s) (ha : AccAt mu s.heap x dx l k) (hsz : l.length ≤ 1024) :
  AccToX prog w C mu A (call (.ref q2i) [.ref x]) x dx [] k (.lst (l.map pairPV)) s:=
 q7y hC (i:=0) r O ha ⟨585,rfl⟩ (binds_K (T:=q6a) O.K rfl (q7v hC) rfl rfl rfl) (Nat.zero_le _) hsz
end
end
section
open PySem PySem.W PySem.Calls PyProof.Rows
set_option maxHeartbeats 2000000
variable {prog : Program} {w : World} {P : Params} {C : Cfg}
section
variable {mu mu' nu : List Addr} {s₀ s s' : Shared} {env : Env} {ρ : List (PySem.Str × PV)} {σ σ' : List (Addr × MO)} {A : Around} {E : Value → Shared → Prop}
private theorem op_is_none : Op2 prog w C mu A (compareOp .Is) .none .none (.bool true):=fun s x y O hx hy => by
 cases (show x = .none from hx)
 cases (show y = .none from hy)
 exact Pur.here O fun Q E k => PyProof.Rows.is_none_gen (k _ s.toks rfl)
private theorem op_is_lst {l : List PV} : Op2 prog w C mu A (compareOp .Is) (.lst l) .none (.bool false):=fun s x y O hx hy => by
 obtain ⟨a,vs,n,rfl,_⟩:=hx
 cases (show y = .none from hy)
 exact Pur.here O fun Q E k => PyProof.Rows.is_none_gen (k _ s.toks rfl)
private theorem q6w (hC : CfgOk P C) {L x dx : Addr} {l new : List (PySem.Str × PySem.Str)} {k : Int} {od : Obj} {Q : Value → Shared → Prop} (I : In C (L :: mu) (x :: dx :: [L]) (callEnv (q5h P) L q3q) ρ (sAcc x dx l od) s₀ s) (hx : x ∈ mu) (hd : dx ∈ mu) (hne : x ≠ dx) (hL : s₀.heap.get? L = none) (hod : AccD od k)
  (hself : ρ.lookup ⟨#[115,101,108,102]⟩ = some (.val (.ref x))) (hst : ρ.lookup ⟨#[115,116,97,114,116,118,97,108]⟩ = some (.lst (new.map pairPV))) (hsz : l.length + new.length ≤ 2048)
  (kk : ∀ v s',Ok C mu s' → Kp C [x,dx] s₀ s' → AccAt mu s'.heap x dx new 0 → Sim s'.heap mu .none v → Q v s') :
  wpAny (model prog w) A (execs ((w1r P).drop 1) (callEnv (q5h P) L q3q)) (fun fl s' => match fl with | .ret v => Q v s' | _ => Q .none s') (fun _ _ => False) s:=by
 have hdx : (dx == x) = false:=by simpa using Ne.symm hne
 have hxd : (x == dx) = false:=by simpa using hne
 refine q0a (w3u (new:=new.map pairPV) (lo:=none) (hi:=none) (q1p hC) I sAcc_x (sAcc_d hne) (.head _) (q0b hself rfl) (q0b hst rfl) part0 part0 (by rw [List.length_map,List.length_map];(with_reducible refine nad ?_;decide)) (fun s₃ I₃ => ?_))
 rw [pvSet_all] at I₃
 obtain ⟨hs,t,t',n,rfl⟩:=hod
 have hinst : SInst ((x,.seq (.ref cAcc) (some dx) (new.map pairPV)) :: sAcc x dx l (dictOf [⟨hs,.str sSize t,.int k t'⟩] n)) x dx cAcc (dictOf [⟨hs,.str sSize t,.int k t'⟩] n):=
  ⟨by rw [List.lookup_cons,hdx];exact sAcc_d hne,.inl ⟨new.map pairPV,by simp⟩⟩
 refine q0a (q3c (p:=.int 0) (q0o hC) I₃ q0k (q0b hself rfl) hinst (.tail _ (.head _)) (n_size hC) rfl (by simp) (fun v hs' t'' s₄ hv I₄ => ?_))
 obtain ⟨tv,rfl⟩:=hv
 refine wpAny_execs_nil ?_
 have hput : putL sSize hs' (.str sSize t'') (.int 0 tv) [⟨hs,.str sSize t,.int k t'⟩] = [⟨hs,.str sSize t,.int 0 tv⟩]:=by
  have : (Value.str sSize t).isStr sSize = true:=by show (sSize == sSize) = true;exact beq_self_eq_true _
  simp [putL,this]
 rw [show (⟨#[95,105,110,105,116,105,97,108,95,115,105,122,101]⟩ : PySem.Str) = sSize from rfl,hput] at I₄
 obtain ⟨h1,h2,h3⟩:=w3j (l:=new) (k:=0) I₄ hL hx hd hne (by simp [List.lookup_cons,hxd]) List.lookup_cons_self ⟨hs,t,tv,_,rfl⟩
 exact kk .none s₄ h1 h2 h3 rfl
private theorem acc_reset0 (hC : CfgOk P C) {n : Nat} {x dx : Addr} {l : List (PySem.Str × PySem.Str)} {k : Int} (r : Rm A (n + 1)) (O : Ok C mu s) (ha : AccAt mu s.heap x dx l k) (hsz : l.length ≤ 1024) :
  AccTo prog w C mu A (call (.ref q3q) [.ref x]) x dx [] 0 .none s:=by
 intro Q E kk
 refine q1f (ρc:=[]) (vs:=[.ref x,.none]) (names:=[⟨#[115,101,108,102]⟩,⟨#[115,116,97,114,116,118,97,108]⟩]) (ps:=[.val (.ref x),.none]) ((q4j hC).at O) r O ⟨_,_,rfl,rfl,_,_,rfl,rfl,rfl⟩ (binds_K (T:=w0a) O.K rfl (w1k hC) rfl rfl rfl) rfl Clo.nil rfl rfl fun L s₁ hL I r' hk => ?_
 rw [List.append_nil] at I
 obtain ⟨od,hod,I₁⟩:=ha.tellW I hL rfl (fun c hc => nomatch hc) hk
 refine q0a (st_IfT I₁ (q0g (q0b rfl rfl) w2f op_is_none) fun s₂ I₂ => ?_)
 refine q0a (q0h (p:=.lst []) I₂ (by walk_at "sto") (by repeat' walk_at "pe") (fun s₃ I₃ => ?_))
 exact wpAny_execs_nil (q6w (new:=[]) hC I₃ ha.hx ha.hd ha.ne hL hod rfl rfl (by simp;(with_reducible refine nad ?_;decide)) kk)
private theorem acc_resetL (hC : CfgOk P C) {n : Nat} {x dx : Addr} {l new : List (PySem.Str × PySem.Str)} {k : Int} {vs : List Value} (r : Rm A (n + 1)) (O : Ok C mu s) (ha : AccAt mu s.heap x dx l k) (hy : Sims s.heap mu [.lst (new.map pairPV)] vs) (hsz : l.length + new.length ≤ 2048) :
  AccTo prog w C mu A (call (.ref q3q) (.ref x :: vs)) x dx new 0 .none s:=by
 intro Q E kk
 have hlen:=hy.length
 obtain ⟨v₁,rfl⟩ : ∃ v₁,vs = [v₁]:=by
  exact len1 hlen
 refine q1f (ρc:=[]) (vs:=[.ref x,v₁]) (names:=[⟨#[115,101,108,102]⟩,⟨#[115,116,97,114,116,118,97,108]⟩]) (ps:=[.val (.ref x),.lst (new.map pairPV)]) ((q4j hC).at O) r O ⟨_,_,rfl,rfl,hy⟩ (binds_K (T:=w0a) O.K rfl (w1k hC) rfl rfl rfl) rfl Clo.nil rfl rfl fun L s₁ hL I r' hk => ?_
 rw [List.append_nil] at I
 obtain ⟨od,hod,I₁⟩:=ha.tellW I hL rfl (fun c hc => nomatch hc) hk
 refine q0a (st_IfN I₁ (q0g (q0b rfl rfl) w2f op_is_lst) fun s₂ I₂ => ?_)
 exact q6w hC I₂ ha.hx ha.hd ha.ne hL hod rfl rfl hsz kk
end
end
section
open PySem PySem.W PySem.Calls PyProof.Rows
variable {prog : Program} {w : World}
section
variable {C : Cfg} {mu mu' nu : List Addr} {s₀ s s' : Shared} {env cenv : Env} {ρ : List (PySem.Str × PV)} {σ σ' : List (Addr × MO)} {A : Around} {E : Value → Shared → Prop} {K : Frag} {x dx Cl : Addr} {od : Obj} {cd : ClassData} {l : List PV}
private theorem and_t {e1 e2 : Expr} {pos : Pos} {Q : Value → Shared → Prop} (h : wpAny (model prog w) A (eval e1 env) (fun v s₁ => v = .bool true ∧ wpAny (model prog w) A (eval e2 env) Q E s₁) E s) : wpAny (model prog w) A (eval (.BoolOp .And [e1,e2] pos) env) Q E s:=
 BoolOp_and (wpAny_mono h (fun v s₁ hv => by obtain ⟨rfl,h2⟩:=hv;exact wpAny_truthy_bool (by simp only [if_true];exact BoolOp_one h2)) fun _ _ e => e)
private theorem and_f {e1 e2 : Expr} {pos : Pos} {Q : Value → Shared → Prop} (h : wpAny (model prog w) A (eval e1 env) (fun v s₁ => v = .bool false ∧ Q v s₁) E s) : wpAny (model prog w) A (eval (.BoolOp .And [e1,e2] pos) env) Q E s:=
 BoolOp_and (wpAny_mono h (fun v s₁ hv => by obtain ⟨rfl,h2⟩:=hv;exact wpAny_truthy_bool (by simp only [Bool.false_eq_true,if_false];exact h2)) fun _ _ e => e)
private theorem or_f {e1 e2 : Expr} {pos : Pos} {Q : Value → Shared → Prop} (h : wpAny (model prog w) A (eval e1 env) (fun v s₁ => v = .bool false ∧ wpAny (model prog w) A (eval e2 env) Q E s₁) E s) : wpAny (model prog w) A (eval (.BoolOp .Or [e1,e2] pos) env) Q E s:=
 BoolOp_or (wpAny_mono h (fun v s₁ hv => by obtain ⟨rfl,h2⟩:=hv;exact wpAny_truthy_bool (by simp only [Bool.false_eq_true,if_false];exact BoolOp_one h2)) fun _ _ e => e)
private theorem or_t {e1 e2 : Expr} {pos : Pos} {Q : Value → Shared → Prop} (h : wpAny (model prog w) A (eval e1 env) (fun v s₁ => v = .bool true ∧ Q v s₁) E s) : wpAny (model prog w) A (eval (.BoolOp .Or [e1,e2] pos) env) Q E s:=
 BoolOp_or (wpAny_mono h (fun v s₁ hv => by obtain ⟨rfl,h2⟩:=hv;exact wpAny_truthy_bool (by simp only [if_true];exact h2)) fun _ _ e => e)
private theorem pur_And2 {e1 e2 : Expr} {pos : Pos} {b c : Bool} (h1 : PurE prog w C mu A env ρ σ e1 (.bool b)) (h2 : b = true → PurE prog w C mu A env ρ σ e2 (.bool c)) : PurE prog w C mu A env ρ σ (.BoolOp .And [e1,e2] pos) (.bool (b && c)):=fun s O a Q E k => by
 cases b with
 | false => exact and_f (h1 s O a _ _ fun v s₁ O₁ k₁ y₁ => ⟨y₁,k v s₁ O₁ k₁ y₁⟩)
 | true => exact and_t (h1 s O a _ _ fun v s₁ O₁ k₁ y₁ => ⟨y₁,h2 rfl s₁ O₁ (a.kp O k₁) _ _ fun v s' O' k' y' => k v s' O' (k₁.trans k') y'⟩)
private theorem pur_Or2 {e1 e2 : Expr} {pos : Pos} {b c : Bool} (h1 : PurE prog w C mu A env ρ σ e1 (.bool b)) (h2 : b = false → PurE prog w C mu A env ρ σ e2 (.bool c)) : PurE prog w C mu A env ρ σ (.BoolOp .Or [e1,e2] pos) (.bool (b || c)):=fun s O a Q E k => by
 cases b with
 | true => exact or_t (h1 s O a _ _ fun v s₁ O₁ k₁ y₁ => ⟨y₁,k v s₁ O₁ k₁ y₁⟩)
 | false => exact or_f (h1 s O a _ _ fun v s₁ O₁ k₁ y₁ => ⟨y₁,h2 rfl s₁ O₁ (a.kp O k₁) _ _ fun v s' O' k' y' => k v s' O' (k₁.trans k') y'⟩)
private theorem q4s {y : PySem.Str} {name : PySem.Str} (hn : name = PySem.Str.ofString "isspace") : Meth prog w C mu A (.str y) name "str.isspace":=fun pl s v Q E O ⟨t,hv⟩ k => by
 subst hv hn
 exact GM.isspace k
private theorem q7f {y : PySem.Str} : Op1 prog w C mu A (fun v => call (.builtin "str.isspace") [v]) (.str y) (.bool (PySem.Txt.isspace y)):=fun s v O ⟨t,hv⟩ => by
 subst hv
 exact Pur.here O fun Q E k => SC.isspace (k _ s.toks rfl)
private theorem pur_lenI {y : PySem.Str} {px pos : Pos} {e : Expr} {f : Addr} {n : Nat} (hf : PurE prog w C mu A env ρ σ (.Name y px) (.val (.builtin "len"))) (ho : PurE prog w C mu A env ρ σ e (.val (.ref x))) (hi : SInst σ x dx Cl od) (hm : findIn C.K (.ref Cl) "__len__" = some (some (.ref f))) (ht : typeIn C.K (.ref f) = some (.type "function")) (hn : n < 2 ^ 60)
  (h : ∀ s,Ok C mu s → Act env mu s.heap ρ σ → Pur prog w C mu A.in1 (call (.ref f) [.ref x]) (.int n) s) (he : autoParam (∀ env,starEach [e] env = (false,eval e env) :: starEach [] env) tR) (hplain : autoParam ((backTo pos (starEach [] env)).any (·.1) = false) tR) :
  PurE prog w C mu A env ρ σ (.Call (.Name y px) [e] [] pos) (.int n):=
 w0v (v:=.none) hf (q0c ho q0d he) (fun s vs O a hy => by
  obtain ⟨v,r,rfl,y,hr⟩:=hy
  cases (show r = [] from hr)
  cases (show v = .ref x from y)
  obtain ⟨ox,I,_⟩:=hi.at a
  intro Q E k
  refine inst_len O.K I hm ht (h s O a _ _ fun v s' O' k' y' => ?_)
  obtain ⟨t,rfl⟩:=y'
  exact ⟨n,t,rfl,hn,k _ _ O'.tok (k'.trans ⟨fun _ _ _ _ e => e⟩) ⟨_,rfl⟩⟩) he hplain
private theorem pur_strI {y : PySem.Str} {px pos : Pos} {e : Expr} {f : Addr} {z : PySem.Str} {n : Nat} (r : Rm A (n + 3)) (hf : PurE prog w C mu A env ρ σ (.Name y px) (.val (.type "str"))) (ho : PurE prog w C mu A env ρ σ e (.val (.ref x))) (hi : SInst σ x dx Cl od) (hm : findIn C.K (.ref Cl) "__str__" = some (some (.ref f))) (ht : isFn C.K (.ref f) = true)
  (h : ∀ s,Ok C mu s → Act env mu s.heap ρ σ → Pur prog w C mu A.in1.in1 (call (.ref f) [.ref x]) (.str z) s) (he : autoParam (∀ env,starEach [e] env = (false,eval e env) :: starEach [] env) tR) (hplain : autoParam ((backTo pos (starEach [] env)).any (·.1) = false) tR) :
  PurE prog w C mu A env ρ σ (.Call (.Name y px) [e] [] pos) (.str z):=fun s O a Q E k =>
 q4c O a hf (q0c ho q0d he) (fun vs s₁ O₁ k₁ hy => by
  obtain ⟨v,rr,rfl,y,hr⟩:=hy
  cases (show rr = [] from hr)
  cases (show v = .ref x from y)
  have a₁:=a.kp O k₁
  obtain ⟨ox,I,_⟩:=hi.at a₁
  refine kso_call (r.in1.in1).cu O₁.K I hm ht (h s₁ O₁ a₁ _ _ fun v s' O' k' y' => ?_)
  obtain ⟨t,rfl⟩:=y'
  exact k _ s' O' (k₁.trans k') ⟨t,rfl⟩) he hplain
private theorem pur_notI {pos : Pos} {e : Expr} {f : Addr} {n : Nat} (ho : PurE prog w C mu A env ρ σ e (.val (.ref x))) (hi : SInst σ x dx Cl od) (hb : findIn C.K (.ref Cl) "__bool__" = some none) (hm : findIn C.K (.ref Cl) "__len__" = some (some (.ref f))) (ht : typeIn C.K (.ref f) = some (.type "function")) (hn : n < 2 ^ 60)
  (h : ∀ s,Ok C mu s → Act env mu s.heap ρ σ → Pur prog w C mu A.in1 (call (.ref f) [.ref x]) (.int n) s) : PurE prog w C mu A env ρ σ (.UnaryOp .Not e pos) (.bool (!((n : Int) != 0))):=fun s O a Q E k => by
 show wpAny _ _ (do let v ← eval e env;standAt pos;holding [v] (unaryOp .Not v)) _ _ _
 refine wpAny_bind (ho s O a _ _ fun v s₁ O₁ k₁ y₁ => wpAny_bind (wpAny_standAt (wpAny_holding ?_)))
 cases (show v = .ref x from y₁)
 have a₁:=a.kp O k₁
 obtain ⟨ox,I,_⟩:=hi.at a₁
 unfold unaryOp
 refine wpAny_holding ?_
 show wpAny _ _ (truthy (.ref x) >>= fun b => pure (Value.bool (!b))) _ _ _
 refine wpAny_bind (w6m O₁.K I hb hm ht (h s₁ O₁ a₁ _ _ fun v s' O' k' y' => ?_))
 obtain ⟨t,rfl⟩:=y'
 exact ⟨n,t,rfl,hn,wpAny_pure (k _ _ O'.tok ((k₁.trans k').trans ⟨fun _ _ _ _ e => e⟩) rfl)⟩
end
end
section
open PySem PySem.W PySem.Calls PyProof.Rows
variable {prog : Program} {w : World}
section
variable {C : Cfg} {mu mu' nu : List Addr} {s₀ s s' : Shared} {env cenv : Env} {ρ : List (PySem.Str × PV)} {σ σ' : List (Addr × MO)} {A : Around} {E : Value → Shared → Prop} {K : Frag} {x dx Cl : Addr} {od : Obj} {cd : ClassData} {l : List PV}
private theorem star_tup {v : Value} {ps : List PV} {Q : List Value → Shared → Prop} (O : Ok C mu s) (y : Sim s.heap mu (.tup ps) v) (hz : ps.length ≤ 2 ^ 20) (h : ∀ s' vs,Ok C mu s' → Kp C [] s s' → Sims s'.heap mu ps vs → Q vs s') : StarOf (model prog w) A E v Q s:=by
 obtain ⟨a,vs,n,rfl,ha,ho,hv⟩:=y
 have hS : sizeLine = 2 ^ 24:=by decide +kernel
 have hT' : s.TypeIs (.ref a) "tuple":=⟨_,ho,rfl⟩
 have z : wpAny (model prog w) A (collect (.ref a)) Q E s:=by
  refine wpAny_collect_seq a (.inr rfl) ho rfl rfl (fun h' hk => ?_) (by rw [List.size_toArray,hv.length];(with_reducible refine nad ?_;decide))
  rw [List.toList_toArray]
  exact h { s with heap:=h' } vs (O.keep (tk:=s.toks) hk) (Kp.of_keep (tk:=s.toks) hk) (hv.keeps (fun _ _ z _ => z) fun b o _ _ e => hk b o e)
 unfold StarOf notIterableAtAll
 exact wpAny_bind (wpAny_specialOf hT' PySem.F.slot_tuple_iter.lookup (wpAny_pure ⟨rfl,z⟩))
private theorem op_ne_pair {a b c d : PySem.Str} (hu : A.units < cLine) : Op2 prog w C mu A (compareOp .NotEq) (.tup [.str a,.str b]) (.tup [.str c,.str d]) (.bool (!((a == c) && (b == d)))):=fun s u v O hx hy => by
 obtain ⟨a1,vs,n,rfl,_,ho,v₁,r,rfl,⟨t1,rfl⟩,v₂,r₂,rfl,⟨t2,rfl⟩,hr⟩:=hx
 cases (show r₂ = [] from hr)
 obtain ⟨a2,vs,m,rfl,_,ho2,v₁,r,rfl,⟨u1,rfl⟩,v₂,r₂,rfl,⟨u2,rfl⟩,hr⟩:=hy
 cases (show r₂ = [] from hr)
 refine Pur.here O fun Q E k => ?_
 have e:=SeqAt.RcNeAt.tuples (s:=s) (A:=A) (e:=fun j => if j = 0 then a == c else b == d) (⟨_,ho,rfl,n,rfl⟩ : s.heap.IsTuple a1 #[.str a t1,.str b t2]) (⟨_,ho2,rfl,m,rfl⟩ : s.heap.IsTuple a2 #[.str c u1,.str d u2]) hu (fun j h1 h2 => by
  match j,h1 with
  | 0,_ => exact SeqAt.EqAt.str_str _ _ _ _
  | 1,_ => exact SeqAt.EqAt.str_str _ _ _ _)
 refine e prog w E Q ?_
 have e2 : (!((List.range (min 2 2)).all (fun j => if j = 0 then a == c else b == d) && (2 == 2))) = !((a == c) && (b == d)):=by simp [List.range,List.range.loop]
 exact e2 ▸ k _ s.toks rfl
end
end
section
set_option tactic.hygienic true
open PySem PySem.W PySem.Calls PyProof.Rows
set_option maxHeartbeats 2000000
variable {prog : Program} {w : World} {P : Params} {C : Cfg}
inductive FmtD (od : Obj) (W : Int) (c : Nat) (ln x : Addr) : Prop
 | mk (h1 : Int) (t1 u1 : Nat) (h2 : Int) (t2 u2 : Nat) (h3 : Int) (t3 u3 : Nat) (h4 : Int) (t4 u4 : Nat) (h5 : Int) (t5 : Nat) (h6 : Int) (t6 n : Nat) (e : od = dictOf [⟨h1,.str "_maxlen" t1,.int W u1⟩,⟨h2,.str "_continuation_ws" t2,.str ⟨#[32]⟩ u2⟩,⟨h3,.str "_continuation_ws_len" t3,.int 1 u3⟩,⟨h4,.str "_splitchars" t4,.str ⟨#[c]⟩ u4⟩,⟨h5,.str "_lines" t5,.ref ln⟩,⟨h6,.str "_current_line" t6,.ref x⟩] n) : FmtD od W c ln x
structure FA where
 f : Addr
 df : Addr
 ln : Addr
 x : Addr
 dx : Addr
noncomputable abbrev FA.all (a : FA) : List Addr:=[a.f,a.df,a.ln,a.x,a.dx]
noncomputable abbrev FA.wr (a : FA) : List Addr:=[a.ln,a.x,a.dx]
structure FmtAt (mu : List Addr) (h : Heap) (a : FA) (W : Int) (c : Nat) (lines : List PySem.Str) (l : List (PySem.Str × PySem.Str)) (k : Int) : Prop where
 mem : ∀ b ∈ a.all,b ∈ mu
 nd : a.all.Nodup
 inst : h.get? a.f = some (instObj cFmt a.df)
 dict : ∃ od,FmtD od W c a.ln a.x ∧ h.get? a.df = some od
 lns : MOAt mu h a.ln (Mlst (lines.map .str))
 acc : AccAt mu h a.x a.dx l k
noncomputable abbrev sFmt (a : FA) (od : Obj) (lines : List PySem.Str) (l : List (PySem.Str × PySem.Str)) (od2 : Obj) : List (Addr × MO):=
 [(a.f,.raw (instObj cFmt a.df)),(a.df,.raw od),(a.ln,Mlst (lines.map .str)),(a.x,.seq (.ref cAcc) (some a.dx) (l.map pairPV)),(a.dx,.raw od2)]
section
variable {mu mu' nu : List Addr} {s₀ s s' : Shared} {env : Env} {ρ : List (PySem.Str × PV)} {σ σ' : List (Addr × MO)} {A : Around} {E : Value → Shared → Prop} {a : FA} {od od2 : Obj} {lines : List PySem.Str} {l : List (PySem.Str × PySem.Str)} {W k : Int} {c : Nat}
private theorem FA.ne (nd : a.all.Nodup) : (a.f ≠ a.df ∧ a.f ≠ a.ln ∧ a.f ≠ a.x ∧ a.f ≠ a.dx) ∧ (a.df ≠ a.ln ∧ a.df ≠ a.x ∧ a.df ≠ a.dx) ∧ (a.ln ≠ a.x ∧ a.ln ≠ a.dx) ∧ a.x ≠ a.dx:=by
 have:=nd
 simp only [FA.all,List.nodup_cons,List.mem_cons,List.not_mem_nil,or_false,not_or,List.nodup_nil,and_true] at this
 obtain ⟨⟨h1,h2,h3,h4⟩,⟨h5,h6,h7⟩,⟨h8,h9⟩,h10,_⟩:=this
 exact ⟨⟨h1,h2,h3,h4⟩,⟨h5,h6,h7⟩,⟨h8,h9⟩,h10⟩
private theorem beqF {a b : Addr} (h : a ≠ b) : (b == a) = false:=by simpa using Ne.symm h
private theorem sF_f : (sFmt a od lines l od2).lookup a.f = some (.raw (instObj cFmt a.df)):=by simp
private theorem sF_df (nd : a.all.Nodup) : (sFmt a od lines l od2).lookup a.df = some (.raw od):=by
 obtain ⟨⟨h1,h2,h3,h4⟩,⟨h5,h6,h7⟩,⟨h8,h9⟩,h10⟩:=FA.ne nd
 simp [List.lookup_cons,beqF h1]
private theorem sF_ln (nd : a.all.Nodup) : (sFmt a od lines l od2).lookup a.ln = some (Mlst (lines.map .str)):=by
 obtain ⟨⟨h1,h2,h3,h4⟩,⟨h5,h6,h7⟩,⟨h8,h9⟩,h10⟩:=FA.ne nd
 simp [List.lookup_cons,beqF h2,beqF h5]
private theorem sF_x (nd : a.all.Nodup) : (sFmt a od lines l od2).lookup a.x = some (.seq (.ref cAcc) (some a.dx) (l.map pairPV)):=by
 obtain ⟨⟨h1,h2,h3,h4⟩,⟨h5,h6,h7⟩,⟨h8,h9⟩,h10⟩:=FA.ne nd
 simp [List.lookup_cons,beqF h3,beqF h6,beqF h8]
private theorem sF_dx (nd : a.all.Nodup) : (sFmt a od lines l od2).lookup a.dx = some (.raw od2):=by
 obtain ⟨⟨h1,h2,h3,h4⟩,⟨h5,h6,h7⟩,⟨h8,h9⟩,h10⟩:=FA.ne nd
 simp [List.lookup_cons,beqF h4,beqF h7,beqF h9,beqF h10]
private theorem q4d (nd : a.all.Nodup) : SInst (sFmt a od lines l od2) a.f a.df cFmt od:=⟨sF_df nd,.inr sF_f⟩
private theorem sF_acc (nd : a.all.Nodup) : SInst (sFmt a od lines l od2) a.x a.dx cAcc od2:=⟨sF_dx nd,.inl ⟨_,sF_x nd⟩⟩
private theorem FmtAt.ofIn {L : Addr} (I : In C (L :: mu) nu env ρ (sFmt a od lines l od2) s₀ s) (hm : ∀ b ∈ a.all,b ∈ mu) (nd : a.all.Nodup) (hd : FmtD od W c a.ln a.x) (hk : AccD od2 k) : FmtAt mu s.heap a W c lines l k:=by
 obtain ⟨h1,h2⟩:=FA.ne nd
 refine ⟨hm,nd,(I.act.st _ _ sF_f).2.2,⟨od,hd,(I.act.st _ _ (sF_df nd)).2.2⟩,(I.act.st _ _ (sF_ln nd)).2.2.keeps (fun _ e => e) (fun _ _ h _ q => h (.tail _ q)) fun _ _ _ _ e => e,
  hm _ (by simp),hm _ (by simp),h2.2.2,(I.act.st _ _ (sF_x nd)).2.2.keeps (fun _ e => e) (fun _ _ h _ q => h (.tail _ q)) fun _ _ _ _ e => e,od2,hk,(I.act.st _ _ (sF_dx nd)).2.2⟩
private theorem q1o (I : Act env mu s.heap ρ (sFmt a od lines l od2)) (nd : a.all.Nodup) (hk : AccD od2 k) : AccAt mu s.heap a.x a.dx l k:=AccAt.ofAct I (sF_x nd) (sF_dx nd) (FA.ne nd).2.2.2 hk
private theorem q4v {l' : List (PySem.Str × PySem.Str)} {k' : Int} (I : In C mu nu env ρ (sFmt a od lines l od2) s₀ s) (nd : a.all.Nodup) (hnu : ∀ b ∈ a.wr,b ∈ nu) (O' : Ok C mu s') (kp : Kp C [a.x,a.dx] s s') (ha : AccAt mu s'.heap a.x a.dx l' k') :
  ∃ od2',AccD od2' k' ∧ In C mu nu env ρ (sFmt a od lines l' od2') s₀ s':=by
 obtain ⟨⟨h1,h2,h3,h4⟩,⟨h5,h6,h7⟩,⟨h8,h9⟩,h10⟩:=FA.ne nd
 obtain ⟨od2',hk',hd'⟩:=ha.dict
 have hf:=I.act.st _ _ (sF_f (a:=a) (od:=od) (lines:=lines) (l:=l) (od2:=od2))
 have hdf:=I.act.st _ _ (sF_df (od:=od) (lines:=lines) (l:=l) (od2:=od2) nd)
 have hln:=I.act.st _ _ (sF_ln (od:=od) (lines:=lines) (l:=l) (od2:=od2) nd)
 have hx:=I.act.st _ _ (sF_x (od:=od) (lines:=lines) (l:=l) (od2:=od2) nd)
 have hdx:=I.act.st _ _ (sF_dx (od:=od) (lines:=lines) (l:=l) (od2:=od2) nd)
 have hds : ∀ b ∈ [a.x,a.dx],b ∈ nu ∧ b ∉ q0i env:=fun b hb => by
  rcases List.mem_cons.mp hb with e | hb
  ·rw [e];exact ⟨hnu _ (by simp),hx.2.1⟩
  ·simp at hb;rw [hb];exact ⟨hnu _ (by simp),hdx.2.1⟩
 have hdm : ∀ b ∈ [a.x,a.dx],b ∈ mu:=fun b hb => I.sub b (hds b hb).1
 refine ⟨od2',hk',I.change O' kp hds fun b m e => ?_⟩
 simp only [sFmt,List.lookup_cons,List.lookup_nil] at e
 split at e
 ·rename_i hb;cases e;rw [eq_of_beq hb];exact ⟨hf.1,hf.2.1,hf.2.2.kp I.ok kp hdm hf.1 (by simp [h3,h4])⟩
 ·split at e
  ·rename_i hb;cases e;rw [eq_of_beq hb];exact ⟨hdf.1,hdf.2.1,hdf.2.2.kp I.ok kp hdm hdf.1 (by simp [h6,h7])⟩
  ·split at e
   ·rename_i hb;cases e;rw [eq_of_beq hb];exact ⟨hln.1,hln.2.1,hln.2.2.kp I.ok kp hdm hln.1 (by simp [h8,h9])⟩
   ·split at e
    ·rename_i hb;cases e;rw [eq_of_beq hb];exact ⟨hx.1,hx.2.1,ha.at_⟩
    ·split at e
     ·rename_i hb;cases e;rw [eq_of_beq hb];exact ⟨hdx.1,hdx.2.1,hd'⟩
     ·cases e
private theorem w8d {t : PySem.Str} (I : In C mu nu env ρ ((a.ln,Mlst (lines.map .str ++ [.str t])) :: sFmt a od lines l od2) s₀ s) (nd : a.all.Nodup) : In C mu nu env ρ (sFmt a od (lines ++ [t]) l od2) s₀ s:=by
 obtain ⟨⟨h1,h2,h3,h4⟩,⟨h5,h6,h7⟩,⟨h8,h9⟩,h10⟩:=FA.ne nd
 refine I.forget (fun _ _ h => h) fun b m e => ?_
 by_cases hb : b = a.ln
 ·subst hb
  rw [sF_ln nd] at e
  cases e
  simp
 ·have hbl : (b == a.ln) = false:=by simpa using hb
  rw [List.lookup_cons,hbl]
  simp only [sFmt,List.lookup_cons,List.lookup_nil,hbl] at e ⊢
  exact e
private theorem FmtAt.tell {L : Addr} {s₁ : Shared} (h : FmtAt mu s.heap a W c lines l k) (I : In C (L :: mu) [L] env ρ [] s s₁) (hL : s.heap.get? L = none) (hloc : env.locals = L) (hcells : env.cells = []) (hk : ∀ b o,s.heap.get? b = some o → s₁.heap.get? b = some o) :
  ∃ od od2,FmtD od W c a.ln a.x ∧ AccD od2 k ∧ In C (L :: mu) [a.ln,a.x,a.dx,L] env ρ (sFmt a od lines l od2) s s₁:=by
 obtain ⟨od,hd,hdo⟩:=h.dict
 have hne:=FA.ne h.nd
 have own : ∀ b ∈ mu,(∃ o,s.heap.get? b = some o) → b ∉ q0i env:=fun b hb ⟨o,ho⟩ q => by
  rcases List.mem_cons.mp q with e | q
  ·rw [e,hloc,hL] at ho;cases ho
  ·rw [hcells] at q;simp at q
 obtain ⟨od2,hk2,Ia⟩:=h.acc.tellW I hL hloc (fun c hc => by rw [hcells] at hc;cases hc) hk
 have up : ∀ {b : Addr} {m : MO},MOAt mu s.heap b m → MOAt (L :: mu) s₁.heap b m:=fun x => x.keeps (fun o e => hk _ o e) (fun b o hb e q => by rcases List.mem_cons.mp q with q | q;(rw [q,hL] at e;cases e);exact hb q) fun b o _ _ e => hk b o e
 have hln0 : ∃ o,s.heap.get? a.ln = some o:=let ⟨_,_,e,_⟩:=h.lns;⟨_,e⟩
 have m:=h.mem
 have Il : In C (L :: mu) (a.ln :: a.x :: a.dx :: [L]) env ρ ((a.ln,Mlst (lines.map .str)) :: sAcc a.x a.dx l od2) s s₁:=Ia.know (.tail _ (m _ (by simp))) (own _ (m _ (by simp)) hln0) (up h.lns)
 have Id : In C (L :: mu) (a.ln :: a.x :: a.dx :: [L]) env ρ ((a.df,.raw od) :: (a.ln,Mlst (lines.map .str)) :: sAcc a.x a.dx l od2) s s₁:=Il.knowR (m:=.raw od) (.tail _ (m _ (by simp))) (own _ (m _ (by simp)) ⟨_,hdo⟩) (hk _ _ hdo)
 exact ⟨od,od2,hd,hk2,Id.knowR (m:=.raw (instObj cFmt a.df)) (.tail _ (m _ (by simp))) (own _ (m _ (by simp)) ⟨_,h.inst⟩) (hk _ _ h.inst)⟩
private theorem w6o {L : Addr} (I : In C (L :: mu) [a.ln,a.x,a.dx,L] env ρ (sFmt a od lines l od2) s s') (hL : s.heap.get? L = none) (hm : ∀ b ∈ a.all,b ∈ mu) (nd : a.all.Nodup) (hd : FmtD od W c a.ln a.x) (hk : AccD od2 k) :
  Ok C mu s' ∧ Kp C a.wr s s' ∧ FmtAt mu s'.heap a W c lines l k:=by
 refine ⟨I.ok.sub fun a h => .tail _ h,⟨fun b o hb ht e => I.kp.keep b o (fun q => ?_) ht e⟩,FmtAt.ofIn I hm nd hd hk⟩
 simp only [List.mem_cons,List.not_mem_nil,or_false] at q
 rcases q with q | q | q | q
 ·exact hb (by rw [q];simp)
 ·exact hb (by rw [q];simp)
 ·exact hb (by rw [q];simp)
 ·rw [q,hL] at e;cases e
noncomputable def FmtTo (prog : Program) (w : World) (C : Cfg) (mu : List Addr) (A : Around) (t : Sem Value) (a : FA) (W : Int) (c : Nat) (lines : List PySem.Str) (l : List (PySem.Str × PySem.Str)) (k : Int) (z : PV) (s : Shared) : Prop:=
 ∀ (Q : Value → Shared → Prop) (E : Value → Shared → Prop),(∀ v s',Ok C mu s' → Kp C a.wr s s' → FmtAt mu s'.heap a W c lines l k → Sim s'.heap mu z v → Q v s') → wpAny (model prog w) A t Q E s
end
end
section
open PySem PySem.W PySem.Calls PyProof.Rows
set_option maxHeartbeats 2000000
variable {prog : Program} {w : World} {P : Params} {C : Cfg}
noncomputable def accN (l : List (PySem.Str × PySem.Str)) (k : Int) : Nat:=(accLen l k).toNat
private theorem w7c {l : List (PySem.Str × PySem.Str)} {k : Int} (h : AccSz l k) : ((accN l k : Nat) : Int) = accLen l k:=by
 unfold accN;exact Int.toNat_of_nonneg h.nonneg.1
private theorem accN_lt {l : List (PySem.Str × PySem.Str)} {k : Int} (h : AccSz l k) : accN l k < 2 ^ 60:=by
 have h1:=w7c h
 have h2:=h.nonneg
 lia
noncomputable def onlyWs (l : List (PySem.Str × PySem.Str)) (k : Int) : Bool:=(k == 0) && (!(((accN l k : Nat) : Int) != 0) || PySem.Txt.isspace (accStr l))
noncomputable abbrev Short (l : List (PySem.Str × PySem.Str)) : Prop:=∀ p ∈ l,p.1.length ≤ 64 ∧ p.2.length ≤ 64
section
variable {mu mu' nu : List Addr} {s₀ s s' : Shared} {env : Env} {ρ : List (PySem.Str × PV)} {σ σ' : List (Addr × MO)} {A : Around} {E : Value → Shared → Prop} {a : FA} {od od2 : Obj} {lines : List PySem.Str} {l : List (PySem.Str × PySem.Str)} {W k : Int} {c : Nat}
private theorem isFn_str (hC : CfgOk P C) : isFn C.K (.ref w0i) = true:=by unfold isFn;rw [t_a_str hC];decide
private theorem q5b (hC : CfgOk P C) {n : Nat} {x dx : Addr} {y : PySem.Str} {px pos : Pos} {e : Expr} (r : Rm A (n + 4)) (h1 : σ.lookup x = some (.seq (.ref cAcc) (some dx) (l.map pairPV))) (h2 : σ.lookup dx = some (.raw od)) (hne : x ≠ dx) (hk : AccD od k) (hz : AccSz l k)
  (hf : PurE prog w C mu A env ρ σ (.Name y px) (.val (.builtin "len"))) (ho : PurE prog w C mu A env ρ σ e (.val (.ref x))) (he : ∀ env,starEach [e] env = (false,eval e env) :: starEach [] env) :
  PurE prog w C mu A env ρ σ (.Call (.Name y px) [e] [] pos) (.int (accN l k)):=
 pur_lenI hf ho ⟨h2,.inl ⟨_,h1⟩⟩ (m_a_len hC) (t_a_len hC) (accN_lt hz) (fun s O a => by rw [w7c hz];exact acc_len hC r.in1 O (AccAt.ofAct a h1 h2 hne hk) hz) he
private theorem q7b (hC : CfgOk P C) {n : Nat} {x dx : Addr} {y : PySem.Str} {px pos : Pos} {e : Expr} (r : Rm A (n + 5)) (h1 : σ.lookup x = some (.seq (.ref cAcc) (some dx) (l.map pairPV))) (h2 : σ.lookup dx = some (.raw od)) (hne : x ≠ dx) (hk : AccD od k) (hz : AccSz l k) (hsh : Short l)
  (hf : PurE prog w C mu A env ρ σ (.Name y px) (.val (.type "str"))) (ho : PurE prog w C mu A env ρ σ e (.val (.ref x))) (he : ∀ env,starEach [e] env = (false,eval e env) :: starEach [] env) :
  PurE prog w C mu A env ρ σ (.Call (.Name y px) [e] [] pos) (.str (accStr l)):=
 pur_strI (n:=n + 2) r hf ho ⟨h2,.inl ⟨_,h1⟩⟩ (m_a_str hC) (isFn_str hC) (fun s O a => acc_str hC r.in1.in1 O (AccAt.ofAct a h1 h2 hne hk) hz hsh) he
private theorem acc_only (hC : CfgOk P C) {n : Nat} {x dx : Addr} (r : Rm A (n + 6)) (O : Ok C mu s) (ha : AccAt mu s.heap x dx l k) (hz : AccSz l k) (hsh : Short l) :
  Pur prog w C mu A (call (.ref q8k) [.ref x]) (.bool (onlyWs l k)) s:=by
 intro Q E kk
 refine q1f (ρc:=[]) (vs:=[.ref x]) (names:=[⟨#[115,101,108,102]⟩]) (ps:=[.val (.ref x)]) ((w1o hC).at O) r O ⟨_,_,rfl,rfl,rfl⟩ (BindsTo.of_eq rfl) rfl Clo.nil rfl rfl fun L s₁ hL I r' hk => ?_
 rw [List.append_nil] at I
 obtain ⟨od,hod,I₁⟩:=ha.tell I hL rfl (fun c hc => nomatch hc) hk
 have hod':=hod
 obtain ⟨hs,t,t',m,hodE⟩:=hod'
 refine q0a (q0n I₁ (pur_And2 (b:=k == 0) ?a fun _ => pur_Or2 (b:=!(((accN l k : Nat) : Int) != 0)) (c:=PySem.Txt.isspace (accStr l)) ?b fun _ => q6h ?c (q4s rfl) q7f) fun v s' I' y => ?d)
 case a => exact q4f (q3s (p:=.int k) (v:=.int k t') (q0o hC) (q0b rfl rfl) (q3z ha.ne) (n_size hC) (by rw [hodE];rfl) rfl (fun h mu => ⟨t',rfl⟩)) q0k op_eq
 case b => exact pur_notI (q0b rfl rfl) (q3z ha.ne) (n_bool hC) (m_a_len hC) (t_a_len hC) (accN_lt hz) (fun s O a => by rw [w7c hz];exact acc_len hC (n:=n + 1) r'.in1 O (AccAt.ofAct a sAcc_x (sAcc_d ha.ne) ha.ne hod) hz)
 case c => exact q7b (n:=n) hC r' sAcc_x (sAcc_d ha.ne) ha.ne hod hz hsh (q0f (q0e hC rfl) rfl rfl) (q0b rfl rfl) (fun _ => rfl)
 case d => exact kk v s' (I'.out hL).1 (I'.out hL).2 (y.sub fun a h => .tail _ h)
private theorem fd_cur (h : FmtD od W c a.ln a.x) : lookIn ⟨#[95,99,117,114,114,101,110,116,95,108,105,110,101]⟩ od = some (some (.ref a.x)):=by
 obtain ⟨h1,t1,u1,h2,t2,u2,h3,t3,u3,h4,t4,u4,h5,t5,h6,t6,n,rfl⟩:=h
 exact rfl
private theorem fd_lines (h : FmtD od W c a.ln a.x) : lookIn ⟨#[95,108,105,110,101,115]⟩ od = some (some (.ref a.ln)):=by
 obtain ⟨h1,t1,u1,h2,t2,u2,h3,t3,u3,h4,t4,u4,h5,t5,h6,t6,n,rfl⟩:=h
 exact rfl
private theorem fd_max (h : FmtD od W c a.ln a.x) : ∃ t,lookIn ⟨#[95,109,97,120,108,101,110]⟩ od = some (some (.int W t)):=by
 obtain ⟨h1,t1,u1,h2,t2,u2,h3,t3,u3,h4,t4,u4,h5,t5,h6,t6,n,rfl⟩:=h
 exact ⟨u1,rfl⟩
private theorem fd_split (h : FmtD od W c a.ln a.x) : ∃ t,lookIn ⟨#[95,115,112,108,105,116,99,104,97,114,115]⟩ od = some (some (.str ⟨#[c]⟩ t)):=by
 obtain ⟨h1,t1,u1,h2,t2,u2,h3,t3,u3,h4,t4,u4,h5,t5,h6,t6,n,rfl⟩:=h
 exact ⟨u4,rfl⟩
private theorem q0z (hC : CfgOk P C) {p1 p2 : Pos} (nd : a.all.Nodup) (hd : FmtD od W c a.ln a.x) (hs : ρ.lookup ⟨#[115,101,108,102]⟩ = some (.val (.ref a.f))) : PurE prog w C mu A env ρ (sFmt a od lines l od2) (.Attribute (.Name ⟨#[115,101,108,102]⟩ p1) ⟨#[95,99,117,114,114,101,110,116,95,108,105,110,101]⟩ p2) (.val (.ref a.x)):=
 q3s (q1r hC) (q0b hs rfl) (q4d nd) (q4l hC) (fd_cur hd) rfl (fun h mu => rfl)
private theorem q9a (hC : CfgOk P C) {p1 p2 : Pos} (nd : a.all.Nodup) (hd : FmtD od W c a.ln a.x) (hs : ρ.lookup ⟨#[115,101,108,102]⟩ = some (.val (.ref a.f))) : PurE prog w C mu A env ρ (sFmt a od lines l od2) (.Attribute (.Name ⟨#[115,101,108,102]⟩ p1) ⟨#[95,108,105,110,101,115]⟩ p2) (.val (.ref a.ln)):=
 q3s (q1r hC) (q0b hs rfl) (q4d nd) (w4f hC) (fd_lines hd) rfl (fun h mu => rfl)
end
end
section
open PySem PySem.W PySem.Calls PyProof.Rows
set_option maxHeartbeats 1000000
variable {prog : Program} {w : World}
section
variable {A : Around} {E : Value → Shared → Prop} {s : Shared} {K : Frag} {x Cl : Addr} {ox : Obj} {od : Option Obj}
private theorem findObj_fn {cd : ClassData} {o : Obj} {name : PySem.Str} {f : Addr} (hc : clsIn K Cl = some cd) (hd : cd.hasDict = true) (hf : findIn K (.ref Cl) name = some (some (.ref f))) (hg : specialIn K (.ref f) "__get__" = some (some (.builtin "function.__get__"))) (ht : takesIn K (.ref f) = some false) (hl : lookIn name o = some none)
  (hcp : copiedNames.contains name = false) : findObj K Cl (some o) name = some (.bind (.builtin "function.__get__") (.ref f)):=by
 refine Option.bind_eq_some_iff.mpr ⟨_,hc,Option.bind_eq_some_iff.mpr ⟨_,hf,Option.bind_eq_some_iff.mpr ⟨_,hg,Option.bind_eq_some_iff.mpr ⟨false,ht,?_⟩⟩⟩⟩
 exact Option.bind_eq_some_iff.mpr ⟨_,(if_pos hd).trans hl,by rw [hcp];rfl⟩
private theorem fn_get {f x : Addr} {tp : Value} {fo : Obj} {Q : Value → Shared → Prop} (hfo : s.heap.get? f = some fo) (hfc : fo.cls = .type "function") (h : Q (.ref s.heap.objs.size) { s with heap:=s.heap.push (methodObj (.ref f) (.ref x)) }) (htp : tp = .ref Cl) :
  wpAny (model prog w) A (call (.builtin "function.__get__") [.ref f,.ref x,tp]) Q E s:=by
 subst htp
 obtain ⟨hp,g,d,t,os⟩:=s
 refine wpAny_call_entry (rest:=[.ref x,.ref Cl]) PySem.F.ks_slot_function_get ⟨fo,hfo,hfc⟩ PySem.F.ks_entry_function_get ?_ (PySem.F.ks_getArgs_function _ _ _)
 unfold Builtin.«function.__get__»
 repeat wp_step
 all_goals exact ⟨_,rfl,h⟩
private theorem attr_bound {cd : ClassData} {o : Obj} {name : PySem.Str} {f : Addr} {expr : Bool} {Q : Value → Shared → Prop} (X : K.In s.heap) (I : InstAt s.heap x ox Cl (some o)) (hga : findIn K (.ref Cl) "__getattribute__" = some (some (.builtin "list.__getattribute__"))) (hm : mroIn K Cl (.type "list") = some true) (hgk : findIn K (.ref Cl) "__getattr__" = some none)
  (hc : clsIn K Cl = some cd) (hd : cd.hasDict = true) (hf : findIn K (.ref Cl) name = some (some (.ref f))) (hg : specialIn K (.ref f) "__get__" = some (some (.builtin "function.__get__"))) (ht : takesIn K (.ref f) = some false) (hty : typeIn K (.ref f) = some (.type "function")) (hl : lookIn name o = some none) (hcp : copiedNames.contains name = false)
  (h : Q (.ref s.heap.objs.size) { s with heap:=s.heap.push (methodObj (.ref f) (.ref x)),toks:=s.toks + 1 }) : wpAny (model prog w) A (getAttr (.ref x) name expr) Q E s:=by
 obtain ⟨hp,g,d,t,os⟩:=s
 obtain ⟨fo,hfo,hfc⟩ : ∃ fo,hp.get? f = some fo ∧ fo.cls = .type "function":=by
  have h' : (K.lookup f).map (·.cls) = some (.type "function"):=hty
  cases z : K.lookup f with
  | none => rw [z] at h';cases h'
  | some fo => rw [z] at h';exact ⟨fo,X _ _ z,Option.some.inj h'⟩
 have L0:=I.type (M:=model prog w)
 have L1:=looks_findIn (M:=model prog w) X hga
 have L2:=looks_findIn (M:=model prog w) X hgk
 have L3:=looks_find (M:=model prog w) X I (findObj_fn hc hd hf hg ht hl hcp)
 have hi : Looks (model prog w) hp (isInstance (.ref x) (.type "list")) true:=I.type.andThen (looks_mroIn X hm)
 have run : wpAny (model prog w) A (call (.builtin "list.__getattribute__") [.ref x,.str name t]) (fun v' s' => v' = .ref hp.objs.size ∧ s' = ⟨hp.push (methodObj (.ref f) (.ref x)),g,d,t + 1,os⟩) (fun _ _ => False) ⟨hp,g,d,t + 1,os⟩:=by
  refine wpAny_call (codeAny_call_builtin q8c.plain PySem.am_entry_list_getattribute (ck_lga hi ?_))
  have body : wpAny (model prog w) A.in1 (call (.builtin "function.__get__") [.ref f,.ref x,.ref Cl]) (fun v' s' => v' = .ref hp.objs.size ∧ s' = ⟨hp.push (methodObj (.ref f) (.ref x)),g,d,t + 1,os⟩) (fun _ _ => False) ⟨hp,g,d,t + 1,os⟩:=fn_get (s:=⟨hp,g,d,t + 1,os⟩) hfo hfc ⟨rfl,rfl⟩ rfl
  unfold Builtin.«object.__getattribute__»
  repeat (first | (with_reducible refine Looks.at L0 ?_) | (with_reducible refine Looks.at L3 ?_) | (refine wpAny_mono body ?_ ?_) | wp_step)
  ·rintro a s ⟨rfl,rfl⟩
   exact wpAny_pure ⟨rfl,rfl⟩
  ·exact fun _ _ e => e.elim
 unfold getAttr getAttrBy
 refine wpAny_bind (wpAny_mkText (wpAny_holding (wpAny_bind (L0.at (wpAny_bind (L1.at ?_))))))
 dsimp only
 rw [if_neg (by rw [show (Value.builtin "list.__getattribute__" == Value.builtin "object.__getattribute__") = false from by decide +kernel,Bool.and_false];exact Bool.false_ne_true)]
 unfold getAttrByItsOwn hookBefore callGetattribute boundAndCalled
 refine wpAny_bind (L2.at ?_)
 refine wpAny_bind (wpAny_attempt (wpAny_holding ?_))
 rw [if_neg (by show ¬ ((expr && onTheHeap (Value.builtin "list.__getattribute__")) = true);rw [show onTheHeap (Value.builtin "list.__getattribute__") = false from rfl,Bool.and_false];exact Bool.false_ne_true)]
 rw [q8c.bind]
 refine wpAny_bind (wpAny_pure ?_)
 show wpAny _ _ (call (.builtin "list.__getattribute__") [.ref x,.str name t]) _ _ _
 refine wpAny_mono run (fun v' s' hv => ?_) fun _ _ e => e.elim
 obtain ⟨rfl,rfl⟩:=hv
 exact wpAny_pure h
end
section
variable {C : Cfg} {mu mu' nu : List Addr} {s₀ s s' : Shared} {env cenv : Env} {ρ : List (PySem.Str × PV)} {σ σ' : List (Addr × MO)} {A : Around} {E : Value → Shared → Prop} {K : Frag} {x dx Cl : Addr} {od : Obj} {cd : ClassData} {l : List PV}
private theorem fn_code {f : Addr} {fd : FuncData} {body : List Stmt} {n : Nat} {names : List PySem.Str} {ps : List PV} {vs vs0 : List Value} {ρc : List (PySem.Str × PV)} {Q : Value → Shared → Prop} (D : DefAt s f fd body) (r : Rm A (n + 1)) (O : Ok C mu s)
  (hy : Sims s.heap mu ps vs) (hbind : BindsTo s fd ⟨vs0,[]⟩ (names.zip vs)) (hlen : names.length = ps.length) (hclo : Clo C mu s.heap fd.closure ρc fd.scope.names)
  (hloc : names.all (fun x => fd.scope.names.lookup x == some .local && okName x) = true) (hcell : fd.scope.names.all (fun x => x.2 != .cell) = true)
  (h : ∀ L s₁,s.heap.get? L = none → In C (L :: mu) [L] (callEnv fd L f) ((names.zip ps).reverse ++ ρc) [] s s₁ → Rm (A.deeper (callEnv fd L f)) n → (∀ b o,s.heap.get? b = some o → s₁.heap.get? b = some o) →
   wpAny (model prog w) (A.deeper (callEnv fd L f)) (execs body (callEnv fd L f)) (fun fl s' => match fl with | .ret v => Q v s' | _ => Q .none s') (fun _ _ => False) s₁) :
  codeAny (model prog w) A (.call (.ref f) ⟨vs0,[]⟩) (fun r s' => match r with | .ok (.ret v) => Q v s' | .ok _ => False | .error e => E e s') s:=by
 obtain ⟨o,hl,hd⟩:=D.look
 have hvl : vs.length = ps.length:=hy.length
 have hln : ∀ x ∈ names,fd.scope.names.lookup x = some .local ∧ okName x = true:=fun x hx => by
  have:=List.all_eq_true.mp hloc x hx
  rw [Bool.and_eq_true,beq_iff_eq] at this
  exact this
 refine codeAny_call_def (binds:=names.zip vs) r.room hl hd O.nolimit D.code D.body hbind (fun x hx => by simpa using List.all_eq_true.mp hcell x hx)
  (fun x hx => (hln x.1 (List.of_mem_zip hx).1).1) (fun h₀ hns hk => ?_) D.co D.gen D.kind
 have hnone:=Ok.size_none s
 have hL : ∃ o,h₀.get? s.heap.objs.size = some o:=let ⟨o,_,_,ho,_⟩:=hns;⟨o,ho⟩
 obtain ⟨oL,hoL⟩:=hL
 have O₁ : Ok C (s.heap.objs.size :: mu) { s with heap:=h₀,toks:=s.toks + (names.zip vs).length }:=O.fresh hnone hoL hk (O.fresh' hnone).1
 have hy₁ : Sims h₀ (s.heap.objs.size :: mu) ps vs:=(hy.new hnone).keeps (fun _ _ z _ => z) fun b o _ _ e => hk b o e
 have memρ : ∀ x p,(names.zip ps).reverse.lookup x = some p → x ∈ names:=fun x p e => (List.of_mem_zip (List.mem_reverse.mp (q0j e))).1
 have split : ∀ x p,((names.zip ps).reverse ++ ρc).lookup x = some p → (names.zip ps).reverse.lookup x = some p ∨ ρc.lookup x = some p:=fun x p e => by
  rw [List.lookup_append] at e
  cases hq : (names.zip ps).reverse.lookup x with
  | some q => rw [hq] at e;left;simpa using e
  | none => rw [hq] at e;right;simpa using e
 have hLmu : s.heap.objs.size ∉ mu:=(O.fresh' hnone).2
 refine wpAny_mono (h s.heap.objs.size _ hnone ⟨O₁,⟨fun _ _ e => (nomatch e),D.kind,D.gl,D.bi,.head _,⟨_,hns,fun x p e hlc => ?_⟩,fun x p e => ?_,fun x c hx hxl hc => ?_,fun x p e => ?_,hclo.inj⟩,
  Kp.of_keep hk,fun a h => by simp at h;subst h;exact .head _,fun x hx => (hclo.alive x hx).imp (.tail _) id⟩ (r.deeper _) hk) (fun fl s' hq => ?_) fun _ _ f => f.elim
 ·rcases split x p e with e | e
  ·exact q2a names ps vs hlen hy₁ x p e
  ·have h1:=(hclo.has x p e).1
   rw [show (callEnv fd s.heap.objs.size f).kindOf x = fd.scope.names.lookup x from rfl,h1] at hlc;cases hlc
 ·rcases split x p e with e | e
  ·exact .inl (hln x (memρ x p e)).1
  ·obtain ⟨h1,h2,h3⟩:=hclo.has x p e
   exact .inr ⟨.inr h1,h3⟩
 ·obtain ⟨h1,ov,h2,h3⟩:=hclo.cell x c hx hc
  refine ⟨.tail _ h1,fun q => hLmu (show s.heap.objs.size ∈ mu from (show (callEnv fd s.heap.objs.size f).locals ∈ mu from q ▸ h1)),ov,h2.keeps hk,fun p e => ?_⟩
  rcases split x p e with e | e
  ·exact absurd (hln x (memρ x p e)).1 hxl
  ·obtain ⟨v,e1,e2⟩:=h3 p e
   exact ⟨v,e1,(e2.new hnone).keeps (fun _ _ z _ => z) fun b o _ _ e => hk b o e⟩
 ·rcases split x p e with e | e
  ·exact q1i (hln x (memρ x p e)).2
  ·exact q1i (hclo.has x p e).2.1
 ·cases fl <;> exact hq
noncomputable def BoundAt (b f : Addr) (x : Addr) (fo : Obj) (h : Heap) : Prop:=h.get? b = some (methodObj (.ref f) (.ref x)) ∧ h.get? f = some fo
private theorem w5c {M : Model} {b f x : Addr} {fo : Obj} {fd : FuncData} (hfd : fo.data = .func fd) (h : Heap) (hb : BoundAt b f x fo h) : ∃ k,(k = Keeper.frame ∨ k = Keeper.machine ∨ k = Keeper.boundFrame) ∧ Looks M h (keeperOf (.ref b)) k:=by
 refine ⟨.boundFrame,.inr (.inr rfl),?_⟩
 intro A Q E s k q
 unfold keeperOf
 refine wpAny_bind (wpAny_loadPart (k _ _ hb.1) ?_)
 show wpAny _ _ (load f >>= fun o => pure (match o.data with | .func _ => Keeper.boundFrame | _ => Keeper.caller)) _ _ _
 refine wpAny_bind (wpAny_loadPart (k _ _ hb.2) ?_)
 rw [hfd]
 exact wpAny_pure q
private theorem w2y {o e : Expr} {name : PySem.Str} {apos pos p : Pos} {f : Addr} {fd : FuncData} {body : List Stmt} {ps : List PV} {few : Sem Pos} {Q : Value → Shared → Prop} (k : ClsOk C.K Cl cd) (hga : findIn C.K (.ref Cl) "__getattribute__" = some (some (.builtin "list.__getattribute__"))) (hm : mroIn C.K Cl (.type "list") = some true) (O : Ok C mu s) (a : Act env mu s.heap ρ σ) (ho : PurE prog w C mu A env ρ σ o (.val (.ref x))) (hi : SInst σ x dx Cl od)
  (hf : findIn C.K (.ref Cl) name = some (some (.ref f))) (hg : specialIn C.K (.ref f) "__get__" = some (some (.builtin "function.__get__"))) (htk : takesIn C.K (.ref f) = some false) (ht : typeIn C.K (.ref f) = some (.type "function")) (hsh : lookIn name od = some none) (hcp : copiedNames.contains name = false) (D : Def C f fd body) (he1 : PurE prog w C mu A env ρ σ e (.tup ps)) (hz : ps.length ≤ 2 ^ 20)
  (h : ∀ s₁ vs,Ok C mu s₁ → Kp C [] s s₁ → Sims s₁.heap mu ps vs → codeAny (model prog w) A (.call (.ref f) ⟨.ref x :: vs,[]⟩) (fun r s' => match r with | .ok (.ret v) => Q v s' | .ok _ => False | .error e => E e s') s₁)
  (he : autoParam (eval (.Call (.Attribute o name apos) [.Starred e p] [] pos) env = (do let ov ← eval o env;standAt apos.atName;let (f,first) ← holding [ov] (do pure (← getAttr ov name true,[]));let cp ← pure pos;callWith cp f first (backTo pos (starEach [.Starred e p] env)) [])) tR)
  (hs : autoParam (starEach [.Starred e p] env = [(true,eval e env)]) tR) : wpAny (model prog w) A (eval (.Call (.Attribute o name apos) [.Starred e p] [] pos) env) Q E s:=by
 rw [he]
 refine wpAny_bind (ho s O a _ _ fun v s₁ O₁ k₁ y₁ => wpAny_bind (wpAny_standAt (wpAny_bind (wpAny_holding (wpAny_bind ?_)))))
 cases (show v = .ref x from y₁)
 have a₁:=a.kp O k₁
 obtain ⟨ox,I,_⟩:=hi.at a₁
 obtain ⟨fo,hfo,hfd⟩:=(D.at O₁).look
 refine attr_bound O₁.K I hga hm k.gk k.hc k.dict hf hg htk ht hsh hcp ?_
 have O₂ : Ok C mu { s₁ with heap:=s₁.heap.push (methodObj (.ref f) (.ref x)),toks:=s₁.toks + 1 }:=O₁.push
 have kk : Kp C [] s₁ { s₁ with heap:=s₁.heap.push (methodObj (.ref f) (.ref x)),toks:=s₁.toks + 1 }:=Kp.of_keep fun b o e => Heap.get?_push_of_some _ e
 have a₂:=a₁.kp O₁ kk
 generalize hb : s₁.heap.objs.size = b
 have hbo : (s₁.heap.push (methodObj (.ref f) (.ref x))).get? b = some (methodObj (.ref f) (.ref x)):=hb ▸ Heap.get?_push_size _ rfl
 have hbn : s₁.heap.get? b = none:=hb ▸ Ok.size_none s₁
 have hbf:=O₁.fresh' hbn
 have hff:=O₁.fnNotTab hfo hfd
 refine wpAny_pure (wpAny_bind (wpAny_pure ?_))
 refine ks_call (P:=BoundAt b f x fo) (by rw [hs];rfl) (fun h hB => w5c hfd h hB) ?_
 rw [hs]
 refine ks_lone (he1 _ O₂ a₂ _ _ fun u s₃ O₃ k₃ y₃ => star_tup O₃ y₃ hz fun s₄ vs O₄ k₄ y₄ => ?_)
 have k4:=k₃.trans k₄
 refine ⟨⟨k4.keep _ _ (fun h => nomatch h) hbf.1 hbo,k4.keep _ _ (fun h => nomatch h) hff (Heap.get?_push_of_some _ hfo)⟩,?_⟩
 refine wpAny_call (ks_codeAny_call_bound (k4.keep _ _ (fun h => nomatch h) hbf.1 hbo) ?_)
 exact (h s₄ vs O₄ ((k₁.trans kk).trans k4) y₄)
end
end
section
open PySem PySem.W PySem.Calls PyProof.Rows
set_option maxHeartbeats 2000000
variable {prog : Program} {w : World} {P : Params} {C : Cfg}
noncomputable abbrev sBlank : PySem.Str:=⟨#[32]⟩
noncomputable abbrev sEmpty : PySem.Str:=⟨#[]⟩
noncomputable def nlOf (l : List (PySem.Str × PySem.Str)) : List (PySem.Str × PySem.Str):=if l = [] then [(sEmpty,sEmpty)] else l
noncomputable def q0x (lines : List PySem.Str) (l : List (PySem.Str × PySem.Str)) (k : Int) : List PySem.Str:=if 0 < ((accN (nlOf l) k : Nat) : Int) then lines ++ [accStr (nlOf l)] else lines
structure NlOk (l : List (PySem.Str × PySem.Str)) (k : Int) : Prop where
 last : ∀ p,l.getLast? = some p → ¬ (p.1 = sBlank ∧ p.2 = sEmpty)
 only : 0 < ((accN (nlOf l) k : Nat) : Int) → onlyWs (nlOf l) k = false
 size : AccSz l k
 short : Short l
private theorem nlOf_sz {l : List (PySem.Str × PySem.Str)} {k : Int} (h : NlOk l k) : AccSz (nlOf l) k ∧ Short (nlOf l):=by
 unfold nlOf
 split
 ·refine ⟨⟨by simp,fun p hp => ?_,h.size.k0,h.size.k1⟩,fun p hp => ?_⟩
  ·simp at hp;subst hp;decide
  ·simp at hp;subst hp;decide
 ·exact ⟨h.size,h.short⟩
section
variable {mu mu' nu : List Addr} {s₀ s s' : Shared} {env : Env} {ρ : List (PySem.Str × PV)} {σ σ' : List (Addr × MO)} {A : Around} {E : Value → Shared → Prop} {a : FA} {od od2 : Obj} {lines : List PySem.Str} {l : List (PySem.Str × PySem.Str)} {W k : Int} {c : Nat}
private theorem get_push (hC : CfgOk P C) : specialIn C.K (.ref q4k) "__get__" = some (some (.builtin "function.__get__")):=by rw [hC.K];kernel_rfl
private theorem take_push (hC : CfgOk P C) : takesIn C.K (.ref q4k) = some false:=by rw [hC.K];kernel_rfl
private theorem ga_acc (hC : CfgOk P C) : findIn C.K (.ref cAcc) "__getattribute__" = some (some (.builtin "list.__getattribute__")):=by rw [hC.K];kernel_rfl
private theorem acc_pushC (hC : CfgOk P C) {n : Nat} {x dx : Addr} {p q : PySem.Str} {vs : List Value} (r : Rm A (n + 1)) (O : Ok C mu s) (ha : AccAt mu s.heap x dx l k) (hy : Sims s.heap mu [.str p,.str q] vs) (hsz : l.length ≤ 1024) (Q : Value → Shared → Prop) (E : Value → Shared → Prop)
  (kk : ∀ v s',Ok C mu s' → Kp C [x,dx] s s' → AccAt mu s'.heap x dx (l ++ [(p,q)]) k → Sim s'.heap mu .none v → Q v s') : codeAny (model prog w) A (.call (.ref q4k) ⟨.ref x :: vs,[]⟩) (fun r s' => match r with | .ok (.ret v) => Q v s' | .ok _ => False | .error e => E e s') s:=by
 have hS : sizeLine = 2 ^ 24:=by decide +kernel
 have hlen:=hy.length
 obtain ⟨v₁,v₂,rfl⟩ : ∃ v₁ v₂,vs = [v₁,v₂]:=by
  exact len2 hlen
 refine fn_code (ρc:=[]) (names:=[⟨#[115,101,108,102]⟩,⟨#[102,119,115]⟩,⟨#[115,116,114,105,110,103]⟩]) (ps:=[.val (.ref x),.str p,.str q]) ((q3g hC).at O) r O ⟨_,_,rfl,rfl,hy⟩ (BindsTo.of_eq rfl) rfl Clo.nil rfl rfl fun L s₁ hL I r' hk => ?_
 rw [List.append_nil] at I
 obtain ⟨od,hod,I₁⟩:=ha.tellW I hL rfl (fun c hc => nomatch hc) hk
 refine q0a (q7r (p:=.tup [.str p,.str q]) (q0o hC) (q1p hC) I₁ sAcc_x (sAcc_d ha.ne) (.head _) (q0b rfl rfl) (by repeat' walk_at "pe") (w7x hod) (by rw [List.length_map];(with_reducible refine nad ?_;decide)) (fun s' I' => ?_) rfl)
 refine wpAny_execs_nil ?_
 obtain ⟨h1,h2,h3⟩:=w3j (l:=l ++ [(p,q)]) I' hL ha.hx ha.hd ha.ne (by simp) (by
  have : (dx == x) = false:=by simpa using Ne.symm ha.ne
  simp [List.lookup_cons,this]) hod
 exact kk .none s' h1 h2 h3 rfl
private theorem acc_popAny (hC : CfgOk P C) (hp : ProgOk prog) (h : NlOk l k) : ∃ l1 e,nlOf l = l1 ++ [e] ∧ ¬ (e.1 = sBlank ∧ e.2 = sEmpty) ∧
  ∀ (n : Nat) (A : Around) (mu : List Addr) (s : Shared) (x dx : Addr),Rm A (n + 2) → Ok C mu s → AccAt mu s.heap x dx l k → AccTo prog w C mu A (call (.ref q6c) [.ref x]) x dx l1 k (pairPV e) s:=by
 rcases List.eq_nil_or_concat l with e | ⟨l1,p,e⟩
 ·subst e
  exact ⟨[],(sEmpty,sEmpty),rfl,by intro q;exact absurd q.1 (by decide),fun n A mu s x dx r O ha => acc_pop0 hC hp r O ha⟩
 ·have e' : l = l1 ++ [p]:=by simpa using e
  subst e'
  have hl:=h.size.len
  refine ⟨l1,p,by unfold nlOf;rw [if_neg (by simp)],h.last p (by simp),fun n A mu s x dx r O ha => w8r hC hp r O ha (by simp at hl;(with_reducible refine nae ?_;decide))⟩
private theorem fmt_nl (hC : CfgOk P C) (hp : ProgOk prog) {n : Nat} (r : Rm A (n + 8)) (O : Ok C mu s) (ha : FmtAt mu s.heap a W c lines l k) (h : NlOk l k) (hln : lines.length ≤ 4096) :
  FmtTo prog w C mu A (call (.ref q1s) [.ref a.f]) a W c (q0x lines l k) [] 0 .none s:=by
 intro Q E kk
 have hS : sizeLine = 2 ^ 24:=by decide +kernel
 refine q1f (ρc:=[]) (vs:=[.ref a.f]) (names:=[⟨#[115,101,108,102]⟩]) (ps:=[.val (.ref a.f)]) ((q4i hC).at O) r O ⟨_,_,rfl,rfl,rfl⟩ (BindsTo.of_eq rfl) rfl Clo.nil rfl rfl fun L s₁ hL I r' hk => ?_
 rw [List.append_nil] at I
 obtain ⟨od,od2,hd,hk2,I₁⟩:=ha.tell I hL rfl rfl hk
 have nd:=ha.nd
 have hnu : ∀ b ∈ a.wr,b ∈ [a.ln,a.x,a.dx,L]:=fun b hb => by simp at hb ⊢;rcases hb with h | h | h <;> simp [h]
 obtain ⟨l1,e,hle,hne,hpop⟩:=acc_popAny (w:=w) hC hp h
 obtain ⟨hz',hsh'⟩:=nlOf_sz h
 -- end_of_line = self._current_line.pop()
 refine q0a (wpAny_Assign_Name (q2f (q0o hC) I₁.ok I₁.act (q0z hC nd hd rfl) (sF_acc nd) (m_a_pop hC) (t_a_pop hC) (q1c hk2 (by decide)) (q6u hC) (fun s₂ O₂ k₂ => ?_)) rfl)
 have I₂:=I₁.next O₂ k₂
 refine hpop (n + 5) _ _ s₂ _ _ r' O₂ (q1o I₂.act nd hk2) _ _ fun v s₃ O₃ k₃ ha₃ y₃ => ?_
 obtain ⟨od3,hk3,I₃⟩:=q4v I₂ nd hnu O₃ k₃ ha₃
 refine q2b (p:=pairPV e) I₃ (by walk_at "sto") y₃ fun s₄ I₄ _ => ?_
 -- if end_of_line != (' ',''): push
 have hcond : (!((e.1 == sBlank) && (e.2 == sEmpty))) = true:=by
  cases h1 : (e.1 == sBlank) <;> cases h2 : (e.2 == sEmpty) <;> simp
  exact hne ⟨eq_of_beq h1,eq_of_beq h2⟩
 refine q0a (st_IfT I₄ (hcond ▸ q0g (q0b rfl rfl) (show PurE _ _ _ _ _ _ _ _ _ (.tup [.str sBlank,.str sEmpty]) by repeat' walk_at "pe") (op_ne_pair r'.cu)) fun s₅ I₅ => ?_)
 have hlen1 : l1.length ≤ 1024:=by have:=hz'.len;rw [hle] at this;simp at this;(with_reducible refine nad ?_;decide)
 refine q0a (wpAny_Expr_any (w2y (few:=pure default) (ps:=[.str e.1,.str e.2]) (q0o hC) (ga_acc hC) (q1p hC).lst I₅.ok I₅.act (q0z hC nd hd rfl) (sF_acc nd) (q8f hC) (get_push hC) (take_push hC) (q8b hC) (q1c hk3 (by decide)) (by decide) (q3g hC) (q0b rfl rfl) (by show 2 ≤ 2 ^ 20;decide) (fun s₆ vs O₆ k₆ y₆ => ?_)) rfl rfl)
 have I₆:=I₅.next O₆ k₆
 refine acc_pushC hC (n:=n + 6) r' O₆ (q1o I₆.act nd hk3) y₆ hlen1 _ _ fun v s₇ O₇ k₇ ha₇ _ => ?_
 rw [show l1 ++ [(e.1,e.2)] = nlOf l from hle.symm] at ha₇
 obtain ⟨od4,hk4,I₇⟩:=q4v I₆ nd hnu O₇ k₇ ha₇
 refine wpAny_execs_nil ?_
 -- if len(self._current_line) > 0
 have hlnS : (lines.map PV.str).length ≤ sizeLine:=by rw [List.length_map];(with_reducible refine nad ?_;decide)
 have fin : ∀ (lines' : List PySem.Str) (s₈ : Shared),lines' = q0x lines l k → In C (L :: mu) [a.ln,a.x,a.dx,L] (callEnv (q2p P) L q1s) ((⟨#[101,110,100,95,111,102,95,108,105,110,101]⟩,pairPV e) :: [(⟨#[115,101,108,102]⟩,.val (.ref a.f))]) (sFmt a od lines' (nlOf l) od4) s s₈ →
   wpAny (model prog w) (A.deeper (callEnv (q2p P) L q1s)) (execs ((q7x P).drop 3) (callEnv (q2p P) L q1s)) (fun fl s' => match fl with | .ret v => Q v s' | _ => Q .none s') (fun _ _ => False) s₈:=fun lines' s₈ hl' I₈ => by
  refine q0a (wpAny_Expr_any (q2f (q0o hC) I₈.ok I₈.act (q0z hC nd hd rfl) (sF_acc nd) (w4i hC) (w3q hC) (q1c hk4 (by decide)) (q4j hC) (fun s₉ O₉ k₉ => ?_)) rfl rfl)
  have I₉:=I₈.next O₉ k₉
  refine acc_reset0 hC (n:=n + 6) r' O₉ (q1o I₉.act nd hk4) hz'.len _ _ fun v s₁₀ O₁₀ k₁₀ ha₁₀ _ => ?_
  obtain ⟨od5,hk5,I₁₀⟩:=q4v I₉ nd hnu O₁₀ k₁₀ ha₁₀
  refine wpAny_execs_nil ?_
  obtain ⟨h1,h2,h3⟩:=w6o I₁₀ hL ha.mem nd hd hk5
  rw [hl'] at h3
  exact kk .none s₁₀ h1 h2 h3 rfl
 by_cases hpos : 0 < ((accN (nlOf l) k : Nat) : Int)
 ·have hw:=h.only hpos
  refine q0a (st_IfT I₇ ((show decide ((0 : Int) < ((accN (nlOf l) k : Nat) : Int)) = true from decide_eq_true hpos) ▸ q0g (q5b (n:=n + 3) hC r' (sF_x nd) (sF_dx nd) (FA.ne nd).2.2.2 hk4 hz' (q0f (q0e hC rfl) rfl rfl) (q0z hC nd hd rfl) (fun _ => rfl)) q0k op_gt) fun s₈ I₈ => ?_)
  refine q0a (st_IfE I₈ ((show (false && false) = false from rfl) ▸ q2u (pos':=default) (q1h (w3y (z:=.bool false) (q0o hC) (q0z hC nd hd rfl) (sF_acc nd) (m_a_only hC) (t_a_only hC) (q1c hk4 (by decide)) (w1o hC) (fun s O a => hw ▸ acc_only hC (n:=n + 1) r' O (q1o a nd hk4) hz' hsh')) q3x) (fun h => by cases h)) fun s₉ I₉ => ?_)
  refine q0a (q8t I₉ (sF_ln nd) (.head _) (q9a hC nd hd rfl) (q0c (q7b (n:=n + 2) hC r' (sF_x nd) (sF_dx nd) (FA.ne nd).2.2.2 hk4 hz' hsh' (q0f (q0e hC rfl) rfl rfl) (q0z hC nd hd rfl) (fun _ => rfl)) q0d (fun _ => rfl)) hlnS (fun s₁₀ I₁₀ => ?_) rfl)
  refine wpAny_execs_nil (wpAny_execs_nil ?_)
  exact fin _ s₁₀ (by unfold q0x;rw [if_pos hpos]) (w8d I₁₀ nd)
 ·refine q0a (st_IfN I₇ ((show decide ((0 : Int) < ((accN (nlOf l) k : Nat) : Int)) = false from decide_eq_false hpos) ▸ q0g (q5b (n:=n + 3) hC r' (sF_x nd) (sF_dx nd) (FA.ne nd).2.2.2 hk4 hz' (q0f (q0e hC rfl) rfl rfl) (q0z hC nd hd rfl) (fun _ => rfl)) q0k op_gt) fun s₈ I₈ => ?_)
  exact fin _ s₈ (by unfold q0x;rw [if_neg hpos]) I₈
end
end
section
open PySem PySem.W PySem.Calls PyProof.Rows
set_option maxHeartbeats 2000000
variable {prog : Program} {w : World} {P : Params} {C : Cfg}
noncomputable def q3h (c : Nat) (x : PySem.Str) : Bool:=x.cps[0]? == some c
noncomputable def endsC (c : Nat) (x : PySem.Str) : Bool:=x.cps[x.cps.size - 1]? == some c
noncomputable def hitAt (c : Nat) (l : List (PySem.Str × PySem.Str)) (i : Nat) : Bool:=
 match l[i]?,l[i - 1]? with
 | some a,some b => (PySem.Txt.isspace ⟨#[c]⟩ && q3h c a.1) || endsC c b.2
 | _,_ => false
noncomputable def q1q (c : Nat) (l : List (PySem.Str × PySem.Str)) : Nat → Option Nat
 | 0 => none
 | m + 1 => if hitAt c l (m + 1) then some (m + 1) else q1q c l m
noncomputable def chunk (W : Int) (c : Nat) (lines : List PySem.Str) (l : List (PySem.Str × PySem.Str)) (k : Int) (p q : PySem.Str) : List PySem.Str × List (PySem.Str × PySem.Str) × Int:=
 if W < ((accN (l ++ [(p,q)]) k : Nat) : Int) then
  match q1q c (l ++ [(p,q)]) l.length with
  | some i => (lines ++ [accStr ((l ++ [(p,q)]).take i)],(l ++ [(p,q)]).drop i,0)
  | none => if 0 < k then (q0x lines l k,[(if p = sEmpty then sBlank else p,q)],0) else (lines,l ++ [(p,q)],k)
 else (lines,l ++ [(p,q)],k)
private theorem w9f {c : Nat} {l : List (PySem.Str × PySem.Str)} {m i : Nat} (h : q1q c l m = some i) : 1 ≤ i ∧ i ≤ m:=by
 induction m with
 | zero => cases h
 | succ m ih =>
  unfold q1q at h
  split at h
  ·cases h;lia
  ·have:=ih h;lia
structure ChOk (l : List (PySem.Str × PySem.Str)) (k : Int) (p q : PySem.Str) : Prop where
 size : AccSz (l ++ [(p,q)]) k
 short : Short (l ++ [(p,q)])
 last : ∀ p,l.getLast? = some p → ¬ (p.1 = sBlank ∧ p.2 = sEmpty)
private theorem AccSz.sub {l l' : List (PySem.Str × PySem.Str)} {k : Int} (h : AccSz l k) (hl : l'.length ≤ l.length) (hs : ∀ p ∈ l',p ∈ l) : AccSz l' k:=⟨Nat.le_trans hl h.len,fun p hp => h.each p (hs p hp),h.k0,h.k1⟩
private theorem ChOk.nl {l : List (PySem.Str × PySem.Str)} {k : Int} {p q : PySem.Str} (h : ChOk l k p q) (hk : 0 < k) : NlOk l k:=by
 refine ⟨h.last,fun _ => ?_,h.size.sub (by simp) fun p hp => by simp [hp],fun p hp => h.short p (by simp [hp])⟩
 unfold onlyWs
 have : (k == 0) = false:=by simpa using (by lia : k ≠ 0)
 rw [this];rfl
section
variable {mu mu' nu : List Addr} {s₀ s s' : Shared} {env : Env} {ρ : List (PySem.Str × PV)} {σ σ' : List (Addr × MO)} {A : Around} {E : Value → Shared → Prop} {a : FA} {od od2 : Obj} {lines : List PySem.Str} {l : List (PySem.Str × PySem.Str)} {W k : Int} {c : Nat}
private theorem pur_itemSN {value slice : Expr} {pos : Pos} {x : PySem.Str} {c : Nat} (hv : PurE prog w C mu A env ρ σ value (.str x)) (hi : PurE prog w C mu A env ρ σ slice (.int (-1))) (hx : x.cps[x.cps.size - 1]? = some c) (hsz : x.cps.size < 2 ^ 62)
  (hs : autoParam (∀ o i,subscripted slice false o i = operate [o,i] (getItem o i)) tR) : PurE prog w C mu A env ρ σ (.Subscript value slice pos) (.str ⟨#[c]⟩):=fun s O a Q E k =>
 Subscript_ (hv s O a _ _ fun v s₁ O₁ k₁ y₁ => hi s₁ O₁ (a.kp O k₁) _ _ fun u s₂ O₂ k₂ y₂ => by
  obtain ⟨t₁,rfl⟩:=y₁.kp0 O₁ k₂
  obtain ⟨t,rfl⟩:=y₂
  have hlt:=(Array.getElem?_eq_some_iff.mp hx).1
  refine tail_any (typeIs_str s₂ x t₁) slot_str_getitem.lookup (PyProof.Rows.getItem_str (c:=c) ?_ ?_ (k _ _ O₂.tok ((k₁.trans k₂).trans ⟨fun _ _ _ _ e => e⟩) ⟨_,rfl⟩)) (hs _ _)
  ·simp
  ·have e : seqIndex? (-1) x.length = some (x.cps.size - 1):=by
    unfold seqIndex? Str.length
    simp
    with_reducible exact nf2
   rw [e]
   exact hx)
private theorem w0w {x y : PySem.Str} {f : PySem.Str} {nn : Nat} {p1 p2 p3 p4 p5 p6 p7 : Pos} (hx : ρ.lookup x = some (.str f)) (hy : ρ.lookup y = some (.str ⟨#[c]⟩)) (dx : (x == ("__debug__" : PySem.Str)) = false) (dy : (y == ("__debug__" : PySem.Str)) = false) (hsz : f.cps.size < 2 ^ 60) :
  PurB prog w C mu A env ρ σ (.BoolOp .And [.Name x p1,.Compare (.Subscript (.Name x p2) (.Constant (.int 0) nn p3) p4) [.Eq] [.Name y p5] p6] p7) (q3h c f):=by
 have e : q3h c f = ((f.length != 0) && (q3h c f && true)):=by
  unfold q3h
  by_cases h : f.cps.size = 0
  ·have : f.cps[0]? = none:=Array.getElem?_eq_none (by (with_reducible refine naf ?_;decide))
   rw [this];simp [PySem.Str.length,h]
  ·have : (f.length != 0) = true:=by simpa [PySem.Str.length] using h
   rw [this];simp
 rw [e]
 refine q2u (pos':=default) (q1h (q0b hx dx) (q2v (by lia))) fun hb => q2u (pos':=default) ?_ fun _ => q6i
 have h0 : f.cps.size ≠ 0:=by simpa [PySem.Str.length] using hb
 have hx0 : f.cps[0]? = some (f.cps[0]'(by lia)):=Array.getElem?_eq_getElem _
 have e2 : q3h c f = ((⟨#[f.cps[0]'(by lia)]⟩ : PySem.Str) == ⟨#[c]⟩):=by
  unfold q3h
  rw [hx0]
  by_cases hc : f.cps[0]'(by lia) = c
  ·rw [hc];simp
  ·have h1 : (some (f.cps[0]'(by lia)) == some c) = false:=by simpa using hc
   have h2 : ((⟨#[f.cps[0]'(by lia)]⟩ : PySem.Str) == ⟨#[c]⟩) = false:=beq_eq_false_iff_ne.mpr (by simpa using hc)
   rw [h1,h2]
 rw [e2]
 exact q0g (pur_itemS (j:=0) (q0b hx dx) q0k hx0 (by lia)) (q0b hy dy) w4b rfl
private theorem w4a {x y : PySem.Str} {f : PySem.Str} {nn : Nat} {p1 p2 p3 p3' p4 p5 p6 p7 : Pos} (hx : ρ.lookup x = some (.str f)) (hy : ρ.lookup y = some (.str ⟨#[c]⟩)) (dx : (x == ("__debug__" : PySem.Str)) = false) (dy : (y == ("__debug__" : PySem.Str)) = false) (hsz : f.cps.size < 2 ^ 60) :
  PurB prog w C mu A env ρ σ (.BoolOp .And [.Name x p1,.Compare (.Subscript (.Name x p2) (.UnaryOp .USub (.Constant (.int 1) nn p3) p3') p4) [.Eq] [.Name y p5] p6] p7) (endsC c f):=by
 have e : endsC c f = ((f.length != 0) && (endsC c f && true)):=by
  unfold endsC
  by_cases h : f.cps.size = 0
  ·have : f.cps[f.cps.size - 1]? = none:=Array.getElem?_eq_none (by lia)
   rw [this];simp [PySem.Str.length,h]
  ·have : (f.length != 0) = true:=by simpa [PySem.Str.length] using h
   rw [this];simp
 rw [e]
 refine q2u (pos':=default) (q1h (q0b hx dx) (q2v (by lia))) fun hb => q2u (pos':=default) ?_ fun _ => q6i
 have h0 : f.cps.size ≠ 0:=by simpa [PySem.Str.length] using hb
 have hx0 : f.cps[f.cps.size - 1]? = some (f.cps[f.cps.size - 1]'(by with_reducible exact ni2)):=Array.getElem?_eq_getElem _
 have e2 : endsC c f = ((⟨#[f.cps[f.cps.size - 1]'(by with_reducible exact ni2)]⟩ : PySem.Str) == ⟨#[c]⟩):=by
  unfold endsC
  rw [hx0]
  by_cases hc : f.cps[f.cps.size - 1]'(by with_reducible exact ni2) = c
  ·rw [hc];simp
  ·have h1 : (some (f.cps[f.cps.size - 1]'(by with_reducible exact ni2)) == some c) = false:=by simpa using hc
   have h2 : ((⟨#[f.cps[f.cps.size - 1]'(by with_reducible exact ni2)]⟩ : PySem.Str) == ⟨#[c]⟩) = false:=beq_eq_false_iff_ne.mpr (by simpa using hc)
   rw [h1,h2]
 rw [e2]
 exact q0g (pur_itemSN (q0b hx dx) (q3k q0k op_neg) hx0 (by lia)) (q0b hy dy) w4b rfl
end
end
section
set_option tactic.hygienic true
open PySem PySem.W PySem.Calls PyProof.Rows
set_option maxHeartbeats 4000000
variable {prog : Program} {w : World} {P : Params} {C : Cfg}
noncomputable abbrev vSelf : PySem.Str:=⟨#[115,101,108,102]⟩
noncomputable abbrev vFws : PySem.Str:=⟨#[102,119,115]⟩
noncomputable abbrev vString : PySem.Str:=⟨#[115,116,114,105,110,103]⟩
noncomputable abbrev vCh : PySem.Str:=⟨#[99,104]⟩
noncomputable abbrev vI : PySem.Str:=⟨#[105]⟩
section
variable {mu mu' nu : List Addr} {s₀ s s' : Shared} {env : Env} {ρ : List (PySem.Str × PV)} {σ σ' : List (Addr × MO)} {A : Around} {E : Value → Shared → Prop} {a : FA} {od od2 : Obj} {lines : List PySem.Str} {l : List (PySem.Str × PySem.Str)} {W k : Int} {c : Nat}
private theorem w1f {od : Obj} (h : FmtD od W c a.ln a.x) : lookIn ⟨#[110,101,119,108,105,110,101]⟩ od = some none:=by
 obtain ⟨h1,t1,u1,h2,t2,u2,h3,t3,u3,h4,t4,u4,h5,t5,h6,t6,n,rfl⟩:=h
 exact rfl
private theorem FmtAt.ofAct (I : Act env mu s.heap ρ (sFmt a od lines l od2)) (nd : a.all.Nodup) (hd : FmtD od W c a.ln a.x) (hk : AccD od2 k) : FmtAt mu s.heap a W c lines l k:=by
 obtain ⟨h1,h2⟩:=FA.ne nd
 have q1:=I.st _ _ (sF_f (a:=a) (od:=od) (lines:=lines) (l:=l) (od2:=od2))
 have q2:=I.st _ _ (sF_df (od:=od) (lines:=lines) (l:=l) (od2:=od2) nd)
 have q3:=I.st _ _ (sF_ln (od:=od) (lines:=lines) (l:=l) (od2:=od2) nd)
 have q4:=I.st _ _ (sF_x (od:=od) (lines:=lines) (l:=l) (od2:=od2) nd)
 have q5:=I.st _ _ (sF_dx (od:=od) (lines:=lines) (l:=l) (od2:=od2) nd)
 refine ⟨fun b hb => ?_,nd,q1.2.2,⟨od,hd,q2.2.2⟩,q3.2.2,q1o I nd hk⟩
 simp at hb
 rcases hb with e | e | e | e | e <;> rw [e]
 ·exact q1.1
 ·exact q2.1
 ·exact q3.1
 ·exact q4.1
 ·exact q5.1
private theorem w2w {lines' : List PySem.Str} {l' : List (PySem.Str × PySem.Str)} {k' : Int} (I : In C mu nu env ρ (sFmt a od lines l od2) s₀ s) (nd : a.all.Nodup) (hnu : ∀ b ∈ a.wr,b ∈ nu) (O' : Ok C mu s') (kp : Kp C a.wr s s') (ha : FmtAt mu s'.heap a W c lines' l' k') :
  ∃ od' od2',FmtD od' W c a.ln a.x ∧ AccD od2' k' ∧ In C mu nu env ρ (sFmt a od' lines' l' od2') s₀ s':=by
 obtain ⟨od',hd',ho'⟩:=ha.dict
 obtain ⟨od2',hk',hd2⟩:=ha.acc.dict
 have q1:=I.act.st _ _ (sF_f (a:=a) (od:=od) (lines:=lines) (l:=l) (od2:=od2))
 have q2:=I.act.st _ _ (sF_df (od:=od) (lines:=lines) (l:=l) (od2:=od2) nd)
 have q3:=I.act.st _ _ (sF_ln (od:=od) (lines:=lines) (l:=l) (od2:=od2) nd)
 have q4:=I.act.st _ _ (sF_x (od:=od) (lines:=lines) (l:=l) (od2:=od2) nd)
 have q5:=I.act.st _ _ (sF_dx (od:=od) (lines:=lines) (l:=l) (od2:=od2) nd)
 refine ⟨od',od2',hd',hk',I.change O' kp (fun b hb => ⟨hnu b hb,?_⟩) fun b m e => ?_⟩
 ·simp at hb
  rcases hb with e | e | e <;> rw [e]
  ·exact q3.2.1
  ·exact q4.2.1
  ·exact q5.2.1
 ·simp only [sFmt,List.lookup_cons,List.lookup_nil] at e
  split at e
  ·rename_i hb;cases e;rw [eq_of_beq hb];exact ⟨q1.1,q1.2.1,ha.inst⟩
  ·split at e
   ·rename_i hb;cases e;rw [eq_of_beq hb];exact ⟨q2.1,q2.2.1,ho'⟩
   ·split at e
    ·rename_i hb;cases e;rw [eq_of_beq hb];exact ⟨q3.1,q3.2.1,ha.lns⟩
    ·split at e
     ·rename_i hb;cases e;rw [eq_of_beq hb];exact ⟨q4.1,q4.2.1,ha.acc.at_⟩
     ·split at e
      ·rename_i hb;cases e;rw [eq_of_beq hb];exact ⟨q5.1,q5.2.1,hd2⟩
      ·cases e
private theorem fmt_app (hC : CfgOk P C) (hp : ProgOk prog) {n : Nat} {p q : PySem.Str} {vs : List Value} (r : Rm A (n + 9)) (O : Ok C mu s) (ha : FmtAt mu s.heap a W c lines l k) (hy : Sims s.heap mu [.str p,.str q] vs) (h : ChOk l k p q) (hln : lines.length ≤ 4095) :
  FmtTo prog w C mu A (call (.ref q6b) (.ref a.f :: vs)) a W c (chunk W c lines l k p q).1 (chunk W c lines l k p q).2.1 (chunk W c lines l k p q).2.2 .none s:=by
 intro Q E kk
 have hS : sizeLine = 2 ^ 24:=by decide +kernel
 have hlen:=hy.length
 obtain ⟨v₁,v₂,rfl⟩ : ∃ v₁ v₂,vs = [v₁,v₂]:=by
  exact len2 hlen
 refine q1f (ρc:=[]) (vs:=[.ref a.f,v₁,v₂]) (names:=[vSelf,vFws,vString]) (ps:=[.val (.ref a.f),.str p,.str q]) ((w4y hC).at O) r O ⟨_,_,rfl,rfl,hy⟩ (BindsTo.of_eq rfl) rfl Clo.nil rfl rfl fun L s₁ hL I r' hk => ?_
 rw [List.append_nil] at I
 obtain ⟨od,od2,hd,hk2,I₁⟩:=ha.tell I hL rfl rfl hk
 have nd:=ha.nd
 have hnu : ∀ b ∈ a.wr,b ∈ [a.ln,a.x,a.dx,L]:=fun b hb => by simp at hb ⊢;rcases hb with h | h | h <;> simp [h]
 have hl1 : l.length ≤ 1023:=by have:=h.size.len;simp at this;assumption
 -- push
 refine q0a (wpAny_Expr_any ?_ rfl rfl)
 refine q2r (ps:=[.str p,.str q]) (q0o hC) I₁.ok I₁.act (q0z hC nd hd rfl) (sF_acc nd) (q8f hC) (q8b hC) (q1c hk2 (by decide)) (q3g hC) (q0c (q0b rfl rfl) (q0c (q0b rfl rfl) q0d (fun _ => rfl)) (fun _ => rfl)) (fun s₂ vs O₂ k₂ y₂ => ?_)
 have I₂:=I₁.next O₂ k₂
 refine (w3i hC (n:=n + 7) r' O₂ (q1o I₂.act nd hk2) y₂ (by (with_reducible refine nad ?_;decide))).to _ _ fun v s₃ O₃ k₃ ha₃ _ => ?_
 obtain ⟨od3,hk3,I₃⟩:=q4v I₂ nd hnu O₃ k₃ ha₃
 have hz3 : AccSz (l ++ [(p,q)]) k:=h.size
 have hlnS : (lines.map PV.str).length ≤ sizeLine:=by rw [List.length_map];(with_reducible refine nad ?_;decide)
 -- the ends
 have out : ∀ {od6 : Obj} {lines' l' k' od4} {ρ : List (PySem.Str × PV)} {s₄ : Shared},In C (L :: mu) [a.ln,a.x,a.dx,L] (callEnv (q6r P) L q6b) ρ (sFmt a od6 lines' l' od4) s s₄ → FmtD od6 W c a.ln a.x → AccD od4 k' → chunk W c lines l k p q = (lines',l',k') → ∀ v,Sim s₄.heap mu .none v → Q v s₄:=fun {od6 lines' l' k' od4 ρ s₄} I₄ hd6 hk4 he v hv => by
  obtain ⟨h1,h2,h3⟩:=w6o I₄ hL ha.mem nd hd6 hk4
  refine kk v s₄ h1 h2 ?_ hv
  rw [he];exact h3
 obtain ⟨tW,hW⟩:=fd_max hd
 obtain ⟨tc,hc⟩:=fd_split hd
 by_cases hgt : W < ((accN (l ++ [(p,q)]) k : Nat) : Int)
 ·refine q0a (st_IfT I₃ ((show decide (W < ((accN (l ++ [(p,q)]) k : Nat) : Int)) = true from decide_eq_true hgt) ▸ q0g (q5b (n:=n + 4) hC r' (sF_x nd) (sF_dx nd) (FA.ne nd).2.2.2 hk3 hz3 (q0f (q0e hC rfl) rfl rfl) (q0z hC nd hd rfl) (fun _ => rfl)) (q3s (p:=.int W) (q1r hC) (q0b rfl rfl) (q4d nd) (q7j hC) hW rfl (fun h mu => ⟨tW,rfl⟩)) op_gt rfl) fun s₄ I₄ => ?_)
  have hm : (((l ++ [(p,q)]).length : Nat) : Int) - 1 = ((l.length : Nat) : Int):=by simp
  have hlen' : (l ++ [(p,q)]).length ≤ 1024:=h.size.len
  refine q0a (st_For (p:=.str ⟨#[c]⟩) (l:=[.str ⟨#[c]⟩]) I₄ r'.none (q3s (p:=.str ⟨#[c]⟩) (q1r hC) (q0b rfl rfl) (q4d nd) (q5n hC) hc rfl (fun h mu => ⟨tc,rfl⟩)) w8a
   (fun i ρ σ => σ = sFmt a od lines (l ++ [(p,q)]) od3 ∧ ρ.lookup vSelf = some (.val (.ref a.f)) ∧ (i = 1 → q1q c (l ++ [(p,q)]) l.length = none))
   (fun f ρ σ _ => f = .brk ∧ σ = sFmt a od lines (l ++ [(p,q)]) od3 ∧ ρ.lookup vSelf = some (.val (.ref a.f)) ∧ ∃ j : Nat,q1q c (l ++ [(p,q)]) l.length = some j ∧ ρ.lookup vI = some (.int j)) ⟨rfl,rfl,fun h => by cases h⟩ ?turn ?kE ?kB)
  case turn =>
   intro i pv v ρ σ s₅ hp' hJ I₅ y
   refine q3a I₅ (by walk_at "sto") y fun s₆ I₆ => ?_
   refine q1x fun K hK => ?_
   obtain ⟨rfl,hself,_⟩:=hJ
   obtain ⟨rfl,rfl⟩ : i = 0 ∧ pv = .str ⟨#[c]⟩:=by
    match i,hp' with
    | 0,e => exact ⟨rfl,by simpa using e.symm⟩
   refine q0a (q4o (l:=rangeL l.length (-1) l.length) I₆ r'.none (w6k (q0f (q0e hC rfl) rfl rfl) (hm ▸ q0l (q2o (n:=n + 7) hC hp r' (sF_x nd) (sF_dx nd) (FA.ne nd).2.2.2 hk3 hlen' (q0z hC nd hd hself)) q0k op_sub) q0k (q3k q0k op_neg) (by (with_reducible refine nae ?_;decide)))
    (fun i ρ σ => σ = sFmt a od lines (l ++ [(p,q)]) od3 ∧ ρ.lookup vSelf = some (.val (.ref a.f)) ∧ ρ.lookup vCh = some (.str ⟨#[c]⟩) ∧ q1q c (l ++ [(p,q)]) l.length = q1q c (l ++ [(p,q)]) (l.length - i))
    (fun f ρ σ _ => f = .brk ∧ σ = sFmt a od lines (l ++ [(p,q)]) od3 ∧ ρ.lookup vSelf = some (.val (.ref a.f)) ∧ ∃ j : Nat,q1q c (l ++ [(p,q)]) l.length = some j ∧ ρ.lookup vI = some (.int j)) ⟨rfl,hself,rfl,rfl⟩ ?turn2 ?kE2 ?kB2)
   case kE2 =>
    rintro ρ σ s' ⟨rfl,hs,_,hsc⟩ I'
    refine q0a (wpAny_Continue (hK _ _ ⟨_,_,I',rfl,hs,fun _ => ?_⟩))
    rw [hsc]
    simp [rangeL,q1q]
   case kB2 =>
    rintro f ρ σ s' ⟨rfl,rfl,hs,j,hj,hi⟩ I'
    exact q0a (wpAny_Break (hK _ _ ⟨_,_,I',rfl,rfl,hs,j,hj,hi⟩))
   case turn2 =>
    intro i pv v ρ σ s₇ hp' hJ I₇ y
    refine q3a I₇ (by walk_at "sto") y fun s₈ I₈ => ?_
    refine q1x fun K₂ hK₂ => ?_
    obtain ⟨rfl,hself,hch,hsc⟩:=hJ
    have hi : i < l.length:=by simpa [rangeL] using (List.getElem?_eq_some_iff.mp hp').1
    obtain ⟨j,hj⟩ : ∃ j,l.length - i = j + 1:=⟨l.length - i - 1,by with_reducible exact nh9⟩
    have hpv : pv = .int ((j + 1 : Nat) : Int):=by
     simp [rangeL,hi] at hp'
     rw [← hp'];congr 1;lia
    subst hpv
    rw [hj] at hsc
    have hjl : j + 1 < (l ++ [(p,q)]).length:=by simp;with_reducible exact ni4
    obtain ⟨A1,hA1⟩ : ∃ a,(l ++ [(p,q)])[j + 1]? = some a:=⟨_,List.getElem?_eq_getElem hjl⟩
    obtain ⟨B1,hB1⟩ : ∃ a,(l ++ [(p,q)])[j]? = some a:=⟨_,List.getElem?_eq_getElem (by lia)⟩
    have hsA:=h.short A1 (List.mem_of_getElem? hA1)
    have hsB:=h.short B1 (List.mem_of_getElem? hB1)
    have hstep : hitAt c (l ++ [(p,q)]) (j + 1) = ((PySem.Txt.isspace ⟨#[c]⟩ && q3h c A1.1) || endsC c B1.2):=by
     unfold hitAt
     rw [hA1,show j + 1 - 1 = j from rfl,hB1]
    have hit : hitAt c (l ++ [(p,q)]) (j + 1) = true → q1q c (l ++ [(p,q)]) l.length = some (j + 1):=fun e => by
     rw [hsc];unfold q1q;rw [if_pos e]
    have nohit : hitAt c (l ++ [(p,q)]) (j + 1) = false → q1q c (l ++ [(p,q)]) l.length = q1q c (l ++ [(p,q)]) (l.length - (i + 1)):=fun e => by
     rw [hsc,show l.length - (i + 1) = j by with_reducible exact nb9]
     rw [q1q,if_neg (by rw [e];decide)]
    refine q0a (wpAny_mono (Q:=fun f s₉ => ∃ ρ',In C (L :: mu) [a.ln,a.x,a.dx,L] (callEnv (q6r P) L q6b) ρ' (sFmt a od lines (l ++ [(p,q)]) od3) s₇ s₉ ∧ ρ'.lookup vSelf = some (.val (.ref a.f)) ∧ ρ'.lookup vCh = some (.str ⟨#[c]⟩) ∧ ρ'.lookup vI = some (.int ((j + 1 : Nat) : Int)) ∧
     ((f = .next ∧ (PySem.Txt.isspace ⟨#[c]⟩ && q3h c A1.1) = false) ∨ (f = .brk ∧ (PySem.Txt.isspace ⟨#[c]⟩ && q3h c A1.1) = true))) (E:=fun _ _ => False) ?first (fun f s₉ hf => ?rest) fun _ _ e => e)
    case first =>
     cases hsp : PySem.Txt.isspace ⟨#[c]⟩ with
     | false =>
      exact st_IfN I₈ (hsp ▸ q1h (q6h (q0b hch rfl) (q4s rfl) q7f) q3x) fun s₉ I₉ => ⟨_,I₉,hself,hch,rfl,.inl ⟨rfl,rfl⟩⟩
     | true =>
      refine st_IfT I₈ (hsp ▸ q1h (q6h (q0b hch rfl) (q4s rfl) q7f) q3x) fun s₉ I₉ => ?_
      refine q0a (q0h (p:=.str A1.1) I₉ (by walk_at "sto") (q9b (j:=0) (l:=[.str A1.1,.str A1.2]) (q8z (j:=j + 1) (p:=pairPV A1) (q1p hC) (q0z hC nd hd hself) (sF_x nd) (sF_dx nd) (q0b rfl rfl) (by rw [List.getElem?_map,hA1];rfl) (by rw [List.length_map];(with_reducible refine nae ?_;decide))) q0k rfl (by simp)) fun s₁₀ I₁₀ => ?_)
      cases hst : q3h c A1.1 with
      | false => exact q0a (st_IfN I₁₀ (hst ▸ w0w rfl hch rfl rfl (by have:=hsA.1;simp [PySem.Str.length] at this;(with_reducible refine nae ?_;decide))) fun s₁₁ I₁₁ => wpAny_execs_nil ⟨_,I₁₁,hself,hch,rfl,.inl ⟨rfl,rfl⟩⟩)
      | true => exact q0a (st_IfT I₁₀ (hst ▸ w0w rfl hch rfl rfl (by have:=hsA.1;simp [PySem.Str.length] at this;(with_reducible refine nae ?_;decide))) fun s₁₁ I₁₁ => q0a (wpAny_Break ⟨_,I₁₁,hself,hch,rfl,.inr ⟨rfl,rfl⟩⟩))
    case rest =>
     obtain ⟨ρ',I₉,hs',hch',hi',⟨rfl,hno⟩ | ⟨rfl,hyes⟩⟩:=hf
     ·refine q0a (q0h (p:=.str B1.2) I₉ (by walk_at "sto") (q9b (j:=1) (l:=[.str B1.1,.str B1.2]) (q8z (j:=j) (p:=pairPV B1) (q1p hC) (q0z hC nd hd hs') (sF_x nd) (sF_dx nd) ((show ((j + 1 : Nat) : Int) - 1 = (j : Int) by lia) ▸ q0l (q0b hi' rfl) q0k op_sub) (by rw [List.getElem?_map,hB1];rfl) (by rw [List.length_map];(with_reducible refine nae ?_;decide))) q0k rfl (by simp)) fun s₁₀ I₁₀ => ?_)
      cases hst : endsC c B1.2 with
      | false => exact q0a (st_IfN I₁₀ (hst ▸ w4a rfl hch' rfl rfl (by have:=hsB.2;simp [PySem.Str.length] at this;(with_reducible refine nae ?_;decide))) fun s₁₁ I₁₁ => wpAny_execs_nil (hK₂ _ _ ⟨_,_,I₁₁,rfl,hs',hch',nohit (by rw [hstep,hno,hst];rfl)⟩))
      | true => exact q0a (st_IfT I₁₀ (hst ▸ w4a rfl hch' rfl rfl (by have:=hsB.2;simp [PySem.Str.length] at this;(with_reducible refine nae ?_;decide))) fun s₁₁ I₁₁ => q0a (wpAny_Break (hK₂ _ _ ⟨_,_,I₁₁,rfl,rfl,hs',j + 1,hit (by rw [hstep,hst];simp),hi'⟩)))
     ·exact hK₂ _ _ ⟨_,_,I₉,rfl,rfl,hs',j + 1,hit (by rw [hstep,hyes];rfl),hi'⟩
  case kB =>
   rintro f ρ σ s₅ ⟨rfl,rfl,hself,j,hj,hvi⟩ I₅
   obtain ⟨hj1,hj2⟩:=w9f hj
   have hjl : j ≤ (l ++ [(p,q)]).length:=by simp;lia
   refine q0a (wpAny_Assign_Name ?_ rfl)
   refine q2r (ps:=[.int j]) (q0o hC) I₅.ok I₅.act (q0z hC nd hd hself) (sF_acc nd) (q5z hC) (q5u hC) (q1c hk3 (by decide)) (q2y hC) (q0c (q0b hvi rfl) q0d (fun _ => rfl)) (fun s₆ vs O₆ k₆ y₆ => ?_)
   have I₆:=I₅.next O₆ k₆
   refine (w0h hC (n:=n + 7) (i:=j) r' O₆ (q1o I₆.act nd hk3) y₆ hjl hlen').to _ _ fun v s₇ O₇ k₇ ha₇ y₇ => ?_
   obtain ⟨od4,hk4,I₇⟩:=q4v I₆ nd hnu O₇ k₇ ha₇
   refine q2b (p:=.lst (((l ++ [(p,q)]).drop j).map pairPV)) I₇ (by walk_at "sto") y₇ fun s₈ I₈ _ => ?_
   refine q0a (q8t I₈ (sF_ln nd) (.head _) (q9a hC nd hd hself) (q0c (q7b (n:=n + 3) hC r' (sF_x nd) (sF_dx nd) (FA.ne nd).2.2.2 hk4 (hz3.sub (by rw [List.length_take];with_reducible exact Nat.min_le_right _ _) (fun p hp => List.mem_of_mem_take hp)) (fun p hp => h.short p (List.mem_of_mem_take hp)) (q0f (q0e hC rfl) rfl rfl) (q0z hC nd hd hself) (fun _ => rfl)) q0d (fun _ => rfl)) hlnS (fun s₁₀ I₁₀ => ?_) rfl)
   have I₁₁:=w8d I₁₀ nd
   refine q0a (wpAny_Expr_any ?_ rfl rfl)
   refine q2r (ps:=[.lst (((l ++ [(p,q)]).drop j).map pairPV)]) (q0o hC) I₁₁.ok I₁₁.act (q0z hC nd hd hself) (sF_acc nd) (w4i hC) (w3q hC) (q1c hk4 (by decide)) (q4j hC) (q0c (q0b rfl rfl) q0d (fun _ => rfl)) (fun s₁₂ vs O₁₂ k₁₂ y₁₂ => ?_)
   have I₁₂:=I₁₁.next O₁₂ k₁₂
   refine acc_resetL hC (n:=n + 7) r' O₁₂ (q1o I₁₂.act nd hk4) y₁₂ (by rw [List.length_take,List.length_drop];lia) _ _ fun v s₁₃ O₁₃ k₁₃ ha₁₃ _ => ?_
   obtain ⟨od5,hk5,I₁₃⟩:=q4v I₁₂ nd hnu O₁₃ k₁₃ ha₁₃
   refine wpAny_execs_nil (wpAny_execs_nil (out I₁₃ hd hk5 ?_ .none rfl))
   unfold chunk
   rw [if_pos hgt,hj]
  case kE =>
   rintro ρ σ s₅ ⟨rfl,hself,hno⟩ I₅
   have hno':=hno rfl
   refine q0a (Assign_Tuple ?_ rfl rfl)
   refine q2f (q0o hC) I₅.ok I₅.act (q0z hC nd hd hself) (sF_acc nd) (m_a_pop hC) (t_a_pop hC) (q1c hk3 (by decide)) (q6u hC) (fun s₆ O₆ k₆ => ?_)
   have I₆:=I₅.next O₆ k₆
   refine w8r hC hp (n:=n + 6) r' O₆ (q1o I₆.act nd hk3) (by (with_reducible refine nae ?_;decide)) _ _ fun v s₇ O₇ k₇ ha₇ y₇ => ?_
   obtain ⟨od4,hk4,I₇⟩:=q4v I₆ nd hnu O₇ k₇ ha₇
   refine w3g (p:=.str p) (q:=.str q) I₇ r'.none (by walk_at "sto") (by walk_at "sto") y₇ fun s₈ I₈ => ?_
   have hk4':=hk4
   obtain ⟨hs4,t4,t4',m4,hod4⟩:=hk4'
   have hne0 : (p.length != 0) = !decide (p = sEmpty):=by
    by_cases e : p = sEmpty
    ·subst e;rfl
    ·have h1 : p.length ≠ 0:=fun q => e (w5m (by
      have : p.cps.toList = []:=by rw [← List.length_eq_zero_iff];simpa [PySem.Str.length] using q
      rw [this]))
     simp [e,h1]
   refine q0a (wpAny_mono (Q:=fun f s₉ => f = .next ∧ ∃ lines' l' k' od6 od7 p' ρ,In C (L :: mu) [a.ln,a.x,a.dx,L] (callEnv (q6r P) L q6b) ρ (sFmt a od6 lines' l' od7) s s₉ ∧ FmtD od6 W c a.ln a.x ∧ AccD od7 k' ∧ ρ.lookup vSelf = some (.val (.ref a.f)) ∧ ρ.lookup vFws = some (.str p') ∧ ρ.lookup ⟨#[112,97,114,116]⟩ = some (.str q) ∧ l'.length ≤ 1024 ∧ chunk W c lines l k p q = (lines',l' ++ [(p',q)],k')) (E:=fun _ _ => False) ?iff (fun f s₉ hf => ?rest) fun _ _ e => e)
   case iff =>
    by_cases hk0 : 0 < k
    ·refine st_IfT I₈ ((show decide (0 < k) = true from decide_eq_true hk0) ▸ q0g (q3s (p:=.int k) (v:=.int k t4') (q0o hC) (q0z hC nd hd hself) (sF_acc nd) (n_size hC) (by rw [hod4];rfl) rfl (fun h mu => ⟨t4',rfl⟩)) q0k op_gt rfl) fun s₉ I₉ => ?_
     refine q0a (wpAny_Expr_any ?_ rfl rfl)
     refine q2f (q1r hC) I₉.ok I₉.act (q0b hself rfl) (q4d nd) (q9m hC) (q8n hC) (w1f hd) (q4i hC) (fun s₁₀ O₁₀ k₁₀ => ?_)
     have I₁₀:=I₉.next O₁₀ k₁₀
     refine fmt_nl hC hp (n:=n) r' O₁₀ (FmtAt.ofAct I₁₀.act nd hd hk4) (h.nl hk0) (by (with_reducible refine nad ?_;decide)) _ _ fun v s₁₁ O₁₁ k₁₁ ha₁₁ _ => ?_
     obtain ⟨od6,od7,hd6,hk7,I₁₁⟩:=w2w I₁₀ nd hnu O₁₁ k₁₁ ha₁₁
     have hch : chunk W c lines l k p q = (q0x lines l k,[] ++ [(if p = sEmpty then sBlank else p,q)],0):=by
      unfold chunk
      rw [if_pos hgt,hno',if_pos hk0];rfl
     by_cases hpe : p = sEmpty
     ·rw [hpe] at hne0
      refine q0a (st_IfT I₁₁ (w7o (b:=false) (q1h (q0b (p:=.str p) rfl rfl) (by rw [hpe];exact q2v (by decide)))) fun s₁₂ I₁₂ => ?_)
      refine q0a (q0h (p:=.str sBlank) I₁₂ (by walk_at "sto") (by repeat' walk_at "pe") fun s₁₃ I₁₃ => wpAny_execs_nil (wpAny_execs_nil ⟨rfl,_,_,_,_,_,_,_,I₁₃,hd6,hk7,hself,rfl,rfl,by simp,by rw [hch,if_pos hpe]⟩))
     ·refine q0a (st_IfN I₁₁ ((show (!(p.length != 0)) = false by rw [hne0];simp [hpe]) ▸ w7o (q1h (q0b (p:=.str p) rfl rfl) (q2v (by have:=(h.short (p,q) (by simp)).1;simp [PySem.Str.length] at this;(with_reducible refine nae ?_;decide))))) fun s₁₂ I₁₂ => ?_)
      exact wpAny_execs_nil ⟨rfl,_,_,_,_,_,_,_,I₁₂,hd6,hk7,hself,rfl,rfl,by simp,by rw [hch,if_neg hpe]⟩
    ·refine st_IfN I₈ ((show decide (0 < k) = false from decide_eq_false hk0) ▸ q0g (q3s (p:=.int k) (v:=.int k t4') (q0o hC) (q0z hC nd hd hself) (sF_acc nd) (n_size hC) (by rw [hod4];rfl) rfl (fun h mu => ⟨t4',rfl⟩)) q0k op_gt rfl) fun s₉ I₉ => ?_
     exact ⟨rfl,_,_,_,_,_,_,_,I₉,hd,hk4,hself,rfl,rfl,by (with_reducible refine nad ?_;decide),by unfold chunk;rw [if_pos hgt,hno',if_neg hk0]⟩
   case rest =>
    obtain ⟨rfl,lines',l',k',od6,od7,p',ρ',I₉,hd6,hk7,hs',hf',hp',hl',hch⟩:=hf
    refine q0a (wpAny_Expr_any ?_ rfl rfl)
    refine q2r (ps:=[.str p',.str q]) (q0o hC) I₉.ok I₉.act (q0z hC nd hd6 hs') (sF_acc nd) (q8f hC) (q8b hC) (q1c hk7 (by decide)) (q3g hC) (q0c (q0b hf' rfl) (q0c (q0b hp' rfl) q0d (fun _ => rfl)) (fun _ => rfl)) (fun s₁₀ vs O₁₀ k₁₀ y₁₀ => ?_)
    have I₁₀:=I₉.next O₁₀ k₁₀
    refine (w3i hC (n:=n + 7) r' O₁₀ (q1o I₁₀.act nd hk7) y₁₀ hl').to _ _ fun v s₁₁ O₁₁ k₁₁ ha₁₁ _ => ?_
    obtain ⟨od8,hk8,I₁₁⟩:=q4v I₁₀ nd hnu O₁₁ k₁₁ ha₁₁
    exact q0a (wpAny_Return_none (out I₁₁ hd6 hk8 hch .none rfl))
 ·refine q0a (st_IfN I₃ ((show decide (W < ((accN (l ++ [(p,q)]) k : Nat) : Int)) = false from decide_eq_false hgt) ▸ q0g (q5b (n:=n + 4) hC r' (sF_x nd) (sF_dx nd) (FA.ne nd).2.2.2 hk3 hz3 (q0f (q0e hC rfl) rfl rfl) (q0z hC nd hd rfl) (fun _ => rfl)) (q3s (p:=.int W) (q1r hC) (q0b rfl rfl) (q4d nd) (q7j hC) hW rfl (fun h mu => ⟨tW,rfl⟩)) op_gt rfl) fun s₄ I₄ => wpAny_execs_nil (out I₄ hd hk3 (by unfold chunk;rw [if_neg hgt]) .none rfl))
end
end
section
open PySem PySem.W PySem.Calls PyProof.Rows
set_option maxHeartbeats 4000000
variable {prog : Program} {w : World} {P : Params} {C : Cfg}
section
variable {mu mu' nu : List Addr} {s₀ s s' : Shared} {env : Env} {ρ : List (PySem.Str × PV)} {σ σ' : List (Addr × MO)} {A : Around} {E : Value → Shared → Prop} {K : Frag}
private theorem Rm.underType {A : Around} {n : Nat} {Cl : Addr} {vals : List Value} (r : Rm A (n + 1)) : Rm (A.under (.builtin "type.__call__" ⟨.ref Cl :: vals,[]⟩)) n:=by
 have h1 : (A.under (.builtin "type.__call__" ⟨.ref Cl :: vals,[]⟩)).depth = A.depth + 1:=rfl
 have h2 : (A.under (.builtin "type.__call__" ⟨.ref Cl :: vals,[]⟩)).units = A.units + 1:=rfl
 exact ⟨r.none,by have:=r.depth;rw [h1];lia,by have:=r.units;rw [h2];lia⟩
private theorem fn_codeAt {f : Addr} {fd : FuncData} {body : List Stmt} {n : Nat} {names : List PySem.Str} {ps : List PV} {vs vs0 : List Value} {cc : Addr} {Q : Value → Shared → Prop} (D : DefAt s f fd body) (r : Rm A (n + 1)) (O : Ok C mu s)
  (hy : Sims s.heap mu ps vs) (hbind : BindsTo s fd ⟨vs0,[]⟩ (names.zip vs)) (hlen : names.length = ps.length) (hclo : fd.closure = [(("__class__" : PySem.Str),cc)]) (hcc : ∃ o,C.H.get? cc = some o)
  (hloc : names.all (fun x => fd.scope.names.lookup x == some .local && okName x) = true) (hcell : fd.scope.names.all (fun x => x.2 != .cell) = true)
  (h : ∀ L s₁,s.heap.get? L = none → In C (L :: mu) [L] (callEnv fd L f) (names.zip ps).reverse [] s s₁ → Rm (A.deeper (callEnv fd L f)) n → (∀ b o,s.heap.get? b = some o → s₁.heap.get? b = some o) →
   _root_.PySem.wpAt (model prog w) (A.deeper (callEnv fd L f)) (.func body (callEnv fd L f)) (execs body (callEnv fd L f)) (fun fl s' => match fl with | .ret v => Q v s' | _ => Q .none s') (fun _ _ => False) s₁) :
  codeAny (model prog w) A (.call (.ref f) ⟨vs0,[]⟩) (fun r s' => match r with | .ok (.ret v) => Q v s' | .ok _ => False | .error e => E e s') s:=by
 obtain ⟨o,hl,hd⟩:=D.look
 have hvl : vs.length = ps.length:=hy.length
 have hln : ∀ x ∈ names,fd.scope.names.lookup x = some .local ∧ okName x = true:=fun x hx => by
  have:=List.all_eq_true.mp hloc x hx
  rw [Bool.and_eq_true,beq_iff_eq] at this
  exact this
 have memρ : ∀ x p,(names.zip ps).reverse.lookup x = some p → x ∈ names:=fun x p e => (List.of_mem_zip (List.mem_reverse.mp (q0j e))).1
 have one : ∀ x c,fd.closure.lookup x = some c → x = ("__class__" : PySem.Str) ∧ c = cc:=fun x c e => by
  rw [hclo,List.lookup_cons] at e
  cases hx : x == ("__class__" : PySem.Str) with
  | true => rw [hx] at e;cases e;exact ⟨eq_of_beq hx,rfl⟩
  | false => rw [hx] at e;cases e
 refine ks_codeAny_call_defAt (binds:=names.zip vs) r.room hl hd O.nolimit D.code D.body hbind (fun x hx => by simpa using List.all_eq_true.mp hcell x hx)
  (fun x hx => (hln x.1 (List.of_mem_zip hx).1).1) (fun h₀ hns hk => ?_) D.co D.gen D.kind
 have hnone:=Ok.size_none s
 have hL : ∃ o,h₀.get? s.heap.objs.size = some o:=let ⟨o,_,_,ho,_⟩:=hns;⟨o,ho⟩
 obtain ⟨oL,hoL⟩:=hL
 have O₁ : Ok C (s.heap.objs.size :: mu) { s with heap:=h₀,toks:=s.toks + (names.zip vs).length }:=O.fresh hnone hoL hk (O.fresh' hnone).1
 have hy₁ : Sims h₀ (s.heap.objs.size :: mu) ps vs:=(hy.new hnone).keeps (fun _ _ z _ => z) fun b o _ _ e => hk b o e
 refine ks_wpAt_mono (h s.heap.objs.size _ hnone ⟨O₁,⟨fun _ _ e => (nomatch e),D.kind,D.gl,D.bi,.head _,⟨_,hns,fun x p e hlc => ?_⟩,fun x p e => ?_,fun x c hx hxl hc => ?_,fun x p e => ?_,fun x y c h1 h2 => ?_⟩,
  Kp.of_keep hk,fun a h => by simp at h;subst h;exact .head _,fun x hx => ?_⟩ (r.deeper _) hk) (fun fl s' hq => ?_) fun _ _ f => f.elim
 ·exact q2a names ps vs hlen hy₁ x p e
 ·exact .inl (hln x (memρ x p e)).1
 ·exact absurd (one x c hc).1 hx
 ·exact q1i (hln x (memρ x p e)).2
 ·rw [(one x c h1).1,(one y c h2).1]
 ·right
  have hx' : x ∈ fd.closure:=hx
  rw [hclo] at hx'
  simp at hx'
  rw [hx']
  exact hcc
 ·cases fl <;> exact hq
private theorem In.grows {as : List Addr} {τ : List (Addr × MO)} (I : In C mu nu env ρ σ s₀ s) (O' : Ok C (as ++ mu) s') (k : Kp C [] s s') (ha : ∀ a ∈ as,s.heap.get? a = none) (hm : ∀ b m,τ.lookup b = some m → b ∈ as ∧ MOAt (as ++ mu) s'.heap b m) :
  In C (as ++ mu) (as ++ nu) env ρ (τ ++ σ) s₀ s':=by
 have hamu : ∀ a ∈ as,a ∉ mu:=fun a h => (I.ok.fresh' (ha a h)).2
 have up : ∀ {p : PV} {v : Value},Sim s.heap mu p v → Sim s'.heap (as ++ mu) p v:=fun x => (x.news ha).keeps (fun _ _ z _ => z) fun b o hb hc e => k.keep b o (fun h => nomatch h) (I.ok.seqNotTab hc e) e
 have hown : ∀ a ∈ as,a ∉ q0i env:=fun a has q => by
  rcases List.mem_cons.mp q with q | q
  ·exact hamu a has (q ▸ I.act.loc)
  ·obtain ⟨x,h1,h2⟩:=List.mem_map.mp q
   rcases I.cells x h1 with h3 | ⟨o,h3⟩
   ·exact hamu a has (h2 ▸ h3)
   ·rw [h2,I.ok.unborn (ha a has)] at h3;cases h3
 have upM : ∀ {b : Addr} {m : MO},b ∈ mu → MOAt mu s.heap b m → MOAt (as ++ mu) s'.heap b m:=fun hb x => x.keeps (fun o e => k.keep _ o (fun h => nomatch h) (I.ok.notTab hb) e)
  (fun c o hc e q => by rcases List.mem_append.mp q with q | q;(rw [ha c q] at e;cases e);exact hc q) fun c o _ hc e => k.keep c o (fun h => nomatch h) (I.ok.seqNotTab hc e) e
 refine ⟨O',⟨fun b m' e => ?_,I.act.kind,I.act.gl,I.act.bi,List.mem_append_right _ I.act.loc,?_,I.act.kinds,fun x c hx hl hc => ?_,I.act.plain,I.act.inj⟩,(I.kp.trans (k.mono fun _ h => nomatch h)).mono fun _ h => List.mem_append_right _ h,fun b hb => ?_,fun x hx => (I.cells x hx).imp (List.mem_append_right _) id⟩
 ·rw [List.lookup_append] at e
  cases hb : τ.lookup b with
  | some m0 =>
   rw [hb] at e
   have hm0:=hm b m0 hb
   cases e
   exact ⟨List.mem_append_left _ hm0.1,hown b hm0.1,hm0.2⟩
  | none =>
   rw [hb] at e
   obtain ⟨h1,h2,h3⟩:=I.act.st b m' e
   exact ⟨List.mem_append_right _ h1,h2,upM h1 h3⟩
 ·obtain ⟨m,⟨o,es,ep,ho,r⟩,hv⟩:=I.act.ns
  exact ⟨m,⟨o,es,ep,k.keep _ _ (fun h => nomatch h) (I.ok.notTab I.act.loc) ho,r⟩,fun x p h1 h2 => let ⟨v,e,y⟩:=hv x p h1 h2;⟨v,e,up y⟩⟩
 ·obtain ⟨h1,h2,ov,⟨o,ho,hd⟩,h4⟩:=I.act.cell x c hx hl hc
  exact ⟨List.mem_append_right _ h1,h2,ov,⟨o,k.keep _ _ (fun h => nomatch h) (I.ok.notTab h1) ho,hd⟩,fun p hp => let ⟨v,e,y⟩:=h4 p hp;⟨v,e,up y⟩⟩
 ·rcases List.mem_append.mp hb with hb | hb
  ·exact List.mem_append_left _ hb
  ·exact List.mem_append_right _ (I.sub b hb)
private theorem w7y (hC : CfgOk P C) : keepIn C.K (.ref cAcc) = true:=by rw [hC.K];kernel_rfl
private theorem keep_fmt (hC : CfgOk P C) : keepIn C.K (.ref cFmt) = true:=by rw [hC.K];kernel_rfl
noncomputable def NewAcc (prog : Program) (w : World) (C : Cfg) (mu : List Addr) (A : Around) (t : Sem Value) (k : Int) (s : Shared) : Prop:=
 ∀ (Q : Value → Shared → Prop) (E : Value → Shared → Prop),(∀ x dx s',s.heap.get? x = none → s.heap.get? dx = none → Ok C (x :: dx :: mu) s' → Kp C [] s s' → AccAt (x :: dx :: mu) s'.heap x dx [] k → Q (.ref x) s') → wpAny (model prog w) A t Q E s
private theorem acc_new (hC : CfgOk P C) (hp : ProgOk prog) {n : Nat} {k : Int} {t0 : Tok} {vs : List Value} (r : Rm A (n + 3)) (O : Ok C mu s)
  (hb : ∀ (x : Addr) s₁ mu,Ok C mu s₁ → BindsTo s₁ (q4b P) ⟨.ref x :: vs,[]⟩ ([vSelf,(⟨#[105,110,105,116,105,97,108,95,115,105,122,101]⟩ : PySem.Str)].zip [.ref x,.int k t0])) :
  NewAcc prog w C mu A (call (.ref cAcc) vs) k s:=by
 intro Q E kk
 obtain ⟨hh,g,dr,tk,os⟩:=s
 have X : C.K.In hh:=O.K
 refine wpAny_call (make_L (makesL_of X (mk_acc hC)) (looks_findIn X (m_a_init hC)) (fun self => bind_fn X self (t_a_init hC)) ?_)
 generalize hdx : hh.objs.size = dx
 have hdn : hh.get? dx = none:=hdx ▸ Heap.get?_none_of_le (Nat.le_refl _)
 have hxn : hh.get? (dx + 1) = none:=hdx ▸ Heap.get?_none_of_le (Nat.le_succ _)
 have esz : (hh.push emptyDict).objs.size = dx + 1:=by rw [Heap.size_push,hdx]
 have hd1 : ((hh.push emptyDict).push (subNew cAcc dx)).get? dx = some emptyDict:=Heap.get?_push_of_some _ (hdx ▸ Heap.get?_push_size _ rfl)
 have hx1 : ((hh.push emptyDict).push (subNew cAcc dx)).get? (dx + 1) = some (subNew cAcc dx):=by rw [← esz];exact Heap.get?_push_size _ rfl
 have k1 : ∀ b o,hh.get? b = some o → ((hh.push emptyDict).push (subNew cAcc dx)).get? b = some o:=fun b o e => Heap.get?_push_of_some _ (Heap.get?_push_of_some _ e)
 have O₁ : Ok C mu ⟨(hh.push emptyDict).push (subNew cAcc dx),g,dr,tk,os⟩:=O.keep (tk:=tk) k1
 have hCd : C.H.get? dx = none:=O.unborn hdn
 have hCx : C.H.get? (dx + 1) = none:=O.unborn hxn
 have O₂ : Ok C ((dx + 1) :: dx :: mu) ⟨(hh.push emptyDict).push (subNew cAcc dx),g,dr,tk,os⟩:=(O₁.add' hCd hd1 (fun _ q => by cases q)).add' hCx hx1 (fun _ q => by cases q)
 have own : ∀ {L : Addr} {b : Addr},hh.get? L = none ∧ L ≠ dx ∧ L ≠ dx + 1 → (b = dx ∨ b = dx + 1) → b ∉ q0i (callEnv (q4b P) L q5k):=fun {L b} hL hb q => by
  rcases List.mem_cons.mp q with e | q
  ·have e' : b = L:=e
   rcases hb with h | h
   ·exact hL.2.1 (e' ▸ h)
   ·exact hL.2.2 (e' ▸ h)
  ·have hc : (callEnv (q4b P) L q5k).cells = [(("__class__" : PySem.Str),q7p)]:=(q6z hC hp).clo
   rw [hc] at q
   simp at q
   obtain ⟨o,e⟩:=q1v hC O₂
   rw [← q] at e
   rcases hb with h | h
   ·rw [h,hCd] at e;cases e
   ·rw [h,hCx] at e;cases e
 refine codeAny_mono (fn_codeAt (Q:=fun v s' => v = .none ∧ Q (.ref (dx + 1)) s') (E:=E) (names:=[vSelf,(⟨#[105,110,105,116,105,97,108,95,115,105,122,101]⟩ : PySem.Str)]) (ps:=[.val (.ref (dx + 1)),.int k]) ((def_a_init hC).at O₂) (n:=n + 1) r.underType O₂ ⟨_,_,rfl,rfl,_,_,rfl,⟨_,rfl⟩,rfl⟩ (hb _ _ _ O₂) rfl (q6z hC hp).clo (q1v hC O₂) rfl rfl fun L s₁ hL I r' hk => ?_) (fun r s' z => ?_)
 ·have hL0 : ((hh.push emptyDict).push (subNew cAcc dx)).get? L = none:=hL
  have hL1 : hh.get? L = none:=by
   cases q : hh.get? L with
   | none => rfl
   | some o => rw [k1 _ _ q] at hL0;cases hL0
  have hL' : hh.get? L = none ∧ L ≠ dx ∧ L ≠ dx + 1:=⟨hL1,fun q => (by rw [q,hd1] at hL0;cases hL0),fun q => (by rw [q,hx1] at hL0;cases hL0)⟩
  have hne : dx + 1 ≠ dx:=Nat.succ_ne_self _
  have hdx1 : (dx == dx + 1) = false:=by simp
  have hxd1 : (dx + 1 == dx) = false:=by simp
  have I₁:=I.know (d:=dx) (m:=.raw (dictOf [] 0)) (.tail _ (.tail _ (.head _))) (own hL' (.inl rfl)) (hk _ _ hd1)
  have I₂:=I₁.know (d:=dx + 1) (m:=.seq (.ref cAcc) (some dx) []) (.tail _ (.head _)) (own hL' (.inr rfl)) ⟨[],0,hk _ _ hx1,rfl⟩
  have l1 : ((dx + 1,MO.seq (.ref cAcc) (some dx) []) :: [(dx,MO.raw (dictOf [] 0))]).lookup (dx + 1) = some (.seq (.ref cAcc) (some dx) []):=by simp
  have l2 : ((dx + 1,MO.seq (.ref cAcc) (some dx) []) :: [(dx,MO.raw (dictOf [] 0))]).lookup dx = some (.raw (dictOf [] 0)):=by simp [List.lookup_cons,hdx1]
  refine ks_wpAt_execs_cons (wpAt_of_wpAny (q3c (p:=.int k) (es:=[]) (n:=0) (q0o hC) I₂ (q0b rfl rfl) (q0b rfl rfl) ⟨l2,.inl ⟨[],l1⟩⟩ (.tail _ (.head _)) (n_size hC) rfl (by decide) (fun v hs t s₃ y I₃ => ?_)))
  obtain ⟨tv,rfl⟩:=y
  have l3 : ((dx,MO.raw (dictOf (putL (⟨#[95,105,110,105,116,105,97,108,95,115,105,122,101]⟩ : PySem.Str) hs (.str ⟨#[95,105,110,105,116,105,97,108,95,115,105,122,101]⟩ t) (.int k tv) []) (putN (⟨#[95,105,110,105,116,105,97,108,95,115,105,122,101]⟩ : PySem.Str) [] 0))) :: (dx + 1,MO.seq (.ref cAcc) (some dx) []) :: [(dx,MO.raw (dictOf [] 0))]).lookup (dx + 1) = some (.seq (.ref cAcc) (some dx) []):=by simp [List.lookup_cons,hxd1]
  have l4:=List.lookup_cons_self (k:=dx) (b:=MO.raw (dictOf (putL (⟨#[95,105,110,105,116,105,97,108,95,115,105,122,101]⟩ : PySem.Str) hs (.str ⟨#[95,105,110,105,116,105,97,108,95,115,105,122,101]⟩ t) (.int k tv) []) (putN (⟨#[95,105,110,105,116,105,97,108,95,115,105,122,101]⟩ : PySem.Str) [] 0))) (es:=(dx + 1,MO.seq (.ref cAcc) (some dx) []) :: [(dx,MO.raw (dictOf [] 0))])
  have hcls : dx + 1 ≠ cAcc:=fun q => by
   obtain ⟨o,e⟩ : ∃ o,C.K.lookup cAcc = some o:=by
    obtain ⟨o,e,_⟩:=w6z (q0o hC).hc
    exact ⟨o,e⟩
   rw [q,O.kin _ _ e] at hCx;cases hCx
  refine ks_wpAt_execs_cons (ks_wpAt_Expr_any (w1t (q6z hC hp) I₃ rfl l3 l4 (q0o hC).hc (l:=[.type "list",.type "object"]) (by rw [w2q];rfl) hcls (al_init hC) ty_init q6f.lookup rfl
   (fun h g d t os ox A Q E X hx hc hq => call_init hx hc (looks_mroIn X (q1p hC).lst) hq) fun b s₄ I₄ hb => ?_))
  obtain ⟨vs',m,hox,hvs,IA⟩:=I₄.act.inst l3 l4
  cases (show vs' = [] from hvs)
  obtain ⟨h4,g4,d4,t4,o4⟩:=s₄
  refine q7q (.inr rfl) hb (fun A Q E hq => ck_init (dx + 1) A Q E _ hq) PySem.F.slot_list_init.plain PySem.F.entry_list_init (sub_init (.ref cAcc) (some dx) (dx + 1) m) ⟨hox,?_⟩
  have hsb : Heap.SameBut (dx + 1) h4 (h4.update (dx + 1) (Obj.mapSeq fun _ => #[])):=Heap.SameBut.update ..
  obtain ⟨m',hm'⟩:=q9l (.ref cAcc) (some dx) #[] m (fun _ => #[])
  have I₅:=I₄.mut (tk:=t4) (m':=.seq (.ref cAcc) (some dx) []) l3 (.head _) hsb.extBut ⟨[],m',by rw [Heap.get?_update_self _ hox (by rw [hm'];rfl),hm'],rfl⟩
  refine wpAt_of_wpAny (wpAny_execs_nil ⟨rfl,?_⟩)
  obtain ⟨q1,q2,q3⟩:=I₅.act.st (dx + 1) _ List.lookup_cons_self
  obtain ⟨q4,q5,q6⟩:=I₅.act.st dx _ (by rw [List.lookup_cons,hdx1];exact l4)
  refine kk (dx + 1) dx _ hxn hdn (I₅.ok.sub fun a h => .tail _ h) ⟨fun b o _ ht e => ?_⟩ ⟨.head _,.tail _ (.head _),hne,q3.keeps (fun _ e => e) (fun _ _ h _ q => h (.tail _ q)) fun _ _ _ _ e => e,_,⟨hs,t,tv,_,rfl⟩,q6⟩
  refine I₅.kp.keep b o (fun q => ?_) ht (k1 b o e)
  simp only [List.mem_cons,List.not_mem_nil,or_false] at q
  have e' : hh.get? b = some o:=e
  rcases q with q | q | q
  ·rw [q,hxn] at e';cases e'
  ·rw [q,hdn] at e';cases e'
  ·rw [q,hL1] at e';cases e'
 ·rcases r with e | (v | _ | _ | _) <;> exact z
end
end
section
set_option tactic.hygienic true
open PySem PySem.W PySem.Calls PyProof.Rows
set_option maxHeartbeats 4000000
variable {prog : Program} {w : World} {P : Params} {C : Cfg}
section
variable {mu mu' nu : List Addr} {s₀ s s' : Shared} {env : Env} {ρ : List (PySem.Str × PV)} {σ σ' : List (Addr × MO)} {A : Around} {E : Value → Shared → Prop} {K : Frag} {x dx Cl : Addr} {cd : ClassData}
private theorem q8s {o e : Expr} {name : PySem.Str} {opos pos : Pos} {es : List DictEntry} {n : Nat} {Q : Flow → Shared → Prop} (k : ClsOk C.K Cl cd) (_I : In C mu nu env ρ σ s₀ s)
  (he : wpAny (model prog w) A (eval e env) (fun v s₁ => ∃ mu' nu' σ',In C mu' nu' env ρ σ' s₀ s₁ ∧ SInst σ' x dx Cl (dictOf es n) ∧ dx ∈ nu' ∧
   ∀ hs t s',In C mu' nu' env ρ ((dx,.raw (dictOf (putL name hs (.str name t) v es) (putN name es n))) :: σ') s₀ s' → Q .next s') E s)
  (ho : ∀ mu' σ',PurE prog w C mu' A env ρ σ' o (.val (.ref x)))
  (ht : findIn C.K (.ref Cl) name = some none) (hl : (getL name es).isSome = true) (hz : es.length + 1 ≤ 1000)
  (hsw : autoParam (swapsWith e (some (.Attribute o name opos)) pos.line env = pure false) tR) : wpAny (model prog w) A (exec (.Assign [.Attribute o name opos] e pos) env) Q E s:=by
 refine plainObj_wpAny_Assign_Attribute ?_ hsw
 refine wpAny_mono he (fun v s₁ h => ?_) fun _ _ x => x
 obtain ⟨mu',nu',σ',I₁,hi,hdn,kk⟩:=h
 refine ho mu' σ' s₁ I₁.ok I₁.act _ _ fun ov s₂ O₂ k₂ y₂ => ?_
 cases (show ov = .ref x from y₂)
 have I₂:=I₁.next O₂ k₂
 obtain ⟨ox,IA,hd⟩:=hi.at I₂.act
 have hdm:=(I₂.act.st dx _ hi.1).1
 refine q7t I₂.ok.K IA hd k.hc k.st k.dict k.sa ht hl (Nat.le_trans (w2e ..) hz) fun h' e1 e2 => ?_
 exact kk _ _ _ (I₂.mut (tk:=s₂.toks + 2) hi.1 hdn e2 e1)
private theorem In.dedup {b : Addr} {m m' : MO} (I : In C mu nu env ρ ((b,m') :: (b,m) :: σ) s₀ s) : In C mu nu env ρ ((b,m') :: σ) s₀ s:=
 I.forget (fun _ _ h => h) fun c q e => by
  rw [List.lookup_cons] at e ⊢
  cases h : c == b with
  | true => rw [h] at e;exact e
  | false => rw [h] at e;show List.lookup c ((b,m) :: σ) = _;rw [List.lookup_cons,h];exact e
private theorem In.newAcc {s₂ s₃ : Shared} {x dx : Addr} {k : Int} (I : In C mu nu env ρ σ s₀ s) (O₂ : Ok C mu s₂) (kk : Kp C [] s s₂) (hx : s₂.heap.get? x = none) (hdx : s₂.heap.get? dx = none) (O₃ : Ok C (x :: dx :: mu) s₃) (k₃ : Kp C [] s₂ s₃) (ha : AccAt (x :: dx :: mu) s₃.heap x dx [] k) :
  ∃ od,s.heap.get? x = none ∧ s.heap.get? dx = none ∧ x ≠ dx ∧ AccD od k ∧ In C (x :: dx :: mu) (x :: dx :: nu) env ρ ((x,.seq (.ref cAcc) (some dx) []) :: (dx,.raw od) :: σ) s₀ s₃:=by
 have hx':=q5s O₂ kk hx
 have hdx':=q5s O₂ kk hdx
 obtain ⟨od,hod,hd⟩:=ha.dict
 refine ⟨od,hx',hdx',ha.ne,hod,I.grows (as:=[x,dx]) (τ:=[(x,.seq (.ref cAcc) (some dx) []),(dx,.raw od)]) O₃ (kk.trans k₃) (fun a q => ?_) fun b m q => ?_⟩
 ·simp at q
  rcases q with q | q <;> rw [q] <;> assumption
 ·simp only [List.lookup_cons,List.lookup_nil] at q
  split at q
  ·rename_i hb;cases q;rw [eq_of_beq hb];exact ⟨.head _,ha.at_⟩
  ·split at q
   ·rename_i hb;cases q;rw [eq_of_beq hb];exact ⟨.tail _ (.head _),hd⟩
   ·cases q
private theorem w6r (hC : CfgOk P C) (hp : ProgOk prog) {n : Nat} {y : PySem.Str} {py pos : Pos} {e : Expr} {k : Int} {Q : Value → Shared → Prop} (r : Rm A (n + 3)) (I : In C mu nu env ρ σ s₀ s)
  (hf : PurE prog w C mu A env ρ σ (.Name y py) (.val (.ref cAcc))) (hk : PurE prog w C mu A env ρ σ e (.int k))
  (h : ∀ x dx od s',s.heap.get? x = none → s.heap.get? dx = none → x ≠ dx → AccD od k → In C (x :: dx :: mu) (x :: dx :: nu) env ρ ((x,.seq (.ref cAcc) (some dx) []) :: (dx,.raw od) :: σ) s₀ s' → Q (.ref x) s')
  (he : autoParam (∀ env,starEach [e] env = (false,eval e env) :: starEach [] env) tR) : wpAny (model prog w) A (eval (.Call (.Name y py) [e] [] pos) env) Q E s:=by
 refine Call_ (hf s I.ok I.act _ _ fun v s₁ O₁ k₁ y₁ => ?_)
 cases (show v = .ref cAcc from y₁)
 refine callWith_of (P:=C.K.In) ?_ (keeps_K (w7y hC)) ?_
 ·rw [he];rfl
 ·rw [he]
  have hargs:=q0c hk q0d he pos s₁ O₁ (I.act.kp I.ok k₁)
  rw [he] at hargs
  refine evalArgs_plain (hargs _ _ fun vs s₂ O₂ k₂ y₂ => ⟨O₂.K,?_⟩)
  obtain ⟨v,rr,rfl,⟨t0,rfl⟩,hr⟩:=y₂
  cases (show rr = [] from hr)
  refine acc_new hC hp r O₂ (t0:=t0) (fun x s₁ mu O => binds_K (T:=w3c) O.K rfl (w4t hC) rfl rfl rfl) _ _ fun x dx s₃ hx hdx O₃ k₃ ha => ?_
  obtain ⟨od,a1,a2,a3,a4,a5⟩:=I.newAcc O₂ (k₁.trans k₂) hx hdx O₃ k₃ ha
  exact h x dx od s₃ a1 a2 a3 a4 a5
private theorem w4s (hC : CfgOk P C) (hp : ProgOk prog) {n : Nat} {y : PySem.Str} {py pos : Pos} {Q : Value → Shared → Prop} (r : Rm A (n + 3)) (I : In C mu nu env ρ σ s₀ s)
  (hf : PurE prog w C mu A env ρ σ (.Name y py) (.val (.ref cAcc)))
  (h : ∀ x dx od s',s.heap.get? x = none → s.heap.get? dx = none → x ≠ dx → AccD od 0 → In C (x :: dx :: mu) (x :: dx :: nu) env ρ ((x,.seq (.ref cAcc) (some dx) []) :: (dx,.raw od) :: σ) s₀ s' → Q (.ref x) s') :
  wpAny (model prog w) A (eval (.Call (.Name y py) [] [] pos) env) Q E s:=by
 refine Call_ (hf s I.ok I.act _ _ fun v s₁ O₁ k₁ y₁ => ?_)
 cases (show v = .ref cAcc from y₁)
 refine callWith_of (P:=C.K.In) rfl (keeps_K (w7y hC)) ?_
 refine PyProof.Rows.evalArgs_empty ⟨O₁.K,?_⟩
 refine acc_new hC hp r O₁ (fun x s₁ mu O => binds_K (T:=w3c) O.K rfl (w4t hC) rfl rfl rfl) _ _ fun x dx s₃ hx hdx O₃ k₃ ha => ?_
 obtain ⟨od,a1,a2,a3,a4,a5⟩:=I.newAcc O₁ k₁ hx hdx O₃ k₃ ha
 exact h x dx od s₃ a1 a2 a3 a4 a5
private theorem FmtAt.sub {h : Heap} {a : FA} {W k : Int} {c : Nat} {lines : List PySem.Str} {l : List (PySem.Str × PySem.Str)} (F : FmtAt mu h a W c lines l k) (hs : ∀ b ∈ mu',b ∈ mu) (hm : ∀ b ∈ a.all,b ∈ mu') : FmtAt mu' h a W c lines l k:=
 ⟨hm,F.nd,F.inst,F.dict,F.lns.keeps (fun _ e => e) (fun _ _ z _ q => z (hs _ q)) fun _ _ _ _ e => e,hm _ (by simp),hm _ (by simp),F.acc.ne,F.acc.at_.keeps (fun _ e => e) (fun _ _ z _ q => z (hs _ q)) fun _ _ _ _ e => e,F.acc.dict⟩
noncomputable def NewFmt (prog : Program) (w : World) (C : Cfg) (mu : List Addr) (A : Around) (t : Sem Value) (W : Int) (c : Nat) (k : Int) (s : Shared) : Prop:=
 ∀ (Q : Value → Shared → Prop) (E : Value → Shared → Prop),(∀ (a : FA) s',(∀ b ∈ a.all,s.heap.get? b = none) → Ok C (a.all ++ mu) s' → Kp C [] s s' → FmtAt (a.all ++ mu) s'.heap a W c [] [] k → Q (.ref a.f) s') → wpAny (model prog w) A t Q E s
noncomputable abbrev fE1 (h : Int) (t : Nat) (W : Int) (u : Nat) : DictEntry:=⟨h,.str (⟨#[95,109,97,120,108,101,110]⟩ : PySem.Str) t,.int W u⟩
noncomputable abbrev fE2 (h : Int) (t u : Nat) : DictEntry:=⟨h,.str (⟨#[95,99,111,110,116,105,110,117,97,116,105,111,110,95,119,115]⟩ : PySem.Str) t,.str sBlank u⟩
noncomputable abbrev fE3 (h : Int) (t u : Nat) : DictEntry:=⟨h,.str (⟨#[95,99,111,110,116,105,110,117,97,116,105,111,110,95,119,115,95,108,101,110]⟩ : PySem.Str) t,.int 1 u⟩
noncomputable abbrev fE4 (h : Int) (t : Nat) (c u : Nat) : DictEntry:=⟨h,.str (⟨#[95,115,112,108,105,116,99,104,97,114,115]⟩ : PySem.Str) t,.str ⟨#[c]⟩ u⟩
noncomputable abbrev fE5 (h : Int) (t : Nat) (ln : Addr) : DictEntry:=⟨h,.str (⟨#[95,108,105,110,101,115]⟩ : PySem.Str) t,.ref ln⟩
noncomputable abbrev fE6 (h : Int) (t : Nat) (x : Addr) : DictEntry:=⟨h,.str (⟨#[95,99,117,114,114,101,110,116,95,108,105,110,101]⟩ : PySem.Str) t,.ref x⟩
private theorem fmt_new (hC : CfgOk P C) (hp : ProgOk prog) {n : Nat} {k W : Int} {c : Nat} {vs : List Value} (r : Rm A (n + 6)) (O : Ok C mu s) (hy : Sims s.heap mu [.int k,.int W,.str sBlank,.str ⟨#[c]⟩] vs) :
  NewFmt prog w C mu A (call (.ref cFmt) vs) W c k s:=by
 intro Q E kk
 have hlen:=hy.length
 obtain ⟨v₁,v₂,v₃,v₄,rfl⟩ : ∃ v₁ v₂ v₃ v₄,vs = [v₁,v₂,v₃,v₄]:=by
  exact len4 hlen
 obtain ⟨hh,g,dr,tk,os⟩:=s
 have X : C.K.In hh:=O.K
 refine wpAny_call (make_core (makes_of X (mk_fmt hC)) (looks_findIn X (m_f_init hC)) (fun self => bind_fn X self (t_f_init hC)) (.inl rfl) ?_)
 generalize hdx : hh.objs.size = df
 have hdn : hh.get? df = none:=hdx ▸ Heap.get?_none_of_le (Nat.le_refl _)
 have hxn : hh.get? (df + 1) = none:=hdx ▸ Heap.get?_none_of_le (Nat.le_succ _)
 have esz : (hh.push emptyDict).objs.size = df + 1:=by rw [Heap.size_push,hdx]
 have hd1 : ((hh.push emptyDict).push (instObj cFmt df)).get? df = some emptyDict:=Heap.get?_push_of_some _ (hdx ▸ Heap.get?_push_size _ rfl)
 have hx1 : ((hh.push emptyDict).push (instObj cFmt df)).get? (df + 1) = some (instObj cFmt df):=by rw [← esz];exact Heap.get?_push_size _ rfl
 have k1 : ∀ b o,hh.get? b = some o → ((hh.push emptyDict).push (instObj cFmt df)).get? b = some o:=fun b o e => Heap.get?_push_of_some _ (Heap.get?_push_of_some _ e)
 have O₁ : Ok C mu ⟨(hh.push emptyDict).push (instObj cFmt df),g,dr,tk,os⟩:=O.keep (tk:=tk) k1
 have hCd : C.H.get? df = none:=O.unborn hdn
 have hCx : C.H.get? (df + 1) = none:=O.unborn hxn
 have O₂ : Ok C ((df + 1) :: df :: mu) ⟨(hh.push emptyDict).push (instObj cFmt df),g,dr,tk,os⟩:=(O₁.add' hCd hd1 (fun _ q => by cases q)).add' hCx hx1 (fun _ q => by cases q)
 have hy₂ : Sims ((hh.push emptyDict).push (instObj cFmt df)) ((df + 1) :: df :: mu) [.val (.ref (df + 1)),.int k,.int W,.str sBlank,.str ⟨#[c]⟩] [.ref (df + 1),v₁,v₂,v₃,v₄]:=
  ⟨_,_,rfl,rfl,((hy.new (a:=df) hdn).new (a:=df + 1) hxn).keeps (fun _ _ z _ => z) fun b o _ _ e => k1 b o e⟩
 refine codeAny_mono (fn_code (ρc:=[]) (Q:=fun v s' => v = .none ∧ Q (.ref (df + 1)) s') (E:=E) (names:=[vSelf,(⟨#[104,101,97,100,101,114,108,101,110]⟩ : PySem.Str),(⟨#[109,97,120,108,101,110]⟩ : PySem.Str),(⟨#[99,111,110,116,105,110,117,97,116,105,111,110,95,119,115]⟩ : PySem.Str),(⟨#[115,112,108,105,116,99,104,97,114,115]⟩ : PySem.Str)]) ((def_f_init hC).at O₂) (n:=n + 4) r.underType O₂ hy₂ (BindsTo.of_eq rfl) rfl Clo.nil rfl rfl fun L s₁ hL I r' hk => ?_) (fun r s' z => ?_)
 ·rw [List.append_nil] at I
  have hL0 : ((hh.push emptyDict).push (instObj cFmt df)).get? L = none:=hL
  have hL1 : hh.get? L = none:=by
   cases q : hh.get? L with
   | none => rfl
   | some o => rw [k1 _ _ q] at hL0;cases hL0
  have hLd : L ≠ df:=fun q => by rw [q,hd1] at hL0;cases hL0
  have hLx : L ≠ df + 1:=fun q => by rw [q,hx1] at hL0;cases hL0
  have own : ∀ b,b ≠ L → b ∉ q0i (callEnv (q2q P) L q3b):=fun b hb q => by
   rcases List.mem_cons.mp q with e | q
   ·exact hb e
   ·cases q
  have I₁:=I.know (d:=df + 1) (m:=.raw (instObj cFmt df)) (.tail _ (.head _)) (own _ (Ne.symm hLx)) (hk _ _ hx1)
  have I₂:=I₁.know (d:=df) (m:=.raw (dictOf [] 0)) (.tail _ (.tail _ (.head _))) (own _ (Ne.symm hLd)) (hk _ _ hd1)
  have hxd1 : (df + 1 == df) = false:=by simp
  have hinst : ∀ {od : Obj} {τ : List (Addr × MO)},SInst ((df,.raw od) :: (df + 1,.raw (instObj cFmt df)) :: τ) (df + 1) df cFmt od:=⟨List.lookup_cons_self,.inr (by simp [List.lookup_cons,hxd1])⟩
  refine q0a (q3c (p:=.int W) (es:=[]) (n:=0) (q1r hC) I₂ (q0b rfl rfl) (q0b rfl rfl) hinst (.head _) (q7j hC) rfl (Nat.le_of_ble_eq_true rfl) (fun v₁ h₁ t₁ s₃ y₁ J₁ => ?_))
  obtain ⟨u₁,rfl⟩:=y₁
  have I₃ : In C (L :: (df + 1) :: df :: mu) [df,df + 1,L] (callEnv (q2q P) L q3b) _ ((df,.raw (dictOf [(fE1 h₁ t₁ W u₁)] 1)) :: [(df + 1,.raw (instObj cFmt df))]) _ s₃:=J₁.dedup
  refine q0a (q3c (p:=.str sBlank) (es:=[(fE1 h₁ t₁ W u₁)]) (n:=1) (q1r hC) I₃ (q0b rfl rfl) (q0b rfl rfl) hinst (.head _) (q5y hC) rfl (Nat.le_of_ble_eq_true rfl) (fun v₂ h₂ t₂ s₄ y₂ J₂ => ?_))
  obtain ⟨u₂,rfl⟩:=y₂
  have I₄ : In C (L :: (df + 1) :: df :: mu) [df,df + 1,L] (callEnv (q2q P) L q3b) _ ((df,.raw (dictOf [(fE1 h₁ t₁ W u₁),(fE2 h₂ t₂ u₂)] 2)) :: [(df + 1,.raw (instObj cFmt df))]) _ s₄:=J₂.dedup
  refine q0a (q3c (p:=.int 1) (es:=[(fE1 h₁ t₁ W u₁),(fE2 h₂ t₂ u₂)]) (n:=2) (q1r hC) I₄ (q0u (z:=.int 1) (q0f (q0e hC rfl) rfl rfl) (q0c (q0b (p:=.str sBlank) rfl rfl) q0d (fun _ => rfl)) (q3d (by decide)) (fun _ => rfl) rfl) (q0b rfl rfl) hinst (.head _) (q4g hC) rfl (Nat.le_of_ble_eq_true rfl) (fun v₃ h₃ t₃ s₅ y₃ J₃ => ?_))
  obtain ⟨u₃,rfl⟩:=y₃
  have I₅ : In C (L :: (df + 1) :: df :: mu) [df,df + 1,L] (callEnv (q2q P) L q3b) _ ((df,.raw (dictOf [(fE1 h₁ t₁ W u₁),(fE2 h₂ t₂ u₂),(fE3 h₃ t₃ u₃)] 3)) :: [(df + 1,.raw (instObj cFmt df))]) _ s₅:=J₃.dedup
  refine q0a (q3c (p:=.str ⟨#[c]⟩) (es:=[(fE1 h₁ t₁ W u₁),(fE2 h₂ t₂ u₂),(fE3 h₃ t₃ u₃)]) (n:=3) (q1r hC) I₅ (q0b rfl rfl) (q0b rfl rfl) hinst (.head _) (q5n hC) rfl (Nat.le_of_ble_eq_true rfl) (fun v₄ h₄ t₄ s₆ y₄ J₄ => ?_))
  obtain ⟨u₄,rfl⟩:=y₄
  have I₆ : In C (L :: (df + 1) :: df :: mu) [df,df + 1,L] (callEnv (q2q P) L q3b) _ ((df,.raw (dictOf [(fE1 h₁ t₁ W u₁),(fE2 h₂ t₂ u₂),(fE3 h₃ t₃ u₃),(fE4 h₄ t₄ c u₄)] 4)) :: [(df + 1,.raw (instObj cFmt df))]) _ s₆:=J₄.dedup
  refine q0a (q8s (x:=df + 1) (dx:=df) (es:=[(fE1 h₁ t₁ W u₁),(fE2 h₂ t₂ u₂),(fE3 h₃ t₃ u₃),(fE4 h₄ t₄ c u₄)]) (n:=4) (q1r hC) I₆ ?_ (fun mu' σ' => q0b rfl rfl) (w4f hC) rfl (Nat.le_of_ble_eq_true rfl))
  refine w3z (ps:=[]) q0d (Nat.zero_le _) _ I₆.ok I₆.act _ _ fun ln s₇ O₇ k₇ hln hm => ?_
  obtain ⟨ol,hol,hr⟩:=Mlst.notRec hm
  have I₇:=I₆.grow O₇ k₇ hln hm hol hr
  have nln:=(I₆.ok.fresh' hln).2
  simp only [List.mem_cons,not_or] at nln
  obtain ⟨nl1,nl2,nl3,nl4⟩:=nln
  have b1 : (df == ln) = false:=beqF nl3
  have b2 : (df + 1 == ln) = false:=beqF nl2
  refine ⟨_,_,_,I₇,⟨by simp [List.lookup_cons,b1],.inr (by simp [List.lookup_cons,b2,hxd1])⟩,.tail _ (.head _),fun h₅ t₅ s₈ J₅' => ?_⟩
  have J₅ : In C (ln :: L :: (df + 1) :: df :: mu) (ln :: [df,df + 1,L]) (callEnv (q2q P) L q3b) _ ((df,.raw (dictOf [(fE1 h₁ t₁ W u₁),(fE2 h₂ t₂ u₂),(fE3 h₃ t₃ u₃),(fE4 h₄ t₄ c u₄),(fE5 h₅ t₅ ln)] 5)) :: (ln,Mlst []) :: [(df,.raw (dictOf [(fE1 h₁ t₁ W u₁),(fE2 h₂ t₂ u₂),(fE3 h₃ t₃ u₃),(fE4 h₄ t₄ c u₄)] 4)),(df + 1,.raw (instObj cFmt df))]) _ s₈:=J₅'
  refine q0a (q8s (x:=df + 1) (dx:=df) (es:=[(fE1 h₁ t₁ W u₁),(fE2 h₂ t₂ u₂),(fE3 h₃ t₃ u₃),(fE4 h₄ t₄ c u₄),(fE5 h₅ t₅ ln)]) (n:=5) (q1r hC) J₅ ?_ (fun mu' σ' => q0b rfl rfl) (q4l hC) rfl (Nat.le_of_ble_eq_true rfl))
  refine w6r hC hp (n:=n + 1) r' J₅ (q0f (q0e hC rfl) rfl rfl) (q0b rfl rfl) (fun x dx od s₉ hx hdx hne hod I₉ => ?_)
  have nx:=(J₅.ok.fresh' hx).2
  have ndx:=(J₅.ok.fresh' hdx).2
  simp only [List.mem_cons,not_or] at nx ndx
  obtain ⟨nx0,nx1,nx2,nx3,nx4⟩:=nx
  obtain ⟨nd0,nd1,nd2,nd3,nd4⟩:=ndx
  have c1 : (df == x) = false:=beqF nx3
  have c2 : (df == dx) = false:=beqF nd3
  have c3 : (df + 1 == x) = false:=beqF nx2
  have c4 : (df + 1 == dx) = false:=beqF nd2
  have c5 : (x == df) = false:=beqF (Ne.symm nx3)
  have c6 : (dx == df) = false:=beqF (Ne.symm nd3)
  have c7 : (ln == df) = false:=beqF (Ne.symm nl3)
  have c8 : (ln == x) = false:=beqF nx0
  have c9 : (ln == dx) = false:=beqF nd0
  have c10 : (dx == x) = false:=beqF hne
  refine ⟨_,_,_,I₉,⟨by simp [List.lookup_cons,c1,c2],.inr (by simp [List.lookup_cons,c3,c4,hxd1,b2])⟩,.tail _ (.tail _ (.tail _ (.head _))),fun h₆ t₆ s₁₀ J₆ => ?_⟩
  refine wpAny_execs_nil ⟨rfl,?_⟩
  have nd : (FA.mk (df + 1) df ln x dx).all.Nodup:=by
   have q1 : df + 1 ≠ df:=Nat.succ_ne_self _
   simp only [FA.all,List.nodup_cons,List.mem_cons,List.not_mem_nil,or_false,not_or,List.nodup_nil,and_true]
   exact ⟨⟨q1,Ne.symm nl2,Ne.symm nx2,Ne.symm nd2⟩,⟨Ne.symm nl3,Ne.symm nx3,Ne.symm nd3⟩,⟨Ne.symm nx0,Ne.symm nd0⟩,hne,not_false⟩
  have I₁₀:=J₆.forget (ρ':=[]) (σ':=sFmt (FA.mk (df + 1) df ln x dx) (dictOf [(fE1 h₁ t₁ W u₁),(fE2 h₂ t₂ u₂),(fE3 h₃ t₃ u₃),(fE4 h₄ t₄ c u₄),(fE5 h₅ t₅ ln),(fE6 h₆ t₆ x)] 6) [] [] od) (fun _ _ h => nomatch h) (fun b m e => by
   simp only [sFmt,List.lookup_cons,List.lookup_nil] at e
   split at e
   ·rename_i hb;rw [eq_of_beq hb];cases e;simp [List.lookup_cons,c3,c4,hxd1,b2]
   ·split at e
    ·rename_i hb;rw [eq_of_beq hb];cases e;exact List.lookup_cons_self
    ·split at e
     ·rename_i hb;rw [eq_of_beq hb];cases e;simp [List.lookup_cons,c7,c8,c9]
     ·split at e
      ·rename_i hb;rw [eq_of_beq hb];cases e;simp [List.lookup_cons,c5]
      ·split at e
       ·rename_i hb;rw [eq_of_beq hb];cases e;simp [List.lookup_cons,c6,c10]
       ·cases e)
  have F:=FmtAt.ofAct (W:=W) (c:=c) (k:=k) I₁₀.act nd ⟨h₁,t₁,u₁,h₂,t₂,u₂,h₃,t₃,u₃,h₄,t₄,u₄,h₅,t₅,h₆,t₆,6,rfl⟩ hod
  have hsub : ∀ b ∈ (FA.mk (df + 1) df ln x dx).all ++ mu,b ∈ x :: dx :: ln :: L :: (df + 1) :: df :: mu:=fun b hb => by
   simp only [FA.all,List.cons_append,List.nil_append,List.mem_cons] at hb ⊢
   rcases hb with h | h | h | h | h | h <;> simp [h]
  have down : ∀ b,((hh.push emptyDict).push (instObj cFmt df)).get? b = none → hh.get? b = none:=fun b e => by
   cases q : hh.get? b with
   | none => rfl
   | some o => rw [k1 b o q] at e;cases e
  have f1 : hh.get? ln = none:=down _ (I₆.unborn hln)
  have f2 : hh.get? x = none:=down _ (J₅.unborn hx)
  have f3 : hh.get? dx = none:=down _ (J₅.unborn hdx)
  refine kk (FA.mk (df + 1) df ln x dx) s₁₀ (fun b hb => ?_) (I₁₀.ok.sub hsub) ⟨fun b o _ ht e => I₁₀.kp.keep b o (fun q => ?_) ht (k1 b o e)⟩ (F.sub hsub fun b hb => List.mem_append_left _ hb)
  ·simp only [FA.all,List.mem_cons,List.not_mem_nil,or_false] at hb
   rcases hb with h | h | h | h | h <;> rw [h] <;> assumption
  ·have e' : hh.get? b = some o:=e
   simp only [List.mem_cons,List.not_mem_nil,or_false] at q
   rcases q with h | h | h | h | h | h <;> rw [h] at e'
   ·rw [f2] at e';cases e'
   ·rw [f3] at e';cases e'
   ·rw [f1] at e';cases e'
   ·rw [hdn] at e';cases e'
   ·rw [hxn] at e';cases e'
   ·rw [hL1] at e';cases e'
 ·rcases r with e | (v | _ | _ | _) <;> exact z
end
end
section
set_option tactic.hygienic true
open PySem PySem.W PySem.Calls PyProof.Rows
set_option maxHeartbeats 4000000
variable {prog : Program} {w : World} {P : Params} {C : Cfg}
section
variable {mu mu' nu : List Addr} {s₀ s s' : Shared} {env : Env} {ρ : List (PySem.Str × PV)} {σ σ' : List (Addr × MO)} {A : Around} {E : Value → Shared → Prop} {K : Frag} {x dx Cl : Addr} {cd : ClassData} {a : FA} {od od2 : Obj} {lines : List PySem.Str} {l : List (PySem.Str × PySem.Str)} {W k : Int} {c : Nat}
private theorem w6q (hC : CfgOk P C) (hp : ProgOk prog) {n : Nat} {y : PySem.Str} {py pos : Pos} {e1 : Expr} {es : List Expr} {Q : Value → Shared → Prop} (r : Rm A (n + 6)) (I : In C mu nu env ρ σ s₀ s)
  (hf : PurE prog w C mu A env ρ σ (.Name y py) (.val (.ref cFmt))) (hargs : PurEs prog w C mu A env ρ σ (e1 :: es) [.int k,.int W,.str sBlank,.str ⟨#[c]⟩])
  (h : ∀ (a : FA) od od2 s',(∀ b ∈ a.all,s.heap.get? b = none) → a.all.Nodup → FmtD od W c a.ln a.x → AccD od2 k → In C (a.all ++ mu) (a.all ++ nu) env ρ (sFmt a od [] [] od2 ++ σ) s₀ s' → Q (.ref a.f) s')
  (he : autoParam (∀ env,starEach (e1 :: es) env = (false,eval e1 env) :: starEach es env) tR) (hpl : autoParam ((backTo pos (starEach es env)).any (·.1) = false) tR) : wpAny (model prog w) A (eval (.Call (.Name y py) (e1 :: es) [] pos) env) Q E s:=by
 refine Call_ (hf s I.ok I.act _ _ fun v s₁ O₁ k₁ y₁ => ?_)
 cases (show v = .ref cFmt from y₁)
 refine callWith_of (P:=C.K.In) ?_ (keeps_K (keep_fmt hC)) ?_
 ·rw [he]
  show ((false || (backTo pos (starEach es env)).any (·.1)) || false) = false
  rw [hpl];rfl
 ·have hargs:=hargs pos s₁ O₁ (I.act.kp I.ok k₁)
  rw [he] at hargs ⊢
  refine evalArgs_plain (hargs _ _ fun vs s₂ O₂ k₂ y₂ => ⟨O₂.K,?_⟩)
  refine fmt_new hC hp r O₂ y₂ _ _ fun a s₃ hn O₃ k₃ ha => ?_
  have kk:=k₁.trans k₂
  have hn' : ∀ b ∈ a.all,s.heap.get? b = none:=fun b hb => q5s O₂ kk (hn b hb)
  obtain ⟨od,hd,hod⟩:=ha.dict
  obtain ⟨od2,hd2,hod2⟩:=ha.acc.dict
  refine h a od od2 s₃ hn' ha.nd hd hd2 (I.grows O₃ (kk.trans k₃) hn' fun b m e => ?_)
  simp only [sFmt,List.lookup_cons,List.lookup_nil] at e
  split at e
  ·rename_i hb;cases e;rw [eq_of_beq hb];exact ⟨by simp,ha.inst⟩
  ·split at e
   ·rename_i hb;cases e;rw [eq_of_beq hb];exact ⟨by simp,hod⟩
   ·split at e
    ·rename_i hb;cases e;rw [eq_of_beq hb];exact ⟨by simp,ha.lns⟩
    ·split at e
     ·rename_i hb;cases e;rw [eq_of_beq hb];exact ⟨by simp,ha.acc.at_⟩
     ·split at e
      ·rename_i hb;cases e;rw [eq_of_beq hb];exact ⟨by simp,hod2⟩
      ·cases e
private theorem pur_joinL {o e : Expr} {name : PySem.Str} {apos pos : Pos} {sep : PySem.Str} {ys : List PySem.Str} {pl : Sem Bool} (ho : PurE prog w C mu A env ρ σ o (.str sep)) (hl : PurL prog w C mu A env ρ σ e (ys.map .str)) (hn : name = PySem.Str.ofString "join") (hsep : sep.length ≤ 16) (hw : (ys.map (·.length)).sum + ys.length ≤ 1048576)
  (he : autoParam (eval (.Call (.Attribute o name apos) [e] [] pos) env = (do let ov ← eval o env;standAt apos.atName;let __x ← holding [ov] (getMethod ov name pl);match __x with | (f,first) => callWith pos f first (backTo pos (starEach [e] env)) [])) tR)
  (hs : autoParam (starEach [e] env = (false,eval e env) :: starEach [] env) tR) (hplain : autoParam ((backTo pos (starEach [] env)).any (·.1) = false) tR) :
  PurE prog w C mu A env ρ σ (.Call (.Attribute o name apos) [e] [] pos) (.str (PySem.Txt.join sep ys)):=fun s O a Q E k =>
 MethodCall_ (pl:=pl) (ho s O a _ _ fun v s₁ O₁ k₁ y₁ => q6m hn pl s₁ v _ _ O₁ y₁ (callWith_method1 (by
  rw [hs]
  refine spliced_cons (hl s₁ O₁ (a.kp O k₁) _ _ fun u s₂ O₂ k₂ y₂ => spliced_nil ?_)
  obtain ⟨t,rfl⟩:=y₁.kp0 O₁ k₂
  obtain ⟨b,ws,n,rfl,ho',hv⟩:=y₂
  exact join_listW ⟨_,ho',rfl,n,rfl⟩ (by simpa using q3r hv) hsep hw fun t' tk => k _ _ (O₂.tok (tk:=tk)) ((k₁.trans k₂).trans ⟨fun _ _ _ _ e => e⟩) ⟨t',rfl⟩) hs hplain)) he
private theorem fmt_str (hC : CfgOk P C) (hp : ProgOk prog) {n : Nat} {sep : PySem.Str} {vs : List Value} (r : Rm A (n + 9)) (O : Ok C mu s) (ha : FmtAt mu s.heap a W c lines l k) (hy : Sims s.heap mu [.str sep] vs) (h : NlOk l k) (hln : lines.length ≤ 4096)
  (hsep : sep.length ≤ 16) (hw : ((q0x lines l k).map (·.length)).sum + (q0x lines l k).length ≤ 1048576) :
  FmtTo prog w C mu A (call (.ref q8j) (.ref a.f :: vs)) a W c (q0x lines l k) [] 0 (.str (PySem.Txt.join sep (q0x lines l k))) s:=by
 intro Q E kk
 have hlen:=hy.length
 obtain ⟨v₁,rfl⟩ : ∃ v₁,vs = [v₁]:=by
  exact len1 hlen
 refine q1f (ρc:=[]) (vs:=[.ref a.f,v₁]) (names:=[vSelf,(⟨#[108,105,110,101,115,101,112]⟩ : PySem.Str)]) (ps:=[.val (.ref a.f),.str sep]) ((w1n hC).at O) r O ⟨_,_,rfl,rfl,hy⟩ (BindsTo.of_eq rfl) rfl Clo.nil rfl rfl fun L s₁ hL I r' hk => ?_
 rw [List.append_nil] at I
 obtain ⟨od,od2,hd,hk2,I₁⟩:=ha.tell I hL rfl rfl hk
 have nd:=ha.nd
 have hnu : ∀ b ∈ a.wr,b ∈ [a.ln,a.x,a.dx,L]:=fun b hb => by simp at hb ⊢;rcases hb with h | h | h <;> simp [h]
 refine q0a (wpAny_Expr_any ?_ rfl rfl)
 refine q2f (q1r hC) I₁.ok I₁.act (q0b rfl rfl) (q4d nd) (q9m hC) (q8n hC) (w1f hd) (q4i hC) (fun s₂ O₂ k₂ => ?_)
 have I₂:=I₁.next O₂ k₂
 refine fmt_nl hC hp (n:=n) r' O₂ (FmtAt.ofAct I₂.act nd hd hk2) h hln _ _ fun v s₃ O₃ k₃ ha₃ _ => ?_
 obtain ⟨od3,od4,hd3,hk4,I₃⟩:=w2w I₂ nd hnu O₃ k₃ ha₃
 refine q0a (q0n I₃ (pur_joinL (q0b (p:=.str sep) rfl rfl) (purL_mut (q9a hC nd hd3 rfl) (sF_ln nd)) rfl hsep hw) fun v s' I' y => ?_)
 obtain ⟨h1,h2,h3⟩:=w6o I' hL ha.mem nd hd3 hk4
 exact kk v s' h1 h2 h3 (y.sub fun a h => .tail _ h)
end
end
section
set_option tactic.hygienic true
open PySem PySem.W PySem.Calls PyProof.Rows
set_option maxHeartbeats 4000000
variable {prog : Program} {w : World} {P : Params} {C : Cfg}
section
variable {mu mu' nu : List Addr} {s₀ s s' : Shared} {env : Env} {ρ ρc : List (PySem.Str × PV)} {σ σ' : List (Addr × MO)} {A : Around} {E : Value → Shared → Prop} {x dx : Addr} {od : Obj} {l : List (PySem.Str × PySem.Str)} {k : Int} {scope : Scope} {cl : List (PySem.Str × Addr)}
private theorem q3v {e : Expr} {b b' : Bool} (h : PurB prog w C mu A env ρ σ e b) (q : b = b') : PurB prog w C mu A env ρ σ e b':=q ▸ h
private theorem pur_of {e : Expr} {p q : PV} (h : PurE prog w C mu A env ρ σ e p) (e' : p = q) : PurE prog w C mu A env ρ σ e q:=e' ▸ h
private theorem w8t {y z : PySem.Str} {py pz tp : Pos} {kk : Nat} {elt : Expr} {l : List PV} {g : Nat → PV} (hA : A.handled = none) (hy : ∀ L D,StOk (cEnv scope cl L env) (cOwn scope L ++ [D]) y) (hz : ∀ L D,StOk (cEnv scope cl L env) (cOwn scope L ++ [D]) z) (hn : ρc.lookup y = none) (hn2 : ρc.lookup z = none)
  (h : ∀ i p,l[i]? = some p → ∃ a b,p = .tup [a,b] ∧ ∀ L D ys,PurE prog w C (cOwn scope L ++ D :: mu) A (cEnv scope cl L env) ((z,b) :: (y,a) :: ρc) ((D,Mlst ys) :: σ) elt (g i)) :
  q0w prog w C mu A env ρc σ (.Tuple [.Name y py,.Name z pz] kk tp) elt [] scope cl l (fun i => some (g i)):=fun L D ys i p hp => by
 obtain ⟨a,b,rfl,he⟩:=h i p hp
 refine ⟨(z,b) :: (y,a) :: ρc,fun s v I hv => w3g I hA (hy L D) (hz L D) hv fun s' I' => I',fun v q e => ?_,q8l,he L D ys⟩
 rw [List.lookup_cons]
 cases hb : v == z with
 | true => rw [eq_of_beq hb,hn2] at e;cases e
 | false =>
  show List.lookup v ((y,a) :: ρc) = _
  rw [List.lookup_cons]
  cases hb : v == y with
  | true => rw [eq_of_beq hb,hn] at e;cases e
  | false => exact e
private theorem w3k {l' : List (PySem.Str × PySem.Str)} {k' : Int} (I : In C mu nu env ρ (sAcc x dx l od) s₀ s) (hne : x ≠ dx) (hnu : x ∈ nu) (O' : Ok C mu s') (kp : Kp C [x] s s') (ha : AccAt mu s'.heap x dx l' k') : In C mu nu env ρ (sAcc x dx l' od) s₀ s':=by
 have hx:=I.act.st x _ sAcc_x
 have hd:=I.act.st dx _ (sAcc_d hne)
 refine I.change O' kp (fun b hb => ?_) fun b m e => ?_
 ·simp at hb;rw [hb];exact ⟨hnu,hx.2.1⟩
 ·simp only [sAcc,List.lookup_cons,List.lookup_nil] at e
  split at e
  ·rename_i hb;cases e;rw [eq_of_beq hb];exact ⟨hx.1,hx.2.1,ha.at_⟩
  ·split at e
   ·rename_i hb;cases e;rw [eq_of_beq hb]
    exact ⟨hd.1,hd.2.1,kp.keep _ _ (fun q => by simp at q;exact hne q.symm) (I.ok.notTab hd.1) hd.2.2⟩
   ·cases e
private theorem w1y (hC : CfgOk P C) {n : Nat} {o e1 e2 : Expr} {apos pos epos : Pos} {p q : PySem.Str} {pl : Sem Bool} {Q : Flow → Shared → Prop} (r : Rm A (n + 1)) (I : In C mu nu env ρ (sAcc x dx l od) s₀ s) (hne : x ≠ dx) (hnu : x ∈ nu) (hk : AccD od k)
  (ho : PurE prog w C mu A env ρ (sAcc x dx l od) o (.val (.ref x))) (h1 : PurE prog w C mu A env ρ (sAcc x dx l od) e1 (.str p)) (h2 : PurE prog w C mu A env ρ (sAcc x dx l od) e2 (.str q)) (hl : l.length ≤ 1024)
  (kk : ∀ s',In C mu nu env ρ (sAcc x dx (l ++ [(p,q)]) od) s₀ s' → Q .next s')
  (he : autoParam (eval (.Call (.Attribute o ⟨#[112,117,115,104]⟩ apos) [e1,e2] [] pos) env = (do let ov ← eval o env;standAt apos.atName;let __x ← holding [ov] (getMethod ov ⟨#[112,117,115,104]⟩ pl);match __x with | (f,first) => callWith pos f first (backTo pos (starEach [e1,e2] env)) [])) tR)
  (hs1 : autoParam (∀ env,starEach [e1,e2] env = (false,eval e1 env) :: starEach [e2] env) tR) (hs2 : autoParam (∀ env,starEach [e2] env = (false,eval e2 env) :: starEach [] env) tR)
  (hi : autoParam (interactive env = false) tR) (hsw : autoParam (swapsWith (.Call (.Attribute o ⟨#[112,117,115,104]⟩ apos) [e1,e2] [] pos) none epos.line env = pure false) tR) :
  wpAny (model prog w) A (exec (.Expr (.Call (.Attribute o ⟨#[112,117,115,104]⟩ apos) [e1,e2] [] pos) epos) env) Q E s:=by
 refine wpAny_Expr_any ?_ hi hsw
 refine q2r (pl:=pl) (q0o hC) I.ok I.act ho (q3z hne) (q8f hC) (q8b hC) (q1c hk (by decide)) (q3g hC) (q0c h1 (q0c h2 q0d hs2) hs1) (fun s₂ vs O₂ k₂ y₂ => ?_) he (hs1 env)
 have I₂:=I.next O₂ k₂
 exact w3i hC r O₂ (AccAt.ofAct I₂.act sAcc_x (sAcc_d hne) hne hk) y₂ hl _ _ fun v s₃ O₃ k₃ ha₃ _ => kk s₃ (w3k I₂ hne hnu O₃ k₃ ha₃)
private theorem x_pop (hC : CfgOk P C) {n : Nat} {o e1 : Expr} {apos pos : Pos} {i : Nat} {pl : Sem Bool} (r : Rm A (n + 1)) (I : In C mu nu env ρ (sAcc x dx l od) s₀ s) (hne : x ≠ dx) (hnu : x ∈ nu) (hk : AccD od k)
  (ho : PurE prog w C mu A env ρ (sAcc x dx l od) o (.val (.ref x))) (h1 : PurE prog w C mu A env ρ (sAcc x dx l od) e1 (.int i)) (hi : i ≤ l.length) (hl : l.length ≤ 1024)
  (he : autoParam (eval (.Call (.Attribute o ⟨#[112,111,112,95,102,114,111,109]⟩ apos) [e1] [] pos) env = (do let ov ← eval o env;standAt apos.atName;let __x ← holding [ov] (getMethod ov ⟨#[112,111,112,95,102,114,111,109]⟩ pl);match __x with | (f,first) => callWith pos f first (backTo pos (starEach [e1] env)) [])) tR)
  (hs1 : autoParam (∀ env,starEach [e1] env = (false,eval e1 env) :: starEach [] env) tR) :
  XE prog w C mu nu A env ρ (sAcc x dx (l.take i) od) s₀ (.Call (.Attribute o ⟨#[112,111,112,95,102,114,111,109]⟩ apos) [e1] [] pos) (.lst ((l.drop i).map pairPV)) s:=fun Q E kk => by
 refine q2r (pl:=pl) (q0o hC) I.ok I.act ho (q3z hne) (q5z hC) (q5u hC) (q1c hk (by decide)) (q2y hC) (q0c h1 q0d hs1) (fun s₂ vs O₂ k₂ y₂ => ?_) he (hs1 env)
 have I₂:=I.next O₂ k₂
 exact w0h hC r O₂ (AccAt.ofAct I₂.act sAcc_x (sAcc_d hne) hne hk) y₂ hi hl _ _ fun v s₃ O₃ k₃ ha₃ y₃ => kk v s₃ (w3k I₂ hne hnu O₃ k₃ ha₃) y₃
private theorem x_pop0 (hC : CfgOk P C) {n : Nat} {o : Expr} {apos pos : Pos} {pl : Sem Bool} (r : Rm A (n + 1)) (I : In C mu nu env ρ (sAcc x dx l od) s₀ s) (hne : x ≠ dx) (hnu : x ∈ nu) (hk : AccD od k)
  (ho : PurE prog w C mu A env ρ (sAcc x dx l od) o (.val (.ref x))) (hl : l.length ≤ 1024)
  (he : autoParam (eval (.Call (.Attribute o ⟨#[112,111,112,95,102,114,111,109]⟩ apos) [] [] pos) env = (do let ov ← eval o env;standAt apos.atName;let __x ← holding [ov] (getMethod ov ⟨#[112,111,112,95,102,114,111,109]⟩ pl);match __x with | (f,first) => callWith pos f first (backTo pos (starEach [] env)) [])) tR) :
  XE prog w C mu nu A env ρ (sAcc x dx [] od) s₀ (.Call (.Attribute o ⟨#[112,111,112,95,102,114,111,109]⟩ apos) [] [] pos) (.lst (l.map pairPV)) s:=fun Q E kk => by
 refine q2f (pl:=pl) (q0o hC) I.ok I.act ho (q3z hne) (q5z hC) (q5u hC) (q1c hk (by decide)) (q2y hC) (fun s₂ O₂ k₂ => ?_) he
 have I₂:=I.next O₂ k₂
 exact w5h hC r O₂ (AccAt.ofAct I₂.act sAcc_x (sAcc_d hne) hne hk) hl _ _ fun v s₃ O₃ k₃ ha₃ y₃ => kk v s₃ (w3k I₂ hne hnu O₃ k₃ ha₃) y₃
private theorem w0p {y : PySem.Str} {px pos : Pos} {e : Expr} {p : PV} {Q : Flow → Shared → Prop} (hx : StOk env nu y) (h : XE prog w C mu nu A env ρ σ s₀ e p s)
  (kk : ∀ s',In C mu nu env ((y,p) :: ρ) σ s₀ s' → Q .next s') (hs : autoParam (swapsWith e (some (.Name y px)) pos.line env = pure false) tR) : wpAny (model prog w) A (exec (.Assign [.Name y px] e pos) env) Q E s:=
 wpAny_Assign_Name (h _ _ fun v s₁ I₁ y₁ => q2b I₁ hx y₁ fun s' I' _ => kk s' I') hs
end
end
section
open PySem PySem.W PySem.Calls PyProof.Rows
set_option maxHeartbeats 4000000
variable {prog : Program} {w : World} {P : Params} {C : Cfg}
noncomputable def prs (ns : List Nat) : List (PySem.Str × PySem.Str):=ns.map fun n => (sEmpty,dots n)
private theorem w5v (a b : List Nat) : prs (a ++ b) = prs a ++ prs b:=List.map_append
private theorem w7p (a : List Nat) (i : Nat) : (prs a).take i = prs (a.take i):=List.map_take.symm
private theorem w7q (a : List Nat) (i : Nat) : (prs a).drop i = prs (a.drop i):=List.map_drop.symm
private theorem q1w (a : List Nat) : (prs a).length = a.length:=List.length_map ..
private theorem prs_at {m : List Nat} {i : Nat} {p : PV} (h : ((prs m).map pairPV)[i]? = some p) : ∃ n,m[i]? = some n ∧ p = .tup [.str sEmpty,dotPV n]:=by
 rw [prs,List.map_map,List.getElem?_map] at h
 obtain ⟨n,h1,h2⟩:=Option.map_eq_some_iff.mp h
 exact ⟨n,h1,h2.symm⟩
private theorem dot_at {m : List Nat} {i : Nat} {p : PV} (h : (m.map dotPV)[i]? = some p) : ∃ n,m[i]? = some n ∧ p = dotPV n ∧ m.take (i + 1) = m.take i ++ [n]:=by
 rw [List.getElem?_map] at h
 obtain ⟨n,h1,h2⟩:=Option.map_eq_some_iff.mp h
 exact ⟨n,h1,h2.symm,by rw [List.take_add_one,h1];rfl⟩
private theorem prs_mem (m : List Nat) : (prs m).contains ((sEmpty,sEmpty) : PySem.Str × PySem.Str) = decide (0 ∈ m):=by
 rw [Bool.eq_iff_iff,List.contains_iff_mem,decide_eq_true_iff]
 constructor
 ·intro h
  obtain ⟨n,hn,e⟩:=List.mem_map.mp h
  have : dots n = dots 0:=congrArg Prod.snd e
  rw [← dots_inj this];exact hn
 ·intro h
  exact List.mem_map.mpr ⟨0,h,rfl⟩
private theorem dots_less : ∀ n : Nat,n < 8 → sSlice (dots n) (some 1) none = dots (n - 1) ∧ (Builtin.Str.strSliceIndices (some 1) none 1 (dots n).length).length ≤ 2 ^ 20:=by decide +kernel
private theorem q0p (n : Nat) : (dots n).length = n:=by show (List.replicate n 46).toArray.size = n;simp
private theorem fdiv_small {o : Int} {n : Nat} (h1 : -1 ≤ o) (h2 : o < 65536) (hn : 0 < n) : -1 ≤ o.fdiv n ∧ o.fdiv n < 65536:=by
 have hn' : (0 : Int) < n:=by lia
 rw [Int.fdiv_eq_ediv_of_nonneg _ (by lia)]
 constructor
 ·rw [Int.le_ediv_iff_mul_le hn'];lia
 ·rw [Int.ediv_lt_iff_lt_mul hn']
  have : 65536 * 1 ≤ 65536 * (n : Int):=Int.mul_le_mul_of_nonneg_left (by lia) (by lia)
  lia
private theorem q2j {a : List Nat} (h : a.length ≤ 8) : (prs a).length ≤ 1024:=by rw [q1w];(with_reducible refine nad ?_;decide)
private theorem w5u {a : List Nat} (h : a.length ≤ 8) : ((prs a).map pairPV).length ≤ 2 ^ 20:=by rw [List.length_map,q1w];(with_reducible refine nad ?_;decide)
private theorem prs_63 {a : List Nat} (h : a.length ≤ 8) : ((prs a).map pairPV).length < 2 ^ 63:=by rw [List.length_map,q1w];(with_reducible refine nae ?_;decide)
private theorem take_8 {a : List Nat} {i : Nat} (h : a.length ≤ 8) : (a.take i).length ≤ 8:=by rw [List.length_take];with_reducible exact ni3
private theorem app_take {a b : List Nat} {j : Nat} (h : (a ++ b).length ≤ 8) : (a ++ b.take j).length ≤ 8:=by
 rw [List.length_append] at h ⊢
 rw [List.length_take];lia
private theorem srt_8 {a : List Nat} (h : a.length ≤ 8) : (srt a).length ≤ 8:=(q1d a).length_eq ▸ h
private theorem sub_cast {a b : Nat} (h : ¬ a < b) : (a : Int) - (b : Int) = ((a - b : Nat) : Int):=by omega
private theorem dots_63 {n : Nat} (h : n ≤ 7) : (dots n).cps.size < 2 ^ 63:=by
 have:=q0p n
 unfold PySem.Str.length at this
 lia
private theorem cat_8 {a b : List Nat} (h : (a ++ b.map (· - 1)).length ≤ 8) : ((a.map id).map dotPV).length + ((b.map (· - 1)).map dotPV).length ≤ 2 ^ 20:=by
 rw [List.length_append] at h
 simp only [List.length_map] at h ⊢
 (with_reducible refine nad ?_;decide)
section
variable {mu mu' nu : List Addr} {s₀ s s' : Shared} {env : Env} {ρ ρc : List (PySem.Str × PV)} {σ σ' : List (Addr × MO)} {A : Around} {E : Value → Shared → Prop} {x dx : Addr} {od : Obj} {scope : Scope} {cl : List (PySem.Str × Addr)}
private theorem w3n {y z : PySem.Str} {py pz tp : Pos} {kk : Nat} {elt : Expr} {m : List Nat} {f : Nat → Nat} (hA : A.handled = none) (hy : ∀ L D,StOk (cEnv scope cl L env) (cOwn scope L ++ [D]) y) (hz : ∀ L D,StOk (cEnv scope cl L env) (cOwn scope L ++ [D]) z) (hn : ρc.lookup y = none) (hn2 : ρc.lookup z = none)
  (h : ∀ n ∈ m,∀ L D ys,PurE prog w C (cOwn scope L ++ D :: mu) A (cEnv scope cl L env) ((z,dotPV n) :: (y,.str sEmpty) :: ρc) ((D,Mlst ys) :: σ) elt (dotPV (f n))) :
  q0w prog w C mu A env ρc σ (.Tuple [.Name y py,.Name z pz] kk tp) elt [] scope cl ((prs m).map pairPV) (fun i => some (dotPV (f (m.getD i 0)))):=
 w8t hA hy hz hn hn2 fun i p hp => by
  obtain ⟨n,h1,rfl⟩:=prs_at hp
  refine ⟨_,_,rfl,fun L D ys => ?_⟩
  rw [show m.getD i 0 = n by rw [List.getD_eq_getElem?_getD,h1];rfl]
  exact h n (List.mem_of_getElem? h1) L D ys
private theorem q6j (m : List Nat) (f : Nat → Nat) : (List.range ((prs m).map pairPV).length).filterMap (fun i => some (dotPV (f (m.getD i 0)))) = (m.map f).map dotPV:=by
 rw [List.length_map,q1w,q2n,List.map_map]
 refine List.ext_getElem (by simp) fun i h1 h2 => ?_
 have h : i < m.length:=by simpa using h2
 simp [List.getD_eq_getElem?_getD,h]
private theorem law_joined (hC : CfgOk P C) (hp : ProgOk prog) {n : Nat} {ns : List Nat} {o : Int} (hl : ns.length = 8) (h7 : ∀ x ∈ ns,x ≤ 7) (h1 : -1 ≤ o) (h2 : o < 65536) :
  FnOk prog w C q6x (n + 12) [.lst (ns.map dotPV),.int o] (.bool (joined 8 o (srt ns))):=by
 intro A mu r s vs O hy Q E kk
 have hlen:=hy.length
 refine q1f (ρc:=[]) (names:=[⟨#[114,111,119,115]⟩,⟨#[111,114,100,101,114]⟩]) ((w1m hC).at O) (n:=n + 11) r O hy (BindsTo.of_eq ?bind) rfl Clo.nil rfl rfl fun L s₁ hL I r' hk => ?_
 case bind =>
  obtain ⟨_,_,rfl⟩:=len2 hlen;rfl
 rw [List.append_nil] at I
 refine q0a (wpAny_Assign_Name ?_ rfl)
 refine w4s hC hp (n:=n + 8) r' I (q0f (q0e hC rfl) rfl rfl) (fun x dx od s₂ hx hdx hne hod I₂ => ?_)
 have hnu : x ∈ [x,dx,L]:=.head _
 have hLn : L ∈ [x,dx,L]:=.tail _ (.tail _ (.head _))
 have hel : (srt ns).length = 8:=(q1d ns).length_eq.trans hl
 have hs7 : ∀ v ∈ srt ns,v ≤ 7:=fun v h => h7 v ((q1d ns).mem_iff.mp h)
 refine q2b (p:=.val (.ref x)) I₂ ⟨rfl,.inl ⟨rfl,hLn⟩⟩ rfl fun s₃ I₃ _ => ?_
 have I₃ : In C (x :: dx :: L :: mu) [x,dx,L] (callEnv (q6q P) L q6x) [(⟨#[112,105,108,101]⟩,.val (.ref x)),(⟨#[111,114,100,101,114]⟩,.int o),(⟨#[114,111,119,115]⟩,.lst (ns.map dotPV))] (sAcc x dx (prs []) od) s s₃:=I₃
 have out : ∀ {ρ : List (PySem.Str × PV)} {σ : List (Addr × MO)} {s' : Shared},In C (x :: dx :: L :: mu) [x,dx,L] (callEnv (q6q P) L q6x) ρ σ s s' → Ok C mu s' ∧ Kp C [] s s':=fun I' => by
  refine ⟨I'.ok.sub fun b h => .tail _ (.tail _ (.tail _ h)),⟨fun b o _ ht e => I'.kp.keep b o (fun q => ?_) ht e⟩⟩
  simp only [List.mem_cons,List.not_mem_nil,or_false] at q
  rcases q with q | q | q
  ·rw [q,I.unborn hx] at e;cases e
  ·rw [q,I.unborn hdx] at e;cases e
  ·rw [q,hL] at e;cases e
 -- the rows go on the pile
 refine q0a (q4o (l:=(srt ns).map dotPV) I₃ r'.none (IterE.of r'.none (q0u (ps:=[.lst (ns.map dotPV)]) (q0f (q0e hC rfl) rfl rfl) (q0c (q0b rfl rfl) q0d (fun _ => rfl)) (q5m (by (with_reducible refine nag ?_;decide))) (fun _ => rfl)) q1y)
  (fun i ρ σ => σ = sAcc x dx (prs ((srt ns).take i)) od ∧ ρ.lookup ⟨#[112,105,108,101]⟩ = some (.val (.ref x)) ∧ ρ.lookup ⟨#[111,114,100,101,114]⟩ = some (.int o)) (fun _ _ _ _ => False) ⟨rfl,rfl,rfl⟩ ?turn1 ?kE1 (fun _ _ _ _ h _ => h.elim))
 case turn1 =>
  rintro i pv v ρ σ s₄ hp' ⟨rfl,lp,lo⟩ I₄ y
  obtain ⟨m,hm,rfl,ht⟩:=dot_at hp'
  refine q3a I₄ ⟨rfl,.inl ⟨rfl,hLn⟩⟩ y fun s₅ I₅ => ?_
  refine q1x fun K hK => ?_
  refine q0a (w1y hC (n:=n + 10) (p:=sEmpty) (q:=dots m) r' I₅ hne hnu hod (q0b lp rfl) q2t (q0b rfl rfl) (q2j (take_8 (Nat.le_of_eq hel))) (fun s₆ I₆ => ?_))
  refine wpAny_execs_nil (hK _ _ ⟨_,_,I₆,?_,lp,lo⟩)
  rw [ht,w5v];rfl
 case kE1 =>
  rintro ρ σ s₄ ⟨rfl,lp,lo⟩ I₄
  refine wpAny_execs_nil ?_
  rw [List.length_map,List.take_length] at I₄
  -- the turns
  refine q0a (q4o (l:=rangeL 0 1 8) I₄ r'.none (q2d (n:=8) (q0f (q0e hC rfl) rfl rfl) q0r (by decide))
   (fun i ρ σ => ∃ o' pile,σ = sAcc x dx (prs pile) od ∧ pile.length = 8 - i ∧ pile.Pairwise (· ≤ ·) ∧ (∀ v ∈ pile,v ≤ 7) ∧ -1 ≤ o' ∧ o' < 65536 ∧ joined (8 - i) o' pile = joined 8 o (srt ns) ∧ ρ.lookup ⟨#[112,105,108,101]⟩ = some (.val (.ref x)) ∧ ρ.lookup ⟨#[111,114,100,101,114]⟩ = some (.int o'))
   (fun f _ _ _ => f = .ret (.bool false) ∧ joined 8 o (srt ns) = false) ⟨o,srt ns,rfl,hel,q3i ns,hs7,h1,h2,rfl,lp,lo⟩ ?turn ?kE ?kB)
  case kB =>
   rintro f ρ σ s' ⟨rfl,e⟩ I'
   exact kk _ s' (out I').1 (out I').2 (by rw [e];rfl)
  case kE =>
   rintro ρ σ s' ⟨o',pile,rfl,hpl,-,-,-,-,hj,lp,lo⟩ I'
   have hpl : pile.length = 0:=hpl
   refine wpAny_execs_nil (q0a (q0n I' (p:=.bool (((prs pile).length : Int) == 0)) (q4f (q2o hC hp (n:=n + 10) r' sAcc_x (sAcc_d hne) hne hod (by rw [q1w];(with_reducible refine naf ?_;decide)) (q0b lp rfl)) q0k op_eq) fun v s₅ I₅ y => ?_))
   refine kk v s₅ (out I₅).1 (out I₅).2 ?_
   have e : joined 8 o (srt ns) = true:=by
    rw [← hj]
    show (pile.length == 0) = true
    rw [hpl];rfl
   rw [q1w,hpl] at y
   rw [e];exact y
  case turn =>
   rintro i pv v ρ σ s₅ hp' ⟨o',pile,rfl,hpl,hps,hp7,ho1,ho2,hj,lp,lo⟩ I₅ y
   have hi : i < 8:=by simpa [rangeL] using (List.getElem?_eq_some_iff.mp hp').1
   obtain ⟨m,hm⟩ : ∃ m,8 - i = m + 1:=⟨7 - i,by lia⟩
   have hm' : 8 - (i + 1) = m:=by with_reducible exact nb9
   rw [hm] at hpl hj
   have hm8 : m + 1 ≤ 8:=hm ▸ Nat.sub_le 8 i
   have hp8 : pile.length ≤ 8:=hpl ▸ hm8
   have hp1 : 0 < pile.length:=hpl ▸ Nat.succ_pos m
   refine q3a I₅ ⟨rfl,.inl ⟨rfl,hLn⟩⟩ y fun s₆ I₆ => ?_
   refine q1x fun K hK => ?_
   clear I₅ y
   have lp : List.lookup ⟨#[112,105,108,101]⟩ ((⟨#[116,117,114,110]⟩,pv) :: ρ) = some (.val (.ref x)):=lp
   have lo : List.lookup ⟨#[111,114,100,101,114]⟩ ((⟨#[116,117,114,110]⟩,pv) :: ρ) = some (.int o'):=lo
   generalize ((⟨#[116,117,114,110]⟩,pv) :: ρ) = ρ at I₆ lp lo
   have hn0 : (0 : Int) < pile.length:=Int.natCast_pos.mpr hp1
   have f0:=Int.fmod_nonneg_of_pos o' hn0
   have f1:=Int.fmod_lt_of_pos o' hn0
   obtain ⟨pl,hpl'⟩ : ∃ pl,(o'.fmod pile.length).toNat = pl:=⟨_,rfl⟩
   have hpe : o'.fmod pile.length = (pl : Int):=by lia
   have hplt : pl < pile.length:=by lia
   have hd1 : -1 ≤ o'.fdiv pile.length ∧ o'.fdiv pile.length < 65536:=fdiv_small ho1 ho2 hp1
   -- order,place = int_divmod(order,pile.part_count())
   have f:=idmZ (prog:=prog) (w:=w) hC (o:=o') (b:=pile.length) ho1 ho2 hp1 hp8
   rw [hpe] at f
   refine q0a (q2c I₆ r'.none ⟨rfl,.inl ⟨rfl,hLn⟩⟩ ⟨rfl,.inl ⟨rfl,hLn⟩⟩ (q0t (q0f (q0e hC rfl) rfl rfl) (q0c (q0b lo rfl) (q0c (pur_of (q2o hC hp (n:=n + 10) r' sAcc_x (sAcc_d hne) hne hod (q2j hp8) (q0b lp rfl)) (congrArg (fun k : Nat => PV.int k) (q1w _))) q0d (fun _ => rfl)) (fun _ => rfl)) (q9y hC) f (r'.mono (Nat.le_add_left 10 (n + 1))) (fun _ => rfl)) fun s₇ I₇ => ?_)
   -- tail = pile.pop_from(place)
   refine q0a (w0p ⟨rfl,.inl ⟨rfl,hLn⟩⟩ (x_pop hC (n:=n + 10) (i:=pl) r' I₇ hne hnu hod (q0b lp rfl) (q0b rfl rfl) (by rw [q1w];exact Nat.le_of_lt hplt) (q2j hp8)) fun s₈ I₈ => ?_)
   obtain ⟨own,tl,htl⟩ : ∃ own tl,pile.drop pl = own :: tl:=by
    cases e : pile.drop pl with
    | nil => exact absurd hplt (Nat.not_lt_of_le (List.drop_eq_nil_iff.mp e))
    | cons own tl => exact ⟨own,tl,rfl⟩
   have hown : own ≤ 7:=hp7 own (List.mem_of_mem_drop (htl ▸ List.mem_cons_self ..))
   have htl7 : tl.length + 1 + pl = pile.length:=by
    have:=congrArg List.length htl
    rw [List.length_drop,List.length_cons] at this
    lia
   rw [w7p,w7q,htl] at I₈
   unfold joined at hj
   rw [hpl',htl] at hj
   have hj : (match turnJ own (pile.take pl ++ tl) with | none => false | some q => joined m (o'.fdiv pile.length) q) = joined 8 o (srt ns):=hj
   have hr7 : ∀ v ∈ pile.take pl ++ tl,v ≤ 7:=fun v hv => hp7 v (by
    rcases List.mem_append.mp hv with q | q
    ·exact List.mem_of_mem_take q
    ·exact List.mem_of_mem_drop (by rw [htl];exact List.mem_cons_of_mem _ q))
   have hrl : (pile.take pl ++ tl).length = m:=by
    rw [List.length_append,List.length_take,Nat.min_eq_left (Nat.le_of_lt hplt)]
    exact Nat.succ.inj ((by rw [Nat.succ_eq_add_one,Nat.add_assoc,Nat.add_comm pl];exact htl7 : Nat.succ (pl + tl.length) = pile.length).trans hpl)
   have hr8 : (pile.take pl ++ tl).length ≤ 8:=hrl ▸ Nat.le_of_succ_le hm8
   have ht8 : (own :: tl).length ≤ 8:=Nat.le_trans (Nat.le_add_right _ pl) (htl7 ▸ hp8)
   -- for blank,row in tail[1:]
   refine q0a (q4o (l:=(prs tl).map pairPV) I₈ r'.none (IterE.of r'.none (q7c (lo:=some 1) (hi:=none) (l:=(prs (own :: tl)).map pairPV) (q0m (q0b rfl rfl)) (part1 q0r) part0 (w5u ht8)).pur (q7s ((prs (own :: tl)).map pairPV) 1 (by rw [List.length_map,q1w,List.length_cons];exact Nat.succ_pos _) ▸ q1y))
    (fun j ρ σ => σ = sAcc x dx (prs (pile.take pl ++ tl.take j)) od ∧ ρ.lookup ⟨#[112,105,108,101]⟩ = some (.val (.ref x)) ∧ ρ.lookup ⟨#[111,114,100,101,114]⟩ = some (.int (o'.fdiv pile.length)) ∧ ρ.lookup ⟨#[116,97,105,108]⟩ = some (.lst ((prs (own :: tl)).map pairPV))) (fun _ _ _ _ => False) ⟨by rw [List.take_zero,List.append_nil],lp,rfl,rfl⟩ ?tn ?kE (fun _ _ _ _ h _ => h.elim))
   case tn =>
    rintro j pv v ρ σ s₄ hp' ⟨rfl,lp,lo,lt⟩ I₄ y
    obtain ⟨c,hc,rfl⟩:=prs_at hp'
    refine w3g I₄ r'.none ⟨rfl,.inl ⟨rfl,hLn⟩⟩ ⟨rfl,.inl ⟨rfl,hLn⟩⟩ y fun s₅ I₅ => ?_
    refine q1x fun K hK => ?_
    refine q0a (w1y hC (n:=n + 10) (p:=sEmpty) (q:=dots c) r' I₅ hne hnu hod (q0b lp rfl) (q0b rfl rfl) (q0b rfl rfl) (q2j (app_take hr8)) (fun s₆ I₆ => ?_))
    refine wpAny_execs_nil (hK _ _ ⟨_,_,I₆,?_,lp,lo,lt⟩)
    rw [List.take_add_one,hc,← List.append_assoc]
    exact congrArg (fun l => sAcc x dx l od) (w5v _ [c]).symm
   case kE =>
    rintro ρ σ s₄ ⟨rfl,lp,lo,lt⟩ I₄
    refine wpAny_execs_nil ?_
    rw [List.length_map,q1w,List.take_length] at I₄
    generalize pile.take pl ++ tl = rest at hj hr7 hrl hr8 I₄
    -- own = len(tail[0][1])
    refine q0a (q0h (p:=.int ((dots own).length : Int)) I₄ ⟨rfl,.inl ⟨rfl,hLn⟩⟩ (q0u (ps:=[dotPV own]) (q0f (q0e hC rfl) rfl rfl) (q0c (q9b (l:=[.str sEmpty,dotPV own]) (j:=1) (q1e (j:=0) (q0m (q0b lt rfl)) q0k rfl (prs_63 ht8)) q0k rfl (by show 2 < 2 ^ 63;decide)) q0d (fun _ => rfl)) (q3d (dots_63 hown)) (fun _ => rfl)) fun s₅ I₅ => ?_)
    rw [q0p] at I₅
    by_cases c1 : rest.length < own
    ·refine q0a (st_IfT I₅ (q3v (b:=decide (((rest.length : Nat) : Int) < (own : Int))) (q0g (q0b rfl rfl) (pur_of (q2o hC hp (n:=n + 10) r' sAcc_x (sAcc_d hne) hne hod (q2j hr8) (q0b lp rfl)) (congrArg (fun k : Nat => PV.int k) (q1w _))) op_gt rfl) (decide_eq_true (Int.ofNat_lt.mpr c1))) fun s₆ I₆ => ?_)
     refine q0a (q0n I₆ (p:=.bool false) w2g fun v s₇ I₇ y => ?_)
     cases (show v = .bool false from y)
     refine hK _ _ ⟨_,_,I₇,rfl,?_⟩
     rw [← hj];unfold turnJ;rw [if_pos c1]
    refine q0a (st_IfN I₅ (q3v (b:=decide (((rest.length : Nat) : Int) < (own : Int))) (q0g (q0b rfl rfl) (pur_of (q2o hC hp (n:=n + 10) r' sAcc_x (sAcc_d hne) hne hod (q2j hr8) (q0b lp rfl)) (congrArg (fun k : Nat => PV.int k) (q1w _))) op_gt rfl) (decide_eq_false fun h => c1 (Int.ofNat_lt.mp h))) fun s₆ I₆ => ?_)
    -- taken = pile.pop_from(pile.part_count() - own)
    refine q0a (w0p ⟨rfl,.inl ⟨rfl,hLn⟩⟩ (x_pop hC (n:=n + 10) (i:=rest.length - own) r' I₆ hne hnu hod (q0b lp rfl) (pur_of (q0l (pur_of (q2o hC hp (n:=n + 10) r' sAcc_x (sAcc_d hne) hne hod (q2j hr8) (q0b lp rfl)) (congrArg (fun k : Nat => PV.int k) (q1w _))) (q0b (p:=.int (own : Int)) rfl rfl) op_sub) (congrArg PV.int (sub_cast c1))) (by rw [q1w];exact Nat.sub_le ..) (q2j hr8)) fun s₇ I₇ => ?_)
    rw [w7p,w7q] at I₇
    have hhi : ∀ v ∈ rest.drop (rest.length - own),v ≤ 7:=fun v hv => hr7 v (List.mem_of_mem_drop hv)
    have hlo : ∀ v ∈ rest.take (rest.length - own),v ≤ 7:=fun v hv => hr7 v (List.mem_of_mem_take hv)
    have hll : (rest.take (rest.length - own)).length + (rest.drop (rest.length - own)).length = m:=by rw [← List.length_append,List.take_append_drop,hrl]
    unfold turnJ at hj
    rw [if_neg c1] at hj
    generalize rest.take (rest.length - own) = lo' at I₇ hj hll hlo
    generalize rest.drop (rest.length - own) = hi' at I₇ hj hll hhi
    by_cases c2 : (0 : Nat) ∈ hi'
    ·refine q0a (st_IfT I₇ (q3v (q0g (p:=pairPV (sEmpty,sEmpty)) (by repeat' walk_at "pe") (q0b rfl rfl) (q9i (Rm.in1 r').cu) rfl) ((prs_mem _).trans (decide_eq_true c2))) fun s₈ I₈ => ?_)
     refine q0a (q0n I₈ (p:=.bool false) w2g fun v s₉ I₉ y => ?_)
     cases (show v = .bool false from y)
     refine hK _ _ ⟨_,_,I₉,rfl,?_⟩
     rw [← hj,if_pos c2]
    refine q0a (st_IfN I₇ (q3v (q0g (p:=pairPV (sEmpty,sEmpty)) (by repeat' walk_at "pe") (q0b rfl rfl) (q9i (Rm.in1 r').cu) rfl) ((prs_mem _).trans (decide_eq_false c2))) fun s₈ I₈ => ?_)
    rw [if_neg c2] at hj
    -- for row in sorted(..)
    have hql : (lo' ++ hi'.map (· - 1)).length = m:=by rw [List.length_append,List.length_map];exact hll
    have hq8 : (lo' ++ hi'.map (· - 1)).length ≤ 8:=hql ▸ Nat.le_of_succ_le hm8
    have hlo8 : lo'.length ≤ 8:=Nat.le_trans (Nat.le_add_right _ _) (hll ▸ Nat.le_of_succ_le hm8)
    have hhi8 : hi'.length ≤ 8:=Nat.le_trans (Nat.le_add_left _ _) (hll ▸ Nat.le_of_succ_le hm8)
    have lp' : List.lookup ⟨#[112,105,108,101]⟩ ((⟨#[116,97,107,101,110]⟩,PV.lst ((prs hi').map pairPV)) :: (⟨#[111,119,110]⟩,PV.int (own : Int)) :: ρ) = some (.val (.ref x)):=lp
    have lo'' : List.lookup ⟨#[111,114,100,101,114]⟩ ((⟨#[116,97,107,101,110]⟩,PV.lst ((prs hi').map pairPV)) :: (⟨#[111,119,110]⟩,PV.int (own : Int)) :: ρ) = some (.int (o'.fdiv pile.length)):=lo
    have e1 : (lo' ++ hi'.map (· - 1)).map dotPV = (List.range ((prs lo').map pairPV).length).filterMap (fun i => some (dotPV (id (lo'.getD i 0)))) ++ (List.range ((prs hi').map pairPV).length).filterMap (fun i => some (dotPV ((hi'.getD i 0) - 1))):=by
     rw [q6j,q6j hi' (· - 1),List.map_id,List.map_append]
    refine q0a (st_ForI (l:=(srt (lo' ++ hi'.map (· - 1))).map dotPV) r'.none (IterI.ofX (p:=.lst ((srt (lo' ++ hi'.map (· - 1))).map dotPV)) r'.none q1y (XE.call1 (p:=.lst ((lo' ++ hi'.map (· - 1)).map dotPV)) I₈ (q0f (q0e hC rfl) rfl rfl) (fun s I => ?xe) (q5m (Nat.lt_of_le_of_lt hq8 (by decide))) (fun _ => rfl)))
     (fun j ρ σ => σ = sAcc x dx (prs ((srt (lo' ++ hi'.map (· - 1))).take j)) od ∧ ρ.lookup ⟨#[112,105,108,101]⟩ = some (.val (.ref x)) ∧ ρ.lookup ⟨#[111,114,100,101,114]⟩ = some (.int (o'.fdiv pile.length))) (fun _ _ _ _ => False) ⟨rfl,lp',lo''⟩ ?tn ?kE (fun _ _ _ _ h _ => h.elim))
    case xe =>
     rw [e1]
     refine XE.binop (XE.comp (σ:=sAcc x dx (prs []) od) (p:=.lst ((prs lo').map pairPV)) (CompSide.of (ρc:=[]) rfl rfl rfl (fun _ h => nomatch h)) r'.none (x_pop0 hC (n:=n + 10) r' I hne hnu hod (q0b lp' rfl) (q2j hlo8)) q1y (w3n (f:=id) r'.none (fun _ _ => ⟨rfl,.inl ⟨rfl,.head _⟩⟩) (fun _ _ => ⟨rfl,.inl ⟨rfl,.head _⟩⟩) rfl rfl fun c hc L' D ys => q0b rfl rfl) (w5u hlo8))
      (q1a [] (fun _ h => nomatch h) I.cells r'.none (IterE.of r'.none (q0b rfl rfl) q1y) (w3n (f:=(· - 1)) r'.none (fun _ _ => ⟨rfl,.inl ⟨rfl,.head _⟩⟩) (fun _ _ => ⟨rfl,.inl ⟨rfl,.head _⟩⟩) rfl rfl fun c hc L' D ys => ?_) (w5u hhi8)).pur (w0z ?_)
     ·obtain ⟨q1,q2⟩:=dots_less c (Nat.lt_succ_of_le (hhi c hc))
      exact pur_of (w5s (lo:=some 1) (hi:=none) (q0b rfl rfl) (part1 q0r) part0 (by rw [q0p];have:=hhi c hc;(with_reducible refine nad ?_;decide)) q2) (congrArg PV.str q1)
     ·rw [q6j,q6j hi' (· - 1)]
      exact cat_8 hq8
    case tn =>
     rintro j pv v ρ σ s₄ hp' ⟨rfl,lp,lo⟩ I₄ y
     obtain ⟨c,hc,rfl,ht⟩:=dot_at hp'
     refine q3a I₄ ⟨rfl,.inl ⟨rfl,hLn⟩⟩ y fun s₅ I₅ => ?_
     refine q1x fun K hK => ?_
     refine q0a (w1y hC (n:=n + 10) (p:=sEmpty) (q:=dots c) r' I₅ hne hnu hod (q0b lp rfl) q2t (q0b rfl rfl) (q2j (take_8 (srt_8 hq8))) (fun s₆ I₆ => ?_))
     refine wpAny_execs_nil (hK _ _ ⟨_,_,I₆,?_,lp,lo⟩)
     rw [ht,w5v];rfl
    case kE =>
     rintro ρ σ s₄ ⟨rfl,lp,lo⟩ I₄
     rw [List.length_map,List.take_length] at I₄
     refine wpAny_execs_nil (wpAny_execs_nil (hK _ _ ⟨_,_,I₄,_,_,rfl,?_,q3i _,fun v hv => ?_,hd1.1,hd1.2,?_,lp,lo⟩))
     ·rw [(q1d _).length_eq,hql,hm']
     ·rcases List.mem_append.mp ((q1d _).mem_iff.mp hv) with q | q
      ·exact hlo v q
      ·obtain ⟨c,hc,rfl⟩:=List.mem_map.mp q
       have:=hhi c hc
       show c - 1 ≤ 7
       with_reducible exact nb3
     ·rw [hm'];exact hj
end
end
section
open PySem PySem.W PySem.Calls PyProof.Rows
set_option maxHeartbeats 4000000
variable {prog : Program} {w : World} {P : Params} {C : Cfg}
noncomputable abbrev DSt:=List PySem.Str × List (PySem.Str × PySem.Str) × Int
noncomputable def stD (W : Nat) : Nat → DSt
 | 0 => ([],[],0)
 | i + 1 => chunk W 46 (stD W i).1 (stD W i).2.1 (stD W i).2.2 sEmpty (dots 1)
noncomputable def sNl : PySem.Str:=⟨#[10]⟩
noncomputable def chkF (W i : Nat) : Bool:=
 (stD W i).2.2 == 0 && decide ((stD W i).1.length ≤ 8) && decide ((stD W i).2.1.length ≤ 8) && (stD W i).2.1.all (fun p => p.1 == sEmpty && p.2 == dots 1) &&
 (decide (accN (nlOf (stD W i).2.1) 0 = 0) || !onlyWs (nlOf (stD W i).2.1) 0) && decide (((q0x (stD W i).1 (stD W i).2.1 0).map (·.length)).sum ≤ 100) && decide ((q0x (stD W i).1 (stD W i).2.1 0).length ≤ 100) &&
 decide ((PySem.Txt.join sNl (q0x (stD W i).1 (stD W i).2.1 0)).length ≤ 200) && decide ((PySem.Txt.split (PySem.Txt.join sNl (q0x (stD W i).1 (stD W i).2.1 0)) sNl).length ≤ 200) && (PySem.Txt.split (PySem.Txt.join sNl (q0x (stD W i).1 (stD W i).2.1 0)) sNl).head? == some (dots (min i W))
private theorem chkF_all : (List.range 8).all (fun W => (List.range 8).all fun i => chkF (W + 1) i) = true:=by decide +kernel
structure StD (W i : Nat) (st : DSt) : Prop where
 k : st.2.2 = 0
 nl : st.1.length ≤ 8
 len : st.2.1.length ≤ 8
 each : ∀ p ∈ st.2.1,p = (sEmpty,dots 1)
 only : 0 < ((accN (nlOf st.2.1) 0 : Nat) : Int) → onlyWs (nlOf st.2.1) 0 = false
 sum : ((q0x st.1 st.2.1 0).map (·.length)).sum ≤ 100
 lines : (q0x st.1 st.2.1 0).length ≤ 100
 join : (PySem.Txt.join sNl (q0x st.1 st.2.1 0)).length ≤ 200
 spl : (PySem.Txt.split (PySem.Txt.join sNl (q0x st.1 st.2.1 0)) sNl).length ≤ 200
 head : (PySem.Txt.split (PySem.Txt.join sNl (q0x st.1 st.2.1 0)) sNl).head? = some (dots (min i W))
private theorem stD_ok {W i : Nat} (h1 : 1 ≤ W) (h8 : W ≤ 8) (hi : i < 8) : StD W i (stD W i):=by
 have h:=List.all_eq_true.mp (List.all_eq_true.mp chkF_all (W - 1) (List.mem_range.mpr (by omega))) i (List.mem_range.mpr hi)
 rw [Nat.sub_add_cancel h1] at h
 unfold chkF at h
 simp only [Bool.and_eq_true,decide_eq_true_eq,beq_iff_eq,List.all_eq_true,Bool.or_eq_true,Bool.not_eq_true'] at h
 obtain ⟨⟨⟨⟨⟨⟨⟨⟨⟨a1,a2⟩,a3⟩,a4⟩,a5⟩,a6⟩,a7⟩,a8⟩,a9⟩,a10⟩:=h
 refine ⟨a1,a2,a3,fun p hp => Prod.ext (a4 p hp).1 (a4 p hp).2,fun q => ?_,a6,a7,a8,a9,a10⟩
 rcases a5 with e | e
 ·rw [e] at q;exact absurd q (by decide)
 ·exact e
private theorem StD.sz {W i : Nat} {st : DSt} (h : StD W i st) : AccSz st.2.1 st.2.2 ∧ Short st.2.1 ∧ (∀ p,st.2.1.getLast? = some p → ¬ (p.1 = sBlank ∧ p.2 = sEmpty)):=by
 refine ⟨⟨Nat.le_trans h.len (by decide),fun p hp => ?_,?_,?_⟩,fun p hp => ?_,fun p hp q => ?_⟩
 ·rw [h.each p hp];exact ⟨by decide,by decide⟩
 ·rw [h.k];decide
 ·rw [h.k];decide
 ·rw [h.each p hp];exact ⟨by decide,by decide⟩
 ·rw [h.each p (List.mem_of_getLast? hp)] at q
  exact absurd q.1 (by decide)
private theorem StD.ch {W i : Nat} {st : DSt} (h : StD W i st) : ChOk st.2.1 st.2.2 sEmpty (dots 1):=by
 have hm : ∀ p ∈ st.2.1 ++ [(sEmpty,dots 1)],p = (sEmpty,dots 1):=fun p hp => by
  rcases List.mem_append.mp hp with q | q
  ·exact h.each p q
  ·simpa using q
 refine ⟨⟨?_,fun p hp => ?_,?_,?_⟩,fun p hp => ?_,h.sz.2.2⟩
 ·have:=h.len
  rw [List.length_append,List.length_singleton];lia
 ·rw [hm p hp];exact ⟨by decide,by decide⟩
 ·rw [h.k];decide
 ·rw [h.k];decide
 ·rw [hm p hp];exact ⟨by decide,by decide⟩
private theorem StD.nlk {W i : Nat} {st : DSt} (h : StD W i st) : NlOk st.2.1 0:=by
 have:=h.sz
 rw [h.k] at this
 exact ⟨this.2.2,h.only,this.1,this.2.1⟩
section
variable {mu mu' nu : List Addr} {s₀ s s' : Shared} {env : Env} {ρ : List (PySem.Str × PV)} {σ σ' : List (Addr × MO)} {A : Around} {E : Value → Shared → Prop} {a : FA} {od od2 : Obj} {lines : List PySem.Str} {l : List (PySem.Str × PySem.Str)} {W k : Int} {c : Nat}
private theorem fd_app2 {od : Obj} (h : FmtD od W c a.ln a.x) : lookIn ⟨#[95,97,112,112,101,110,100,95,99,104,117,110,107]⟩ od = some none:=by
 obtain ⟨h1,t1,u1,h2,t2,u2,h3,t3,u3,h4,t4,u4,h5,t5,h6,t6,n,rfl⟩:=h
 exact rfl
private theorem fd_str2 {od : Obj} (h : FmtD od W c a.ln a.x) : lookIn ⟨#[95,115,116,114]⟩ od = some none:=by
 obtain ⟨h1,t1,u1,h2,t2,u2,h3,t3,u3,h4,t4,u4,h5,t5,h6,t6,n,rfl⟩:=h
 exact rfl
private theorem law_first (hC : CfgOk P C) (hp : ProgOk prog) {n m W : Nat} (h1 : 1 ≤ W) (h8 : W ≤ 8) (hm : m < 8) :
  FnOk prog w C w7e (n + 11) [dotPV m,.int W] (dotPV (min m W)):=by
 intro A mu r s vs O hy Q E kk
 have hlen:=hy.length
 refine q1f (ρc:=[]) (names:=[⟨#[114,111,119]⟩,⟨#[119,105,100,116,104]⟩]) ((w4x hC).at O) (n:=n + 10) r O hy (BindsTo.of_eq ?bind) rfl Clo.nil rfl rfl fun L s₁ hL I r' hk => ?_
 case bind =>
  obtain ⟨_,_,rfl⟩:=len2 hlen;rfl
 rw [List.append_nil] at I
 refine q0a (wpAny_Assign_Name ?_ rfl)
 refine w6q hC hp (n:=n + 4) r' I (q0f (q0e hC rfl) rfl rfl) (k:=0) (W:=W) (c:=46) (by repeat' walk_at "pe") (fun a od od2 s₂ hn nd hd hk2 I₂ => ?_)
 rw [List.append_nil] at I₂
 have hnu : ∀ b ∈ a.wr,b ∈ a.all ++ [L]:=fun b hb => by simp at hb ⊢;rcases hb with h | h | h <;> simp [h]
 have hLn : L ∈ a.all ++ [L]:=by simp
 refine q2b (p:=.val (.ref a.f)) I₂ ⟨rfl,.inl ⟨rfl,hLn⟩⟩ rfl fun s₃ I₃ _ => ?_
 have hdl : ((dots m).cps.toList.map fun c => PV.str ⟨#[c]⟩) = (List.replicate m (PV.str (dots 1))):=by
  rw [show (dots m).cps.toList = List.replicate m 46 from rfl,List.map_replicate];rfl
 refine q0a (q4o (l:=List.replicate m (.str (dots 1))) I₃ r'.none (IterE.of r'.none (q0b (p:=dotPV m) rfl rfl) (hdl ▸ w8a))
  (fun i ρ σ => ∃ od od2,σ = sFmt a od (stD W i).1 (stD W i).2.1 od2 ∧ FmtD od W 46 a.ln a.x ∧ AccD od2 (stD W i).2.2 ∧ ρ.lookup ⟨#[119,114,105,116,101,114]⟩ = some (.val (.ref a.f)))
  (fun _ _ _ _ => False) ⟨od,od2,rfl,hd,hk2,rfl⟩ ?turn ?kE (fun _ _ _ _ h _ => h.elim))
 case turn =>
  rintro i pv v ρ σ s₄ hp' ⟨od,od2,rfl,hd,hk2,lw⟩ I₄ y
  have hi : i < m:=by simpa using (List.getElem?_eq_some_iff.mp hp').1
  have hpv : pv = .str (dots 1):=by simpa [hi] using hp'.symm
  subst hpv
  refine q3a I₄ ⟨rfl,.inl ⟨rfl,hLn⟩⟩ y fun s₅ I₅ => ?_
  refine q1x fun K hK => ?_
  have hst:=stD_ok (W:=W) (i:=i) h1 h8 (by lia)
  refine q0a (wpAny_Expr_any ?_ rfl rfl)
  refine q2r (q1r hC) I₅.ok I₅.act (q0b lw rfl) (q4d nd) (m_f_app hC) (t_f_app hC) (fd_app2 hd) (w4y hC) (q0c (p:=.str sEmpty) q2t (q0c (p:=.str (dots 1)) (q0b rfl rfl) q0d (fun _ => rfl)) (fun _ => rfl)) (fun s₆ vs O₆ k₆ y₆ => ?_)
  have I₆:=I₅.next O₆ k₆
  refine fmt_app hC hp (n:=n + 1) r' O₆ (FmtAt.ofAct I₆.act nd hd hk2) y₆ hst.ch (Nat.le_trans hst.nl (by decide)) _ _ fun v s₇ O₇ k₇ ha₇ _ => ?_
  obtain ⟨od3,od4,hd3,hk4,I₇⟩:=w2w I₆ nd hnu O₇ k₇ ha₇
  exact wpAny_execs_nil (hK _ _ ⟨_,_,I₇,od3,od4,rfl,hd3,hk4,lw⟩)
 case kE =>
  rintro ρ σ s₄ ⟨od,od2,rfl,hd,hk2,lw⟩ I₄
  rw [List.length_replicate] at hk2 I₄
  have hst:=stD_ok (W:=W) (i:=m) h1 h8 hm
  rw [hst.k] at hk2
  refine wpAny_execs_nil (q0a (wpAny_Return_some ?_))
  refine XE.item (C:=C) (mu:=a.all ++ L :: mu) (p:=dotPV (min m W)) (ρ:=ρ) (σ:=[]) (nu:=a.all ++ [L]) (s₀:=s) (j:=0) (l:=(PySem.Txt.split (PySem.Txt.join sNl (q0x (stD W m).1 (stD W m).2.1 0)) sNl).map .str) ?v q0k ?_ ?_ (fun _ _ => rfl) _ _ ?_
  case v =>
   refine XE.meth (p:=.str (PySem.Txt.join sNl (q0x (stD W m).1 (stD W m).2.1 0))) (ps:=[.str sNl]) ?x (q7k rfl) (q0c q2t q0d (fun _ => rfl)) (w2j rfl (Nat.le_trans hst.join (by decide)))
   case x =>
    intro Q E kk
    refine q2r (ps:=[.str sNl]) (q1r hC) I₄.ok I₄.act (q0b lw rfl) (q4d nd) (m_f__str hC) (t_f__str hC) (fd_str2 hd) (w1n hC) (q0c q2t q0d (fun _ => rfl)) (fun s₅ vs O₅ k₅ y₅ => ?_)
    have I₅:=I₄.next O₅ k₅
    refine fmt_str hC hp (n:=n + 1) r' O₅ (FmtAt.ofAct I₅.act nd hd hk2) y₅ hst.nlk (Nat.le_trans hst.nl (by decide)) (by decide) (by have:=hst.sum;have:=hst.lines;lia) _ _ fun v s₆ O₆ k₆ ha₆ y₆ => ?_
    obtain ⟨od3,od4,hd3,hk4,I₆⟩:=w2w I₅ nd hnu O₆ k₆ ha₆
    exact kk v s₆ (I₆.forget (fun _ _ h => h) fun _ _ h => nomatch h) y₆
  ·rw [List.getElem?_map,← List.head?_eq_getElem?,hst.head];rfl
  ·rw [List.length_map]
   have:=hst.spl
   (with_reducible refine nae ?_;decide)
  ·intro v s₆ I₆ y₆
   refine kk v s₆ (I₆.ok.sub fun b h => List.mem_append_right _ (.tail _ h)) ⟨fun b o _ ht e => I₆.kp.keep b o (fun q => ?_) ht e⟩ (y₆.sub fun b h => List.mem_append_right _ (.tail _ h))
   rcases List.mem_append.mp q with q | q
   ·rw [I.unborn (hn b q)] at e;cases e
   ·simp at q;rw [q,hL] at e;cases e
end
end
section
open PySem PySem.W PySem.Calls PyProof.Rows
variable {prog : Program} {w : World} {P : Params} {C : Cfg}
open PySem.Builtin.Re
noncomputable abbrev PatK (C : Cfg) (a : Addr) (code : Array Nat) : Prop:=∀ h,C.K.In h → PatAt h a code
private theorem pat1 (hC : CfgOk P C) : PatK C a_re1 c1:=fun h X => ⟨Mine.hd.zo_63 P,_,42,Mine.hd.zo_62 P,_,_,_,_,_,_,X _ _ (by rw [hC.K];kernel_rfl),by kernel_rfl,rfl,rfl,rfl,rfl,rfl,rfl,rfl,X _ _ (by rw [hC.K];kernel_rfl),by kernel_rfl,rfl,by kernel_rfl⟩
private theorem pat2 (hC : CfgOk P C) : PatK C a_re2 c2:=fun h X => ⟨Mine.hd.zo_65 P,_,47,Mine.hd.zo_64 P,_,_,_,_,_,_,X _ _ (by rw [hC.K];kernel_rfl),by kernel_rfl,rfl,rfl,rfl,rfl,rfl,rfl,rfl,X _ _ (by rw [hC.K];kernel_rfl),by kernel_rfl,rfl,by kernel_rfl⟩
section
variable {mu : List Addr} {A : Around} {s : Shared}
private theorem w7t {a : Addr} {code : Array Nat} {name : PySem.Str} (h : PatK C a code) (hn : name = PySem.Str.ofString "sub") : Meth prog w C mu A (.val (.ref a)) name "re.Pattern.sub":=fun pl s v Q E O hv k => by
 cases (show v = .ref a from hv)
 subst hn
 obtain ⟨o,_,_,_,_,_,_,_,_,_,h1,h2,h3,_⟩:=h _ O.K
 exact getMethod_builtin ⟨o,h1,h2⟩ w0l q4q w3m (fun b e => by cases e;exact ⟨o,h1,h3⟩) k
private theorem op_crlf {a : Addr} {x : PySem.Str} (h : PatK C a c2) (hsz : x.cps.size ≤ 40000) : OpL prog w C mu A (fun vs => call (.builtin "re.Pattern.sub") vs) [.val (.ref a),.str ⟨#[13,10]⟩,.str x] (.str (crlfS x)):=fun s vs O hy => by
 obtain ⟨v,r,rfl,hv,v₂,r₂,rfl,⟨t₂,rfl⟩,v₃,r₃,rfl,⟨t₃,rfl⟩,hr⟩:=hy
 cases (show r₃ = [] from hr)
 cases (show v = .ref a from hv)
 intro Q E k
 refine sub_wp (next:=nextNl x.cps) (len:=nlLen x.cps) (by (with_reducible refine nad ?_;decide)) (by decide) (by decide +kernel) (fun p hp => ?_) (fun p q hp hq => ?_) (h _ O.K) fun h' tk t' hk => ?_
 ·obtain ⟨m',g,r⟩:=search2 x.cps p hp
  exact ⟨m',45,by decide,g,r⟩
 ·obtain ⟨h1,h2,h3⟩:=q3l _ p rfl hq
  have : (nlLen x.cps q = 2 ∧ q + 1 < x.cps.size) ∨ nlLen x.cps q = 1:=by
   unfold nlLen
   by_cases hc : (x.cps.getD q 0 == 13 && (decide (q + 1 < x.cps.size) && x.cps.getD (q + 1) 0 == 10)) = true
   ·rw [if_pos hc]
    simp only [Bool.and_eq_true,decide_eq_true_eq] at hc
    exact .inl ⟨rfl,hc.2.1⟩
   ·rw [if_neg hc]
    exact .inr rfl
  rcases this with ⟨e,h4⟩ | e <;> rw [e] <;> lia
 ·rw [w3s]
  exact k _ _ (O.keep hk) (Kp.of_keep hk) ⟨t',rfl⟩
private theorem op_dots {a : Addr} {x : PySem.Str} (h : PatK C a c1) (hsz : x.cps.size ≤ 100000) : OpL prog w C mu A (fun vs => call (.builtin "re.Pattern.sub") vs) [.val (.ref a),.str ⟨#[46,46]⟩,.str x] (.str ⟨(dotted true x.cps.toList).toArray⟩):=fun s vs O hy => by
 obtain ⟨v,r,rfl,hv,v₂,r₂,rfl,⟨t₂,rfl⟩,v₃,r₃,rfl,⟨t₃,rfl⟩,hr⟩:=hy
 cases (show r₃ = [] from hr)
 cases (show v = .ref a from hv)
 intro Q E k
 refine sub_wp (next:=q0v x.cps) (len:=fun _ => 1) hsz (by decide) (by decide +kernel) (fun p hp => ?_) (fun p q hp hq => ?_) (h _ O.K) fun h' tk t' hk => ?_
 ·obtain ⟨m',g,r⟩:=search1 x.cps (by (with_reducible refine nae ?_;decide)) p hp
  exact ⟨m',5 * x.cps.size + 5,by lia,g,r⟩
 ·obtain ⟨h1,h2,h3⟩:=q3t _ p rfl hq
  lia
 ·rw [w5j]
  exact k _ _ (O.keep hk) (Kp.of_keep hk) ⟨t',rfl⟩
end
private theorem quotedata (hC : CfgOk P C) {x : PySem.Str} (hsz : x.cps.size ≤ 40000) : FnOk prog w C w7d 1 [.str x] (.str (quoteS x)):=by
 refine FnOk.of (names:=[⟨#[100,97,116,97]⟩]) (w4w hC) (fun vs h => ?_) rfl rfl rfl rfl fun A mu L s s₁ r hL I => ?_
 ·obtain ⟨_,rfl⟩:=len1 h;rfl
 ·obtain ⟨tc,hc⟩:=g_crlf hC
  refine q0a (q0n I (p:=.str (quoteS x)) (quoteS_eq x ▸ ?_) fun v s' I' y => ⟨v,_,rfl,I',y⟩)
  refine q4e (ps:=[.str ⟨#[46,46]⟩,.str (crlfS x)]) (q0f (q0e hC rfl) rfl rfl) (w7t (pat1 hC) (by decide +kernel)) ?_ (op_dots (pat1 hC) ?_)
  ·refine q0c (by walk_at "pe") (q0c ?_ q0d fun _ => rfl) fun _ => rfl
   refine q4e (ps:=[.str ⟨#[13,10]⟩,.str x]) (q0f (q0e hC rfl) rfl rfl) (w7t (pat2 hC) (by decide +kernel)) ?_ (op_crlf (pat2 hC) hsz)
   repeat' walk_at "pe"
  ·show (crlf x.cps.toList).toArray.size ≤ 100000
   have:=w0b x.cps.toList
   have e : (crlf x.cps.toList).toArray.size = (crlf x.cps.toList).length:=List.size_toArray
   have e2 : x.cps.toList.length = x.cps.size:=Array.length_toList
   rw [e]
   lia
end
section
open PySem PySem.W PySem.Calls PyProof.Rows
set_option maxHeartbeats 4000000
variable {prog : Program} {w : World} {P : Params} {C : Cfg}
noncomputable abbrev q9j : PySem.Str:=⟨#[115,99,114,105,112,116]⟩
noncomputable abbrev nm_k : PySem.Str:=⟨#[107]⟩
noncomputable abbrev q3e : PySem.Str:=⟨#[110,117,109,98,101,114,115]⟩
noncomputable abbrev q3y : PySem.Str:=⟨#[114,111,119,115]⟩
noncomputable abbrev q5e : PySem.Str:=⟨#[116,97,105,108,115]⟩
noncomputable abbrev w2o : PySem.Str:=⟨#[115,101,110,116]⟩
noncomputable abbrev q8d : PySem.Str:=⟨#[119,105,100,116,104]⟩
noncomputable abbrev q5f : PySem.Str:=⟨#[115,105,122,101,115]⟩
noncomputable abbrev q1k : PySem.Str:=⟨#[99,111,108,117,109,110,115]⟩
noncomputable abbrev w5y : PySem.Str:=⟨#[114,101,115,116]⟩
noncomputable abbrev w2p : PySem.Str:=⟨#[109,111,115,116]⟩
noncomputable abbrev q7h : PySem.Str:=⟨#[108,111,110,103,101,115,116]⟩
noncomputable abbrev q7i : PySem.Str:=⟨#[102,97,105,114]⟩
noncomputable abbrev nm_n : PySem.Str:=⟨#[110]⟩
noncomputable def q8r (sc : List Int) (k st : Nat) : List Int:=(sliceRange (sliceBounds (some (k : Int)) none (some (st : Int)) sc.length).1 (sliceBounds (some (k : Int)) none (some (st : Int)) sc.length).2.1 (sliceBounds (some (k : Int)) none (some (st : Int)) sc.length).2.2).filterMap (sc[·]?)
private theorem filterMap_map {α β : Type} (f : α → β) (l : List α) (is : List Nat) : is.filterMap ((l.map f)[·]?) = (is.filterMap (l[·]?)).map f:=by
 induction is with
 | nil => rfl
 | cons i is ih =>
  rw [List.filterMap_cons,List.filterMap_cons]
  simp only [List.getElem?_map] at ih ⊢
  cases h : l[i]? with
  | none => simp [ih]
  | some a => simp [ih]
private theorem w8x (sc : List Int) (k st : Nat) : q6g (sc.map .int) (some (k : Int)) none (some (st : Int)) = (q8r sc k st).map .int:=by
 unfold q6g q8r
 rw [filterMap_map,List.length_map]
private theorem w5k {sc : List Int} {k : Nat} (hs : sc.length ≤ 63) (hk : k < 11) : (q8r sc k 11).length ≤ 2 ^ 20:=by
 have h : ∀ n,n < 64 → ∀ k : Nat,k < 11 → (sliceRange (sliceBounds (some (k : Int)) none (some ((11 : Nat) : Int)) n).1 (sliceBounds (some (k : Int)) none (some ((11 : Nat) : Int)) n).2.1 (sliceBounds (some (k : Int)) none (some ((11 : Nat) : Int)) n).2.2).length ≤ 64:=by decide +kernel
 exact Nat.le_trans (List.length_filterMap_le _ _) (Nat.le_trans (h sc.length (by (with_reducible refine nae ?_;decide)) k hk) (by decide))
noncomputable def kAdd : List Int:=[3,2,4,1,2,3,1,2,12,1,77]
noncomputable def numF (sc : List Int) (k : Nat) : Int:=(q8r sc k 11).sum + kAdd.getD k 0
private theorem q2e (x : Int) (n : Nat) (hn : 0 < n) : 0 ≤ x.fmod n ∧ x.fmod n < n:=⟨Int.fmod_nonneg_of_pos _ (by lia),Int.fmod_lt_of_pos _ (by lia)⟩
private theorem q9p {ns : List Int} {i : Nat} (h : i < ns.length) : (ns.map PV.int)[i]? = some (.int (ns.getD i 0)):=by
 rw [List.getElem?_map,List.getD_eq_getElem?_getD,List.getElem?_eq_getElem h];rfl
private theorem w7v {α : Type} {f : Nat → α} {n i : Nat} (h : i < n) : ((List.range n).map f)[i]? = some (f i):=by
 rw [List.getElem?_map,List.getElem?_range h];rfl
private theorem q6l {sz : List Nat} {f : Nat → PV} {i : Nat} (h : i < sz.length) : (sz.map f)[i]? = some (f (sz.getD i 0)):=by
 rw [List.getElem?_map,List.getD_eq_getElem?_getD,List.getElem?_eq_getElem h];rfl
noncomputable def sizeF (ns : List Int) (k : Nat) : Nat:=((ns.getD k 0).fmod 8).toNat
noncomputable def q3j (ns : List Int) : List Nat:=(List.range 8).map (sizeF ns)
noncomputable def widthN (ns : List Int) : Nat:=(4 + (ns.getD 8 0).fmod 900).toNat
noncomputable def mostN (ns : List Int) : Nat:=(1 + (ns.getD 9 0).fmod 8).toNat
private theorem w5p (ns : List Int) : (q3j ns).length = 8:=by unfold q3j;simp
private theorem w9c (ns : List Int) : ∀ s ∈ q3j ns,s ≤ 7:=fun s hs => by
 obtain ⟨k,_,rfl⟩:=List.mem_map.mp hs
 have : 0 ≤ (ns.getD k 0).fmod 8 ∧ (ns.getD k 0).fmod 8 < 8:=q2e (ns.getD k 0) 8 (by decide)
 unfold sizeF
 omega
noncomputable def q5t : List PV:=(List.range 8).map fun k => .str (sTail k)
section
variable {mu mu' nu : List Addr} {s₀ s s' : Shared} {env : Env} {ρ : List (PySem.Str × PV)} {σ σ' : List (Addr × MO)} {A : Around} {E : Value → Shared → Prop}
private theorem q6e {x : PySem.Str} {c : Addr} (hn : okName x = true) (hk : env.kindOf x = some .cell) (hc : env.cells.lookup x = some c) : StOk env (q0i env) x:=⟨hn,.inr ⟨hk,c,hc,.tail _ (List.mem_map_of_mem (f:=(·.2)) (q0j hc))⟩⟩
private theorem q1g {x : PySem.Str} (hn : okName x = true) (hk : env.kindOf x = some .local) : StOk env (q0i env) x:=⟨hn,.inl ⟨hk,.head _⟩⟩
noncomputable abbrev lawEnv (P : Params) (L : Addr) : Env:=callEnvC (fd_law P) L a_law
noncomputable abbrev lawSt (P : Params) (i : Nat) : Stmt:=((bd_law P)[i]?).getD default
private theorem w6f (hC : CfgOk P C) {sc : List Int} {L : Addr} {Q : Flow → Shared → Prop} (hs : sc.length ≤ 63) (hA : A.handled = none) (I : In C mu nu (lawEnv P L) ρ σ s₀ s) (hsc : ρ.lookup q9j = some (.lst (sc.map .int))) (hst : StOk (lawEnv P L) nu q3e)
  (k : ∀ s',In C mu nu (lawEnv P L) ((q3e,.lst ((List.range 11).map fun k => .int (numF sc k))) :: ρ) σ s₀ s' → Q .next s') : wpAny (model prog w) A (exec (lawSt P 0) (lawEnv P L)) Q E s:=by
 refine w0k [(q9j,.lst (sc.map .int))] (l:=rangeL 0 1 11) (g:=fun k => some (.int (numF sc k))) ?h3 I hst hA ?it ?turn (by rw [q1m];decide) (fun s' I' => ?fin)
 case h3 => walk_at "look"
 case it => exact q2d (n:=11) (q0f (q0e hC rfl) rfl rfl) q0k (by decide)
 case turn =>
  refine q2m (fun L D => by walk_at "sto") rfl fun L D ys i p hp => ?_
  obtain ⟨hi,rfl⟩:=q4a hp
  have hk : ([.int 3,.int 2,.int 4,.int 1,.int 2,.int 3,.int 1,.int 2,.int 12,.int 1,.int 77] : List PV)[i]? = some (.int (kAdd.getD i 0)):=by
   show (kAdd.map PV.int)[i]? = _
   rw [List.getElem?_map,List.getD_eq_getElem?_getD,List.getElem?_eq_getElem (show i < kAdd.length from hi)];rfl
  with_reducible refine' q0l (p:=.int (q8r sc i 11).sum) (q:=.int (kAdd.getD i 0)) ?_ ?_ op_add
  ·with_reducible refine' q0u ?_ (q0c ?_ q0d ?_) (op_sum hA (w5k hs hi)) ?_ ?_
   ·exact q0f (q0e hC rfl) rfl rfl
   ·rw [← w8x sc i 11]
    with_reducible refine' PurNE.pur (q9d (lo:=some (i : Int)) (hi:=none) (st:=some ((11 : Nat) : Int)) (q0m ?_) (part1 ?_) part0 (part1 ?_) (by decide) ?_ sl_ops')
    ·exact q0b rfl rfl
    ·exact q0b rfl rfl
    ·exact q0k
    ·rw [List.length_map];(with_reducible refine nad ?_;decide)
   ·exact fun _ => rfl
   ·exact fun _ => rfl
   ·rfl
  ·with_reducible refine' q1e (q0m (q5c ?ps ?l)) ?k ?hk ?sz ?hs
   case ps => repeat' walk_at "pe"
   case l => exact Nat.le_of_ble_eq_true rfl
   case k => exact q0b rfl rfl
   case hk => exact hk
   case sz => exact Nat.lt_of_lt_of_le (by decide : 11 < 2 ^ 10) (by decide)
   case hs => exact fun _ _ => rfl
 case fin =>
  rw [q1m,q2n] at I'
  exact k s' I'
private theorem law_rows (hC : CfgOk P C) {ns : List Int} {L : Addr} {Q : Flow → Shared → Prop} (hn : ns.length = 11) (hA : A.handled = none) (I : In C mu nu (lawEnv P L) ρ σ s₀ s) (hns : ρ.lookup q3e = some (.lst (ns.map .int))) (hst : StOk (lawEnv P L) nu q3y)
  (k : ∀ s',In C mu nu (lawEnv P L) ((q3y,.lst ((q3j ns).map dotPV)) :: ρ) σ s₀ s' → Q .next s') : wpAny (model prog w) A (exec (lawSt P 1) (lawEnv P L)) Q E s:=by
 have ht : ((ns.take 8).map PV.int).length = 8:=by rw [List.length_map,List.length_take];lia
 refine q0h I hst (PurNE.pur (q1a [] (l:=(ns.take 8).map .int) (g:=fun k => some (dotPV (sizeF ns k))) (fun _ h => nomatch h) I.cells hA ?it ?turn (by rw [ht];decide))) (fun s' I' => ?fin)
 case it =>
  have e : q5w (ns.map PV.int) none (some 8) = (ns.take 8).map .int:=by
   rw [q7a (ns.map PV.int) none (some 8) 0 8 (by rw [List.length_map,hn];rfl) (by rw [List.length_map,hn];rfl) (by rw [List.length_map];lia),List.drop_zero,List.map_take]
  exact IterE.of hA (q7c (lo:=none) (hi:=some 8) (q0m (q0b hns rfl)) part0 (part1 q0r) (by rw [List.length_map];(with_reducible refine naf ?_;decide))).pur (e ▸ q1y)
 case turn =>
  refine q2m (fun L D => by walk_at "sto") rfl fun L D ys i p hp => ?_
  have hi : i < 8:=by have:=(List.getElem?_eq_some_iff.mp hp).1;lia
  have hp2 : p = .int (ns.getD i 0):=by
   rw [List.getElem?_map,List.getElem?_take_of_lt hi,List.getElem?_eq_getElem (show i < ns.length by lia)] at hp
   rw [List.getD_eq_getElem?_getD,List.getElem?_eq_getElem (show i < ns.length by lia)]
   exact (Option.some.inj hp).symm
  subst hp2
  have hf : 0 ≤ (ns.getD i 0).fmod 8 ∧ (ns.getD i 0).fmod 8 < 8:=q2e (ns.getD i 0) 8 (by decide)
  have e1 : (ns.getD i 0).fmod 8 = ((sizeF ns i : Nat) : Int):=by unfold sizeF;lia
  have e2 : (⟨((List.replicate (sizeF ns i) (#[46] : Array Nat).toList).flatten).toArray⟩ : PySem.Str) = dots (sizeF ns i):=by simp
  have hs : sizeF ns i ≤ 7:=by omega
  exact pur_of (q0l (p:=.str ⟨#[46]⟩) (q:=.int ((sizeF ns i : Nat) : Int)) q2t (pur_of (q0l (q0b rfl rfl) q0k (op_mod (by decide))) (congrArg PV.int e1)) (w0y (show 1 * _ ≤ _ by lia) (by (with_reducible refine nad ?_;decide)) (by decide))) (congrArg PV.str e2)
 case fin =>
  rw [ht,q2n] at I'
  refine k s' ?_
  unfold q3j
  rw [List.map_map]
  exact I'
private theorem law_tails (hC : CfgOk P C) {L : Addr} {Q : Flow → Shared → Prop} (I : In C mu nu (lawEnv P L) ρ σ s₀ s) (hst : StOk (lawEnv P L) nu q5e)
  (k : ∀ s',In C mu nu (lawEnv P L) ((q5e,.lst q5t) :: ρ) σ s₀ s' → Q .next s') : wpAny (model prog w) A (exec (lawSt P 2) (lawEnv P L)) Q E s:=
 q0h (p:=.lst q5t) I hst (q7d (p:=.lst [.str ⟨#[]⟩,.str ⟨#[120,46]⟩]) (q:=.int ((4 : Nat) : Int)) (by repeat' walk_at "pe") q0k (q9h (k:=4) (by decide) (by decide))).pur k
private theorem w0o {i : Nat} (h : i < 8) : q5t[i]? = some (.str (sTail i)):=w7v h
private theorem w2t {sz : List Nat} (h7 : ∀ s ∈ sz,s ≤ 7) (k : Nat) : (sz.getD k 0) ≤ 7:=by
 rw [List.getD_eq_getElem?_getD]
 cases e : sz[k]? with
 | none => exact Nat.zero_le _
 | some s => exact h7 s (List.mem_of_getElem? e)
private theorem q8m (k : Nat) : (sTail k).length ≤ 2:=by
 show (tailL k).toArray.size ≤ 2
 rw [List.size_toArray];exact w7h k
private theorem nlS_len (k : Nat) : (sNlk k).length ≤ 2:=by
 show (nlL k).toArray.size ≤ 2
 rw [List.size_toArray];exact nl_len k
private theorem w4j {sz : List Nat} (h7 : ∀ s ∈ sz,s ≤ 7) : ∀ l : List Nat,((l.map (lineS sz)).map (·.length)).sum ≤ 11 * l.length
 | [] => Nat.le_refl _
 | k :: l => by
  have h1:=w4j h7 l
  have h2:=w2t h7 k
  have h3:=q8m k
  have h4:=nlS_len k
  have h5 : (lineS sz k).length ≤ 11:=by
   unfold lineS
   rw [q7m,q7m,q0p]
   lia
  show (lineS sz k).length + ((l.map (lineS sz)).map (·.length)).sum ≤ 11 * (l.length + 1)
  lia
private theorem law_sent (hC : CfgOk P C) {sz : List Nat} {L : Addr} {n : Nat} {Q : Flow → Shared → Prop} (r : Rm A (n + 1)) (hl : sz.length = 8) (h7 : ∀ s ∈ sz,s ≤ 7) (I : In C mu nu (lawEnv P L) ρ σ s₀ s) (hr : ρ.lookup q3y = some (.lst (sz.map dotPV))) (ht : ρ.lookup q5e = some (.lst q5t)) (hst : StOk (lawEnv P L) nu w2o)
  (k : ∀ s',In C mu nu (lawEnv P L) ((w2o,.lst (((List.range 8).map (sentS sz) ++ [(⟨#[]⟩ : PySem.Str)]).map .str)) :: ρ) σ s₀ s' → Q .next s') : wpAny (model prog w) A (exec (lawSt P 3) (lawEnv P L)) Q E s:=by
 refine q0h I hst (pur_of (q4e (p:=.str (quoteS (mailT sz))) (ps:=[.str sCr]) ?o (q7k rfl) (q0c q2t q0d (fun _ => rfl)) (w2j rfl (quote_len h7))) (congrArg (fun l : List PySem.Str => PV.lst (l.map .str)) (mail_split sz))) k
 case o =>
  have f:=quotedata (prog:=prog) (w:=w) hC (x:=mailT sz) (Nat.le_trans (w7w h7) (by decide))
  refine q0t (ps:=[.str (mailT sz)]) (q0f (q0e hC rfl) rfl rfl) (q0c ?m q0d (fun _ => rfl)) (w4w hC) f (r.mono (by lia)) (fun _ => rfl)
  refine q4e (p:=.str ⟨#[]⟩) (ps:=[.lst (((List.range 8).map (lineS sz)).map .str)]) q2t (q6m rfl) (q0c ?c q0d (fun _ => rfl)) (op_join (by decide) ?w)
  case w =>
   have:=w4j h7 (List.range 8)
   rw [List.length_map]
   rw [List.length_range] at this ⊢
   lia
  case c =>
   refine pur_of (PurNE.pur (q1a [(q3y,.lst (sz.map dotPV)),(q5e,.lst q5t)] (l:=rangeL 0 1 8) (g:=fun k => some (.str (lineS sz k))) ?h3 I.cells r.none ?it ?turn (by rw [q1m];decide))) (congrArg PV.lst (by rw [q1m,q2n,List.map_map];rfl))
   case h3 => walk_at "look"
   case it => exact q2d (n:=8) (q0f (q0e hC rfl) rfl rfl) q0k (by decide)
   case turn =>
    refine q2m (fun L D => by walk_at "sto") rfl fun L D ys i p hp => ?_
    obtain ⟨hi,rfl⟩:=q4a hp
    have hn : ∀ i,i < 8 → ([.str ⟨#[10]⟩,.str ⟨#[13]⟩,.str ⟨#[13,10]⟩] : List PV)[i % 3]? = some (.str (sNlk i)):=by
     intro i hi
     rcases (by lia : i = 0 ∨ i = 1 ∨ i = 2 ∨ i = 3 ∨ i = 4 ∨ i = 5 ∨ i = 6 ∨ i = 7) with h | h | h | h | h | h | h | h <;> rw [h] <;> rfl
    have em : (i : Int).fmod 3 = ((i % 3 : Nat) : Int):=by rw [Int.fmod_eq_emod_of_nonneg _ (by decide)];rfl
    have q1:=w2t h7 i
    have q2:=q8m i
    have q3:=nlS_len i
    refine q0l (p:=.str (dots (sz.getD i 0) ++ sTail i)) (q:=.str (sNlk i)) (q0l (p:=dotPV (sz.getD i 0)) (q:=.str (sTail i)) (q1e (j:=i) (q0m (q0b rfl rfl)) (q0b rfl rfl) (q6l (by lia)) (by rw [List.length_map];(with_reducible refine nag ?_;decide))) (q1e (j:=i) (q0m (q0b rfl rfl)) (q0b rfl rfl) (w0o hi) (by decide)) (q5d (by rw [q0p];lia)))
     (q1e (j:=i % 3) (q0m (q5c (ps:=[.str ⟨#[10]⟩,.str ⟨#[13]⟩,.str ⟨#[13,10]⟩]) (by repeat' walk_at "pe") (Nat.le_of_ble_eq_true rfl))) (pur_of (q0l (q0b rfl rfl) q0k (op_mod (by decide))) (congrArg PV.int em)) (hn i hi) (by decide)) (q5d (by rw [q7m,q0p];lia))
end
end
section
open PySem PySem.W PySem.Calls PyProof.Rows
set_option maxHeartbeats 4000000
variable {prog : Program} {w : World} {P : Params} {C : Cfg}
section
variable {mu mu' nu : List Addr} {s₀ s s' : Shared} {env : Env} {ρ : List (PySem.Str × PV)} {σ σ' : List (Addr × MO)} {A : Around} {E : Value → Shared → Prop}
private theorem sent_map (sz : List Nat) : ((List.range 8).map (sentS sz) ++ [(⟨#[]⟩ : PySem.Str)]).map PV.str = (List.range 8).map (fun k => PV.str (sentS sz k)) ++ [PV.str ⟨#[]⟩]:=by rw [List.map_append,List.map_map];rfl
private theorem min_nat (n : Nat) : (if (n : Int) < 1 then (n : Int) else 1) = ((min 1 n : Nat) : Int):=by split <;> lia
private theorem dots_rep (n : Nat) : (⟨((List.replicate n (#[46] : Array Nat).toList).flatten).toArray⟩ : PySem.Str) = dots n:=by simp
private theorem w6e (hC : CfgOk P C) {sz : List Nat} {L : Addr} {n : Nat} {Q : Flow → Shared → Prop} (r : Rm A (n + 1)) (hl : sz.length = 8) (h7 : ∀ s ∈ sz,s ≤ 7) (I : In C mu nu (lawEnv P L) ρ σ s₀ s) (hr : ρ.lookup q3y = some (.lst (sz.map dotPV))) (ht : ρ.lookup q5e = some (.lst q5t)) (hs : ρ.lookup w2o = some (.lst (((List.range 8).map (sentS sz) ++ [(⟨#[]⟩ : PySem.Str)]).map .str)))
  (k : ∀ s',In C mu nu (lawEnv P L) ρ σ s₀ s' → Q .next s') : wpAny (model prog w) A (exec (lawSt P 4) (lawEnv P L)) Q E s:=by
 rw [sent_map] at hs
 refine st_IfN I (q0g (p:=.lst ((List.range 8).map (fun k => PV.str (sentS sz k)) ++ [PV.str ⟨#[]⟩])) (q0b hs rfl) (q7d (p:=.lst ((List.range 8).map (fun k => PV.str (sentS sz k)))) (q:=.lst [.str ⟨#[]⟩]) ?c (by repeat' walk_at "pe") (w0z (by rw [List.length_map,List.length_range];decide))).pur (w0x rfl r.cu) rfl) k
 case c =>
  refine pur_of (PurNE.pur (q1a [(q3y,.lst (sz.map dotPV)),(q5e,.lst q5t)] (l:=rangeL 0 1 8) (g:=fun k => some (.str (sentS sz k))) ?h3 I.cells r.none ?it ?turn (by rw [q1m];decide))) (congrArg PV.lst (by rw [q1m,q2n]))
  case h3 => walk_at "look"
  case it => exact q2d (n:=8) (q0f (q0e hC rfl) rfl rfl) q0k (by decide)
  case turn =>
   refine q2m (fun L D => by walk_at "sto") rfl fun L D ys i p hp => ?_
   obtain ⟨hi,rfl⟩:=q4a hp
   have q1:=w2t h7 i
   have q2:=q8m i
   have q3 : min 1 (sz.getD i 0) ≤ 1:=Nat.min_le_left ..
   refine q0l (p:=.str (dots (min 1 (sz.getD i 0)) ++ dots (sz.getD i 0))) (q:=.str (sTail i)) (q0l (p:=dotPV (min 1 (sz.getD i 0))) (q:=dotPV (sz.getD i 0)) (pur_of (q0l (p:=.str ⟨#[46]⟩) (q:=.int ((min 1 (sz.getD i 0) : Nat) : Int)) q2t ?m (w0y (show 1 * _ ≤ _ by lia) (by (with_reducible refine nad ?_;decide)) (by decide))) (congrArg PV.str (dots_rep _))) (q1e (j:=i) (q0m (q0b rfl rfl)) (q0b rfl rfl) (q6l (by lia)) (by rw [List.length_map];(with_reducible refine nag ?_;decide))) (q5d (by rw [q0p,q0p];lia)))
    (q1e (j:=i) (q0m (q0b rfl rfl)) (q0b rfl rfl) (w0o hi) (by decide)) (q5d (by rw [q7m,q0p,q0p];lia))
   case m =>
    refine pur_of (q0u (ps:=[.int 1,.int ((dots (sz.getD i 0)).length : Nat)]) (q0f (q0e hC rfl) rfl rfl) (q0c q0r (q0c (q0u (ps:=[dotPV (sz.getD i 0)]) (q0f (q0e hC rfl) rfl rfl) (q0c (q1e (j:=i) (q0m (q0b rfl rfl)) (q0b rfl rfl) (q6l (by lia)) (by rw [List.length_map];(with_reducible refine nag ?_;decide))) q0d (fun _ => rfl)) (q3d (by have:=q0p (sz.getD i 0);unfold PySem.Str.length at this;lia)) (fun _ => rfl)) q0d (fun _ => rfl)) (fun _ => rfl)) (op_min2 r.none) (fun _ => rfl)) ?_
    rw [q0p]
    exact congrArg PV.int (min_nat _)
private theorem law_width (hC : CfgOk P C) {ns : List Int} {L : Addr} {Q : Flow → Shared → Prop} (hn : ns.length = 11) (I : In C mu nu (lawEnv P L) ρ σ s₀ s) (hns : ρ.lookup q3e = some (.lst (ns.map .int))) (hst : StOk (lawEnv P L) nu q8d)
  (k : ∀ s',In C mu nu (lawEnv P L) ((q8d,.int (widthN ns : Nat)) :: ρ) σ s₀ s' → Q .next s') : wpAny (model prog w) A (exec (lawSt P 5) (lawEnv P L)) Q E s:=by
 have hf : 0 ≤ (ns.getD 8 0).fmod 900 ∧ (ns.getD 8 0).fmod 900 < 900:=q2e (ns.getD 8 0) 900 (by decide)
 refine q0h (p:=.int (widthN ns : Nat)) I hst (pur_of (q0l q0r (q0l (q1e (j:=8) (q0m (q0b hns rfl)) q0k (q9p (i:=8) (by lia)) (by rw [List.length_map];(with_reducible refine nag ?_;decide))) q0r (op_mod (by decide))) op_add) (congrArg PV.int ?_)) k
 unfold widthN
 lia
private theorem law_most (hC : CfgOk P C) {ns : List Int} {L : Addr} {Q : Flow → Shared → Prop} (hn : ns.length = 11) (I : In C mu nu (lawEnv P L) ρ σ s₀ s) (hns : ρ.lookup q3e = some (.lst (ns.map .int))) (hst : StOk (lawEnv P L) nu w2p)
  (k : ∀ s',In C mu nu (lawEnv P L) ((w2p,.int (mostN ns : Nat)) :: ρ) σ s₀ s' → Q .next s') : wpAny (model prog w) A (exec (lawSt P 10) (lawEnv P L)) Q E s:=by
 have hf : 0 ≤ (ns.getD 9 0).fmod 8 ∧ (ns.getD 9 0).fmod 8 < 8:=q2e (ns.getD 9 0) 8 (by decide)
 refine q0h (p:=.int (mostN ns : Nat)) I hst (pur_of (q0l q0r (q0l (q1e (j:=9) (q0m (q0b hns rfl)) q0k (q9p (i:=9) (by lia)) (by rw [List.length_map];(with_reducible refine nag ?_;decide))) q0r (op_mod (by decide))) op_add) (congrArg PV.int ?_)) k
 unfold mostN
 omega
private theorem law_sizes (hC : CfgOk P C) {sz : List Nat} {L : Addr} {Q : Flow → Shared → Prop} (hA : A.handled = none) (hl : sz.length = 8) (h7 : ∀ s ∈ sz,s ≤ 7) (I : In C mu nu (lawEnv P L) ρ σ s₀ s) (hr : ρ.lookup q3y = some (.lst (sz.map dotPV))) (hst : StOk (lawEnv P L) nu q5f)
  (k : ∀ s',In C mu nu (lawEnv P L) ((q5f,.lst (sz.map natPV)) :: ρ) σ s₀ s' → Q .next s') : wpAny (model prog w) A (exec (lawSt P 6) (lawEnv P L)) Q E s:=by
 refine q0h I hst (pur_of (PurNE.pur (q1a [] (l:=sz.map dotPV) (g:=fun i => (sz.map dotPV)[i]?.map fun p => match p with | .str x => .int x.length | p => p) (fun _ h => nomatch h) I.cells hA ?it ?turn (by rw [List.length_map];(with_reducible refine naf ?_;decide)))) (congrArg PV.lst ?e)) k
 case it => exact IterE.of hA (q0b hr rfl) q1y
 case e =>
  rw [w0u,List.map_map]
  exact List.map_congr_left fun n _ => congrArg (fun k : Nat => PV.int k) (q0p n)
 case turn =>
  refine w0n (fun L D => by walk_at "sto") rfl fun L D ys i p hp => ?_
  obtain ⟨m,hm,rfl,_⟩:=dot_at hp
  have hmm:=h7 m (List.mem_of_getElem? hm)
  exact q0u (ps:=[dotPV m]) (q0f (q0e hC rfl) rfl rfl) (q0c (q0b rfl rfl) q0d (fun _ => rfl)) (q3d (by have:=q0p m;unfold PySem.Str.length at this;lia)) (fun _ => rfl)
end
end
section
open PySem PySem.W PySem.Calls PyProof.Rows
set_option maxHeartbeats 4000000
variable {prog : Program} {w : World} {P : Params} {C : Cfg}
section
variable {mu mu' nu : List Addr} {s₀ s s' : Shared} {env : Env} {ρ : List (PySem.Str × PV)} {σ σ' : List (Addr × MO)} {A : Around} {E : Value → Shared → Prop}
private theorem q8e (sz : List Nat) : sz.map natPV = (sz.map fun n : Nat => (n : Int)).map .int:=by rw [List.map_map];rfl
private theorem count_cast (sz : List Nat) (k : Nat) : (sz.map fun n : Nat => (n : Int)).count (k : Int) = sz.count k:=by
 induction sz with
 | nil => rfl
 | cons s sz ih =>
  rw [List.map_cons,List.count_cons,List.count_cons,ih]
  congr 1
  by_cases h : s = k
  ·subst h;simp
  ·have : ((s : Int) == (k : Int)) = false:=by rw [beq_eq_false_iff_ne];lia
   rw [this,show (s == k) = false by simpa using h]
private theorem cnt_lt {sz : List Nat} {w : Nat} (hl : sz.length = 8) (hw : 4 ≤ w) : ∀ x ∈ cntL sz,x < 2 ^ w:=fun x hx => by
 obtain ⟨k,_,rfl⟩:=List.mem_map.mp hx
 have h1:=List.count_le_length (a:=k) (l:=sz)
 have hp : 2 ^ 4 ≤ 2 ^ w:=Nat.pow_le_pow_right (by decide) hw
 lia
private theorem cnt_bits {sz : List Nat} {w : Nat} (hl : sz.length = 8) (hw : 4 ≤ w) (hw2 : w ≤ 903) : Builtin.Int.intBits (nval w (cntL sz) : Int) ≤ w * 8 ∧ Builtin.Int.intBits ((2 ^ w - 1 : Nat) : Int) = w:=by
 have h:=w2n w _ (cnt_lt hl hw)
 rw [show (cntL sz).length = 8 by unfold cntL;simp] at h
 refine ⟨bitsN h,?_⟩
 have hp : 2 ^ 4 ≤ 2 ^ w:=Nat.pow_le_pow_right (by decide) hw
 have h1 : Builtin.Int.intBits ((2 ^ w - 1 : Nat) : Int) ≤ w:=bitsN (by omega)
 apply Nat.le_antisymm h1
 apply Nat.le_of_not_lt
 intro q
 have q2 : Builtin.Int.intBits ((2 ^ w - 1 : Nat) : Int) ≤ w - 1:=by with_reducible exact ng4
 rw [intBits_le_iff] at q2
 simp at q2
 have e : 2 ^ w = 2 ^ (w - 1) * 2:=by
  rw [← Nat.pow_succ]
  congr 1
  lia
 have : 2 ^ 3 ≤ 2 ^ (w - 1):=Nat.pow_le_pow_right (by decide) (by lia)
 omega
private theorem w6i (hC : CfgOk P C) {sz : List Nat} {wd : Nat} {L : Addr} {n : Nat} {Q : Flow → Shared → Prop} (r : Rm A (n + 12)) (hl : sz.length = 8) (h7 : ∀ s ∈ sz,s ≤ 7) (hw : 4 ≤ wd) (hw2 : wd ≤ 903) (I : In C mu nu (lawEnv P L) ρ σ s₀ s) (hs : ρ.lookup q5f = some (.lst (sz.map natPV))) (hwd : ρ.lookup q8d = some (.int (wd : Nat)))
  (hst : StOk (lawEnv P L) nu q1k) (hst2 : StOk (lawEnv P L) nu w5y)
  (k : ∀ s',In C mu nu (lawEnv P L) ((w5y,.int (8 : Nat)) :: (q1k,.int (nval wd (colL sz) : Nat)) :: ρ) σ s₀ s' → Q .next s') : wpAny (model prog w) A (exec (lawSt P 7) (lawEnv P L)) Q E s:=by
 obtain ⟨b1,b2⟩:=cnt_bits hl hw hw2
 have hp : 2 ^ 4 ≤ 2 ^ wd:=Nat.pow_le_pow_right (by decide) hw
 have f:=idm (prog:=prog) (w:=w) hC (a:=nval wd (cntL sz)) (b:=2 ^ wd - 1) (k:=3) (by omega) (by rw [b2];(with_reducible refine nad ?_;decide)) (by lia) (by
  unfold ndig
  rw [b2,Nat.div_le_iff_le_mul_add_pred (by lia)]
  lia)
 obtain ⟨d1,d2⟩:=div_cols hl h7 hw
 rw [d1,d2] at f
 refine q2c I r.none hst hst2 (q0t (ps:=[.int (nval wd (cntL sz) : Nat),.int ((2 ^ wd - 1 : Nat) : Int)]) (q0f (q0e hC rfl) rfl rfl) (q0c ?a (q0c ?b q0d (fun _ => rfl)) (fun _ => rfl)) (q9y hC) f (r.mono (by lia)) (fun _ => rfl)) k
 case b =>
  refine pur_of (q0l (q0l q0r (q0b hwd rfl) (op_shl (by lia) ?_)) q0r op_sub) (congrArg PV.int ?_)
  ·have : Builtin.Int.intBits (1 : Int) ≤ 1:=bitsN (a:=1) (by decide)
   lia
  ·rw [Int.toNat_natCast,Int.one_mul,Int.natCast_sub (by lia)];simp
 case a =>
  have g:=d2i (prog:=prog) (w:=w) hC (l:=(cntL sz).map fun n : Nat => (n : Int)) (n:=wd) (k:=3) (fun d hd => by
   obtain ⟨x,hx,rfl⟩:=List.mem_map.mp hd
   have:=cnt_lt hl hw x hx
   exact ⟨by lia,by exact_mod_cast this⟩) (by rw [List.length_map,show (cntL sz).length = 8 by unfold cntL;simp];lia) (by rw [List.length_map,show (cntL sz).length = 8 by unfold cntL;simp];decide) (by (with_reducible refine nad ?_;decide)) (by rw [List.length_map,show (cntL sz).length = 8 by unfold cntL;simp];decide)
  rw [q6k] at g
  refine q0t (ps:=[.lst (((cntL sz).map fun n : Nat => (n : Int)).map .int),.int (wd : Nat)]) (q0f (q0e hC rfl) rfl rfl) (q0c ?c (q0c (q0b hwd rfl) q0d (fun _ => rfl)) (fun _ => rfl)) (w6u hC) g (r.mono (by lia)) (fun _ => rfl)
  case c =>
   refine pur_of (PurNE.pur (q1a [(q5f,.lst (sz.map natPV))] (l:=rangeL 0 1 8) (g:=fun k => some (.int (sz.count k : Nat))) ?h3 I.cells r.none ?it ?turn (by rw [q1m];decide))) (congrArg PV.lst (by rw [q1m,q2n];unfold cntL;rw [List.map_map,List.map_map];rfl))
   case h3 => walk_at "look"
   case it => exact q2d (n:=8) (q0f (q0e hC rfl) rfl rfl) q0k (by decide)
   case turn =>
    refine q2m (fun L D => by walk_at "sto") rfl fun L D ys i p hp => ?_
    obtain ⟨hi,rfl⟩:=q4a hp
    refine pur_of (q4e (p:=.lst ((sz.map fun n : Nat => (n : Int)).map .int)) (ps:=[.int (i : Int)]) (pur_of (q0b (p:=.lst (sz.map natPV)) rfl rfl) (congrArg PV.lst (q8e sz))) (w6c rfl) (q0c (q0b rfl rfl) q0d (fun _ => rfl)) op_lcount) (congrArg (fun k : Nat => PV.int k) (count_cast sz i))
private theorem w4k (hC : CfgOk P C) {sz : List Nat} {wd : Nat} {L : Addr} {n : Nat} {Q : Flow → Shared → Prop} (r : Rm A (n + 12)) (hl : sz.length = 8) (h7 : ∀ s ∈ sz,s ≤ 7) (hw : 4 ≤ wd) (hw2 : wd ≤ 903) (I : In C mu nu (lawEnv P L) ρ σ s₀ s) (hc : ρ.lookup q1k = some (.int (nval wd (colL sz) : Nat))) (hwd : ρ.lookup q8d = some (.int (wd : Nat))) (hst : StOk (lawEnv P L) nu q1k)
  (k : ∀ s',In C mu nu (lawEnv P L) ((q1k,.lst ((colL sz).map natPV)) :: ρ) σ s₀ s' → Q .next s') : wpAny (model prog w) A (exec (lawSt P 8) (lawEnv P L)) Q E s:=by
 have hp : 2 ^ 4 ≤ 2 ^ wd:=Nat.pow_le_pow_right (by decide) hw
 have hlt : ∀ x ∈ colL sz,x < 2 ^ wd:=fun x hx => by
  obtain ⟨j,_,rfl⟩:=List.mem_map.mp hx
  have:=w6x sz j
  lia
 have h:=w2n wd _ hlt
 have hb:=bitsN h
 have hcl:=q8i hl h7
 have hm : wd * (colL sz).length ≤ wd * 7:=Nat.mul_le_mul_left _ hcl
 have g:=i2d (prog:=prog) (w:=w) hC (a:=nval wd (colL sz)) (n:=wd) (k:=3) (by lia) (by (with_reducible refine nad ?_;decide)) (by lia) (by
  unfold ndig
  rw [Nat.div_le_iff_le_mul_add_pred (by lia)]
  lia)
 rw [digs_cols hl hw] at g
 exact q0h I hst (q0t (ps:=[.int (nval wd (colL sz) : Nat),.int (wd : Nat)]) (q0f (q0e hC rfl) rfl rfl) (q0c (q0b hc rfl) (q0c (q0b hwd rfl) q0d (fun _ => rfl)) (fun _ => rfl)) (w6t hC) g (r.mono (by lia)) (fun _ => rfl)) k
private theorem w1e (sz : List Nat) (i : Nat) : (sz.filterMap fun s => if i < s then some (natPV s) else none).length = colF sz i:=by
 unfold colF
 induction sz with
 | nil => rfl
 | cons s sz ih =>
  rw [List.filterMap_cons,List.countP_cons]
  by_cases h : i < s
  ·rw [if_pos h,if_pos (by simpa using h),← ih];rfl
  ·rw [if_neg h,if_neg (by simpa using h),← ih];rfl
private theorem w0m (hC : CfgOk P C) {sz : List Nat} {L : Addr} {n : Nat} {Q : Flow → Shared → Prop} (r : Rm A (n + 1)) (hl : sz.length = 8) (h7 : ∀ s ∈ sz,s ≤ 7) (I : In C mu nu (lawEnv P L) ρ σ s₀ s) (hs : ρ.lookup q5f = some (.lst (sz.map natPV))) (hr : ρ.lookup w5y = some (.int (8 : Nat))) (hc : ρ.lookup q1k = some (.lst ((colL sz).map natPV)))
  (k : ∀ s',In C mu nu (lawEnv P L) ρ σ s₀ s' → Q .next s') : wpAny (model prog w) A (exec (lawSt P 9) (lawEnv P L)) Q E s:=by
 have hne : sz ≠ []:=fun q => by rw [q] at hl;cases hl
 have hm : maxN sz ≤ 7:=h7 _ (q5g hne)
 have e : (colL sz).map natPV = (List.range (maxN sz)).map fun k => .int (colF sz k : Nat):=by unfold colL;rw [List.map_map];rfl
 rw [e] at hc
 refine st_IfN I (q3v (purB_or (pos':=default) (q0g (q0b hr rfl) q0k op_ne rfl) fun _ => purB_or (pos':=default) (q0g (q0b hc rfl) ?c (w0x (by rw [List.all_map];exact List.all_eq_true.mpr fun _ _ => rfl) r.cu) rfl) fun _ => purB_or0) rfl) k
 case c =>
  refine pur_of (PurNE.pur (q1a [(q5f,.lst (sz.map natPV))] (l:=rangeL 0 1 (maxN sz)) (g:=fun k => some (.int (colF sz k : Nat))) ?h3 I.cells r.none ?it ?turn (by rw [q1m];(with_reducible refine nad ?_;decide)))) (congrArg PV.lst (by rw [q1m,q2n]))
  case h3 => walk_at "look"
  case it =>
   refine q2d (n:=maxN sz) (q0f (q0e hC rfl) rfl rfl) (q0u (ps:=[.lst ((sz.map fun n : Nat => (n : Int)).map .int)]) (q0f (q0e hC rfl) rfl rfl) (q0c (pur_of (q0b hs rfl) (congrArg PV.lst (q8e sz))) q0d (fun _ => rfl)) (op_max r.none (List.mem_map_of_mem (f:=fun n : Nat => (n : Int)) (q5g hne)) fun a ha => ?_) (fun _ => rfl)) (by (with_reducible refine nae ?_;decide))
   obtain ⟨x,hx,rfl⟩:=List.mem_map.mp ha
   have:=w2r x hx
   lia
  case turn =>
   refine q2m (fun L D => by walk_at "stc") rfl fun L₁ D₁ ys i p hp => ?_
   obtain ⟨hi,rfl⟩:=q4a hp
   have hl2 : (sz.map natPV).length = sz.length:=List.length_map ..
   refine pur_of (q0u (ps:=[.lst (sz.filterMap fun s => if i < s then some (natPV s) else none)]) (q0f (q0e hC rfl) rfl rfl) (q0c (pur_of (PurNE.pur (q1a [(nm_k,.int (i : Int))] (l:=sz.map natPV) (g:=fun j => sz[j]?.bind fun s => if i < s then some (natPV s) else none) ?h3 (comp_alive I.cells) r.none ?it ?turn (by rw [hl2];(with_reducible refine naf ?_;decide)))) (congrArg PV.lst (by rw [hl2];exact w3x _ sz))) q0d (fun _ => rfl)) (op_len (by
    have:=w1e sz i
    have:=w6x sz i
    omega)) (fun _ => rfl)) (congrArg (fun k : Nat => PV.int k) (w1e sz i))
   case h3 => walk_at "look"
   case it => exact IterE.of r.none (q0b rfl rfl) q1y
   case turn =>
    refine q6y (fun L D => by walk_at "sto") rfl fun L₂ D₂ ys₂ j p₂ hp₂ => ?_
    obtain ⟨m,hm,rfl⟩ : ∃ m,sz[j]? = some m ∧ p₂ = natPV m:=by
     rw [List.getElem?_map] at hp₂
     obtain ⟨m,h1,h2⟩:=Option.map_eq_some_iff.mp hp₂
     exact ⟨m,h1,h2.symm⟩
    rw [hm]
    show match (if i < m then some (natPV m) else none) with | none => _ | some z => _
    by_cases q : i < m
    ·rw [if_pos q]
     exact ⟨w3o (q3v (q0g (q0b rfl rfl) (q0b rfl rfl) op_gt rfl) (decide_eq_true (by lia))),q0b rfl rfl⟩
    ·rw [if_neg q]
     exact w3o (q3v (q0g (q0b rfl rfl) (q0b rfl rfl) op_gt rfl) (decide_eq_false (by lia)))
end
end
section
open PySem PySem.W PySem.Calls PyProof.Rows
set_option maxHeartbeats 4000000
variable {prog : Program} {w : World} {P : Params} {C : Cfg}
section
variable {mu mu' nu : List Addr} {s₀ s s' : Shared} {env : Env} {ρ : List (PySem.Str × PV)} {σ σ' : List (Addr × MO)} {A : Around} {E : Value → Shared → Prop}
private theorem pvSlice_to (l : List PV) (i : Nat) : q5w l none (some (i : Int)) = l.take i:=by
 have h1 : ¬ ((i : Int) < 0):=by lia
 have e1 : max (0 : Int) (min (i : Int) (l.length : Int)) = ((min i l.length : Nat) : Int):=by omega
 rw [q7a l none (some (i : Int)) 0 (min i l.length) ?_ ?_ (Nat.min_le_right ..),List.drop_zero]
 ·by_cases h : i ≤ l.length
  ·rw [Nat.min_eq_left h]
  ·rw [Nat.min_eq_right (by lia),List.take_length,List.take_of_length_le (by lia)]
 ·unfold sliceBounds
  simp
 ·unfold sliceBounds
  simp [h1,e1]
private theorem take_nat (l : List Nat) (i : Nat) : (l.map natPV).take i = ((l.take i).map fun n : Nat => (n : Int)).map .int:=by rw [← List.map_take,q8e]
private theorem w1u : ∀ l : List Nat,(l.map fun n : Nat => (n : Int)).sum = ((l.sum : Nat) : Int)
 | [] => rfl
 | x :: l => by rw [List.map_cons,List.sum_cons,w1u l,List.sum_cons];lia
private theorem q4r (hC : CfgOk P C) {l : List Nat} {i : Nat} {y : PySem.Str} {px p3 pos : Pos} {sp : Pos} {e : Expr} (hA : A.handled = none) (hl : l.length ≤ 100) (hf : PurE prog w C mu A env ρ σ (.Name y px) (.val (.builtin "sum"))) (hv : PurE prog w C mu A env ρ σ e (.lst (l.map natPV))) {u : Expr} (hu : PurE prog w C mu A env ρ σ u (.int (i : Int)))
  (he : autoParam (∀ env,starEach [.Subscript e (.Slice none (some u) none sp) p3] env = (false,eval (.Subscript e (.Slice none (some u) none sp) p3) env) :: starEach [] env) tR) (ht : autoParam (∀ o r,letTemporaryGo e o r = pure ()) tR) :
  PurE prog w C mu A env ρ σ (.Call (.Name y px) [.Subscript e (.Slice none (some u) none sp) p3] [] pos) (.int ((l.take i).sum : Nat)):=by
 refine pur_of (q0u (ps:=[.lst (((l.take i).map fun n : Nat => (n : Int)).map .int)]) hf (q0c (pur_of (q7c (lo:=none) (hi:=some (i : Int)) (q0m hv) part0 (part1 hu) (by rw [List.length_map];(with_reducible refine nad ?_;decide)) ht).pur (congrArg PV.lst ((pvSlice_to _ i).trans (take_nat l i)))) q0d he) (op_sum hA (by rw [List.length_map,List.length_take];lia)) he rfl) (congrArg PV.int (w1u _))
private theorem w7z (ys : List PySem.Str) : (PySem.Txt.join ⟨#[]⟩ ys).length = (ys.map (·.length)).sum:=by
 show (PySem.Txt.join ⟨#[]⟩ ys).cps.size = _
 rw [← Array.length_toList,join0]
 induction ys with
 | nil => rfl
 | cons y ys ih =>
  rw [List.map_cons,List.flatten_cons,List.length_append,ih,List.map_cons,List.sum_cons]
  congr 1
private theorem w6g (hC : CfgOk P C) (hp : ProgOk prog) {sz : List Nat} {m : Nat} {L : Addr} {n : Nat} {Q : Flow → Shared → Prop} (r : Rm A (n + 12)) (hl : sz.length = 8) (h7 : ∀ s ∈ sz,s ≤ 7) (hm1 : 1 ≤ m) (hm8 : m ≤ 8) (I : In C mu nu (lawEnv P L) ρ σ s₀ s) (hr : ρ.lookup q3y = some (.lst (sz.map dotPV))) (hm : ρ.lookup w2p = some (.int (m : Nat))) (hc : ρ.lookup q1k = some (.lst ((colL sz).map natPV)))
  (k : ∀ s',In C mu nu (lawEnv P L) ρ σ s₀ s' → Q .next s') : wpAny (model prog w) A (exec (lawSt P 11) (lawEnv P L)) Q E s:=by
 have e0 : (((sz.map fun s => dots (min s m)).map (·.length)).sum) = ((colL sz).take m).sum:=by
  rw [w0c,List.map_map]
  congr 1
  exact List.map_congr_left fun s _ => q0p _
 have hcl:=q8i hl h7
 have hb : ((colL sz).take m).sum ≤ 64:=by
  rw [w0c]
  have : ∀ l : List Nat,(l.map (Nat.min · m)).sum ≤ l.length * 8:=fun l => by
   induction l with
   | nil => exact Nat.le_refl _
   | cons x l ih =>
    rw [List.map_cons,List.sum_cons,List.length_cons]
    have : Nat.min x m ≤ m:=Nat.min_le_right ..
    lia
  have:=this sz
  lia
 refine st_IfN I (q3v (b:=(((((colL sz).take m).sum : Nat) : Int) != ((((colL sz).take m).sum : Nat) : Int))) (q0g (pur_of (q0u (ps:=[.str (PySem.Txt.join ⟨#[]⟩ (sz.map fun s => dots (min s m)))]) (q0f (q0e hC rfl) rfl rfl) (q0c (q4e (p:=.str ⟨#[]⟩) (ps:=[.lst ((sz.map fun s => dots (min s m)).map .str)]) q2t (q6m rfl) (q0c ?c q0d (fun _ => rfl)) (op_join (by decide) ?w)) q0d (fun _ => rfl)) (q3d ?z) (fun _ => rfl)) (congrArg (fun k : Nat => PV.int k) ((w7z _).trans e0))) (q4r hC r.none (by (with_reducible refine nad ?_;decide)) (q0f (q0e hC rfl) rfl rfl) (q0b hc rfl) (q0b hm rfl)) op_ne rfl) (by simp)) k
 case w => rw [e0,List.length_map];lia
 case z =>
  have:=(w7z (sz.map fun s => dots (min s m))).trans e0
  unfold PySem.Str.length at this
  lia
 case c =>
  refine pur_of (PurNE.pur (q1a [(w2p,.int (m : Nat))] (l:=sz.map dotPV) (g:=fun i => (sz.map dotPV)[i]?.map fun p => match p with | .str x => dotPV (min x.length m) | p => p) ?h3 I.cells r.none ?it ?turn (by rw [List.length_map];(with_reducible refine naf ?_;decide)))) (congrArg PV.lst ?e)
  case h3 => walk_at "look"
  case it => exact IterE.of r.none (q0b hr rfl) q1y
  case e =>
   rw [w0u,List.map_map,List.map_map]
   refine List.map_congr_left fun s _ => ?_
   show dotPV (min (dots s).length m) = _
   rw [q0p];rfl
  case turn =>
   refine w0n (fun L D => by walk_at "sto") rfl fun L D ys i p hp' => ?_
   obtain ⟨s,hs,rfl,_⟩:=dot_at hp'
   have hss:=h7 s (List.mem_of_getElem? hs)
   have f:=law_first (prog:=prog) (w:=w) hC hp (n:=0) (m:=s) (W:=m) hm1 hm8 (by (with_reducible refine nae ?_;decide))
   show PurE prog w C _ A _ _ _ _ (dotPV (min (dots s).length m))
   rw [q0p]
   exact q0t (q0f (q0e hC rfl) rfl rfl) (q0c (q0b rfl rfl) (q0c (q0b rfl rfl) q0d (fun _ => rfl)) (fun _ => rfl)) (w4x hC) f (r.mono (by lia)) (fun _ => rfl)
noncomputable def sentHs (sz : List Nat) : List Nat:=sz.map sentN ++ [0]
private theorem w9d {sz : List Nat} (hl : sz.length = 8) : (sentHs sz).length = 9:=by unfold sentHs;rw [List.length_append,List.length_map,hl];rfl
private theorem sentHs_le {sz : List Nat} (h7 : ∀ s ∈ sz,s ≤ 7) (x : Nat) (h : x ∈ sentHs sz) : x ≤ 8:=by
 rcases List.mem_append.mp h with q | q
 ·obtain ⟨y,hy,rfl⟩:=List.mem_map.mp q
  have h1:=h7 y hy
  have h2 : Nat.min 1 y ≤ 1:=Nat.min_le_left ..
  unfold sentN
  lia
 ·simp at q;(with_reducible refine naf ?_;decide)
private theorem dots_app (a b : Nat) : dots a ++ dots b = dots (a + b):=by
 apply q5a
 rw [q0s]
 show List.replicate a 46 ++ List.replicate b 46 = List.replicate (a + b) 46
 rw [List.replicate_append_replicate]
private theorem str_nil (a : PySem.Str) : a ++ (⟨#[]⟩ : PySem.Str) = a:=by
 apply q5a
 rw [q0s];simp
private theorem sent_head {sz : List Nat} (hl : sz.length = 8) (h7 : ∀ s ∈ sz,s ≤ 7) {j : Nat} {x : PySem.Str} (h : ((List.range 8).map (sentS sz) ++ [(⟨#[]⟩ : PySem.Str)])[j]? = some x) : j < 9 ∧ (PySem.Txt.split x ⟨#[120]⟩).head? = some (dots ((sentHs sz).getD j 0)) ∧ (sentHs sz).getD j 0 ≤ 8 ∧ x.length ≤ 100:=by
 have hj : j < 9:=by have:=(List.getElem?_eq_some_iff.mp h).1;simpa using this
 have hle : (sentHs sz).getD j 0 ≤ 8:=by
  rw [List.getD_eq_getElem?_getD]
  cases e : (sentHs sz)[j]? with
  | none => exact Nat.zero_le _
  | some y => exact sentHs_le h7 y (List.mem_of_getElem? e)
 refine ⟨hj,?_⟩
 by_cases q : j < 8
 ·rw [List.getElem?_append_left (by simpa using q),w7v q] at h
  cases h
  have e : (sentHs sz).getD j 0 = sentN (sz.getD j 0):=by
   unfold sentHs
   rw [List.getD_eq_getElem?_getD,List.getElem?_append_left (by rw [List.length_map];lia),List.getElem?_map,List.getD_eq_getElem?_getD,List.getElem?_eq_getElem (show j < sz.length by lia)];rfl
  have e2 : dots (min 1 (sz.getD j 0)) ++ dots (sz.getD j 0) = dots ((sentHs sz).getD j 0):=by
   rw [dots_app,e]
   unfold sentN
   congr 1
   exact Nat.add_comm ..
  obtain ⟨d1,d2⟩:=dots_x _ (Nat.lt_succ_of_le hle)
  unfold sentS
  rw [e2]
  have hs : sTail j = ⟨#[]⟩ ∨ sTail j = ⟨#[120,46]⟩:=by
   unfold sTail tailL
   split
   ·exact .inr rfl
   ·exact .inl rfl
  rcases hs with hs | hs <;> rw [hs]
  ·rw [str_nil]
   exact ⟨d1,hle,by rw [q0p];(with_reducible refine nad ?_;decide)⟩
  ·refine ⟨d2,hle,?_⟩
   rw [q7m,q0p]
   show _ + 2 ≤ 100
   lia
 ·have : j = 8:=by lia
  subst this
  rw [List.getElem?_append_right (by simp)] at h
  simp at h
  subst h
  have e : (sentHs sz).getD 8 0 = 0:=by
   unfold sentHs
   rw [List.getD_eq_getElem?_getD,List.getElem?_append_right (by rw [List.length_map];(with_reducible refine naf ?_;decide)),List.length_map,hl];rfl
  rw [e]
  exact ⟨(dots_x 0 (by decide)).1,by decide,by decide⟩
private theorem len9 {α : Type} {l : List α} (h : l.length = 9) : ∃ a b c d e f g i j,l = [a,b,c,d,e,f,g,i,j]:=by
 obtain ⟨a,r1,rfl,h1⟩:=lenS h
 obtain ⟨b,r2,rfl,h2⟩:=lenS h1
 obtain ⟨c,r3,rfl,h3⟩:=lenS h2
 obtain ⟨d,r4,rfl,h4⟩:=lenS h3
 obtain ⟨e,f,g,i,j,rfl⟩:=len5 h4
 exact ⟨a,b,c,d,e,f,g,i,j,rfl⟩
private theorem w9b {l : List PV} (h : l.length = 9) : q6g l none none (some (-1)) = l.reverse:=by
 have e : sliceRange (sliceBounds none none (some (-1)) 9).1 (sliceBounds none none (some (-1)) 9).2.1 (sliceBounds none none (some (-1)) 9).2.2 = [8,7,6,5,4,3,2,1,0]:=by decide +kernel
 unfold q6g
 rw [h,e]
 obtain ⟨a,b,c,d,e,f,g,i,j,rfl⟩:=len9 h
 rfl
private theorem w6h (hC : CfgOk P C) {sz : List Nat} {L : Addr} {Q : Flow → Shared → Prop} (hA : A.handled = none) (hl : sz.length = 8) (h7 : ∀ s ∈ sz,s ≤ 7) (I : In C mu nu (lawEnv P L) ρ σ s₀ s) (hs : ρ.lookup w2o = some (.lst (((List.range 8).map (sentS sz) ++ [(⟨#[]⟩ : PySem.Str)]).map .str))) (hst : StOk (lawEnv P L) nu q7h)
  (k : ∀ s',In C mu nu (lawEnv P L) ((q7h,.lst ((longL sz).map natPV)) :: ρ) σ s₀ s' → Q .next s') : wpAny (model prog w) A (exec (lawSt P 12) (lawEnv P L)) Q E s:=by
 have h9:=w9d hl
 have hll : (((List.range 8).map (sentS sz) ++ [(⟨#[]⟩ : PySem.Str)]).map PV.str).length = 9:=by simp
 refine q0h I hst (pur_of (PurNE.pur (q9d (lo:=none) (hi:=none) (st:=some (-1)) (l:=(srt (sentHs sz)).map natPV) (q0m (q0u (ps:=[.lst ((sentHs sz).map natPV)]) (q0f (q0e hC rfl) rfl rfl) (q0c ?c q0d (fun _ => rfl)) (w2k (by (with_reducible refine nag ?_;decide))) (fun _ => rfl))) part0 part0 (part1 (q3k q0r op_neg)) (by decide) (by rw [List.length_map,(q1d _).length_eq];(with_reducible refine naf ?_;decide)) sl_ops')) (congrArg PV.lst ?e)) k
 case e =>
  rw [w9b (by rw [List.length_map,(q1d _).length_eq,h9]),← List.map_reverse];rfl
 case c =>
  refine pur_of (PurNE.pur (q1a [] (l:=((List.range 8).map (sentS sz) ++ [(⟨#[]⟩ : PySem.Str)]).map .str) (g:=fun i => some (natPV ((sentHs sz).getD i 0))) (fun _ h => nomatch h) I.cells hA ?it ?turn (by rw [hll];decide))) (congrArg PV.lst ?e)
  case it => exact IterE.of hA (q0b hs rfl) q1y
  case e =>
   rw [hll,q2n]
   refine List.ext_getElem (by rw [List.length_map,List.length_map,List.length_range,h9]) fun i h1 h2 => ?_
   have : i < (sentHs sz).length:=by simpa using h2
   simp [List.getD_eq_getElem?_getD,this]
  case turn =>
   refine q2m (fun L D => by walk_at "sto") rfl fun L D ys i p hp => ?_
   rw [List.getElem?_map] at hp
   obtain ⟨x,hx,rfl⟩:=Option.map_eq_some_iff.mp hp
   obtain ⟨hi,q1,q2,q3⟩:=sent_head hl h7 hx
   refine pur_of (q0u (ps:=[dotPV ((sentHs sz).getD i 0)]) (q0f (q0e hC rfl) rfl rfl) (q0c (q1e (j:=0) (l:=(PySem.Txt.split x ⟨#[120]⟩).map .str) (q0m (q4e (p:=.str x) (ps:=[.str ⟨#[120]⟩]) (q0b rfl rfl) (q7k rfl) (q0c q2t q0d (fun _ => rfl)) (w2j rfl (by (with_reducible refine nad ?_;decide))))) q0k (by rw [List.getElem?_map,← List.head?_eq_getElem?,q1];rfl) (by
    have:=PyProof.Rows.split_le x ⟨#[120]⟩
    rw [List.length_map]
    lia)) q0d (fun _ => rfl)) (q3d (by have:=q0p ((sentHs sz).getD i 0);unfold PySem.Str.length at this;lia)) (fun _ => rfl)) (congrArg (fun k : Nat => PV.int k) (q0p _))
private theorem law_fair (hC : CfgOk P C) {sz : List Nat} {L : Addr} {Q : Flow → Shared → Prop} (hA : A.handled = none) (hl : sz.length = 8) (h7 : ∀ s ∈ sz,s ≤ 7) (I : In C mu nu (lawEnv P L) ρ σ s₀ s) (hc : ρ.lookup q1k = some (.lst ((colL sz).map natPV))) (hst : StOk (lawEnv P L) nu q7i)
  (k : ∀ s',In C mu nu (lawEnv P L) ((q7i,.bool (fairB sz 0)) :: ρ) σ s₀ s' → Q .next s') : wpAny (model prog w) A (exec (lawSt P 13) (lawEnv P L)) Q E s:=by
 have hcl:=q8i hl h7
 refine q0h I hst (pur_of (q4f (q0l (q0u (ps:=[.lst (((colL sz).map fun n : Nat => (n : Int)).map .int)]) (q0f (q0e hC rfl) rfl rfl) (q0c (pur_of (q0b hc rfl) (congrArg PV.lst (q8e _))) q0d (fun _ => rfl)) (op_sum hA (by rw [List.length_map];(with_reducible refine nad ?_;decide))) (fun _ => rfl)) q0r (op_mod (by decide))) q0k op_eq) (congrArg PV.bool ?_)) k
 rw [w1u,Int.fmod_eq_emod_of_nonneg _ (by decide)]
 unfold fairB
 rw [List.range_zero,List.all_nil,Bool.and_true,Bool.eq_iff_iff,beq_iff_eq,beq_iff_eq]
 show ((((colL sz).sum : Nat) : Int) % 2 = 0) ↔ _
 lia
end
end
section
open PySem PySem.W PySem.Calls PyProof.Rows
set_option maxHeartbeats 4000000
variable {prog : Program} {w : World} {P : Params} {C : Cfg}
section
variable {mu mu' nu : List Addr} {s₀ s s' : Shared} {env : Env} {ρ : List (PySem.Str × PV)} {σ σ' : List (Addr × MO)} {A : Around} {E : Value → Shared → Prop}
private theorem w5q {n i : Nat} {p : PV} (h : (rangeL 1 1 n)[i]? = some p) : i < n ∧ p = .int ((i + 1 : Nat) : Int):=by
 have hi : i < n:=by simpa [rangeL] using (List.getElem?_eq_some_iff.mp h).1
 simp [rangeL,hi] at h
 refine ⟨hi,h.symm.trans (congrArg PV.int ?_)⟩
 lia
private theorem w1g (sz : List Nat) (i : Nat) : fairB sz (i + 1) = (fairB sz i && testF sz i):=by
 unfold fairB
 rw [List.range_succ,List.all_append,List.all_cons,List.all_nil,Bool.and_true,Bool.and_assoc]
noncomputable abbrev tB (sz : List Nat) (i : Nat) : Bool:=(decide (((i + 1 : Nat) : Int) < (((longL sz).getD i 0 : Nat) : Int)) && (decide (((((colL sz).take (i + 1)).sum : Nat) : Int) < ((((longL sz).take (i + 1)).sum : Nat) : Int)) && true))
private theorem test_eq (sz : List Nat) (i : Nat) : tB sz i = !testF sz i:=by
 unfold testF tB
 rw [Bool.not_not,Bool.and_true]
 have h : ∀ a b : Nat,decide ((a : Int) < (b : Int)) = decide (a < b):=fun a b => by
  rw [decide_eq_decide];lia
 rw [h,h]
private theorem longL_len {sz : List Nat} (hl : sz.length = 8) : (longL sz).length = 9:=by
 unfold longL
 rw [List.length_reverse,(q1d _).length_eq,List.length_append,List.length_map,hl];rfl
structure LastV (ρ : List (PySem.Str × PV)) (sz : List Nat) (ns : List Int) : Prop where
 rows : ρ.lookup q3y = some (.lst (sz.map dotPV))
 numbers : ρ.lookup q3e = some (.lst (ns.map .int))
 columns : ρ.lookup q1k = some (.lst ((colL sz).map natPV))
 longest : ρ.lookup q7h = some (.lst ((longL sz).map natPV))
private theorem w2u (hC : CfgOk P C) {sz : List Nat} {ns : List Int} {L : Addr} {Q : Flow → Shared → Prop} (hA : A.handled = none) (hl : sz.length = 8) (h7 : ∀ s ∈ sz,s ≤ 7) (I : In C mu (q0i (lawEnv P L)) (lawEnv P L) ρ σ s₀ s) (V : LastV ρ sz ns) (hf : ρ.lookup q7i = some (.bool (fairB sz 0)))
  (k : ∀ ρ' s',In C mu (q0i (lawEnv P L)) (lawEnv P L) ρ' σ s₀ s' → LastV ρ' sz ns → ρ'.lookup q7i = some (.bool (fairB sz 8)) → Q .next s') : wpAny (model prog w) A (exec (lawSt P 14) (lawEnv P L)) Q E s:=by
 have hcl:=q8i hl h7
 have hll:=longL_len hl
 refine q4o (l:=rangeL 1 1 8) I hA (w6l (b:=1) (c:=9) (q0f (q0e hC rfl) rfl rfl) q0r q0r (by decide) (by decide)) (fun i ρ' σ' => σ' = σ ∧ LastV ρ' sz ns ∧ ρ'.lookup q7i = some (.bool (fairB sz i))) (fun _ _ _ _ => False) ⟨rfl,V,hf⟩ ?turn ?kE (fun _ _ _ _ h _ => h.elim)
 case kE =>
  rintro ρ' σ' s' ⟨rfl,V',hf'⟩ I'
  exact wpAny_execs_nil (k ρ' s' I' V' hf')
 case turn =>
  rintro i p v ρ σ' s hp ⟨rfl,V,hf⟩ I y
  obtain ⟨hi,rfl⟩:=w5q hp
  refine q3a I (q1g rfl rfl) y fun s₁ I₁ => ?_
  refine q1x fun K hK => ?_
  have V₁ : LastV ((nm_n,PV.int ((i + 1 : Nat) : Int)) :: ρ) sz ns:=⟨V.rows,V.numbers,V.columns,V.longest⟩
  have hf₁ : ((nm_n,PV.int ((i + 1 : Nat) : Int)) :: ρ).lookup q7i = some (.bool (fairB sz i)):=hf
  have hn₁ : ((nm_n,PV.int ((i + 1 : Nat) : Int)) :: ρ).lookup nm_n = some (.int ((i + 1 : Nat) : Int)):=rfl
  generalize ((nm_n,PV.int ((i + 1 : Nat) : Int)) :: ρ) = ρ₁ at I₁ V₁ hf₁ hn₁
  have e1 : (((i + 1 : Nat) : Int) - 1) = ((i : Nat) : Int):=by lia
  by_cases c : testF sz i = true
  ·refine q0a (st_IfN I₁ (q3v (b:=tB sz i) ?t1 ((test_eq sz i).trans (by rw [c];rfl))) fun s₂ I₂ => ?_)
   case t1 => exact q2u (pos':=default) (q0g (q1e (j:=i) (q0m (q0b V₁.longest rfl)) (pur_of (q0l (q0b hn₁ rfl) q0r op_sub) (congrArg PV.int e1)) (q6l (f:=natPV) (by lia)) (by rw [List.length_map];(with_reducible refine nag ?_;decide))) (q0b hn₁ rfl) op_gt rfl) fun _ => q2u (pos':=default) (q0g (q4r hC hA (by (with_reducible refine naf ?_;decide)) (q0f (q0e hC rfl) rfl rfl) (q0b V₁.longest rfl) (q0b hn₁ rfl)) (q4r hC hA (by (with_reducible refine nad ?_;decide)) (q0f (q0e hC rfl) rfl rfl) (q0b V₁.columns rfl) (q0b hn₁ rfl)) op_gt rfl) fun _ => q6i
   refine wpAny_execs_nil (hK _ _ ⟨_,_,I₂,rfl,V₁,?_⟩)
   rw [w1g,c,Bool.and_true];exact hf₁
  ·have c : testF sz i = false:=by simpa using c
   refine q0a (st_IfT I₁ (q3v (b:=tB sz i) ?t2 ((test_eq sz i).trans (by rw [c];rfl))) fun s₂ I₂ => ?_)
   case t2 => exact q2u (pos':=default) (q0g (q1e (j:=i) (q0m (q0b V₁.longest rfl)) (pur_of (q0l (q0b hn₁ rfl) q0r op_sub) (congrArg PV.int e1)) (q6l (f:=natPV) (by lia)) (by rw [List.length_map];(with_reducible refine nag ?_;decide))) (q0b hn₁ rfl) op_gt rfl) fun _ => q2u (pos':=default) (q0g (q4r hC hA (by (with_reducible refine naf ?_;decide)) (q0f (q0e hC rfl) rfl rfl) (q0b V₁.longest rfl) (q0b hn₁ rfl)) (q4r hC hA (by (with_reducible refine nad ?_;decide)) (q0f (q0e hC rfl) rfl rfl) (q0b V₁.columns rfl) (q0b hn₁ rfl)) op_gt rfl) fun _ => q6i
   refine q0a (q0h (p:=.bool false) I₂ (q1g rfl rfl) w2g fun s₃ I₃ => ?_)
   refine wpAny_execs_nil (wpAny_execs_nil (hK _ _ ⟨_,_,I₃,rfl,⟨V₁.rows,V₁.numbers,V₁.columns,V₁.longest⟩,?_⟩))
   rw [w1g,c,Bool.and_false];rfl
private theorem w5w (x : Int) : -1 ≤ x.fmod 40320 ∧ x.fmod 40320 < 65536:=by
 have h : 0 ≤ x.fmod 40320 ∧ x.fmod 40320 < 40320:=q2e x 40320 (by decide)
 omega
private theorem law_true (hC : CfgOk P C) (hp : ProgOk prog) {sc : List Int} (hs : sc.length ≤ 63) : FnOk prog w C a_law 13 [.lst (sc.map .int)] (.bool true):=by
 refine FnOk.ofC (names:=[q9j]) (def_law hC) (fun vs h => ?_) rfl rfl rfl (of_decide_eq_true rfl) fun A mu L s s₁ r I hL => ?_
 ·obtain ⟨_,rfl⟩:=len1 h;rfl
 refine q1x fun K hK => ?_
 obtain ⟨ns,hns⟩ : ∃ ns,(List.range 11).map (numF sc) = ns:=⟨_,rfl⟩
 have hn : ns.length = 11:=by rw [← hns,List.length_map,List.length_range]
 have hl:=w5p ns
 have h7:=w9c ns
 have w1 : 4 ≤ widthN ns ∧ widthN ns ≤ 903:=by
  have hf : 0 ≤ (ns.getD 8 0).fmod 900 ∧ (ns.getD 8 0).fmod 900 < 900:=q2e (ns.getD 8 0) 900 (by decide)
  unfold widthN
  omega
 have m1 : 1 ≤ mostN ns ∧ mostN ns ≤ 8:=by
  have hf : 0 ≤ (ns.getD 9 0).fmod 8 ∧ (ns.getD 9 0).fmod 8 < 8:=q2e (ns.getD 9 0) 8 (by decide)
  unfold mostN
  omega
 refine q0a (w6f hC hs r.none I rfl (q1g rfl rfl) fun s₂ I₂ => ?_)
 have e : ((List.range 11).map fun k => PV.int (numF sc k)) = ns.map .int:=by rw [← hns,List.map_map];rfl
 rw [e] at I₂
 refine q0a (law_rows hC hn r.none I₂ rfl (q6e rfl rfl rfl) fun s₃ I₃ => ?_)
 refine q0a (law_tails hC I₃ (q6e rfl rfl rfl) fun s₄ I₄ => ?_)
 refine q0a (law_sent hC (n:=11) r hl h7 I₄ rfl rfl (q1g rfl rfl) fun s₅ I₅ => ?_)
 refine q0a (w6e hC (n:=11) r hl h7 I₅ rfl rfl rfl fun s₆ I₆ => ?_)
 refine q0a (law_width hC hn I₆ rfl (q1g rfl rfl) fun s₇ I₇ => ?_)
 refine q0a (law_sizes hC r.none hl h7 I₇ rfl (q6e rfl rfl rfl) fun s₈ I₈ => ?_)
 refine q0a (w6i hC (n:=0) r hl h7 w1.1 w1.2 I₈ rfl rfl (q1g rfl rfl) (q1g rfl rfl) fun s₉ I₉ => ?_)
 refine q0a (w4k hC (n:=0) r hl h7 w1.1 w1.2 I₉ rfl rfl (q1g rfl rfl) fun s₁₀ I₁₀ => ?_)
 refine q0a (w0m hC (n:=11) r hl h7 I₁₀ rfl rfl rfl fun s₁₁ I₁₁ => ?_)
 refine q0a (law_most hC hn I₁₁ rfl (q6e rfl rfl rfl) fun s₁₂ I₁₂ => ?_)
 refine q0a (w6g hC hp (n:=0) r hl h7 m1.1 m1.2 I₁₂ rfl rfl rfl fun s₁₃ I₁₃ => ?_)
 refine q0a (w6h hC r.none hl h7 I₁₃ rfl (q1g rfl rfl) fun s₁₄ I₁₄ => ?_)
 refine q0a (law_fair hC r.none hl h7 I₁₄ rfl (q1g rfl rfl) fun s₁₅ I₁₅ => ?_)
 refine q0a (w2u hC r.none hl h7 I₁₅ (ns:=ns) ⟨rfl,rfl,rfl,rfl⟩ rfl fun ρ s₁₆ I₁₆ V hf => ?_)
 rw [fairB_eq hl] at hf
 refine q0a (q0n I₁₆ (p:=.bool true) (q4f (p:=.lst [.bool (fairD (dsc (q3j ns))),.bool (fairD (dsc (q3j ns))),.bool (fairD (dsc (q3j ns)))]) (PurNE.pur (q1a [(q3y,.lst ((q3j ns).map dotPV))] (l:=[.int ((ns.getD 10 0).fmod 40320),.int 0,.int (-1)]) (g:=fun _ => some (.bool (fairD (dsc (q3j ns))))) ?h3 I₁₆.cells r.none ?it ?turn (Nat.le_of_ble_eq_true rfl))) ?q (op_eq_same rfl r.cu) rfl) fun v s' I' y => ?_)
 case h3 =>
  have hr:=V.rows
  walk_at "look"
 case it =>
  refine IterE.of r.none (q5c (ps:=[.int ((ns.getD 10 0).fmod 40320),.int 0,.int (-1)]) (q0c (q0l (q1e (j:=10) (q0m (q0b V.numbers rfl)) q0k (q9p (i:=10) (by lia)) (by rw [List.length_map];(with_reducible refine nag ?_;decide))) q0r (op_mod (by decide))) (by repeat' walk_at "pe") (fun _ => rfl)) (Nat.le_of_ble_eq_true rfl)) q1y
 case turn =>
  refine q2m (fun L D => by walk_at "sto") rfl fun L' D ys i p hp' => ?_
  have ho : ∃ o,p = .int o ∧ -1 ≤ o ∧ o < 65536:=by
   have h:=w5w (ns.getD 10 0)
   match i,hp' with
   | 0,hp' => cases hp';exact ⟨_,rfl,h.1,h.2⟩
   | 1,hp' => cases hp';exact ⟨_,rfl,by decide,by decide⟩
   | 2,hp' => cases hp';exact ⟨_,rfl,by decide,by decide⟩
  obtain ⟨o,rfl,o1,o2⟩:=ho
  have f:=law_joined (prog:=prog) (w:=w) hC hp (n:=0) (ns:=q3j ns) hl h7 o1 o2
  rw [w6j hl h7] at f
  exact q0t (q0f (q0e hC rfl) rfl rfl) (q0c (q0b rfl rfl) (q0c (q0b rfl rfl) q0d (fun _ => rfl)) (fun _ => rfl)) (w1m hC) f r (fun _ => rfl)
 case q => exact q5c (q0c (q0b hf rfl) (q0c (q0b hf rfl) (q0c (q0b hf rfl) q0d (fun _ => rfl)) (fun _ => rfl)) (fun _ => rfl)) (Nat.le_of_ble_eq_true rfl)
 obtain ⟨o1,o2⟩:=I'.outs (mu:=mu) (nu:=[]) hL
 exact hK _ _ ⟨v,rfl,o1,o2,y.sub fun a h => List.mem_append_right _ h⟩
end
end
section
set_option tactic.hygienic true
open PySem PySem.W PySem.Calls PyProof.Rows
private theorem w1a {K : Frag} {t : List Addr} {a : Addr} (h : a ∈ t) : (K.filter fun p => !t.contains p.1).lookup a = none:=by
 induction K with
 | nil => rfl
 | cons x K ih =>
  rw [List.filter_cons]
  split
  ·rename_i hx
   rw [List.lookup_cons]
   cases q : a == x.1 with
   | false => exact ih
   | true =>
    rw [← eq_of_beq q] at hx
    simp [h] at hx
  ·exact ih
private theorem lookup_but {K : Frag} {t : List Addr} {a : Addr} {o : Obj} (h : (K.filter fun p => !t.contains p.1).lookup a = some o) : K.lookup a = some o:=by
 have ha : a ∉ t:=fun q => by rw [w1a q] at h;cases h
 induction K with
 | nil => exact h
 | cons x K ih =>
  rw [List.filter_cons] at h
  rw [List.lookup_cons]
  split at h
  ·rw [List.lookup_cons] at h
   cases q : a == x.1 with
   | true => rw [q] at h;exact h
   | false => rw [q] at h;exact ih h
  ·rename_i hx
   cases q : a == x.1 with
   | true =>
    rw [← eq_of_beq q] at hx
    simp [ha] at hx
   | false => exact ih h
noncomputable abbrev w7j (P : Params) (mg : PySem.Str → Option Value) (s : Shared) : Cfg:=⟨s.heap,TL,s.os,Ks P,mg⟩
private theorem q8a {P : Params} {h : Heap} (KX : (Mine.hd.heap_275 P).In h) : ∀ x ∈ TL,h.get? x.2.1 = some (tabObj #[]):=fun x hx => by
 rcases hx with _ | ⟨_,_ | ⟨_,_ | ⟨_,_ | ⟨_,hx⟩⟩⟩⟩
 ·exact KX 71 _ (by kernel_rfl)
 ·exact KX 78 _ (by kernel_rfl)
 ·exact KX 216 _ (by kernel_rfl)
 ·exact KX 223 _ (by kernel_rfl)
 ·cases hx
private theorem codes_new {P : Params} {h : Heap} (KX : (Mine.hd.heap_275 P).In h) : ∀ x ∈ TL,CodeHd h x.1 x.2.1:=fun x hx => by
 rcases hx with _ | ⟨_,_ | ⟨_,_ | ⟨_,_ | ⟨_,hx⟩⟩⟩⟩
 ·exact ⟨_,_,_,_,_,_,_,_,_,KX 75 (Mine.hd.zo_92 P) (by kernel_rfl),by kernel_rfl,rfl,rfl,rfl,rfl,rfl,rfl,rfl,by decide⟩
 ·exact ⟨_,_,_,_,_,_,_,_,_,KX 82 (Mine.hd.zo_99 P) (by kernel_rfl),by kernel_rfl,rfl,rfl,rfl,rfl,rfl,rfl,rfl,by decide⟩
 ·exact ⟨_,_,_,_,_,_,_,_,_,KX 220 (Mine.hd.zo_222 P) (by kernel_rfl),by kernel_rfl,rfl,rfl,rfl,rfl,rfl,rfl,rfl,by decide⟩
 ·exact ⟨_,_,_,_,_,_,_,_,_,KX 227 (Mine.hd.zo_229 P) (by kernel_rfl),by kernel_rfl,rfl,rfl,rfl,rfl,rfl,rfl,rfl,by decide⟩
 ·cases hx
private theorem w8u : ∀ x ∈ TL,x.1 ∉ TL.map (·.2.1):=by decide +kernel
private theorem ok_start {P : Params} {mg : PySem.Str → Option Value} {s : Shared} (KX : (Mine.hd.heap_275 P).In s.heap) (hg : s.gens = #[]) (hlim : s.heap.NoLimit) (hns : s.heap.Ns mainGlobals mg)
  (hbm : ∃ bm ob,mg "__builtins__" = some (.ref bm) ∧ bm ≠ builtinsNs ∧ s.heap.get? bm = some ob ∧ ob.cls = .type "module" ∧ ob.dict = some builtinsNs ∧ ob.data = .plain) : Ok (w7j P mg s) [] s where
 old:=fun _ _ e _ => e
 tab:=fun x hx => ⟨#[],q8a KX x hx,trivial,fun pos c' e => nomatch e⟩
 code:=fun x hx => ⟨codes_new KX x hx,w8u x hx,_,q8a KX x hx⟩
 live:=fun _ h => nomatch h
 gens:=.of_eq hg
 os:=rfl
 kin:=fun a o e => KX a o (lookup_but (t:=tabL) e)
 kt:=fun a ha => w1a (t:=tabL) ha
 lim:=⟨hlim,(by decide +kernel : cStatics ∉ TL.map (·.2.1))⟩
 glob:=⟨hns,(by decide +kernel : mainGlobals ∉ TL.map (·.2.1))⟩
 bmod:=by
  obtain ⟨bm,ob,h1,h2,h3,h4,h5,h6⟩:=hbm
  refine ⟨bm,ob,h1,h2,fun q => ?_,fun q => ?_,h3,h4,h5,h6⟩
  ·obtain ⟨o,es,ep,ho,hd,_⟩:=hns
   rw [← q,h3] at ho
   cases ho
   rw [h6] at hd;cases hd
  ·obtain ⟨x,hx,rfl⟩:=List.mem_map.mp q
   have h3 : s.heap.get? x.2.1 = some ob:=h3
   rw [q8a KX x hx] at h3
   cases h3
   cases h6
private theorem oldK_of {C : Cfg} {mu : List Addr} {s' : Shared} (O : Ok C mu s') (h0 : ∀ x ∈ C.T,C.H.get? x.2.1 = some (tabObj #[])) : OldK C.H s'.heap where
 old:=fun b o e => by
  by_cases hb : b ∈ C.tabs
  ·obtain ⟨x,hx,rfl⟩:=List.mem_map.mp hb
   have e : C.H.get? x.2.1 = some o:=e
   rw [h0 x hx] at e;cases e
   obtain ⟨ps,hp,_⟩:=O.tab x hx
   have ht:=(O.code x hx).1.tab (h0 x hx)
   exact .inr (.inl ⟨ht.isCodeTable,rfl,#[],ps,rfl,by
    show s'.heap.get? x.2.1 = _
    rw [hp,Array.empty_append]⟩)
  ·exact .inl (O.old b o e hb)
 there:=fun b o e => by
  by_cases hb : b ∈ C.tabs
  ·obtain ⟨x,hx,rfl⟩:=List.mem_map.mp hb
   obtain ⟨ps,hp,_⟩:=O.tab x hx
   exact ⟨_,hp⟩
  ·exact ⟨o,O.old b o e hb⟩
private theorem good_end {c : ClaimW} {cl : PySem.Str → Option Addr} {mean : ExcName → Option Value} {args : List WData} {s₁ s' : Shared} (hK : OldK s₁.heap s'.heap) (hos : s'.os = s₁.os) (hg : AllBare s'.gens) (hr : ∀ cls,c.raises args cls = false) (hp : c.post args (.bool true) args = true) :
  GoodWG c cl mean args s₁ (.ok (.ret (.bool true))) s':=⟨.inl ⟨_,_,[],rfl,hr,ReadsW.bool true,hp,fun _ => ⟨List.nodup_nil,fun _ hm => (nomatch hm)⟩⟩,hK,hos,hg⟩
private theorem rm_caller : Rm callerA 13:=⟨rfl,by decide,by decide⟩
private theorem law_run {prog : Program} {w : World} {mg : PySem.Str → Option Value} {s₁ : Shared} {c : ClaimW} {cl : PySem.Str → Option Addr} {mean : ExcName → Option Value} {args : List WData} {sc : List Int} {its : List Value} {a : Addr} (hp : ProgOk prog) (KX : (Mine.hd.heap_275 w.params).In s₁.heap) (hg : s₁.gens = #[]) (hlim : s₁.heap.NoLimit) (hns : s₁.heap.Ns mainGlobals mg)
  (hbm : ∃ bm ob,mg "__builtins__" = some (.ref bm) ∧ bm ≠ builtinsNs ∧ s₁.heap.get? bm = some ob ∧ ob.cls = .type "module" ∧ ob.dict = some builtinsNs ∧ ob.data = .plain)
  (hl : s₁.heap.get? a = some { cls:=.type "list",data:=.seq its.toArray }) (hi : IntsAre its sc) (hs : ¬ ((63 : Nat) : Int) < (sc.length : Int)) (hr : ∀ cls,c.raises args cls = false) (hpost : c.post args (.bool true) args = true) :
  wpAny (model prog w) callerA (call (.ref a_law) [.ref a]) (fun v s' => GoodWG c cl mean args s₁ (.ok (.ret v)) s') (fun e s' => GoodWG c cl mean args s₁ (.error e) s') s₁:=by
 have O:=ok_start (P:=w.params) (mg:=mg) KX hg hlim hns hbm
 have K:=law_true (prog:=prog) (w:=w) (P:=w.params) (C:=w7j w.params mg s₁) ⟨rfl,rfl⟩ hp (sc:=sc) (by lia)
 refine K callerA [] rm_caller s₁ [.ref a] O ⟨_,_,rfl,⟨a,its,0,rfl,(fun h => nomatch h),hl,q8v hi⟩,rfl⟩ _ _ fun v s' O' k' y' => ?_
 cases (show v = .bool true from y')
 exact good_end (oldK_of O' (q8a KX)) O'.os O'.gens hr hpost
end
section
open PySem PySem.W PySem.W.X PySem.Calls PyProof.Rows
set_option maxHeartbeats 8000000
noncomputable def hdAs : List Addr:=[0,2,3,42,43,47,48,54,55,61,62,68,69,71,75,76,78,82,83,89,90,96,97,110,111,117,118,131,132,166,167,169,170,178,183,190,191,197,198,199,205,206,213,214,216,220,221,223,227,228,229,235,236,242,243,250,251,253,254,264,265,269,270,274,275]
noncomputable abbrev pw : Program:=PySem.Challenge.rw_sr0073_02.row.prog
noncomputable def vw : Program:={ pw with main:={ pw.main with body:=[0,1,3,4,5,6,8,9,10,11,12,13,14,16,17,18,19,21,22,23].map fun i => (pw.main.body[i]?).getD default } }
noncomputable def lo : List PySem.Str:=[PySem.Str.ofString "_twin_re_1",PySem.Str.ofString "_twin_re_2",PySem.Str.ofString "_Accumulator"]
noncomputable abbrev xt (s : Shared) : Bool:=xlAt vw [] s && recOk (RowW.records PySem.Challenge.rw_sr0073_02.row.toRowW) s
private theorem left02 : LeftO pw vw lo xt (obsZ hdAs) (valZ Mine.hd.heap_275 276 674) 4000:=fun w => by kernel_rfl
end
section
open PySem PySem.W PySem.W.X PySem.Calls PyProof.Rows
set_option maxHeartbeats 8000000
private theorem hd_keys (P : Params) : hdAs = (Mine.hd.heap_275 P).map (·.1):=rfl
private theorem hd_law (P : Params) : nsIn (Mine.hd.heap_275 P) mainGlobals (PySem.Str.ofString "law") = some (some (.ref 275)):=by kernel_rfl
noncomputable abbrev HeadGoal : Prop:=∀ (w : World) (s₀ s₁ : Shared) (mg mb : PySem.Str → Option Value),(Mine.hd.heap_275 w.params).In s₁.heap → s₁.gens = #[] → s₁.heap.NoLimit → s₁.heap.Ns mainGlobals mg →
 (∃ bm ob,mg "__builtins__" = some (.ref bm) ∧ bm ≠ builtinsNs ∧ s₁.heap.get? bm = some ob ∧ ob.cls = .type "module" ∧ ob.dict = some builtinsNs ∧ ob.data = .plain) →
 ∀ (sc : List Int) (its : List Value),s₁.heap.get? 276 = some { cls:=.type "list",data:=.seq its.toArray } → IntsAre its sc → ¬ ((63 : Nat) : Int) < (sc.length : Int) →
 ∀ args,(∀ cls,PySem.Challenge.rw_sr0073_02.row.claim.raises args cls = false) → PySem.Challenge.rw_sr0073_02.row.claim.post args (.bool true) args = true →
 wpAny (model pw w) callerA (call (.ref 275) [.ref 276]) (fun v s' => GoodWG PySem.Challenge.rw_sr0073_02.row.claim (classAt s₀.heap) (ExcName.means s₀.heap) args s₁ (.ok (.ret v)) s')
  (fun e s' => GoodWG PySem.Challenge.rw_sr0073_02.row.claim (classAt s₀.heap) (ExcName.means s₀.heap) args s₁ (.error e) s') s₁
private theorem head02 (H : HeadGoal) : PySem.Challenge.rw_sr0073_02.Holds:=by
 refine holds_law (by kernel_rfl) fun said => ?_
 refine holds_openX (q:=vw) (loose:=lo) (Xt:=xt) (XP:=XL vw []) (Yf:=obsZ hdAs) (Ya:=valZ Mine.hd.heap_275 276 674) (N:=4000) left02 (fun s e => xl_of s (Bool.and_eq_true_iff.mp e).1) XL.keeps (by rfl) (by rfl) (by rfl) (fun s e => recFacts_of (Bool.and_eq_true_iff.mp e).2) (by rfl) (by assumption) (by decide +kernel) ⟨rfl,rfl,rfl,rfl,rfl,by decide +kernel⟩ ?hw ?hc
 case hw => w_witness2
 case hc =>
  intro w s₀ s₁ mg mb G y fa o pm cd doc dV kV ho hd hcd hD hmg hg args vals as L hpre hlay hrd hwl hlo
  have y1 : hdAs.map s₀.heap.get? = (Mine.hd.heap_275 w.params).map fun p => some p.2:=congrArg Prod.fst y
  have KX : (Mine.hd.heap_275 w.params).In s₁.heap:=(Frag.in_of (hd_keys w.params) y1).keeps L.keeps
  have ZN : s₀.heap.objs.size = 276:=congrArg (fun x => x.2.1) y
  have T:=G.T
  have hfa:=mg_of KX T.g (hd_law w.params)
  clear ho hd hcd hD
  have hmg' : mg (PySem.Str.ofString "law") = some (.ref fa):=hmg
  rw [hfa] at hmg'
  cases hmg'
  clear hmg
  wrow_args hpre hlay hrd hwl hlo
  obtain ⟨hat,hsz⟩:=script_at L
  rw [ZN] at hat hsz
  subst hat
  refine H w s₀ s₁ mg mb KX hg T.nolimit T.g T.bmain _ _ (script_obj L (by assumption)) (by assumption) ?hs _ (fun _ => rfl) ?hp
  case hs => assumption
  case hp => first | rfl | wrow_post
end
section
open PySem PySem.W PySem.Calls PyProof.Rows
private theorem prog_ok : ProgOk PySem.Challenge.rw_sr0073_02.row.prog:=⟨by kernel_rfl,by kernel_rfl⟩
theorem law_end : PySem.Challenge.rw_sr0073_02.Holds:=head02 fun w s₀ s₁ mg mb KX hg hlim hns hbm sc its hl hi hs args hr hp => law_run prog_ok KX hg hlim hns hbm hl hi hs hr hp
end
end Mine
theorem PySem.Challenge.cw_sr0073_02_holds : PySem.Challenge.rw_sr0073_02.Holds := by
  exact Mine.law_end
