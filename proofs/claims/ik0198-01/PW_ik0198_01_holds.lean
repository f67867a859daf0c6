import PyProof.Rows.All
import Wide.All
import OpenK.AllK
import Wide.FinOn
import PyProof.Pure
import PyProof.PureStr
import PyProof.Draws
import PyProof.AutoIntOps
import PyProof.Rows.StrInSeq
import PyProof.EqAt
import PyProof.NeKinds
import PyProof.SliceStr
import PyProof.SliceList
import PyProof.ZipIter
import PyProof.StationsW
import PyProof.TupleOfSeq
import PyProof.SliceMore
import PyProof.AutoSeq1
import Lean
import PySem.Challenge.RW_ik0198_01
set_option Elab.async false
set_option maxRecDepth 100000
set_option maxHeartbeats 0
set_option linter.unusedVariables false
section
open PySem PySem.W
namespace Mine
noncomputable abbrev Ent := Addr × Obj
inductive LT where
  | nil
  | node (v : Option Ent) (l r : LT)
namespace LT
noncomputable def get : LT → Nat → Option Ent
  | .nil,_ => none
  | .node v l r,i => match Nat.beq i 0 with
    | true => v
    | false => match Nat.beq (i % 2) 1 with
      | true => l.get (i / 2)
      | false => r.get (i / 2 - 1)
noncomputable def one : Nat → Nat → Ent → LT
  | 0,_,e => .node (some e) .nil .nil
  | f + 1,i,e => match Nat.beq i 0 with
    | true => .node (some e) .nil .nil
    | false => match Nat.beq (i % 2) 1 with
      | true => .node none (one f (i / 2) e) .nil
      | false => .node none .nil (one f (i / 2 - 1) e)
noncomputable def put : LT → Nat → Ent → LT
  | .nil,i,e => one 20 i e
  | .node v l r,i,e => match Nat.beq i 0 with
    | true => .node (some e) l r
    | false => match Nat.beq (i % 2) 1 with
      | true => .node v (l.put (i / 2) e) r
      | false => .node v l (r.put (i / 2 - 1) e)
theorem get_node (v : Option Ent) (l r : LT) (i : Nat) : (node v l r).get i = if i = 0 then v else if i % 2 = 1 then l.get (i / 2) else r.get (i / 2 - 1) := by
  show (match Nat.beq i 0 with | true => v | false => match Nat.beq (i % 2) 1 with | true => l.get (i / 2) | false => r.get (i / 2 - 1)) = _
  rw [BT.beq_eq,BT.beq_eq]
  by_cases h : i = 0
  · simp [h]
  · by_cases q : i % 2 = 1 <;> simp [h,q]
theorem get_nil (i : Nat) : (nil : LT).get i = none := by cases i <;> rfl
theorem one_succ (f i : Nat) (e : Ent) : one (f + 1) i e = if i = 0 then node (some e) nil nil else if i % 2 = 1 then node none (one f (i / 2) e) nil else node none nil (one f (i / 2 - 1) e) := by
  show (match Nat.beq i 0 with | true => node (some e) nil nil | false => match Nat.beq (i % 2) 1 with | true => node none (one f (i / 2) e) nil | false => node none nil (one f (i / 2 - 1) e)) = _
  rw [BT.beq_eq,BT.beq_eq]
  by_cases h : i = 0
  · simp [h]
  · by_cases q : i % 2 = 1 <;> simp [h,q]
theorem put_node (v : Option Ent) (l r : LT) (i : Nat) (e : Ent) : (node v l r).put i e = if i = 0 then node (some e) l r else if i % 2 = 1 then node v (l.put (i / 2) e) r else node v l (r.put (i / 2 - 1) e) := by
  show (match Nat.beq i 0 with | true => node (some e) l r | false => match Nat.beq (i % 2) 1 with | true => node v (l.put (i / 2) e) r | false => node v l (r.put (i / 2 - 1) e)) = _
  rw [BT.beq_eq,BT.beq_eq]
  by_cases h : i = 0
  · simp [h]
  · by_cases q : i % 2 = 1 <;> simp [h,q]
theorem get_one (e : Ent) : ∀ (f i : Nat),((one f i e).get i).isSome = true → ∀ j,(one f i e).get j = if j = i then some e else none
  | 0,i,h,j => by
    have e0 : one 0 i e = node (some e) nil nil := rfl
    rw [e0,get_node] at h
    have hi : i = 0 := by
      by_cases q : i = 0
      · exact q
      · exfalso; revert h; by_cases p : i % 2 = 1 <;> simp [q,p,get_nil]
    subst hi
    rw [e0,get_node]
    by_cases q : j = 0
    · simp [q]
    · by_cases p : j % 2 = 1 <;> simp [q,p,get_nil]
  | f + 1,i,h,j => by
    rw [one_succ] at h ⊢
    by_cases hi : i = 0
    · subst hi
      rw [if_pos rfl,get_node]
      by_cases q : j = 0
      · simp [q]
      · by_cases p : j % 2 = 1 <;> simp [q,p,get_nil]
    · rw [if_neg hi] at h ⊢
      by_cases pi : i % 2 = 1
      · rw [if_pos pi] at h ⊢
        rw [get_node,if_neg hi,if_pos pi] at h
        rw [get_node]
        by_cases q : j = 0
        · subst q; simp [Ne.symm hi]
        · by_cases p : j % 2 = 1
          · simp only [q,p,if_true,if_false]
            rw [get_one e f _ h]
            by_cases x : j = i
            · simp [x]
            · have : j / 2 ≠ i / 2 := by omega
              simp [x,this]
          · have : j ≠ i := fun z => p (z ▸ pi)
            simp [q,p,this,get_nil]
      · rw [if_neg pi] at h ⊢
        rw [get_node,if_neg hi,if_neg pi] at h
        rw [get_node]
        by_cases q : j = 0
        · subst q; simp [Ne.symm hi]
        · by_cases p : j % 2 = 1
          · have : j ≠ i := fun z => pi (z ▸ p)
            simp [q,p,this,get_nil]
          · simp only [q,p,if_false]
            rw [get_one e f _ h]
            by_cases x : j = i
            · simp [x]
            · have : j / 2 - 1 ≠ i / 2 - 1 := by omega
              simp [x,this]
theorem get_put (e : Ent) : ∀ (t : LT) (i : Nat),((t.put i e).get i).isSome = true → ∀ j,(t.put i e).get j = if j = i then some e else t.get j
  | .nil,i,h,j => by
    have e0 : (nil : LT).put i e = one 20 i e := rfl
    rw [e0] at h ⊢
    rw [get_one e 20 i h j,get_nil]
  | .node v l r,i,h,j => by
    rw [put_node] at h ⊢
    rw [get_node v l r j]
    by_cases hi : i = 0
    · subst hi
      rw [if_pos rfl,get_node]
      by_cases q : j = 0 <;> simp [q]
    · rw [if_neg hi] at h ⊢
      by_cases pi : i % 2 = 1
      · rw [if_pos pi] at h ⊢
        rw [get_node,if_neg hi,if_pos pi] at h
        rw [get_node]
        by_cases q : j = 0
        · subst q; simp [Ne.symm hi]
        · by_cases p : j % 2 = 1
          · simp only [q,p,if_true,if_false]
            rw [get_put e l _ h]
            by_cases x : j = i
            · simp [x]
            · have : j / 2 ≠ i / 2 := by omega
              simp [x,this]
          · have : j ≠ i := fun z => p (z ▸ pi)
            simp [q,p,this]
      · rw [if_neg pi] at h ⊢
        rw [get_node,if_neg hi,if_neg pi] at h
        rw [get_node]
        by_cases q : j = 0
        · subst q; simp [Ne.symm hi]
        · by_cases p : j % 2 = 1
          · have : j ≠ i := fun z => pi (z ▸ p)
            simp [q,p,this]
          · simp only [q,p,if_false]
            rw [get_put e r _ h]
            by_cases x : j = i
            · simp [x]
            · have : j / 2 - 1 ≠ i / 2 - 1 := by omega
              simp [x,this]
end LT
structure HV where
  prog : Program
  w : World
  den : Code → Sem PySem.Fin
  quiet : Code → Bool
  top : Nat → Option Obj
structure HV.Ok (V : HV) : Prop where
  den : V.den = denote table
  quiet : V.quiet = Code.quiet
structure KF where
  k : Result → Sem PySem.Fin
  Γ : Ctx
  p : Pos
inductive Sk where
  | call | blt (id : String) | body | block | hand | star | func | expr | whl | frl | afr | lcs | lcl | cs | cl
  /-- the very code -/
  | code (c : Code)
noncomputable def skel : Code → Sk
  | .call .. => .call
  | .builtin id _ => .blt id
  | .body .. => .body
  | .block .. => .block
  | .handlers .. => .hand
  | .starHandlers .. => .star
  | .func .. => .func
  | .expr .. => .expr
  | .whileLoop .. => .whl
  | .forLoop .. => .frl
  | .asyncForLoop .. => .afr
  | .compStart (.ListComp ..) .. => .lcs
  | .compLoop (.ListComp ..) .. => .lcl
  | .compStart .. => .cs
  | .compLoop .. => .cl
noncomputable def Hole : Sk → Type
  | .call => Value × Args
  | .blt _ => Args
  | .body | .block | .func => List Stmt × Env
  | .hand => Value × List ExceptHandler × Env
  | .star => (Value × Value × Value) × List ExceptHandler × Env
  | .expr => Expr × Env
  | .whl => Expr × List Stmt × List Stmt × Env
  | .frl | .afr => Expr × Value × List Stmt × List Stmt × Env
  | .lcs | .lcl => (Expr × List Comprehension × Scope × Pos) × Nat × Value × Value × Env
  | .cs | .cl => Expr × Nat × Value × Value × Env
  | .code _ => Unit
noncomputable def fill : (k : Sk) → Hole k → Code
  | .call,h => .call h.1 h.2
  | .blt id,h => .builtin id h
  | .body,h => .body h.1 h.2
  | .block,h => .block h.1 h.2
  | .func,h => .func h.1 h.2
  | .hand,h => .handlers h.1 h.2.1 h.2.2
  | .star,h => .starHandlers h.1.1 h.1.2.1 h.1.2.2 h.2.1 h.2.2
  | .expr,h => .expr h.1 h.2
  | .whl,h => .whileLoop h.1 h.2.1 h.2.2.1 h.2.2.2
  | .frl,h => .forLoop h.1 h.2.1 h.2.2.1 h.2.2.2.1 h.2.2.2.2
  | .afr,h => .asyncForLoop h.1 h.2.1 h.2.2.1 h.2.2.2.1 h.2.2.2.2
  | .lcs,h => .compStart (.ListComp h.1.1 h.1.2.1 h.1.2.2.1 h.1.2.2.2) h.2.1 h.2.2.1 h.2.2.2.1 h.2.2.2.2
  | .lcl,h => .compLoop (.ListComp h.1.1 h.1.2.1 h.1.2.2.1 h.1.2.2.2) h.2.1 h.2.2.1 h.2.2.2.1 h.2.2.2.2
  | .cs,h => .compStart h.1 h.2.1 h.2.2.1 h.2.2.2.1 h.2.2.2.2
  | .cl,h => .compLoop h.1 h.2.1 h.2.2.1 h.2.2.2.1 h.2.2.2.2
  | .code c,_ => c
noncomputable def HL : List Sk → Type
  | [] => Unit
  | k :: ks => Hole k × Pos × HL ks
noncomputable def fillAll : (ks : List Sk) → HL ks → List (Code × Pos)
  | [],_ => []
  | k :: ks,h => (fill k h.1,h.2.1) :: fillAll ks h.2.2
noncomputable def skAs : Sk → Code → Sk
  | .code _,c => .code c
  | _,c => skel c
noncomputable def skelsAs : List Sk → List (Code × Pos) → List Sk
  | k :: ks,x :: l => skAs k x.1 :: skelsAs ks l
  | [],_ :: _ => [.call]
  | _,[] => []
theorem fill_skel (c : Code) : ∃ h : Hole (skel c),c = fill (skel c) h := by
  cases c with
  | compStart e d it acc env => cases e with
    | ListComp x y z t => exact ⟨⟨(x,y,z,t),d,it,acc,env⟩,rfl⟩
    | _ => exact ⟨⟨_,d,it,acc,env⟩,rfl⟩
  | compLoop e d it acc env => cases e with
    | ListComp x y z t => exact ⟨⟨(x,y,z,t),d,it,acc,env⟩,rfl⟩
    | _ => exact ⟨⟨_,d,it,acc,env⟩,rfl⟩
  | call f a => exact ⟨⟨f,a⟩,rfl⟩
  | builtin id a => exact ⟨a,rfl⟩
  | body a b => exact ⟨⟨a,b⟩,rfl⟩
  | block a b => exact ⟨⟨a,b⟩,rfl⟩
  | func a b => exact ⟨⟨a,b⟩,rfl⟩
  | expr a b => exact ⟨⟨a,b⟩,rfl⟩
  | handlers a b c => exact ⟨⟨a,b,c⟩,rfl⟩
  | starHandlers a b c d e => exact ⟨⟨⟨a,b,c⟩,d,e⟩,rfl⟩
  | whileLoop a b c d => exact ⟨⟨a,b,c,d⟩,rfl⟩
  | forLoop a b c d e => exact ⟨⟨a,b,c,d,e⟩,rfl⟩
  | asyncForLoop a b c d e => exact ⟨⟨a,b,c,d,e⟩,rfl⟩
theorem fill_skAs (k : Sk) (c : Code) (e : skAs k c = k) : ∃ h : Hole k,c = fill k h := by
  cases k with
  | code c' =>
    have e : Sk.code c = .code c' := e
    cases e
    exact ⟨(),rfl⟩
  | _ => exact (show skel c = _ from e) ▸ fill_skel c
theorem fill_of : ∀ {l : List (Code × Pos)} {ks : List Sk},skelsAs ks l = ks → ∃ h : HL ks,l = fillAll ks h
  | [],[],_ => ⟨(),rfl⟩
  | [],k :: ks,e => nomatch (show [] = k :: ks from e)
  | x :: l,[],e => nomatch (show [Sk.call] = [] from e)
  | (c,p) :: l,k :: ks,e => by
    obtain ⟨e1,e2⟩ := List.cons.inj (show skAs k c :: skelsAs ks l = k :: ks from e)
    obtain ⟨a,ha⟩ := fill_skAs k c e1
    obtain ⟨b,hb⟩ := fill_of e2
    exact ⟨(a,p,b),by show (c,p) :: l = (fill k a,p) :: fillAll ks b; rw [← ha,← hb]⟩
structure Spec where
  code : Code
  shape : List Sk
  /-- encoded place,entry -/
  pre : List (Nat × Ent)
  res : (Nat → Nat) → Tok → Result
  /-- local place,its address,what stands there afterwards -/
  upd : List (Nat × Addr × ((Nat → Nat) → Tok → Obj))
  /-- new objects to be read alone,at the addresses α 0,α 1,.. -/
  newR : List ((Nat → Nat) → Tok → Obj)
  /-- new objects to be changed by the caller,at the addresses that follow -/
  newT : List ((Nat → Nat) → Tok → Obj) := []
  /-- may a thing to be read that is given back be one of those before? -/
  old : Bool := true
structure Out where
  res : Except Value PySem.Fin
  objs : List (Nat × Ent)
  /-- things to be read alone,by their place -/
  ros : List (Nat × Ent) := []
inductive Scr where
  | fin (hs : List Nat) (out : Out)
  | orc (hs : List Nat) (S : Spec) (m r : Nat) (rest : (Nat → Nat) → Tok → Nat → Nat → Scr)
  /-- an end at a heap of the size z -/
  | finB (hs : List Nat) (out : Out) (z : Nat)
  /-- a call that is not walked,at a heap of the size z,that makes c objects -/
  | orcB (hs : List Nat) (S : Spec) (z c : Nat) (al : List Nat) (m r : Nat) (rest : (Nat → Nat) → Tok → Nat → Scr)
noncomputable def Scr.pop : Scr → Option (Nat × Scr)
  | .fin [] _ => none
  | .fin (h :: hs) out => some (h,.fin hs out)
  | .orc [] _ _ _ _ => none
  | .orc (h :: hs) S m r rest => some (h,.orc hs S m r rest)
  | .finB [] _ _ => none
  | .finB (h :: hs) out z => some (h,.finB hs out z)
  | .orcB [] _ _ _ _ _ _ _ => none
  | .orcB (h :: hs) S z c al m r rest => some (h,.orcB hs S z c al m r rest)
noncomputable def pin : List Nat → (Nat → Nat) → Nat → Nat
  | [],α => α
  | a :: l,α => fun i => match (a :: l)[i]? with
    | some x => x
    | none => α i
noncomputable def lookH (V : HV) (R T : LT) (h : Nat) : Option Ent := match Nat.beq (h % 3) 1 with
  | true => match V.top (h / 3) with
    | some ob => some (h / 3,ob)
    | none => none
  | false => match Nat.beq (h % 3) 2 with
    | true => R.get (h / 3)
    | false => T.get (h / 3 - 1)
noncomputable def putR (α : Nat → Nat) (t : Tok) : List ((Nat → Nat) → Tok → Obj) → Nat → Nat → LT → LT
  | [],_,_,R => R
  | f :: fs,i,r,R => putR α t fs (i + 1) (r + 1) (R.put r (α i,f α t))
noncomputable def putRok (α : Nat → Nat) (t : Tok) : List ((Nat → Nat) → Tok → Obj) → Nat → Nat → LT → Bool
  | [],_,_,_ => true
  | f :: fs,i,r,R => ((R.put r (α i,f α t)).get r).isSome && (R.get r).isNone && putRok α t fs (i + 1) (r + 1) (R.put r (α i,f α t))
noncomputable def putU (α : Nat → Nat) (t : Tok) : List (Nat × Addr × ((Nat → Nat) → Tok → Obj)) → LT → LT
  | [],T => T
  | x :: xs,T => putU α t xs (T.put x.1 (x.2.1,x.2.2 α t))
noncomputable def putUok (α : Nat → Nat) (t : Tok) : List (Nat × Addr × ((Nat → Nat) → Tok → Obj)) → LT → Bool
  | [],_ => true
  | x :: xs,T => ((T.put x.1 (x.2.1,x.2.2 α t)).get x.1).isSome && putUok α t xs (T.put x.1 (x.2.1,x.2.2 α t))
noncomputable def putN (α : Nat → Nat) (t : Tok) : List ((Nat → Nat) → Tok → Obj) → Nat → Nat → LT → LT
  | [],_,_,T => T
  | f :: fs,i,m,T => putN α t fs (i + 1) (m + 1) (T.put m (α i,f α t))
noncomputable def putNok (α : Nat → Nat) (t : Tok) : List ((Nat → Nat) → Tok → Obj) → Nat → Nat → LT → Bool
  | [],_,_,_ => true
  | f :: fs,i,m,T => ((T.put m (α i,f α t)).get m).isSome && (T.get m).isNone && putNok α t fs (i + 1) (m + 1) (T.put m (α i,f α t))
noncomputable def fineP (S : Scr) (R T : LT) (acc exp : List Nat) (z : Nat) (q : Except Value PySem.Fin) : Prop := match S with
  | .fin [] out => acc = exp ∧ q = out.res ∧ out.objs.map (fun x => T.get x.1) = out.objs.map (fun x => some x.2) ∧ out.ros.map (fun x => R.get x.1) = out.ros.map (fun x => some x.2)
  | .finB [] out z' => acc = exp ∧ q = out.res ∧ out.objs.map (fun x => T.get x.1) = out.objs.map (fun x => some x.2) ∧ out.ros.map (fun x => R.get x.1) = out.ros.map (fun x => some x.2) ∧ z = z'
  | _ => False
noncomputable def simH (V : HV) (b : Bool) : Nat → List KF → Ctx → Pos → Sem PySem.Fin → Scr → LT → LT → (m r n o τ j : Nat) → List Nat → List Nat → Prop
  | 0,_,_,_,_,_,_,_,_,_,_,_,_,_,_,_ => False
  | f + 1,κ,Γ,p,t,S,R,T,m,r,n,o,τ,j,acc,exp =>
    match t with
    | .pure fin => match κ with
      | [] => match b with
        | false => fineP S R T acc exp (n + o) (.ok fin)
        | true => match fin with
          | .done fl => fineP S R T acc exp (n + o) (.ok (.done fl))
          | .again c => match V.quiet c with
            | true => simH V b f [] (Γ.goto c) p (V.den c) S R T m r n o τ j acc exp
            | false => False
      | F :: κ' => match fin with
        | .done fl => simH V b f κ' F.Γ F.p (F.k (.ok fl)) S R T m r n o τ j acc exp
        | .again c => match V.quiet c with
          | true => simH V b f (F :: κ') (Γ.goto c) p (V.den c) S R T m r n o τ j acc exp
          | false => False
    | .raise e => match κ with
      | [] => fineP S R T acc exp (n + o) (.error e)
      | F :: κ' => simH V b f κ' F.Γ F.p (F.k (.error e)) S R T m r n o τ j acc exp
    | .rule _ k => simH V b f κ Γ p (k ()) S R T m r n o τ j acc exp
    | .at p' k => simH V b f κ Γ p' (k ()) S R T m r n o τ j acc exp
    | .point _ k => simH V b f κ Γ p (k ()) S R T m r n o τ j acc exp
    | .ask k => simH V b f κ Γ p (k ⟨V.prog,V.w.params⟩) S R T m r n o τ j acc exp
    | .fresh k => simH V b f κ Γ p (k (τ + j)) S R T m r n o τ (j + 1) acc exp
    | .handled own k => match own with
      | true => simH V b f κ Γ p (k Γ.own) S R T m r n o τ j acc exp
      | false => simH V b f κ Γ p (k Γ.handled) S R T m r n o τ j acc exp
    | .stack k => simH V b f κ Γ p (k ((Γ.code,p) :: Γ.below)) S R T m r n o τ j acc exp
    | .load a _ k => match S.pop with
      | some (h,S') => match lookH V R T h with
        | some e => simH V b f κ Γ p (k e.2) S' R T m r n o τ j (a :: acc) (e.1 :: exp)
        | none => False
      | none => False
    | .loadIfAlive a k => match S.pop with
      | some (h,S') => match lookH V R T h with
        | some e => simH V b f κ Γ p (k (some e.2)) S' R T m r n o τ j (a :: acc) (e.1 :: exp)
        | none => False
      | none => False
    | .update a _ u k => match S.pop with
      | some (h,S') => match Nat.beq (h % 3) 0 with
        | true => match T.get (h / 3 - 1) with
          | some e => match (u e.2).isFreed with
            | false => match ((T.put (h / 3 - 1) (e.1,u e.2)).get (h / 3 - 1)).isSome with
              | true => simH V b f κ Γ p (k ()) S' R (T.put (h / 3 - 1) (e.1,u e.2)) m r n o τ j (a :: acc) (e.1 :: exp)
              | false => False
            | true => False
          | none => False
        | false => False
      | none => False
    | .alloc ob k => match ob.isFreed with
      | false => match ((T.put m (n + o,ob)).get m).isSome with
        | true => match T.get m with
          | none => simH V b f κ Γ p (k (n + o)) S R (T.put m (n + o,ob)) (m + 1) r n (o + 1) τ j acc exp
          | some _ => False
        | false => False
      | true => False
    | .call c hd _ _ k => match S with
      | .fin (h :: hs) out => match Nat.beq h 0 with
        | true => simH V b f (⟨k,Γ,p⟩ :: κ) (Γ.enter c hd p) p (V.den c) (.fin hs out) R T m r n o τ j acc exp
        | false => False
      | .fin [] _ => False
      | .orc (h :: hs) Sp m' r' rest => match Nat.beq h 0 with
        | true => simH V b f (⟨k,Γ,p⟩ :: κ) (Γ.enter c hd p) p (V.den c) (.orc hs Sp m' r' rest) R T m r n o τ j acc exp
        | false => False
      | .orc [] Sp m' r' rest =>
        acc = exp ∧ c = Sp.code ∧ hd = none ∧ (Γ.handled,Γ.own,Γ.past) = (none,none,none) ∧ skelsAs Sp.shape ((Γ.code,p) :: Γ.below) = Sp.shape ∧
        Sp.pre.map (fun x => lookH V R T x.1) = Sp.pre.map (fun x => some x.2) ∧ Sp.upd.map (fun x => (T.get x.1).map (·.1)) = Sp.upd.map (fun x => some x.2.1) ∧ (m,r) = (m',r') ∧
        ∀ (α : Nat → Nat) (tk : Tok) (n' τ' : Nat),(putRok α tk Sp.newR 0 r R,putUok α tk Sp.upd T,putNok α tk Sp.newT Sp.newR.length m (putU α tk Sp.upd T)) = (true,true,true) ∧
          simH V b f κ Γ p (k (Sp.res α tk)) (rest α tk n' τ') (putR α tk Sp.newR 0 r R) (putN α tk Sp.newT Sp.newR.length m (putU α tk Sp.upd T)) (m + Sp.newT.length) (r + Sp.newR.length) n' 0 τ' 0 [] []
      | .finB (h :: hs) out z => match Nat.beq h 0 with
        | true => simH V b f (⟨k,Γ,p⟩ :: κ) (Γ.enter c hd p) p (V.den c) (.finB hs out z) R T m r n o τ j acc exp
        | false => False
      | .finB [] _ _ => False
      | .orcB (h :: hs) Sp z c' al m' r' rest => match Nat.beq h 0 with
        | true => simH V b f (⟨k,Γ,p⟩ :: κ) (Γ.enter c hd p) p (V.den c) (.orcB hs Sp z c' al m' r' rest) R T m r n o τ j acc exp
        | false => False
      | .orcB [] Sp z c' al m' r' rest =>
        acc = exp ∧ c = Sp.code ∧ hd = none ∧ (Γ.handled,Γ.own,Γ.past) = (none,none,none) ∧ skelsAs Sp.shape ((Γ.code,p) :: Γ.below) = Sp.shape ∧
        Sp.pre.map (fun x => lookH V R T x.1) = Sp.pre.map (fun x => some x.2) ∧ Sp.upd.map (fun x => (T.get x.1).map (·.1)) = Sp.upd.map (fun x => some x.2.1) ∧ (m,r) = (m',r') ∧ n + o = z ∧
        ∀ (α : Nat → Nat) (tk : Tok) (τ' : Nat),(putRok (pin al α) tk Sp.newR 0 r R,putUok (pin al α) tk Sp.upd T,putNok (pin al α) tk Sp.newT Sp.newR.length m (putU (pin al α) tk Sp.upd T)) = (true,true,true) ∧
          simH V b f κ Γ p (k (Sp.res (pin al α) tk)) (rest (pin al α) tk τ') (putR (pin al α) tk Sp.newR 0 r R) (putN (pin al α) tk Sp.newT Sp.newR.length m (putU (pin al α) tk Sp.upd T)) (m + Sp.newT.length) (r + Sp.newR.length) (z + c') 0 τ' 0 [] []
    | _ => False
structure Apart (V : HV) (pre : List (Nat × Ent)) : Prop where
  inj : ∀ x ∈ pre,x.1 % 3 = 0 → ∀ y ∈ pre,y.1 % 3 = 0 → x.2.1 = y.2.1 → x.1 / 3 - 1 = y.1 / 3 - 1
  sep : ∀ x ∈ pre,x.1 % 3 = 0 → ∀ y ∈ pre,y.1 % 3 = 2 → x.2.1 ≠ y.2.1
  top : ∀ x ∈ pre,x.1 % 3 = 0 → ∀ ob,V.top x.2.1 ≠ some ob
structure Leaves (S : Spec) (s : Shared) (q : Result) (s' : Shared) (α : Nat → Nat) (tk : Tok) : Prop where
  res : q = S.res α tk
  upd : ∀ x ∈ S.upd,s'.heap.get? x.2.1 = some (x.2.2 α tk)
  newR : ∀ i f,S.newR[i]? = some f → s'.heap.get? (α i) = some (f α tk)
  keep : ∀ a ob,s.heap.get? a = some ob → (∀ x ∈ S.upd,x.2.1 ≠ a) → s'.heap.get? a = some ob
  new : ∀ i f,S.newR[i]? = some f → s.heap.objs.size ≤ α i ∨ S.old = true ∧ ∃ x ∈ S.pre,x.1 % 3 = 2 ∧ x.2.1 = α i
  newT : ∀ i f,S.newT[i]? = some f → s'.heap.get? (α (S.newR.length + i)) = some (f α tk) ∧ s.heap.objs.size ≤ α (S.newR.length + i)
  apart : ∀ i j,i < S.newT.length → j < S.newR.length + S.newT.length → α (S.newR.length + i) = α j → S.newR.length + i = j
  grow : s.heap.objs.size ≤ s'.heap.objs.size
  gens : s'.gens = s.gens
  drawn : s'.drawn = s.drawn
  os : s'.os = s.os
noncomputable def HeadAt (p : Pos) (l : List (Code × Pos)) : Prop := ∀ x r,l = x :: r → x.2 = p
noncomputable def Valid (V : HV) (S : Spec) : Prop := ∀ (hs : HL S.shape) (p : Pos) (s : Shared),
  (∀ i ob,V.top i = some ob → s.heap.get? i = some ob) → (∀ x ∈ S.pre,s.heap.get? x.2.1 = some x.2.2) → Apart V S.pre ∧ HeadAt p (fillAll S.shape hs) →
  wpCode (model V.prog V.w) ⟨S.code,none,none,fillAll S.shape hs,none⟩ (fun q s' => ∃ α tk,Leaves S s q s' α tk) p s
noncomputable def ValidB (V : HV) (S : Spec) (z c : Nat) : Prop := ∀ (hs : HL S.shape) (p : Pos) (s : Shared),s.heap.objs.size = z →
  (∀ i ob,V.top i = some ob → s.heap.get? i = some ob) → (∀ x ∈ S.pre,s.heap.get? x.2.1 = some x.2.2) → Apart V S.pre ∧ HeadAt p (fillAll S.shape hs) →
  wpCode (model V.prog V.w) ⟨S.code,none,none,fillAll S.shape hs,none⟩ (fun q s' => (∃ α tk,Leaves S s q s' α tk) ∧ s'.heap.objs.size = z + c) p s
noncomputable def ValidP (V : HV) (S : Spec) (z c : Nat) (al : List Nat) : Prop := ∀ (hs : HL S.shape) (p : Pos) (s : Shared),s.heap.objs.size = z →
  (∀ i ob,V.top i = some ob → s.heap.get? i = some ob) → (∀ x ∈ S.pre,s.heap.get? x.2.1 = some x.2.2) → Apart V S.pre ∧ HeadAt p (fillAll S.shape hs) →
  wpCode (model V.prog V.w) ⟨S.code,none,none,fillAll S.shape hs,none⟩ (fun q s' => (∃ α tk,Leaves S s q s' α tk ∧ ∀ i x,al[i]? = some x → α i = x) ∧ s'.heap.objs.size = z + c) p s
noncomputable def VB (V : HV) (S : Spec) (z c : Nat) : List Nat → Prop
  | [] => ValidB V S z c
  | a :: l => ValidP V S z c (a :: l)
theorem pin_eq {al : List Nat} {α : Nat → Nat} (h : ∀ i x,al[i]? = some x → α i = x) : pin al α = α := by
  cases al with
  | nil => rfl
  | cons a l =>
    funext i
    show (match (a :: l)[i]? with | some x => x | none => α i) = α i
    split
    · rename_i x hx
      exact (h i x hx).symm
    · rfl
section
variable {V : HV} {b : Bool}
theorem fineP_eq {S : Scr} {R T : LT} {acc exp : List Nat} {z : Nat} {q : Except Value PySem.Fin} (h : fineP S R T acc exp z q) : acc = exp := by
  unfold fineP at h
  split at h
  · exact h.1
  · exact h.1
  · exact h.elim
theorem simH_eq : ∀ (f : Nat) (κ : List KF) (Γ : Ctx) (p : Pos) (t : Sem PySem.Fin) (S : Scr) (R T : LT) (m r n o τ j : Nat) (acc exp : List Nat),simH V b f κ Γ p t S R T m r n o τ j acc exp → acc = exp
  | 0,_,_,_,_,_,_,_,_,_,_,_,_,_,_,_,h => h.elim
  | f + 1,κ,Γ,p,t,S,R,T,m,r,n,o,τ,j,acc,exp,h => by
    have ih := simH_eq f
    have tl : ∀ {a e : Nat} {l l' : List Nat},a :: l = e :: l' → l = l' := fun x => (List.cons.inj x).2
    cases t with
    | pure fin =>
      simp only [simH] at h
      cases κ with
      | nil =>
        cases b with
        | false => exact fineP_eq h
        | true =>
          cases fin with
          | done fl => exact fineP_eq h
          | again c =>
            dsimp only at h
            split at h
            · exact ih _ _ _ _ _ _ _ _ _ _ _ _ _ _ _ h
            · exact h.elim
      | cons F κ =>
        cases fin with
        | done fl => exact ih _ _ _ _ _ _ _ _ _ _ _ _ _ _ _ h
        | again c =>
          dsimp only at h
          split at h
          · exact ih _ _ _ _ _ _ _ _ _ _ _ _ _ _ _ h
          · exact h.elim
    | raise e =>
      simp only [simH] at h
      cases κ with
      | nil => exact fineP_eq h
      | cons F κ => exact ih _ _ _ _ _ _ _ _ _ _ _ _ _ _ _ h
    | rule | «at» | point | ask | fresh | stack => simp only [simH] at h; exact ih _ _ _ _ _ _ _ _ _ _ _ _ _ _ _ h
    | handled own k =>
      simp only [simH] at h
      cases own <;> exact ih _ _ _ _ _ _ _ _ _ _ _ _ _ _ _ h
    | load a q k =>
      simp only [simH] at h
      split at h
      · split at h
        · exact tl (ih _ _ _ _ _ _ _ _ _ _ _ _ _ _ _ h)
        · exact h.elim
      · exact h.elim
    | loadIfAlive a k =>
      simp only [simH] at h
      split at h
      · split at h
        · exact tl (ih _ _ _ _ _ _ _ _ _ _ _ _ _ _ _ h)
        · exact h.elim
      · exact h.elim
    | update a q u k =>
      simp only [simH] at h
      repeat' split at h
      all_goals first | exact h.elim | exact tl (ih _ _ _ _ _ _ _ _ _ _ _ _ _ _ _ h)
    | alloc ob k =>
      simp only [simH] at h
      repeat' split at h
      all_goals first | exact h.elim | exact ih _ _ _ _ _ _ _ _ _ _ _ _ _ _ _ h
    | call c hd g l k =>
      simp only [simH] at h
      repeat' split at h
      all_goals first | exact h.elim | exact ih _ _ _ _ _ _ _ _ _ _ _ _ _ _ _ h | exact h.1
    | _ => exact h.elim
end
end Mine
end
section
open PySem PySem.W
namespace Mine
noncomputable def resF : Result → Except Value PySem.Fin
  | .ok f => .ok (.done f)
  | .error e => .error e
noncomputable def post (M : Model) (b : Bool) (Q : Except Value PySem.Fin → Shared → Prop) : List KF → (Ctx → PySem.Fin → Pos → Shared → Prop) × (Value → Pos → Shared → Prop)
  | [] => (fun Γ fin p s => match b with
      | true => Sem.finPost M Γ (fun r s' => Q (resF r) s') fin p s
      | false => Q (.ok fin) s,fun e _ s => Q (.error e) s)
  | F :: κ => (fun Γ => Sem.finPost M Γ (fun r s' => Sem.wp M F.Γ (F.k r) ((post M b Q κ).1 F.Γ) (post M b Q κ).2 F.p s'),
      fun e _ s => Sem.wp M F.Γ (F.k (.error e)) ((post M b Q κ).1 F.Γ) (post M b Q κ).2 F.p s)
structure Mt (V : HV) (s₀ : Shared) (A₀ : Addr → Prop) (m₀ : Nat) (s : Shared) (R T : LT) (m r n o τ j : Nat) : Prop where
  size : s.heap.objs.size = n + o
  toks : s.toks = τ + j
  top : ∀ i ob,V.top i = some ob → s.heap.get? i = some ob
  ro : ∀ i e,R.get i = some e → s.heap.get? e.1 = some e.2
  loc : ∀ i e,T.get i = some e → s.heap.get? e.1 = some e.2
  inj : ∀ i j e e',T.get i = some e → T.get j = some e' → e.1 = e'.1 → i = j
  sepR : ∀ i j e e',T.get i = some e → R.get j = some e' → e.1 ≠ e'.1
  sepT : ∀ i e ob,T.get i = some e → V.top e.1 ≠ some ob
  own : ∀ i e,T.get i = some e → A₀ e.1 ∨ s₀.heap.get? e.1 = none
  new : ∀ i e,T.get i = some e → m₀ ≤ i → s₀.heap.objs.size ≤ e.1
  keep : ∀ a ob,s₀.heap.get? a = some ob → ¬ A₀ a → s.heap.get? a = some ob
  stay : ∀ a ob,s₀.heap.get? a = some ob → ∃ ob',s.heap.get? a = some ob'
  grow : s₀.heap.objs.size ≤ s.heap.objs.size
  mle : m₀ ≤ m
  gens : s.gens = s₀.gens
  drawn : s.drawn = s₀.drawn
  os : s.os = s₀.os
structure Left (s₀ : Shared) (A₀ : Addr → Prop) (m₀ : Nat) (objs ros : List (Nat × Ent)) (s : Shared) : Prop where
  ro : ∀ x ∈ ros,s.heap.get? x.2.1 = some x.2.2
  at_ : ∀ x ∈ objs,s.heap.get? x.2.1 = some x.2.2
  inj : ∀ x ∈ objs,∀ y ∈ objs,x.2.1 = y.2.1 → x.1 = y.1
  new : ∀ x ∈ objs,m₀ ≤ x.1 → s₀.heap.objs.size ≤ x.2.1
  keep : ∀ a ob,s₀.heap.get? a = some ob → ¬ A₀ a → s.heap.get? a = some ob
  grow : s₀.heap.objs.size ≤ s.heap.objs.size
  gens : s.gens = s₀.gens
  drawn : s.drawn = s₀.drawn
  os : s.os = s₀.os
noncomputable def FinOk (V : HV) (Q : Except Value PySem.Fin → Shared → Prop) (s₀ : Shared) (A₀ : Addr → Prop) (m₀ : Nat) : Scr → Prop
  | .fin _ out => ∀ s,Left s₀ A₀ m₀ out.objs out.ros s → Q out.res s
  | .orc _ S _ _ rest => Valid V S ∧ ∀ α tk n' τ',((∀ i f,S.newR[i]? = some f → s₀.heap.objs.size ≤ α i ∨ S.old = true ∧ ∃ x ∈ S.pre,x.1 % 3 = 2 ∧ x.2.1 = α i) ∧ s₀.heap.objs.size ≤ n') → FinOk V Q s₀ A₀ m₀ (rest α tk n' τ')
  | .finB _ out z => ∀ s,Left s₀ A₀ m₀ out.objs out.ros s → s.heap.objs.size = z → Q out.res s
  | .orcB _ S z c al _ _ rest => VB V S z c al ∧ ∀ α tk τ',((∀ i f,S.newR[i]? = some f → s₀.heap.objs.size ≤ pin al α i ∨ S.old = true ∧ ∃ x ∈ S.pre,x.1 % 3 = 2 ∧ x.2.1 = pin al α i) ∧ s₀.heap.objs.size ≤ z + c) → FinOk V Q s₀ A₀ m₀ (rest (pin al α) tk τ')
theorem FinOk.pop {V : HV} {Q : Except Value PySem.Fin → Shared → Prop} {s₀ : Shared} {A₀ : Addr → Prop} {m₀ : Nat} {S S' : Scr} {h : Nat} (H : FinOk V Q s₀ A₀ m₀ S) (e : S.pop = some (h,S')) : FinOk V Q s₀ A₀ m₀ S' := by
  unfold Scr.pop at e
  split at e <;> cases e <;> exact H
section
variable {V : HV} {b : Bool} {Q : Except Value PySem.Fin → Shared → Prop} {s₀ : Shared} {A₀ : Addr → Prop} {m₀ : Nat}
theorem look_at {s : Shared} {R T : LT} {m r n o τ j h : Nat} {e : Ent} (D : Mt V s₀ A₀ m₀ s R T m r n o τ j) (x : lookH V R T h = some e) : s.heap.get? e.1 = some e.2 := by
  unfold lookH at x
  split at x
  · split at x
    · rename_i ob ho
      cases x
      exact D.top _ _ ho
    · cases x
  · split at x
    · exact D.ro _ _ x
    · exact D.loc _ _ x
theorem none_of_le {h : Heap} {a : Addr} (x : h.objs.size ≤ a) : h.get? a = none := by
  cases q : h.get? a with
  | none => rfl
  | some o => exact absurd (Heap.lt_size q) (Nat.not_lt.mpr x)
theorem Mt.alloc {s : Shared} {R T : LT} {m r n o τ j : Nat} {ob : Obj} (D : Mt V s₀ A₀ m₀ s R T m r n o τ j) (hf : ob.isFreed = false) (hg : ((T.put m (n + o,ob)).get m).isSome = true) (hn : T.get m = none) :
    Mt V s₀ A₀ m₀ { s with heap := s.heap.push ob } R (T.put m (n + o,ob)) (m + 1) r n (o + 1) τ j := by
  have gp := LT.get_put (n + o,ob) T m hg
  have hz : s.heap.get? (n + o) = none := none_of_le (Nat.le_of_eq D.size)
  have hnew : (s.heap.push ob).get? (n + o) = some ob := by rw [← D.size]; exact Heap.get?_push_size _ hf
  have ne : ∀ {a : Addr} {x : Obj},s.heap.get? a = some x → a ≠ n + o := fun q z => by rw [z,hz] at q; cases q
  refine ⟨?_,D.toks,fun i x q => Heap.get?_push_of_some _ (D.top i x q),fun i e q => Heap.get?_push_of_some _ (D.ro i e q),fun i e q => ?_,fun i i' e e' q q' z => ?_,fun i i' e e' q q' => ?_,fun i e x q => ?_,fun i e q => ?_,fun i e q hm => ?_,
    fun a x q hA => Heap.get?_push_of_some _ (D.keep a x q hA),(fun a x q => let ⟨y,hy⟩ := D.stay a x q; ⟨y,Heap.get?_push_of_some _ hy⟩),?_,Nat.le_succ_of_le D.mle,D.gens,D.drawn,D.os⟩
  · show (s.heap.push ob).objs.size = _
    rw [Heap.size_push,D.size,Nat.add_assoc]
  · rw [gp] at q
    split at q
    · cases q; exact hnew
    · exact Heap.get?_push_of_some _ (D.loc i e q)
  · rw [gp] at q q'
    split at q <;> split at q'
    · rename_i h1 h2; rw [h1,h2]
    · cases q; exact absurd z.symm (ne (D.loc _ _ q'))
    · cases q'; exact absurd z (ne (D.loc _ _ q))
    · exact D.inj i i' e e' q q' z
  · rw [gp] at q
    split at q
    · cases q; exact (ne (D.ro _ _ q')).symm
    · exact D.sepR i i' e e' q q'
  · rw [gp] at q
    split at q
    · cases q
      intro z
      exact ne (D.top _ _ z) rfl
    · exact D.sepT i e x q
  · rw [gp] at q
    split at q
    · cases q
      exact .inr (none_of_le (by rw [← D.size]; exact D.grow))
    · exact D.own i e q
  · rw [gp] at q
    split at q
    · cases q
      show s₀.heap.objs.size ≤ n + o
      rw [← D.size]; exact D.grow
    · exact D.new i e q hm
  · show s₀.heap.objs.size ≤ (s.heap.push ob).objs.size
    rw [Heap.size_push]
    exact Nat.le_succ_of_le D.grow
theorem Mt.update {s : Shared} {R T : LT} {m r n o τ j i : Nat} {e : Ent} {u : Obj → Obj} (D : Mt V s₀ A₀ m₀ s R T m r n o τ j) (he : T.get i = some e) (hf : (u e.2).isFreed = false) (hg : ((T.put i (e.1,u e.2)).get i).isSome = true) :
    Mt V s₀ A₀ m₀ { s with heap := s.heap.update e.1 u } R (T.put i (e.1,u e.2)) m r n o τ j := by
  have gp := LT.get_put (e.1,u e.2) T i hg
  have ho := D.loc i e he
  have hs : Heap.SameBut e.1 s.heap (s.heap.update e.1 u) := Heap.SameBut.update ..
  have ge : (s.heap.update e.1 u).get? e.1 = some (u e.2) := by first | exact Heap.get?_update_self u ho hf | exact Heap.get?_update_self _ ho hf
  have addr : ∀ {k : Nat} {x : Ent},(T.put i (e.1,u e.2)).get k = some x → ∃ y,T.get k = some y ∧ y.1 = x.1 := fun {k x} q => by
    rw [gp] at q
    split at q
    · rename_i h1; cases q; exact ⟨e,by rw [h1]; exact he,rfl⟩
    · exact ⟨x,q,rfl⟩
  refine ⟨?_,D.toks,fun k x q => (hs.2 k fun z => D.sepT i e x he (z ▸ q)).trans (D.top k x q),fun k x q => (hs.2 _ fun z => D.sepR i k e x he q z.symm).trans (D.ro k x q),fun k x q => ?_,fun k k' x x' q q' z => ?_,fun k k' x x' q q' => ?_,fun k x y q => ?_,
    fun k x q => ?_,fun k x q hm => ?_,fun a x q hA => (hs.2 a fun z => ?_).trans (D.keep a x q hA),(fun a x q => ?_),?_,D.mle,D.gens,D.drawn,D.os⟩
  · show (s.heap.update e.1 u).objs.size = _
    rw [hs.1,D.size]
  · rw [gp] at q
    split at q
    · cases q; exact ge
    · rename_i h1
      exact (hs.2 _ fun z => h1 (D.inj k i x e q he z)).trans (D.loc k x q)
  · obtain ⟨y,hy,e1⟩ := addr q
    obtain ⟨y',hy',e2⟩ := addr q'
    exact D.inj k k' y y' hy hy' (by rw [e1,e2,z])
  · obtain ⟨y,hy,e1⟩ := addr q
    rw [← e1]; exact D.sepR k k' y x' hy q'
  · obtain ⟨z,hz,e1⟩ := addr q
    rw [← e1]; exact D.sepT k z y hz
  · obtain ⟨y,hy,e1⟩ := addr q
    rw [← e1]; exact D.own k y hy
  · obtain ⟨y,hy,e1⟩ := addr q
    rw [← e1]; exact D.new k y hy hm
  · subst z
    rcases D.own i e he with h1 | h1
    · exact hA h1
    · rw [h1] at q; cases q
  · by_cases z : a = e.1
    · exact ⟨_,by rw [z]; exact ge⟩
    · obtain ⟨y,hy⟩ := D.stay a x q
      exact ⟨y,(hs.2 a z).trans hy⟩
  · show s₀.heap.objs.size ≤ (s.heap.update e.1 u).objs.size
    rw [hs.1]; exact D.grow
theorem putU_get {α : Nat → Nat} {t : Tok} : ∀ (us : List (Nat × Addr × ((Nat → Nat) → Tok → Obj))) (T : LT),putUok α t us T = true → ∀ i e,(putU α t us T).get i = some e →
    (T.get i = some e ∧ ∀ x ∈ us,x.1 ≠ i) ∨ ∃ x ∈ us,x.1 = i ∧ e = (x.2.1,x.2.2 α t)
  | [],T,_,i,e,h => .inl ⟨h,fun _ hx => nomatch hx⟩
  | x :: xs,T,ok,i,e,h => by
    unfold putUok at ok
    obtain ⟨o1,o2⟩ := Bool.and_eq_true_iff.mp ok
    have gp := LT.get_put _ _ _ o1
    rcases putU_get xs _ o2 i e h with ⟨h1,h2⟩ | ⟨y,hy,h1,h2⟩
    · rw [gp] at h1
      split at h1
      · rename_i hi; cases h1; exact .inr ⟨x,.head _,hi.symm,rfl⟩
      · rename_i hi
        refine .inl ⟨h1,fun y hy => ?_⟩
        rcases List.mem_cons.mp hy with rfl | hy
        · exact fun z => hi z.symm
        · exact h2 y hy
    · exact .inr ⟨y,.tail _ hy,h1,h2⟩
theorem putR_get {α : Nat → Nat} {t : Tok} : ∀ (fs : List ((Nat → Nat) → Tok → Obj)) (i₀ r : Nat) (R : LT),putRok α t fs i₀ r R = true → ∀ i e,(putR α t fs i₀ r R).get i = some e →
    R.get i = some e ∨ ∃ k f,fs[k]? = some f ∧ e = (α (i₀ + k),f α t)
  | [],_,_,_,_,_,_,h => .inl h
  | f :: fs,i₀,r,R,ok,i,e,h => by
    unfold putRok at ok
    obtain ⟨o1,o2⟩ := Bool.and_eq_true_iff.mp ok
    obtain ⟨o1,_⟩ := Bool.and_eq_true_iff.mp o1
    have gp := LT.get_put _ _ _ o1
    rcases putR_get fs _ _ _ o2 i e h with h1 | ⟨k,g,h1,h2⟩
    · rw [gp] at h1
      split at h1
      · cases h1; exact .inr ⟨0,f,rfl,rfl⟩
      · exact .inl h1
    · exact .inr ⟨k + 1,g,by simpa using h1,by rw [h2,Nat.add_assoc,Nat.add_comm 1 k]⟩
theorem putN_get {α : Nat → Nat} {t : Tok} : ∀ (fs : List ((Nat → Nat) → Tok → Obj)) (i₀ m : Nat) (T : LT),putNok α t fs i₀ m T = true → ∀ i e,(putN α t fs i₀ m T).get i = some e →
    (T.get i = some e ∧ (i < m ∨ m + fs.length ≤ i)) ∨ ∃ k f,fs[k]? = some f ∧ i = m + k ∧ e = (α (i₀ + k),f α t)
  | [],_,m,_,_,i,_,h => .inl ⟨h,by simp only [List.length_nil]; omega⟩
  | f :: fs,i₀,m,T,ok,i,e,h => by
    unfold putNok at ok
    obtain ⟨o1,o2⟩ := Bool.and_eq_true_iff.mp ok
    obtain ⟨o1,_⟩ := Bool.and_eq_true_iff.mp o1
    have gp := LT.get_put _ _ _ o1
    rcases putN_get fs _ _ _ o2 i e h with ⟨h1,h2⟩ | ⟨k,g,h1,h2,h3⟩
    · rw [gp] at h1
      split at h1
      · rename_i q
        cases h1
        exact .inr ⟨0,f,rfl,by omega,rfl⟩
      · rename_i q
        refine .inl ⟨h1,?_⟩
        simp only [List.length_cons]
        omega
    · exact .inr ⟨k + 1,g,by simpa using h1,by omega,by rw [h3,Nat.add_assoc,Nat.add_comm 1 k]⟩
theorem Mt.orc {s s' : Shared} {R T : LT} {m r n o τ j : Nat} {Sp : Spec} {α : Nat → Nat} {tk : Tok} {q : Result} (D : Mt V s₀ A₀ m₀ s R T m r n o τ j)
    (hpre : Sp.pre.map (fun x => lookH V R T x.1) = Sp.pre.map (fun x => some x.2)) (hupd : Sp.upd.map (fun x => (T.get x.1).map (·.1)) = Sp.upd.map (fun x => some x.2.1))
    (okR : putRok α tk Sp.newR 0 r R = true) (okU : putUok α tk Sp.upd T = true) (okN : putNok α tk Sp.newT Sp.newR.length m (putU α tk Sp.upd T) = true) (L : Leaves Sp s q s' α tk) :
    Mt V s₀ A₀ m₀ s' (putR α tk Sp.newR 0 r R) (putN α tk Sp.newT Sp.newR.length m (putU α tk Sp.upd T)) (m + Sp.newT.length) (r + Sp.newR.length) s'.heap.objs.size 0 s'.toks 0 := by
  have U : ∀ x ∈ Sp.upd,∃ e,T.get x.1 = some e ∧ e.1 = x.2.1 := fun x hx => by
    have := List.map_inj_left.mp hupd x hx
    exact Option.map_eq_some_iff.mp this
  have P : ∀ x ∈ Sp.pre,lookH V R T x.1 = some x.2 := fun x hx => List.map_inj_left.mp hpre x hx
  have gU := putU_get (α := α) (t := tk) Sp.upd T okU
  have gR := putR_get (α := α) (t := tk) Sp.newR 0 r R okR
  have gN := putN_get (α := α) (t := tk) Sp.newT Sp.newR.length m (putU α tk Sp.upd T) okN
  have addr : ∀ {k : Nat} {x : Ent},(putU α tk Sp.upd T).get k = some x → ∃ y,T.get k = some y ∧ y.1 = x.1 := fun {k x} q => by
    rcases gU k x q with ⟨h1,_⟩ | ⟨y,hy,h1,h2⟩
    · exact ⟨x,h1,rfl⟩
    · obtain ⟨e,he,h3⟩ := U y hy
      exact ⟨e,h1 ▸ he,by rw [h3,h2]⟩
  have there : ∀ {k : Nat} {x : Ent},(putU α tk Sp.upd T).get k = some x → ∃ ob,s.heap.get? x.1 = some ob := fun {k x} q => by
    obtain ⟨y,hy,e1⟩ := addr q
    exact ⟨y.2,e1 ▸ D.loc k y hy⟩
  have lenN : ∀ {k : Nat} {f : (Nat → Nat) → Tok → Obj},Sp.newT[k]? = some f → k < Sp.newT.length := fun h => (List.getElem?_eq_some_iff.mp h).1
  have lenR : ∀ {k : Nat} {f : (Nat → Nat) → Tok → Obj},Sp.newR[k]? = some f → k < Sp.newR.length := fun h => (List.getElem?_eq_some_iff.mp h).1
  have nR : ∀ {k : Nat} {x : Ent},(putR α tk Sp.newR 0 r R).get k = some x → (∃ ob,s.heap.get? x.1 = some ob) ∧ R.get k = some x ∨ ∃ i f,Sp.newR[i]? = some f ∧ x.1 = α i ∧ x = (α i,f α tk) := fun {k x} q => by
    rcases gR k x q with h1 | ⟨i,f,h1,h2⟩
    · exact .inl ⟨⟨_,D.ro k x h1⟩,h1⟩
    · rw [Nat.zero_add] at h2
      exact .inr ⟨i,f,h1,by rw [h2],h2⟩
  refine ⟨rfl,rfl,fun i x q => L.keep i x (D.top i x q) fun y hy z => ?_,fun i e q => ?_,fun i e q => ?_,fun k k' x x' q q' z => ?_,fun k k' x x' q q' => ?_,fun k x y q => ?_,fun k x q => ?_,fun k x q hm => ?_,
    fun a x q hA => L.keep a x (D.keep a x q hA) fun y hy z => ?_,fun a x q => ?_,Nat.le_trans D.grow L.grow,Nat.le_trans D.mle (Nat.le_add_right _ _),L.gens.trans D.gens,L.drawn.trans D.drawn,L.os.trans D.os⟩
  · obtain ⟨e,he,h3⟩ := U y hy
    exact D.sepT _ e x he (by rw [h3,z]; exact q)
  · rcases gR i e q with h1 | ⟨k,f,h1,h2⟩
    · exact L.keep _ _ (D.ro i e h1) fun y hy z => by
        obtain ⟨e',he,h3⟩ := U y hy
        exact D.sepR _ _ e' e he h1 (h3.trans z)
    · rw [h2]; simpa using L.newR k f h1
  · rcases gN i e q with ⟨h1,_⟩ | ⟨k,f,h1,_,h3⟩
    · rcases gU i e h1 with ⟨h1,h2⟩ | ⟨y,hy,h1,h2⟩
      · exact L.keep _ _ (D.loc i e h1) fun y hy z => by
          obtain ⟨e',he,h3⟩ := U y hy
          exact h2 y hy (D.inj _ _ e' e he h1 (h3.trans z))
      · rw [h2]; exact L.upd y hy
    · rw [h3]; exact (L.newT k f h1).1
  · rcases gN k x q with ⟨h1,g1⟩ | ⟨i,f,h1,g1,h3⟩ <;> rcases gN k' x' q' with ⟨h1',g1'⟩ | ⟨i',f',h1',g1',h3'⟩
    · obtain ⟨y,hy,e1⟩ := addr h1
      obtain ⟨y',hy',e2⟩ := addr h1'
      exact D.inj k k' y y' hy hy' (by rw [e1,e2,z])
    · obtain ⟨ob,hob⟩ := there h1
      rw [z,h3'] at hob
      rw [none_of_le (L.newT i' f' h1').2] at hob; cases hob
    · obtain ⟨ob,hob⟩ := there h1'
      rw [← z,h3] at hob
      rw [none_of_le (L.newT i f h1).2] at hob; cases hob
    · have := L.apart i (Sp.newR.length + i') (lenN h1) (by have := lenN h1'; omega) (by rw [h3,h3'] at z; exact z)
      omega
  · rcases gN k x q with ⟨h1,g1⟩ | ⟨i,f,h1,g1,h3⟩
    · obtain ⟨y,hy,e1⟩ := addr h1
      rw [← e1]
      rcases gR k' x' q' with h1 | ⟨i,f,h1,h2⟩
      · exact D.sepR k k' y x' hy h1
      · rw [h2]
        rcases L.new i f h1 with h3 | ⟨_,w,hw,c2,h3⟩
        · intro z
          have := D.loc k y hy
          rw [z] at this
          simp only [Nat.zero_add] at this
          rw [none_of_le h3] at this; cases this
        · have hw' := P w hw
          unfold lookH at hw'
          rw [c2] at hw'
          dsimp only [Nat.beq] at hw'
          have := D.sepR k _ y w.2 hy hw'
          simpa [h3] using this
    · rcases nR q' with ⟨⟨ob,hob⟩,_⟩ | ⟨i',f',h1',h2',_⟩
      · intro z
        rw [← z,h3,none_of_le (L.newT i f h1).2] at hob; cases hob
      · rw [h2',h3]
        intro z
        have := L.apart i i' (lenN h1) (by have := lenR h1'; omega) z
        have := lenR h1'
        omega
  · rcases gN k x q with ⟨h1,g1⟩ | ⟨i,f,h1,g1,h3⟩
    · obtain ⟨z,hz,e1⟩ := addr h1
      rw [← e1]; exact D.sepT k z y hz
    · intro ht
      have := D.top _ _ ht
      rw [h3,none_of_le (L.newT i f h1).2] at this; cases this
  · rcases gN k x q with ⟨h1,g1⟩ | ⟨i,f,h1,g1,h3⟩
    · obtain ⟨y,hy,e1⟩ := addr h1
      rw [← e1]; exact D.own k y hy
    · refine .inr ?_
      rw [h3]
      exact none_of_le (Nat.le_trans D.grow (L.newT i f h1).2)
  · rcases gN k x q with ⟨h1,g1⟩ | ⟨i,f,h1,g1,h3⟩
    · obtain ⟨y,hy,e1⟩ := addr h1
      rw [← e1]; exact D.new k y hy hm
    · rw [h3]
      exact Nat.le_trans D.grow (L.newT i f h1).2
  · obtain ⟨e,he,h3⟩ := U y hy
    subst z
    rcases D.own _ e he with h1 | h1
    · exact hA (h3 ▸ h1)
    · rw [h3] at h1; rw [h1] at q; cases q
  · obtain ⟨ob,hob⟩ := D.stay a x q
    by_cases hy : ∃ y ∈ Sp.upd,y.2.1 = a
    · obtain ⟨y,hy,rfl⟩ := hy
      exact ⟨_,L.upd y hy⟩
    · exact ⟨ob,L.keep a ob hob fun y hy' z => hy ⟨y,hy',z⟩⟩
theorem fine_ok {s : Shared} {S : Scr} {R T : LT} {m r n o τ j : Nat} {acc exp : List Nat} {q : Except Value PySem.Fin} (D : Mt V s₀ A₀ m₀ s R T m r n o τ j) (F : FinOk V Q s₀ A₀ m₀ S) (h : fineP S R T acc exp (n + o) q) : Q q s := by
  unfold fineP at h
  split at h
  · rename_i out
    obtain ⟨_,rfl,h2,h3⟩ := h
    have P' : ∀ x ∈ out.ros,R.get x.1 = some x.2 := fun x hx => List.map_inj_left.mp h3 x hx
    have P : ∀ x ∈ out.objs,T.get x.1 = some x.2 := fun x hx => List.map_inj_left.mp h2 x hx
    exact F s ⟨fun x hx => D.ro _ _ (P' x hx),fun x hx => D.loc _ _ (P x hx),fun x hx y hy z => D.inj _ _ _ _ (P x hx) (P y hy) z,fun x hx hm => D.new _ _ (P x hx) hm,D.keep,D.grow,D.gens,D.drawn,D.os⟩
  · rename_i out z
    obtain ⟨_,rfl,h2,h3,rfl⟩ := h
    have P' : ∀ x ∈ out.ros,R.get x.1 = some x.2 := fun x hx => List.map_inj_left.mp h3 x hx
    have P : ∀ x ∈ out.objs,T.get x.1 = some x.2 := fun x hx => List.map_inj_left.mp h2 x hx
    exact F s ⟨fun x hx => D.ro _ _ (P' x hx),fun x hx => D.loc _ _ (P x hx),fun x hx y hy z => D.inj _ _ _ _ (P x hx) (P y hy) z,fun x hx hm => D.new _ _ (P x hx) hm,D.keep,D.grow,D.gens,D.drawn,D.os⟩ D.size
  · exact h.elim
noncomputable abbrev VM (V : HV) : Model := model V.prog V.w
theorem simH_sound (O : V.Ok) : ∀ (f : Nat) (κ : List KF) (Γ : Ctx) (p : Pos) (t : Sem PySem.Fin) (S : Scr) (R T : LT) (m r n o τ j : Nat) (acc exp : List Nat) (s : Shared),simH V b f κ Γ p t S R T m r n o τ j acc exp →
    Mt V s₀ A₀ m₀ s R T m r n o τ j → FinOk V Q s₀ A₀ m₀ S → Sem.wp (VM V) Γ t ((post (VM V) b Q κ).1 Γ) (post (VM V) b Q κ).2 p s
  | 0,_,_,_,_,_,_,_,_,_,_,_,_,_,_,_,_,h,_,_ => h.elim
  | f + 1,κ,Γ,p,t,S,R,T,m,r,n,o,τ,j,acc,exp,s,h,D,FO => by
    have ih := simH_sound O f
    have again : ∀ (c : Code) (W : Result → Shared → Prop),V.quiet c = true → Sem.wp (VM V) (Γ.goto c) (V.den c) (Sem.finPost (VM V) (Γ.goto c) W) (fun e _ s' => W (.error e) s') p s → Sem.finPost (VM V) Γ W (.again c) p s := fun c W hq hw => by
      refine ⟨by rw [← O.quiet]; exact hq,?_⟩
      rw [wpCode_iff_wp]
      rw [O.den] at hw
      exact hw
    cases t with
    | pure fin =>
      simp only [simH] at h
      rw [Sem.wp_pure]
      cases κ with
      | nil =>
        cases b with
        | false => exact fine_ok D FO h
        | true =>
          cases fin with
          | done fl => exact fine_ok (q := .ok (.done fl)) D FO h
          | again c =>
            dsimp only at h
            split at h
            · rename_i hq
              exact again c _ hq (ih _ _ _ _ _ _ _ _ _ _ _ _ _ _ _ s h D FO)
            · exact h.elim
      | cons F κ =>
        cases fin with
        | done fl => exact ih _ _ _ _ _ _ _ _ _ _ _ _ _ _ _ s h D FO
        | again c =>
          dsimp only at h
          split at h
          · rename_i hq
            exact again c _ hq (ih _ _ _ _ _ _ _ _ _ _ _ _ _ _ _ s h D FO)
          · exact h.elim
    | raise e =>
      simp only [simH] at h
      rw [Sem.wp_raise]
      cases κ with
      | nil => exact fine_ok D FO h
      | cons F κ => exact ih _ _ _ _ _ _ _ _ _ _ _ _ _ _ _ s h D FO
    | rule tag k => simp only [simH] at h; rw [Sem.wp_rule]; exact ih _ _ _ _ _ _ _ _ _ _ _ _ _ _ _ s h D FO
    | «at» p' k => simp only [simH] at h; rw [Sem.wp_at]; exact ih _ _ _ _ _ _ _ _ _ _ _ _ _ _ _ s h D FO
    | point l k => simp only [simH] at h; rw [Sem.wp_point]; exact ih _ _ _ _ _ _ _ _ _ _ _ _ _ _ _ s h D FO
    | ask k => simp only [simH] at h; rw [Sem.wp_ask]; exact ih _ _ _ _ _ _ _ _ _ _ _ _ _ _ _ s h D FO
    | stack k => simp only [simH] at h; rw [Sem.wp_stack]; exact ih _ _ _ _ _ _ _ _ _ _ _ _ _ _ _ s h D FO
    | fresh k =>
      simp only [simH] at h
      rw [Sem.wp_fresh,D.toks]
      refine ih _ _ _ _ _ _ _ _ _ _ _ _ _ _ _ _ h ?_ FO
      exact ⟨D.size,by rw [Nat.add_assoc],D.top,D.ro,D.loc,D.inj,D.sepR,D.sepT,D.own,D.new,D.keep,D.stay,D.grow,D.mle,D.gens,D.drawn,D.os⟩
    | handled own k =>
      simp only [simH] at h
      rw [Sem.wp_handled]
      cases own <;> exact ih _ _ _ _ _ _ _ _ _ _ _ _ _ _ _ s h D FO
    | load a q k =>
      simp only [simH] at h
      split at h
      · rename_i h' S' hp
        split at h
        · rename_i e he
          have ea : a = e.1 := (List.cons.inj (simH_eq _ _ _ _ _ _ _ _ _ _ _ _ _ _ _ _ h)).1
          rw [Sem.wp_load]
          exact ⟨e.2,by rw [ea]; exact look_at D he,ih _ _ _ _ _ _ _ _ _ _ _ _ _ _ _ s h D (FO.pop hp)⟩
        · exact h.elim
      · exact h.elim
    | loadIfAlive a k =>
      simp only [simH] at h
      split at h
      · rename_i h' S' hp
        split at h
        · rename_i e he
          have ea : a = e.1 := (List.cons.inj (simH_eq _ _ _ _ _ _ _ _ _ _ _ _ _ _ _ _ h)).1
          rw [Sem.wp_loadIfAlive,ea,look_at D he]
          exact ih _ _ _ _ _ _ _ _ _ _ _ _ _ _ _ s h D (FO.pop hp)
        · exact h.elim
      · exact h.elim
    | update a q u k =>
      simp only [simH] at h
      split at h
      · rename_i h' S' hp
        split at h
        · split at h
          · rename_i e he
            split at h
            · rename_i hf
              split at h
              · rename_i hg
                have ea : a = e.1 := (List.cons.inj (simH_eq _ _ _ _ _ _ _ _ _ _ _ _ _ _ _ _ h)).1
                rw [Sem.wp_update,ea]
                exact ⟨by rw [D.loc _ _ he]; rfl,ih _ _ _ _ _ _ _ _ _ _ _ _ _ _ _ _ h (D.update he hf hg) (FO.pop hp)⟩
              · exact h.elim
            · exact h.elim
          · exact h.elim
        · exact h.elim
      · exact h.elim
    | alloc ob k =>
      simp only [simH] at h
      split at h
      · rename_i hf
        split at h
        · rename_i hg
          split at h
          · rename_i hn
            rw [Sem.wp_alloc,D.size]
            exact ih _ _ _ _ _ _ _ _ _ _ _ _ _ _ _ _ h (D.alloc hf hg hn) FO
          · exact h.elim
        · exact h.elim
      · exact h.elim
    | call c hd g l k =>
      simp only [simH] at h
      rw [Sem.wp_call]
      split at h
      · split at h
        · rw [wpCode_iff_wp]
          have z := ih _ _ _ _ _ _ _ _ _ _ _ _ _ _ _ s h D FO
          rw [O.den] at z
          exact z
        · exact h.elim
      · exact h.elim
      · split at h
        · rw [wpCode_iff_wp]
          have z := ih _ _ _ _ _ _ _ _ _ _ _ _ _ _ _ s h D FO
          rw [O.den] at z
          exact z
        · exact h.elim
      · rename_i Sp m' r' rest
        obtain ⟨_,rfl,rfl,hΓ,hsh,hpre,hupd,_,hk⟩ := h
        obtain ⟨h1,h2,h3⟩ : Γ.handled = none ∧ Γ.own = none ∧ Γ.past = none := by simpa only [Prod.mk.injEq] using hΓ
        have P : ∀ x ∈ Sp.pre,lookH V R T x.1 = some x.2 := fun x hx => List.map_inj_left.mp hpre x hx
        have hpre' : ∀ x ∈ Sp.pre,s.heap.get? x.2.1 = some x.2.2 := fun x hx => look_at D (P x hx)
        have hap : Apart V Sp.pre := by
          have kO : ∀ x ∈ Sp.pre,x.1 % 3 = 0 → T.get (x.1 / 3 - 1) = some x.2 := fun x hx c => by
            have := P x hx
            unfold lookH at this
            rw [c] at this
            exact this
          have kR : ∀ x ∈ Sp.pre,x.1 % 3 = 2 → R.get (x.1 / 3) = some x.2 := fun x hx c => by
            have := P x hx
            unfold lookH at this
            rw [c] at this
            exact this
          refine ⟨fun x hx c y hy c' e => D.inj _ _ _ _ (kO x hx c) (kO y hy c') e,fun x hx c y hy c' => D.sepR _ _ _ _ (kO x hx c) (kR y hy c'),fun x hx c ob => D.sepT _ _ ob (kO x hx c)⟩
        obtain ⟨hs,hfl⟩ := fill_of hsh
        have hV := FO.1 hs p s D.top hpre' ⟨hap,by rw [← hfl]; intro x r e; cases e; rfl⟩
        rw [← hfl] at hV
        have hΓ : Γ.enter Sp.code none p = ⟨Sp.code,none,none,(Γ.code,p) :: Γ.below,none⟩ := by
          obtain ⟨c,hd,ow,be,pa⟩ := Γ
          simp only at h1 h2 h3
          subst h1 h2 h3
          rfl
        rw [hΓ]
        refine wpCode_mono ?_ hV
        rintro q s' ⟨α,tk,L⟩
        obtain ⟨ok,hk⟩ := hk α tk s'.heap.objs.size s'.toks
        obtain ⟨okR,ok⟩ := Prod.mk.inj ok
        obtain ⟨okU,okN⟩ := Prod.mk.inj ok
        rw [L.res]
        exact ih _ _ _ _ _ _ _ _ _ _ _ _ _ _ _ s' hk (D.orc hpre hupd okR okU okN L) (FO.2 α tk _ _ ⟨fun i f hf => (L.new i f hf).imp (Nat.le_trans D.grow) id,Nat.le_trans D.grow L.grow⟩)
      · split at h
        · rw [wpCode_iff_wp]
          have z := ih _ _ _ _ _ _ _ _ _ _ _ _ _ _ _ s h D FO
          rw [O.den] at z
          exact z
        · exact h.elim
      · exact h.elim
      · split at h
        · rw [wpCode_iff_wp]
          have z := ih _ _ _ _ _ _ _ _ _ _ _ _ _ _ _ s h D FO
          rw [O.den] at z
          exact z
        · exact h.elim
      · rename_i Sp z c' al m' r' rest
        obtain ⟨_,rfl,rfl,hΓ,hsh,hpre,hupd,_,hz,hk⟩ := h
        obtain ⟨h1,h2,h3⟩ : Γ.handled = none ∧ Γ.own = none ∧ Γ.past = none := by simpa only [Prod.mk.injEq] using hΓ
        have P : ∀ x ∈ Sp.pre,lookH V R T x.1 = some x.2 := fun x hx => List.map_inj_left.mp hpre x hx
        have hpre' : ∀ x ∈ Sp.pre,s.heap.get? x.2.1 = some x.2.2 := fun x hx => look_at D (P x hx)
        have hap : Apart V Sp.pre := by
          have kO : ∀ x ∈ Sp.pre,x.1 % 3 = 0 → T.get (x.1 / 3 - 1) = some x.2 := fun x hx c => by
            have := P x hx
            unfold lookH at this
            rw [c] at this
            exact this
          have kR : ∀ x ∈ Sp.pre,x.1 % 3 = 2 → R.get (x.1 / 3) = some x.2 := fun x hx c => by
            have := P x hx
            unfold lookH at this
            rw [c] at this
            exact this
          refine ⟨fun x hx c y hy c' e => D.inj _ _ _ _ (kO x hx c) (kO y hy c') e,fun x hx c y hy c' => D.sepR _ _ _ _ (kO x hx c) (kR y hy c'),fun x hx c ob => D.sepT _ _ ob (kO x hx c)⟩
        obtain ⟨hs,hfl⟩ := fill_of hsh
        have hP : ValidP V Sp z c' al := by
          have h1 := FO.1
          cases al with
          | nil => exact fun hs p s a1 a2 a3 a4 => wpCode_mono (fun q s' x => let ⟨⟨α,tk,L⟩,hz⟩ := x; ⟨⟨α,tk,L,fun _ _ h => nomatch h⟩,hz⟩) (h1 hs p s a1 a2 a3 a4)
          | cons a l => exact h1
        have hV := hP hs p s (D.size.trans hz) D.top hpre' ⟨hap,by rw [← hfl]; intro x r e; cases e; rfl⟩
        rw [← hfl] at hV
        have hΓ : Γ.enter Sp.code none p = ⟨Sp.code,none,none,(Γ.code,p) :: Γ.below,none⟩ := by
          obtain ⟨c,hd,ow,be,pa⟩ := Γ
          simp only at h1 h2 h3
          subst h1 h2 h3
          rfl
        rw [hΓ]
        refine wpCode_mono ?_ hV
        rintro q s' ⟨⟨α,tk,L,hal⟩,hsz⟩
        have FO2 := FO.2 α tk s'.toks
        have hk := hk α tk s'.toks
        rw [pin_eq hal] at hk FO2
        obtain ⟨ok,hk⟩ := hk
        obtain ⟨okR,ok⟩ := Prod.mk.inj ok
        obtain ⟨okU,okN⟩ := Prod.mk.inj ok
        rw [L.res]
        have D' := D.orc hpre hupd okR okU okN L
        rw [hsz] at D'
        exact ih _ _ _ _ _ _ _ _ _ _ _ _ _ _ _ s' hk D' (FO2 ⟨fun i f hf => (L.new i f hf).imp (Nat.le_trans D.grow) id,hsz ▸ Nat.le_trans D.grow L.grow⟩)
    | _ => exact h.elim
end
end Mine
end
section
open PySem PySem.W
namespace Mine
inductive Tl where
  | fin (out : Out)
  | orc (S : Spec) (m r : Nat) (rest : (Nat → Nat) → Tok → Nat → Nat → Scr)
  | finB (out : Out) (z : Nat)
  | orcB (S : Spec) (z c : Nat) (al : List Nat) (m r : Nat) (rest : (Nat → Nat) → Tok → Nat → Scr)
noncomputable def Tl.scr : Tl → List Nat → Scr
  | .fin out,hs => .fin hs out
  | .orc S m r rest,hs => .orc hs S m r rest
  | .finB out z,hs => .finB hs out z
  | .orcB S z c al m r rest,hs => .orcB hs S z c al m r rest
noncomputable def Scr.hs : Scr → List Nat
  | .fin hs _ => hs
  | .orc hs _ _ _ _ => hs
  | .finB hs _ _ => hs
  | .orcB hs _ _ _ _ _ _ _ => hs
noncomputable def Scr.tl : Scr → Tl
  | .fin _ out => .fin out
  | .orc _ S m r rest => .orc S m r rest
  | .finB _ out z => .finB out z
  | .orcB _ S z c al m r rest => .orcB S z c al m r rest
theorem Scr.mk (S : Scr) : S.tl.scr S.hs = S := by cases S <;> rfl
structure St where
  κ : List KF
  Γ : Ctx
  p : Pos
  hs : List Nat
  tl : Tl
  R : LT
  T : LT
  m : Nat
  r : Nat
  n : Nat
  o : Nat
  τ : Nat
  j : Nat
  acc : List Nat
  exp : List Nat
noncomputable abbrev Ih := Sem PySem.Fin → St → Prop
noncomputable def LT.getF (t : LT) : Nat → Option Ent := @LT.rec (fun _ => Nat → Option Ent) (fun _ => none)
  (fun v _ _ il ir i => @Bool.rec (fun _ => Option Ent) (@Bool.rec (fun _ => Option Ent) (ir (i / 2 - 1)) (il (i / 2)) (Nat.beq (i % 2) 1)) v (Nat.beq i 0)) t
noncomputable def LT.putF (t : LT) : Nat → Ent → LT := @LT.rec (fun _ => Nat → Ent → LT) (fun i e => one 20 i e)
  (fun v l r il ir i e => @Bool.rec (fun _ => LT) (@Bool.rec (fun _ => LT) (node v l (ir (i / 2 - 1) e)) (node v (il (i / 2) e) r) (Nat.beq (i % 2) 1)) (node (some e) l r) (Nat.beq i 0)) t
theorem LT.getF_eq : ∀ (t : LT) (i : Nat),t.getF i = t.get i
  | .nil,i => by rw [get_nil]; rfl
  | .node v l r,i => by
    show @Bool.rec (fun _ => Option Ent) (@Bool.rec (fun _ => Option Ent) (r.getF (i / 2 - 1)) (l.getF (i / 2)) (Nat.beq (i % 2) 1)) v (Nat.beq i 0) = (match Nat.beq i 0 with | true => v | false => match Nat.beq (i % 2) 1 with | true => l.get (i / 2) | false => r.get (i / 2 - 1))
    rw [getF_eq l,getF_eq r]
    cases Nat.beq i 0 <;> cases Nat.beq (i % 2) 1 <;> rfl
theorem LT.putF_eq : ∀ (t : LT) (i : Nat) (e : Ent),t.putF i e = t.put i e
  | .nil,i,e => rfl
  | .node v l r,i,e => by
    show @Bool.rec (fun _ => LT) (@Bool.rec (fun _ => LT) (node v l (r.putF (i / 2 - 1) e)) (node v (l.putF (i / 2) e) r) (Nat.beq (i % 2) 1)) (node (some e) l r) (Nat.beq i 0) = (match Nat.beq i 0 with | true => node (some e) l r | false => match Nat.beq (i % 2) 1 with | true => node v (l.put (i / 2) e) r | false => node v l (r.put (i / 2 - 1) e))
    rw [putF_eq l,putF_eq r]
    cases Nat.beq i 0 <;> cases Nat.beq (i % 2) 1 <;> rfl
noncomputable def lookF (V : HV) (R T : LT) (h : Nat) : Option Ent :=
  @Bool.rec (fun _ => Option Ent) (@Bool.rec (fun _ => Option Ent) (T.getF (h / 3 - 1)) (R.getF (h / 3)) (Nat.beq (h % 3) 2)) (@Option.rec Obj (fun _ => Option Ent) none (fun ob => some (h / 3,ob)) (V.top (h / 3))) (Nat.beq (h % 3) 1)
theorem lookF_eq (V : HV) (R T : LT) (h : Nat) : lookF V R T h = lookH V R T h := by
  unfold lookF lookH
  rw [LT.getF_eq,LT.getF_eq]
  cases Nat.beq (h % 3) 1 with
  | true => cases V.top (h / 3) <;> rfl
  | false => cases Nat.beq (h % 3) 2 <;> rfl
noncomputable def fineF (q : Except Value PySem.Fin) (s : St) : Prop := @St.rec (fun _ => Prop) (fun κ Γ p hs tl R T m r n o τ j acc exp =>
  @List.rec Nat (fun _ => Prop) (@Tl.rec (fun _ => Prop) (fun out => acc = exp ∧ q = out.res ∧ out.objs.map (fun x => T.getF x.1) = out.objs.map (fun x => some x.2) ∧ out.ros.map (fun x => R.getF x.1) = out.ros.map (fun x => some x.2)) (fun _ _ _ _ => False) (fun out z => acc = exp ∧ q = out.res ∧ out.objs.map (fun x => T.getF x.1) = out.objs.map (fun x => some x.2) ∧ out.ros.map (fun x => R.getF x.1) = out.ros.map (fun x => some x.2) ∧ n + o = z) (fun _ _ _ _ _ _ _ => False) tl) (fun _ _ _ => False) hs) s
noncomputable def popF (f : Result) (ih : Ih) (F : KF) (κ : List KF) (s : St) : Prop := @St.rec (fun _ => Prop) (fun _ _ _ hs tl R T m r n o τ j acc exp => ih (F.k f) ⟨κ,F.Γ,F.p,hs,tl,R,T,m,r,n,o,τ,j,acc,exp⟩) s
noncomputable def gotoF (V : HV) (ih : Ih) (c : Code) (s : St) : Prop := @St.rec (fun _ => Prop) (fun κ Γ p hs tl R T m r n o τ j acc exp => @Bool.rec (fun _ => Prop) False (ih (V.den c) ⟨κ,Γ.goto c,p,hs,tl,R,T,m,r,n,o,τ,j,acc,exp⟩) (V.quiet c)) s
noncomputable def onPure (V : HV) (b : Bool) (ih : Ih) (fin : PySem.Fin) (s : St) : Prop :=
  @List.rec KF (fun _ => Prop) (@Bool.rec (fun _ => Prop) (fineF (.ok fin) s) (@PySem.Fin.rec (fun _ => Prop) (fun fl => fineF (.ok (.done fl)) s) (fun c => gotoF V ih c s) fin) b)
    (fun F κ _ => @PySem.Fin.rec (fun _ => Prop) (fun fl => popF (.ok fl) ih F κ s) (fun c => gotoF V ih c s) fin) s.κ
noncomputable def onRaise (ih : Ih) (e : Value) (s : St) : Prop := @List.rec KF (fun _ => Prop) (fineF (.error e) s) (fun F κ _ => popF (.error e) ih F κ s) s.κ
noncomputable def onAt (ih : Ih) (p' : Pos) (k : Unit → Sem PySem.Fin) (s : St) : Prop := @St.rec (fun _ => Prop) (fun κ Γ p hs tl R T m r n o τ j acc exp => ih (k ()) ⟨κ,Γ,p',hs,tl,R,T,m,r,n,o,τ,j,acc,exp⟩) s
noncomputable def onFresh (ih : Ih) (k : Tok → Sem PySem.Fin) (s : St) : Prop := @St.rec (fun _ => Prop) (fun κ Γ p hs tl R T m r n o τ j acc exp => ih (k (τ + j)) ⟨κ,Γ,p,hs,tl,R,T,m,r,n,o,τ,j + 1,acc,exp⟩) s
noncomputable def onHandled (ih : Ih) (own : Bool) (k : Option Value → Sem PySem.Fin) (s : St) : Prop := ih (k (@Bool.rec (fun _ => Option Value) s.Γ.handled s.Γ.own own)) s
noncomputable def onStack (ih : Ih) (k : List (Code × Pos) → Sem PySem.Fin) (s : St) : Prop := ih (k ((s.Γ.code,s.p) :: s.Γ.below)) s
noncomputable def onLoad (V : HV) (ih : Ih) (a : Nat) (k : Obj → Sem PySem.Fin) (s : St) : Prop := @St.rec (fun _ => Prop) (fun κ Γ p hs tl R T m r n o τ j acc exp =>
  @List.rec Nat (fun _ => Prop) False (fun h hs _ => @Option.rec Ent (fun _ => Prop) False (fun e => ih (k e.2) ⟨κ,Γ,p,hs,tl,R,T,m,r,n,o,τ,j,a :: acc,e.1 :: exp⟩) (lookF V R T h)) hs) s
noncomputable def onUpd (ih : Ih) (a : Nat) (u : Obj → Obj) (k : Unit → Sem PySem.Fin) (s : St) : Prop := @St.rec (fun _ => Prop) (fun κ Γ p hs tl R T m r n o τ j acc exp =>
  @List.rec Nat (fun _ => Prop) False (fun h hs _ => @Bool.rec (fun _ => Prop) False (@Option.rec Ent (fun _ => Prop) False (fun e =>
    @Bool.rec (fun _ => Prop) (@Bool.rec (fun _ => Prop) False (ih (k ()) ⟨κ,Γ,p,hs,tl,R,T.putF (h / 3 - 1) (e.1,u e.2),m,r,n,o,τ,j,a :: acc,e.1 :: exp⟩) ((T.putF (h / 3 - 1) (e.1,u e.2)).getF (h / 3 - 1)).isSome) False (u e.2).isFreed) (T.getF (h / 3 - 1))) (Nat.beq (h % 3) 0)) hs) s
noncomputable def onAlloc (ih : Ih) (ob : Obj) (k : Addr → Sem PySem.Fin) (s : St) : Prop := @St.rec (fun _ => Prop) (fun κ Γ p hs tl R T m r n o τ j acc exp =>
  @Bool.rec (fun _ => Prop) (@Bool.rec (fun _ => Prop) False (@Option.rec Ent (fun _ => Prop) (ih (k (n + o)) ⟨κ,Γ,p,hs,tl,R,T.putF m (n + o,ob),m + 1,r,n,o + 1,τ,j,acc,exp⟩) (fun _ => False) (T.getF m)) ((T.putF m (n + o,ob)).getF m).isSome) False ob.isFreed) s
noncomputable def orcF (V : HV) (b : Bool) (ih : Ih) (c : Code) (hd : Option Value) (k : Result → Sem PySem.Fin) (Sp : Spec) (m' r' : Nat) (rest : (Nat → Nat) → Tok → Nat → Nat → Scr) (s : St) : Prop := @St.rec (fun _ => Prop) (fun κ Γ p hs tl R T m r n o τ j acc exp =>
  acc = exp ∧ c = Sp.code ∧ hd = none ∧ (Γ.handled,Γ.own,Γ.past) = (none,none,none) ∧ skelsAs Sp.shape ((Γ.code,p) :: Γ.below) = Sp.shape ∧
        Sp.pre.map (fun x => lookF V R T x.1) = Sp.pre.map (fun x => some x.2) ∧ Sp.upd.map (fun x => (T.getF x.1).map (·.1)) = Sp.upd.map (fun x => some x.2.1) ∧ (m,r) = (m',r') ∧
        ∀ (α : Nat → Nat) (tk : Tok) (n' τ' : Nat),(putRok α tk Sp.newR 0 r R,putUok α tk Sp.upd T,putNok α tk Sp.newT Sp.newR.length m (putU α tk Sp.upd T)) = (true,true,true) ∧
          ih (k (Sp.res α tk)) ⟨κ,Γ,p,(rest α tk n' τ').hs,(rest α tk n' τ').tl,putR α tk Sp.newR 0 r R,putN α tk Sp.newT Sp.newR.length m (putU α tk Sp.upd T),m + Sp.newT.length,r + Sp.newR.length,n',0,τ',0,[],[]⟩) s
noncomputable def orcBF (V : HV) (b : Bool) (ih : Ih) (c : Code) (hd : Option Value) (k : Result → Sem PySem.Fin) (Sp : Spec) (z c' : Nat) (al : List Nat) (m' r' : Nat) (rest : (Nat → Nat) → Tok → Nat → Scr) (s : St) : Prop := @St.rec (fun _ => Prop) (fun κ Γ p hs tl R T m r n o τ j acc exp =>
  acc = exp ∧ c = Sp.code ∧ hd = none ∧ (Γ.handled,Γ.own,Γ.past) = (none,none,none) ∧ skelsAs Sp.shape ((Γ.code,p) :: Γ.below) = Sp.shape ∧
        Sp.pre.map (fun x => lookF V R T x.1) = Sp.pre.map (fun x => some x.2) ∧ Sp.upd.map (fun x => (T.getF x.1).map (·.1)) = Sp.upd.map (fun x => some x.2.1) ∧ (m,r) = (m',r') ∧ n + o = z ∧
        ∀ (α : Nat → Nat) (tk : Tok) (τ' : Nat),(putRok (pin al α) tk Sp.newR 0 r R,putUok (pin al α) tk Sp.upd T,putNok (pin al α) tk Sp.newT Sp.newR.length m (putU (pin al α) tk Sp.upd T)) = (true,true,true) ∧
          ih (k (Sp.res (pin al α) tk)) ⟨κ,Γ,p,(rest (pin al α) tk τ').hs,(rest (pin al α) tk τ').tl,putR (pin al α) tk Sp.newR 0 r R,putN (pin al α) tk Sp.newT Sp.newR.length m (putU (pin al α) tk Sp.upd T),m + Sp.newT.length,r + Sp.newR.length,z + c',0,τ',0,[],[]⟩) s
noncomputable def onCall (V : HV) (b : Bool) (ih : Ih) (c : Code) (hd : Option Value) (k : Result → Sem PySem.Fin) (s : St) : Prop := @St.rec (fun _ => Prop) (fun κ Γ p hs tl R T m r n o τ j acc exp =>
  @List.rec Nat (fun _ => Prop) (@Tl.rec (fun _ => Prop) (fun _ => False) (fun Sp m' r' rest => orcF V b ih c hd k Sp m' r' rest s) (fun _ _ => False) (fun Sp z c' al m' r' rest => orcBF V b ih c hd k Sp z c' al m' r' rest s) tl)
    (fun h hs _ => @Bool.rec (fun _ => Prop) False (ih (V.den c) ⟨⟨k,Γ,p⟩ :: κ,Γ.enter c hd p,p,hs,tl,R,T,m,r,n,o,τ,j,acc,exp⟩) (Nat.beq h 0)) hs) s
noncomputable def stepF (V : HV) (b : Bool) (ih : Ih) (t : Sem PySem.Fin) : St → Prop :=
  @Sem.rec PySem.Fin (fun _ => St → Prop) (onPure V b ih) (onRaise ih) (fun _ _ => False) (fun _ _ => False)
    (fun _ k _ => ih (k ())) (fun p k _ => onAt ih p k) (fun a _ k _ => onLoad V ih a k) (fun a _ f k _ => onUpd ih a f k) (fun o k _ => onAlloc ih o k)
    (fun a k _ => onLoad V ih a (fun o => k (some o))) (fun _ k _ => ih (k ())) (fun _ _ _ _ => False) (fun k _ => onFresh ih k) (fun k _ => ih (k ⟨V.prog,V.w.params⟩))
    (fun _ _ _ _ _ => False) (fun _ _ _ _ _ => False) (fun c hd _ _ k _ => onCall V b ih c hd k) (fun own k _ => onHandled ih own k)
    (fun _ _ _ _ => False) (fun _ _ _ _ => False) (fun _ _ _ _ _ _ => False) (fun _ _ _ _ _ _ => False) (fun k _ => onStack ih k)
    (fun _ _ _ _ => False) (fun _ _ _ => False) (fun _ _ _ _ _ _ _ => False) t
noncomputable def simF (V : HV) (b : Bool) (f : Nat) : Ih := @Nat.rec (fun _ => Ih) (fun _ _ => False) (fun _ ih => stepF V b ih) f
theorem simF_succ (V : HV) (b : Bool) (f : Nat) : simF V b (f + 1) = stepF V b (simF V b f) := rfl
theorem simF_eq (V : HV) (b : Bool) : ∀ (f : Nat) (t : Sem PySem.Fin) (κ : List KF) (Γ : Ctx) (p : Pos) (S : Scr) (R T : LT) (m r n o τ j : Nat) (acc exp : List Nat),
    simF V b f t ⟨κ,Γ,p,S.hs,S.tl,R,T,m,r,n,o,τ,j,acc,exp⟩ = simH V b f κ Γ p t S R T m r n o τ j acc exp
  | 0,_,_,_,_,_,_,_,_,_,_,_,_,_,_,_ => rfl
  | f + 1,t,κ,Γ,p,S,R,T,m,r,n,o,τ,j,acc,exp => by
    have ih := simF_eq V b f
    have fine : ∀ q,fineF q ⟨κ,Γ,p,S.hs,S.tl,R,T,m,r,n,o,τ,j,acc,exp⟩ = fineP S R T acc exp (n + o) q := fun q => by
      cases S with
      | fin hs out =>
        cases hs with
        | nil =>
          show (acc = exp ∧ q = out.res ∧ out.objs.map (fun x => T.getF x.1) = out.objs.map (fun x => some x.2) ∧ out.ros.map (fun x => R.getF x.1) = out.ros.map (fun x => some x.2)) = _
          simp only [LT.getF_eq]
          rfl
        | cons => rfl
      | orc hs Sp m r rest => cases hs <;> rfl
      | finB hs out z =>
        cases hs with
        | nil =>
          show (acc = exp ∧ q = out.res ∧ out.objs.map (fun x => T.getF x.1) = out.objs.map (fun x => some x.2) ∧ out.ros.map (fun x => R.getF x.1) = out.ros.map (fun x => some x.2) ∧ n + o = z) = _
          simp only [LT.getF_eq]
          rfl
        | cons => rfl
      | orcB hs Sp z c al m r rest => cases hs <;> rfl
    have go : ∀ c,gotoF V (simF V b f) c ⟨κ,Γ,p,S.hs,S.tl,R,T,m,r,n,o,τ,j,acc,exp⟩ = (match V.quiet c with | true => simH V b f κ (Γ.goto c) p (V.den c) S R T m r n o τ j acc exp | false => False) := fun c => by
      show @Bool.rec (fun _ => Prop) False (simF V b f (V.den c) ⟨κ,Γ.goto c,p,S.hs,S.tl,R,T,m,r,n,o,τ,j,acc,exp⟩) (V.quiet c) = _
      rw [ih]
      cases V.quiet c <;> rfl
    rw [simF_succ]
    cases t with
    | pure fin =>
      simp only [simH]
      show onPure V b (simF V b f) fin _ = _
      cases κ with
      | nil =>
        cases b with
        | false => exact fine _
        | true =>
          cases fin with
          | done fl => exact fine _
          | again c => exact go c
      | cons F κ =>
        cases fin with
        | done fl => exact ih _ _ _ _ _ _ _ _ _ _ _ _ _ _ _
        | again c => exact go c
    | raise e =>
      simp only [simH]
      show onRaise (simF V b f) e _ = _
      cases κ with
      | nil => exact fine _
      | cons F κ => exact ih _ _ _ _ _ _ _ _ _ _ _ _ _ _ _
    | rule tag k => simp only [simH]; exact ih _ _ _ _ _ _ _ _ _ _ _ _ _ _ _
    | «at» p' k => simp only [simH]; exact ih _ _ _ _ _ _ _ _ _ _ _ _ _ _ _
    | point l k => simp only [simH]; exact ih _ _ _ _ _ _ _ _ _ _ _ _ _ _ _
    | ask k => simp only [simH]; exact ih _ _ _ _ _ _ _ _ _ _ _ _ _ _ _
    | stack k => simp only [simH]; exact ih _ _ _ _ _ _ _ _ _ _ _ _ _ _ _
    | fresh k => simp only [simH]; exact ih _ _ _ _ _ _ _ _ _ _ _ _ _ _ _
    | handled own k =>
      simp only [simH]
      cases own <;> exact ih _ _ _ _ _ _ _ _ _ _ _ _ _ _ _
    | load a q k =>
      simp only [simH]
      cases S with
      | fin hs out =>
        cases hs with
        | nil => rfl
        | cons h hs =>
          show @Option.rec Ent (fun _ => Prop) False (fun e => simF V b f (k e.2) ⟨κ,Γ,p,hs,.fin out,R,T,m,r,n,o,τ,j,a :: acc,e.1 :: exp⟩) (lookF V R T h) = _
          rw [lookF_eq]
          simp only [Scr.pop]
          cases lookH V R T h with
          | none => rfl
          | some e => exact ih (k e.2) κ Γ p (.fin hs out) R T m r n o τ j _ _
      | orc hs Sp m' r' rest =>
        cases hs with
        | nil => rfl
        | cons h hs =>
          show @Option.rec Ent (fun _ => Prop) False (fun e => simF V b f (k e.2) ⟨κ,Γ,p,hs,.orc Sp m' r' rest,R,T,m,r,n,o,τ,j,a :: acc,e.1 :: exp⟩) (lookF V R T h) = _
          rw [lookF_eq]
          simp only [Scr.pop]
          cases lookH V R T h with
          | none => rfl
          | some e => exact ih (k e.2) κ Γ p (.orc hs Sp m' r' rest) R T m r n o τ j _ _
      | finB hs out z =>
        cases hs with
        | nil => rfl
        | cons h hs =>
          show @Option.rec Ent (fun _ => Prop) False (fun e => simF V b f (k e.2) ⟨κ,Γ,p,hs,.finB out z,R,T,m,r,n,o,τ,j,a :: acc,e.1 :: exp⟩) (lookF V R T h) = _
          rw [lookF_eq]
          simp only [Scr.pop]
          cases lookH V R T h with
          | none => rfl
          | some e => exact ih (k e.2) κ Γ p (.finB hs out z) R T m r n o τ j _ _
      | orcB hs Sp z c' al m' r' rest =>
        cases hs with
        | nil => rfl
        | cons h hs =>
          show @Option.rec Ent (fun _ => Prop) False (fun e => simF V b f (k e.2) ⟨κ,Γ,p,hs,.orcB Sp z c' al m' r' rest,R,T,m,r,n,o,τ,j,a :: acc,e.1 :: exp⟩) (lookF V R T h) = _
          rw [lookF_eq]
          simp only [Scr.pop]
          cases lookH V R T h with
          | none => rfl
          | some e => exact ih (k e.2) κ Γ p (.orcB hs Sp z c' al m' r' rest) R T m r n o τ j _ _
    | loadIfAlive a k =>
      simp only [simH]
      cases S with
      | fin hs out =>
        cases hs with
        | nil => rfl
        | cons h hs =>
          show @Option.rec Ent (fun _ => Prop) False (fun e => simF V b f (k (some e.2)) ⟨κ,Γ,p,hs,.fin out,R,T,m,r,n,o,τ,j,a :: acc,e.1 :: exp⟩) (lookF V R T h) = _
          rw [lookF_eq]
          simp only [Scr.pop]
          cases lookH V R T h with
          | none => rfl
          | some e => exact ih (k (some e.2)) κ Γ p (.fin hs out) R T m r n o τ j _ _
      | orc hs Sp m' r' rest =>
        cases hs with
        | nil => rfl
        | cons h hs =>
          show @Option.rec Ent (fun _ => Prop) False (fun e => simF V b f (k (some e.2)) ⟨κ,Γ,p,hs,.orc Sp m' r' rest,R,T,m,r,n,o,τ,j,a :: acc,e.1 :: exp⟩) (lookF V R T h) = _
          rw [lookF_eq]
          simp only [Scr.pop]
          cases lookH V R T h with
          | none => rfl
          | some e => exact ih (k (some e.2)) κ Γ p (.orc hs Sp m' r' rest) R T m r n o τ j _ _
      | finB hs out z =>
        cases hs with
        | nil => rfl
        | cons h hs =>
          show @Option.rec Ent (fun _ => Prop) False (fun e => simF V b f (k (some e.2)) ⟨κ,Γ,p,hs,.finB out z,R,T,m,r,n,o,τ,j,a :: acc,e.1 :: exp⟩) (lookF V R T h) = _
          rw [lookF_eq]
          simp only [Scr.pop]
          cases lookH V R T h with
          | none => rfl
          | some e => exact ih (k (some e.2)) κ Γ p (.finB hs out z) R T m r n o τ j _ _
      | orcB hs Sp z c' al m' r' rest =>
        cases hs with
        | nil => rfl
        | cons h hs =>
          show @Option.rec Ent (fun _ => Prop) False (fun e => simF V b f (k (some e.2)) ⟨κ,Γ,p,hs,.orcB Sp z c' al m' r' rest,R,T,m,r,n,o,τ,j,a :: acc,e.1 :: exp⟩) (lookF V R T h) = _
          rw [lookF_eq]
          simp only [Scr.pop]
          cases lookH V R T h with
          | none => rfl
          | some e => exact ih (k (some e.2)) κ Γ p (.orcB hs Sp z c' al m' r' rest) R T m r n o τ j _ _
    | update a q u k =>
      simp only [simH]
      have key : ∀ (h : Nat) (S' : Scr),@Bool.rec (fun _ => Prop) False (@Option.rec Ent (fun _ => Prop) False (fun e =>
          @Bool.rec (fun _ => Prop) (@Bool.rec (fun _ => Prop) False (simF V b f (k ()) ⟨κ,Γ,p,S'.hs,S'.tl,R,T.putF (h / 3 - 1) (e.1,u e.2),m,r,n,o,τ,j,a :: acc,e.1 :: exp⟩) ((T.putF (h / 3 - 1) (e.1,u e.2)).getF (h / 3 - 1)).isSome) False (u e.2).isFreed) (T.getF (h / 3 - 1))) (Nat.beq (h % 3) 0) =
          (match Nat.beq (h % 3) 0 with
          | true => match T.get (h / 3 - 1) with
            | some e => match (u e.2).isFreed with
              | false => match ((T.put (h / 3 - 1) (e.1,u e.2)).get (h / 3 - 1)).isSome with
                | true => simH V b f κ Γ p (k ()) S' R (T.put (h / 3 - 1) (e.1,u e.2)) m r n o τ j (a :: acc) (e.1 :: exp)
                | false => False
              | true => False
            | none => False
          | false => False) := fun h S' => by
        cases Nat.beq (h % 3) 0 with
        | false => rfl
        | true =>
          simp only [LT.getF_eq,LT.putF_eq]
          cases T.get (h / 3 - 1) with
          | none => rfl
          | some e =>
            simp only
            cases (u e.2).isFreed with
            | true => rfl
            | false =>
              simp only
              cases ((T.put (h / 3 - 1) (e.1,u e.2)).get (h / 3 - 1)).isSome with
              | false => rfl
              | true => exact ih _ _ _ _ _ _ _ _ _ _ _ _ _ _ _
      cases S with
      | fin hs out =>
        cases hs with
        | nil => rfl
        | cons h hs => exact key h (.fin hs out)
      | orc hs Sp m' r' rest =>
        cases hs with
        | nil => rfl
        | cons h hs => exact key h (.orc hs Sp m' r' rest)
      | finB hs out z =>
        cases hs with
        | nil => rfl
        | cons h hs => exact key h (.finB hs out z)
      | orcB hs Sp z c' al m' r' rest =>
        cases hs with
        | nil => rfl
        | cons h hs => exact key h (.orcB hs Sp z c' al m' r' rest)
    | alloc ob k =>
      simp only [simH]
      show @Bool.rec (fun _ => Prop) (@Bool.rec (fun _ => Prop) False (@Option.rec Ent (fun _ => Prop) (simF V b f (k (n + o)) ⟨κ,Γ,p,S.hs,S.tl,R,T.putF m (n + o,ob),m + 1,r,n,o + 1,τ,j,acc,exp⟩) (fun _ => False) (T.getF m)) ((T.putF m (n + o,ob)).getF m).isSome) False ob.isFreed = _
      simp only [LT.getF_eq,LT.putF_eq]
      cases ob.isFreed with
      | true => rfl
      | false =>
        simp only
        cases ((T.put m (n + o,ob)).get m).isSome with
        | false => rfl
        | true =>
          simp only
          cases T.get m with
          | some _ => rfl
          | none => exact ih _ _ _ _ _ _ _ _ _ _ _ _ _ _ _
    | call c hd g l k =>
      simp only [simH]
      have key : ∀ (h : Nat) (S' : Scr),@Bool.rec (fun _ => Prop) False (simF V b f (V.den c) ⟨⟨k,Γ,p⟩ :: κ,Γ.enter c hd p,p,S'.hs,S'.tl,R,T,m,r,n,o,τ,j,acc,exp⟩) (Nat.beq h 0) =
          (match Nat.beq h 0 with | true => simH V b f (⟨k,Γ,p⟩ :: κ) (Γ.enter c hd p) p (V.den c) S' R T m r n o τ j acc exp | false => False) := fun h S' => by
        rw [ih]
        cases Nat.beq h 0 <;> rfl
      cases S with
      | fin hs out =>
        cases hs with
        | nil => rfl
        | cons h hs => exact key h (.fin hs out)
      | orc hs Sp m' r' rest =>
        cases hs with
        | cons h hs => exact key h (.orc hs Sp m' r' rest)
        | nil =>
          show (acc = exp ∧ c = Sp.code ∧ hd = none ∧ (Γ.handled,Γ.own,Γ.past) = (none,none,none) ∧ skelsAs Sp.shape ((Γ.code,p) :: Γ.below) = Sp.shape ∧
            Sp.pre.map (fun x => lookF V R T x.1) = Sp.pre.map (fun x => some x.2) ∧ Sp.upd.map (fun x => (T.getF x.1).map (·.1)) = Sp.upd.map (fun x => some x.2.1) ∧ (m,r) = (m',r') ∧
            ∀ (α : Nat → Nat) (tk : Tok) (n' τ' : Nat),(putRok α tk Sp.newR 0 r R,putUok α tk Sp.upd T,putNok α tk Sp.newT Sp.newR.length m (putU α tk Sp.upd T)) = (true,true,true) ∧
              simF V b f (k (Sp.res α tk)) ⟨κ,Γ,p,(rest α tk n' τ').hs,(rest α tk n' τ').tl,putR α tk Sp.newR 0 r R,putN α tk Sp.newT Sp.newR.length m (putU α tk Sp.upd T),m + Sp.newT.length,r + Sp.newR.length,n',0,τ',0,[],[]⟩) = _
          simp only [ih,LT.getF_eq,lookF_eq]
      | finB hs out z =>
        cases hs with
        | nil => rfl
        | cons h hs => exact key h (.finB hs out z)
      | orcB hs Sp z c' al m' r' rest =>
        cases hs with
        | cons h hs => exact key h (.orcB hs Sp z c' al m' r' rest)
        | nil =>
          show (acc = exp ∧ c = Sp.code ∧ hd = none ∧ (Γ.handled,Γ.own,Γ.past) = (none,none,none) ∧ skelsAs Sp.shape ((Γ.code,p) :: Γ.below) = Sp.shape ∧
            Sp.pre.map (fun x => lookF V R T x.1) = Sp.pre.map (fun x => some x.2) ∧ Sp.upd.map (fun x => (T.getF x.1).map (·.1)) = Sp.upd.map (fun x => some x.2.1) ∧ (m,r) = (m',r') ∧ n + o = z ∧
            ∀ (α : Nat → Nat) (tk : Tok) (τ' : Nat),(putRok (pin al α) tk Sp.newR 0 r R,putUok (pin al α) tk Sp.upd T,putNok (pin al α) tk Sp.newT Sp.newR.length m (putU (pin al α) tk Sp.upd T)) = (true,true,true) ∧
              simF V b f (k (Sp.res (pin al α) tk)) ⟨κ,Γ,p,(rest (pin al α) tk τ').hs,(rest (pin al α) tk τ').tl,putR (pin al α) tk Sp.newR 0 r R,putN (pin al α) tk Sp.newT Sp.newR.length m (putU (pin al α) tk Sp.upd T),m + Sp.newT.length,r + Sp.newR.length,z + c',0,τ',0,[],[]⟩) = _
          simp only [ih,LT.getF_eq,lookF_eq]
    | _ => rfl
theorem simF_H {V : HV} {b : Bool} {f : Nat} {t : Sem PySem.Fin} {κ : List KF} {Γ : Ctx} {p : Pos} {S : Scr} {R T : LT} {m r n o τ j : Nat} {acc exp : List Nat} (h : simF V b f t ⟨κ,Γ,p,S.hs,S.tl,R,T,m,r,n,o,τ,j,acc,exp⟩) :
    simH V b f κ Γ p t S R T m r n o τ j acc exp := simF_eq V b f t κ Γ p S R T m r n o τ j acc exp ▸ h
end Mine
end
section
open PySem PySem.W PyProof.Rows
namespace Mine
theorem looks_of {p : Program} (h0 : sreFenced p.main = true) (h1 : ((moduleNames p.main.body).isEmpty || lookedIntoSs (moduleNames p.main.body) p.main.body) = true) (h2 : namesResolve p = true) (h3 : (p.boundNames.all fun n => !worldNames.contains n) = true)
    (b1 : readsOut p p.main.body "vars" = false) (b2 : readsOut p p.main.body "dir" = false) (b3 : readsOut p p.main.body "locals" = false) (h4 : noRoadLSs { strict := !(importedModules p.main.body).all cThrough.contains, foot := none, bare := [] } p.main.body = true)
    (h5 : (namesMeet p p.main.body fun _ n => attrL n) = true) : looksOpen p = true := by
  unfold looksOpen
  rw [h0,h1,h2,h3,h5,List.filter_cons_of_neg (by rw [b1]; exact Bool.false_ne_true),List.filter_cons_of_neg (by rw [b2]; exact Bool.false_ne_true),List.filter_cons_of_neg (by rw [b3]; exact Bool.false_ne_true),List.filter_nil,h4]
  rfl
theorem said0 : sreFenced PySem.Challenge.pw_ik0198_01.main = true := by kernel_rfl
theorem said1 : ((moduleNames PySem.Challenge.pw_ik0198_01.main.body).isEmpty || lookedIntoSs (moduleNames PySem.Challenge.pw_ik0198_01.main.body) PySem.Challenge.pw_ik0198_01.main.body) = true := by kernel_rfl
theorem said2 : namesResolve PySem.Challenge.pw_ik0198_01 = true := by kernel_rfl
theorem said3 : (PySem.Challenge.pw_ik0198_01.boundNames.all fun n => !worldNames.contains n) = true := by kernel_rfl
theorem said4 : readsOut PySem.Challenge.pw_ik0198_01 PySem.Challenge.pw_ik0198_01.main.body "vars" = false := by kernel_rfl
theorem said5 : readsOut PySem.Challenge.pw_ik0198_01 PySem.Challenge.pw_ik0198_01.main.body "dir" = false := by kernel_rfl
theorem said6 : readsOut PySem.Challenge.pw_ik0198_01 PySem.Challenge.pw_ik0198_01.main.body "locals" = false := by kernel_rfl
theorem said7 : noRoadLSs { strict := !(importedModules PySem.Challenge.pw_ik0198_01.main.body).all cThrough.contains,foot := none,bare := [] } PySem.Challenge.pw_ik0198_01.main.body = true := by kernel_rfl
theorem said8 : (namesMeet PySem.Challenge.pw_ik0198_01 PySem.Challenge.pw_ik0198_01.main.body fun _ n => attrL n) = true := by kernel_rfl
theorem looks : looksOpen PySem.Challenge.rw_ik0198_01.row.prog = true := looks_of (p := PySem.Challenge.pw_ik0198_01) said0 said1 said2 said3 said4 said5 said6 said7 said8
theorem row_ok : PySem.Challenge.rw_ik0198_01.row.wellSaid = true := by
  unfold OpenRow.wellSaid OpenRow.partSaid
  rw [looks]
  kernel_rfl
theorem said : PySem.Challenge.rw_ik0198_01.wellSaid = true := by
  unfold OpenLaw.wellSaid
  rw [row_ok]
  kernel_rfl
theorem from_row (h : PySem.Challenge.rw_ik0198_01.row.wellSaid = true → PySem.Challenge.rw_ik0198_01.row.Holds) : PySem.Challenge.rw_ik0198_01.Holds := holds_law said h
end Mine
end
section
open PySem PySem.W PyProof.Rows
namespace Mine
noncomputable def topRunT (ok : Nat → Option Value → Thread → Bool) (stp : SharedT → Thread → Option (SharedT × Thread)) (n₀ : Nat) (ann : Option Value) : Nat → SharedT → Thread → Option SharedT
  | 0,_,_ => none
  | n + 1,s,t => match through t with
    | true => some s
    | false => match ok n₀ ann t with
      | false => none
      | true => match stp s t with
        | some (s',t') => topRunT ok stp n₀ ann n s' t'
        | none => none
theorem topRun_ofT {tb : String → Option Builtin} {p : Program} {w : World} {n₀ : Nat} {ann : Option Value} : ∀ {n : Nat} {s s' : SharedT} {t : Thread},topRunT stepOk (stepT (denote tb) p w) n₀ ann n s t = some s' → topRun tb p w n₀ ann n s.abs t = some s'.abs
  | 0,_,_,_,h => by cases h
  | n + 1,s,s',t,h => by
    unfold topRunT at h
    unfold topRun
    cases he : through t with
    | true => rw [he] at h; cases h; rfl
    | false =>
      rw [he] at h
      cases hk : stepOk n₀ ann t with
      | false => rw [hk] at h; cases h
      | true =>
        rw [hk] at h
        cases hs : stepT (denote tb) p w s t with
        | none => rw [hs] at h; cases h
        | some r => obtain ⟨s₂,t₂⟩ := r; rw [hs] at h; rw [stepT_spec hs]; exact topRun_ofT h
noncomputable def impRunT (stp : SharedT → Thread → Option (SharedT × Thread)) : Nat → SharedT → Thread → Option SharedT
  | 0,_,_ => none
  | n + 1,s,t => match t.atExitBegin with
    | some [] => some s
    | some (_ :: _) => none
    | none => match stp s t with
      | some (s',t') => impRunT stp n s' t'
      | none => none
theorem importEnds_ofT {tb : String → Option Builtin} {p : Program} {w : World} : ∀ {n : Nat} {s s' : SharedT} {t : Thread},impRunT (stepT (denote tb) p w) n s t = some s' → importEnds tb p w n s.abs t = some s'.abs
  | 0,_,_,_,h => by cases h
  | n + 1,s,s',t,h => by
    unfold impRunT at h
    unfold importEnds
    cases he : t.atExitBegin with
    | some l =>
      rw [he] at h
      cases l with
      | nil => cases h; rfl
      | cons => cases h
    | none =>
      rw [he] at h
      cases hs : stepT (denote tb) p w s t with
      | none => rw [hs] at h; cases h
      | some r => obtain ⟨s₂,t₂⟩ := r; rw [hs] at h; dsimp only; rw [stepT_spec hs]; exact importEnds_ofT h
noncomputable def btGo : List Obj → BT → Nat → Option (BT × Nat)
  | [],t,n => some (t,n)
  | o :: l,t,n => match ((t.ins n o).get n).isSome with
    | true => btGo l (t.ins n o) (n + 1)
    | false => none
theorem btGo_abs {life : Life} : ∀ (l : List Obj) (t : BT) (n : Nat) (t' : BT) (n' : Nat),btGo l t n = some (t',n') → absHeap t' n' life = ⟨(absHeap t n life).objs ++ l.toArray,life⟩
  | [],t,n,t',n',h => by
    cases h
    show _ = Heap.mk ((absHeap t n life).objs ++ #[]) life
    rw [Array.append_empty]; rfl
  | o :: l,t,n,t',n',h => by
    unfold btGo at h
    split at h
    · rename_i hg
      rw [btGo_abs l _ _ _ _ h,absHeap_ins hg]
      show Heap.mk ((absHeap t n life).objs.push o ++ l.toArray) life = _
      rw [show ((o :: l).toArray) = #[o] ++ l.toArray by simp,← Array.append_assoc,Array.push_eq_append]
    · cases h
structure Fns where
  ok : Nat → Option Value → Thread → Bool
  den : Code → Sem PySem.Fin
  stp : (Code → Sem PySem.Fin) → Program → World → SharedT → Thread → Option (SharedT × Thread)
  fence : Program → Shared → Option Shared
  prog : Program
noncomputable def realF (p : Program) : Fns := ⟨stepOk,denote treeTable,stepT,fenceModules?,p⟩
noncomputable def openT (F : Fns) (w : World) (N : Nat) : Option Shared :=
  (impRunT (F.stp F.den (opening F.prog) w) N ⟨.nil,0,{},#[],{},1,(start (opening F.prog)).1.os⟩ (start (opening F.prog)).2).bind fun s => F.fence F.prog s.abs
noncomputable def topT (F : Fns) (w : World) (N : Nat) (s₀ : Shared) : Option Shared :=
  match s₀.heap.isNs mainGlobals && s₀.gens.size == 0 with
  | true => match btGo s₀.heap.objs.toList .nil 0 with
    | some (T, n) => (topRunT F.ok (F.stp F.den F.prog w) s₀.heap.objs.size (s₀.heap.nsMap mainGlobals "__annotations__") N ⟨T, n, s₀.heap.life, s₀.gens, s₀.drawn, s₀.toks, s₀.os⟩ (topStub F.prog)).bind fun s₁ =>
        match staticsOk (importedModules F.prog.main.body) s₀.heap s₁.abs.heap && namesBound F.prog s₁.abs.heap && gensDone s₁.abs && laidKept s₀.heap s₁.abs.heap with
        | true => some s₁.abs
        | false => none
    | none => none
  | false => none
noncomputable def endsT (F : Fns) (w : World) (N : Nat) : Option Shared := (openT F w N).bind (topT F w N)
theorem openT_ok {p : Program} {w : World} {N : Nat} {s : Shared} (h : openT (realF p) w N = some s) : fencedOpening treeTable p w N = some s := by
  obtain ⟨s₀,h1,h2⟩ := Option.bind_eq_some_iff.mp h
  have this : importEnds treeTable (opening p) w N (SharedT.abs ⟨.nil,0,{},#[],{},1,(start (opening p)).1.os⟩) (start (opening p)).2 = some s₀.abs := importEnds_ofT h1
  have e : SharedT.abs ⟨.nil,0,{},#[],{},1,(start (opening p)).1.os⟩ = (start (opening p)).1 := rfl
  rw [e] at this
  unfold fencedOpening
  rw [this]
  exact h2
theorem topT_ok {p : Program} {w : World} {N : Nat} {s₀ s : Shared} (h : topT (realF p) w N s₀ = some s) : topFrom treeTable p w N s₀ = some s := by
  unfold topT at h
  unfold topFrom
  split at h
  · rename_i hc
    rw [hc]
    split at h
    · rename_i T n hb
      obtain ⟨s₁,h1,h2⟩ := Option.bind_eq_some_iff.mp h
      have := topRun_ofT h1
      have ea : SharedT.abs ⟨T,n,s₀.heap.life,s₀.gens,s₀.drawn,s₀.toks,s₀.os⟩ = s₀ := by
        show Shared.mk (absHeap T n s₀.heap.life) s₀.gens s₀.drawn s₀.toks s₀.os = s₀
        rw [btGo_abs (life := s₀.heap.life) _ _ _ _ _ hb]
        have : (absHeap .nil 0 s₀.heap.life).objs = #[] := rfl
        rw [this]
        obtain ⟨⟨objs,life⟩,g,d,t,os⟩ := s₀
        simp
      rw [ea] at this
      have e2 : (realF p).prog = p := rfl
      rw [e2] at this h2
      dsimp only
      rw [this]
      dsimp only [Option.bind_some]
      exact h2
    · cases h
  · cases h
theorem endsT_ok {p : Program} {w : World} {N : Nat} {s : Shared} (h : endsT (realF p) w N = some s) : openEnds treeTable p w N = some s := by
  obtain ⟨s₀,h1,h2⟩ := Option.bind_eq_some_iff.mp h
  unfold openEnds
  rw [openT_ok h1]
  exact topT_ok h2
end Mine
end
section
open PySem PySem.W PyProof.Rows
namespace Mine
noncomputable abbrev pg : Program := PySem.Challenge.pw_ik0198_01
noncomputable abbrev denT : Code → Sem PySem.Fin := PySem.W.Fast.tw11892475500146522536 PySem.W.Fast.tw14364793385576792824
theorem pg_eq : PySem.Challenge.pw_ik0198_01 = pg := rfl
theorem den_eq : denote treeTable = denT := by
  unfold denT
  rw [PySem.W.Fast.te11892475500146522536,PySem.W.Fast.te14364793385576792824]
noncomputable def twF : Fns := ⟨PySem.W.Fast.tw6613529449190102663,denT,PySem.W.Fast.tw10156331382660048174,PySem.W.Fast.tw14289696077712309145,pg⟩
theorem twF_eq : realF PySem.Challenge.pw_ik0198_01 = twF := by
  unfold realF twF
  rw [den_eq,PySem.W.Fast.te6613529449190102663,PySem.W.Fast.te10156331382660048174,PySem.W.Fast.te14289696077712309145]
end Mine
end
section
open PySem PySem.W PyProof.Rows
namespace Mine
noncomputable abbrev u (l : List Nat) : Str := ⟨⟨l⟩⟩
noncomputable def d (P : Params) (x : Str) (t : Tok) (v : Value) : DictEntry := ⟨PyData.keyHash P x,.str x t,v⟩
noncomputable def stAt : List Stmt → List Nat → Option Stmt
  | _,[] => none
  | l,[i] => l[i]?
  | l,i :: r => match l[i]? with
    | some (.ClassDef _ _ _ b _ _ _ _ _ _ _) => stAt b r
    | _ => none
noncomputable def fd (path : List Nat) (name qualname : Str) (globals : Addr) (dfl kwd doc pm : Value) (ann : Option Addr) (code ct : Value) (bi : Addr) : FuncData := match stAt pg.main.body path with
  | some (.FunctionDef _ ps b _ _ _ sc _ _ _) => ⟨name,qualname,ps,.stmts b,sc,globals,[],dfl,kwd,doc,pm,ann,code,ct,bi⟩
  | _ => ⟨name,qualname,default,.stmts [],default,globals,[],dfl,kwd,doc,pm,ann,code,ct,bi⟩
inductive TT where
  | nil
  | leaf (a : Nat) (o : Obj)
  | br (k : Nat) (l r : TT)
noncomputable def TT.get : TT → Nat → Option Obj
  | .nil,_ => none
  | .leaf a o,i => match Nat.beq i a with
    | true => some o
    | false => none
  | .br k l r,i => match Nat.ble k i with
    | true => r.get i
    | false => l.get i
noncomputable def TT.list : TT → List (Nat × Obj)
  | .nil => []
  | .leaf a o => [(a,o)]
  | .br _ l r => l.list ++ r.list
theorem TT.mem : ∀ {t : TT} {i : Nat} {o : Obj},t.get i = some o → (i,o) ∈ t.list
  | .nil,_,_,h => nomatch h
  | .leaf a o,i,x,h => by
    unfold TT.get at h
    split at h
    · rename_i q
      cases h
      rw [Nat.eq_of_beq_eq_true q]
      exact .head _
    · cases h
  | .br k l r,i,x,h => by
    unfold TT.get at h
    split at h
    · exact List.mem_append_right _ (TT.mem h)
    · exact List.mem_append_left _ (TT.mem h)
noncomputable def z0 : String := S.litE [S.mk8 98 rfl,S.mk8 117 rfl,S.mk8 105 rfl,S.mk8 108 rfl,S.mk8 116 rfl,S.mk8 105 rfl,S.mk8 110 rfl,S.mk8 115 rfl,S.mk8 46 rfl,S.mk8 99 rfl,S.mk8 111 rfl,S.mk8 112 rfl,S.mk8 121 rfl,S.mk8 114 rfl,S.mk8 105 rfl,S.mk8 103 rfl,S.mk8 104 rfl,S.mk8 116 rfl,S.mk8 35 rfl,S.mk8 111 rfl,S.mk8 112 rfl,S.mk8 97 rfl,S.mk8 113 rfl,S.mk8 117 rfl,S.mk8 101 rfl] [98,117,105,108,116,105,110,115,46,99,111,112,121,114,105,103,104,116,35,111,112,97,113,117,101] rfl rfl
noncomputable def z1 : String := S.litE [S.mk8 98 rfl,S.mk8 117 rfl,S.mk8 105 rfl,S.mk8 108 rfl,S.mk8 116 rfl,S.mk8 105 rfl,S.mk8 110 rfl,S.mk8 115 rfl,S.mk8 46 rfl,S.mk8 99 rfl,S.mk8 114 rfl,S.mk8 101 rfl,S.mk8 100 rfl,S.mk8 105 rfl,S.mk8 116 rfl,S.mk8 115 rfl,S.mk8 35 rfl,S.mk8 111 rfl,S.mk8 112 rfl,S.mk8 97 rfl,S.mk8 113 rfl,S.mk8 117 rfl,S.mk8 101 rfl] [98,117,105,108,116,105,110,115,46,99,114,101,100,105,116,115,35,111,112,97,113,117,101] rfl rfl
noncomputable def z2 : String := S.litE [S.mk8 98 rfl,S.mk8 117 rfl,S.mk8 105 rfl,S.mk8 108 rfl,S.mk8 116 rfl,S.mk8 105 rfl,S.mk8 110 rfl,S.mk8 115 rfl,S.mk8 46 rfl,S.mk8 108 rfl,S.mk8 105 rfl,S.mk8 99 rfl,S.mk8 101 rfl,S.mk8 110 rfl,S.mk8 115 rfl,S.mk8 101 rfl,S.mk8 35 rfl,S.mk8 111 rfl,S.mk8 112 rfl,S.mk8 97 rfl,S.mk8 113 rfl,S.mk8 117 rfl,S.mk8 101 rfl] [98,117,105,108,116,105,110,115,46,108,105,99,101,110,115,101,35,111,112,97,113,117,101] rfl rfl
noncomputable def k0 (P : Params) : Obj := ⟨(.type SL.s14018661285674007319x4), none, (.dict ⟨[d P (u [95,95,110,97,109,101,95,95]) 1 (.str (u [98,117,105,108,116,105,110,115]) 160), d P (u [95,95,100,111,99,95,95]) 2 (.builtin "builtins.__doc__:str#opaque"), d P (u [95,95,112,97,99,107,97,103,101,95,95]) 3 (.builtin "builtins.__package__:str#opaque"), d P (u [95,95,108,111,97,100,101,114,95,95]) 4 (.builtin "builtins.__loader__:shared#opaque"), d P (u [95,95,115,112,101,99,95,95]) 5 (.builtin SL.s11665532747177232413x24), d P (u [95,95,98,117,105,108,100,95,99,108,97,115,115,95,95]) 6 (.builtin SL.s15183661809925369436x15), d P (u [95,95,105,109,112,111,114,116,95,95]) 7 (.builtin SL.s13915890719876406383x10), d P (u [97,98,115]) 8 (.builtin SL.s13459172003223722735x3), d P (u [97,108,108]) 9 (.builtin SL.s10557405761357834076x3), d P (u [97,110,121]) 10 (.builtin SL.s4233737765568776869x3), d P (u [97,115,99,105,105]) 11 (.builtin SL.s2508922471967985374x5), d P (u [98,105,110]) 12 (.builtin SL.s15574269061696679450x3), d P (u [98,114,101,97,107,112,111,105,110,116]) 13 (.builtin SL.s6016482663378992977x10), d P (u [99,97,108,108,97,98,108,101]) 14 (.builtin SL.s5596568736180474577x8), d P (u [99,104,114]) 15 (.builtin SL.s2839554839881490554x3), d P (u [99,111,109,112,105,108,101]) 16 (.builtin SL.s725004073602090463x7), d P (u [100,101,108,97,116,116,114]) 17 (.builtin SL.s9436932552931045734x7), d P (u [100,105,114]) 18 (.builtin SL.s2754603736356183583x3), d P (u [100,105,118,109,111,100]) 19 (.builtin SL.s15185746759980889043x6), d P (u [101,118,97,108]) 20 (.builtin SL.s8192189862530294059x4), d P (u [101,120,101,99]) 21 (.builtin SL.s7038307821325472102x4), d P (u [102,111,114,109,97,116]) 22 (.builtin SL.s5662562618415449548x6), d P (u [103,101,116,97,116,116,114]) 23 (.builtin SL.s15281542589158584767x7), d P (u [103,108,111,98,97,108,115]) 24 (.builtin SL.s17651547275483570877x7), d P (u [104,97,115,97,116,116,114]) 25 (.builtin SL.s4036449017235975746x7), d P (u [104,97,115,104]) 26 (.builtin SL.s8879979712987360175x4), d P (u [104,101,120]) 27 (.builtin SL.s1801250619170735830x3), d P (u [105,100]) 28 (.builtin SL.s17659931425627118568x2), d P (u [105,110,112,117,116]) 29 (.builtin SL.s6063217899685152688x5), d P (u [105,115,105,110,115,116,97,110,99,101]) 30 (.builtin SL.s8008927332132565319x10), d P (u [105,115,115,117,98,99,108,97,115,115]) 31 (.builtin SL.s3544116645089599534x10), d P (u [105,116,101,114]) 32 (.builtin SL.s13761710972054866084x4), d P (u [97,105,116,101,114]) 33 (.builtin SL.s12896375587409280029x5), d P (u [108,101,110]) 34 (.builtin SL.s13014049009108672802x3), d P (u [108,111,99,97,108,115]) 35 (.builtin SL.s13935586738268321596x6), d P (u [109,97,120]) 36 (.builtin SL.s8200498257699607233x3), d P (u [109,105,110]) 37 (.builtin SL.s14114244577727609259x3), d P (u [110,101,120,116]) 38 (.builtin SL.s1499430450269397089x4), d P (u [97,110,101,120,116]) 39 (.builtin SL.s8755793994789770505x5), d P (u [111,99,116]) 40 (.builtin SL.s15725212667919936108x3), d P (u [111,114,100]) 41 (.builtin SL.s15791221867095933363x3), d P (u [112,111,119]) 42 (.builtin SL.s81309575031448614x3), d P (u [112,114,105,110,116]) 43 (.builtin SL.s8069831620301644142x5), d P (u [114,101,112,114]) 44 (.builtin SL.s10061844253413749634x4), d P (u [114,111,117,110,100]) 45 (.builtin SL.s9496514870978017513x5), d P (u [115,101,116,97,116,116,114]) 46 (.builtin SL.s8899691144933366716x7), d P (u [115,111,114,116,101,100]) 47 (.builtin SL.s15201008993051130160x6), d P (u [115,117,109]) 48 (.builtin SL.s741896355592496720x3), d P (u [118,97,114,115]) 49 (.builtin SL.s17925004256654032244x4), d P (u [78,111,110,101]) 50 .none, d P (u [69,108,108,105,112,115,105,115]) 51 .ellipsis, d P (u [78,111,116,73,109,112,108,101,109,101,110,116,101,100]) 52 .notImplemented, d P (u [70,97,108,115,101]) 53 (.bool false), d P (u [84,114,117,101]) 54 (.bool true), d P (u [98,111,111,108]) 55 (.type SL.s11695548795398191787x4), d P (u [109,101,109,111,114,121,118,105,101,119]) 56 (.type SL.s4156966113859768872x10), d P (u [98,121,116,101,97,114,114,97,121]) 57 (.type SL.s9501651726347032510x9), d P (u [98,121,116,101,115]) 58 (.type SL.s15722918466584999320x5), d P (u [99,108,97,115,115,109,101,116,104,111,100]) 59 (.type SL.s591115383303110208x11), d P (u [99,111,109,112,108,101,120]) 60 (.type SL.s15721156781594690315x7), d P (u [100,105,99,116]) 61 (.type SL.s14018661285674007319x4), d P (u [101,110,117,109,101,114,97,116,101]) 62 (.type SL.s14340494229221121180x9), d P (u [102,105,108,116,101,114]) 63 (.type SL.s13429844117177748173x6), d P (u [102,108,111,97,116]) 64 (.type SL.s16463266125957815391x5), d P (u [102,114,111,122,101,110,115,101,116]) 65 (.type SL.s4922535414793169389x9), d P (u [112,114,111,112,101,114,116,121]) 66 (.type SL.s8101838861749082086x8), d P (u [105,110,116]) 67 (.type SL.s7066276694103001551x3), d P (u [108,105,115,116]) 68 (.type SL.s9222952809800978799x4), d P (u [109,97,112]) 69 (.type SL.s462964344163437139x3), d P (u [111,98,106,101,99,116]) 70 (.type SL.s2742458400755230247x6), d P (u [114,97,110,103,101]) 71 (.type SL.s1438033511350832697x5), d P (u [114,101,118,101,114,115,101,100]) 72 (.type SL.s14365286008749172514x8), d P (u [115,101,116]) 73 (.type SL.s3642769012341782148x3), d P (u [115,108,105,99,101]) 74 (.type SL.s4674234679698826739x5), d P (u [115,116,97,116,105,99,109,101,116,104,111,100]) 75 (.type SL.s16656946322747308186x12), d P (u [115,116,114]) 76 (.type SL.s10796804682411823810x3), d P (u [115,117,112,101,114]) 77 (.type SL.s4290257624100764138x5), d P (u [116,117,112,108,101]) 78 (.type SL.s2766695959194262286x5), d P (u [116,121,112,101]) 79 (.type SL.s17162191345867700912x4), d P (u [122,105,112]) 80 (.type SL.s14339709457334898076x3), d P (u [95,95,100,101,98,117,103,95,95]) 81 (.bool true), d P (u [66,97,115,101,69,120,99,101,112,116,105,111,110]) 82 (.type SL.s4278001404047624695x13), d P (u [66,97,115,101,69,120,99,101,112,116,105,111,110,71,114,111,117,112]) 83 (.type SL.s6585700554429387442x18), d P (u [69,120,99,101,112,116,105,111,110]) 84 (.type SL.s5946037652744460706x9), d P (u [71,101,110,101,114,97,116,111,114,69,120,105,116]) 85 (.type SL.s7410770068591931388x13), d P (u [75,101,121,98,111,97,114,100,73,110,116,101,114,114,117,112,116]) 86 (.type SL.s11817881795495490833x17), d P (u [83,121,115,116,101,109,69,120,105,116]) 87 (.type SL.s15679963881808890155x10), d P (u [65,114,105,116,104,109,101,116,105,99,69,114,114,111,114]) 88 (.type SL.s3871700062485845797x15), d P (u [65,115,115,101,114,116,105,111,110,69,114,114,111,114]) 89 (.type SL.s7689518266570723881x14), d P (u [65,116,116,114,105,98,117,116,101,69,114,114,111,114]) 90 (.type SL.s9001593270443806431x14), d P (u [66,117,102,102,101,114,69,114,114,111,114]) 91 (.type SL.s6882542574934516792x11), d P (u [69,79,70,69,114,114,111,114]) 92 (.type SL.s14403400214490484960x8), d P (u [73,109,112,111,114,116,69,114,114,111,114]) 93 (.type SL.s14457978657717015782x11), d P (u [76,111,111,107,117,112,69,114,114,111,114]) 94 (.type SL.s1753610191782819921x11), d P (u [77,101,109,111,114,121,69,114,114,111,114]) 95 (.type SL.s14119380538032626715x11), d P (u [78,97,109,101,69,114,114,111,114]) 96 (.type SL.s11437920000406562045x9), d P (u [79,83,69,114,114,111,114]) 97 (.type SL.s10852414792293593619x7), d P (u [82,101,102,101,114,101,110,99,101,69,114,114,111,114]) 98 (.type SL.s14816307405966870543x14), d P (u [82,117,110,116,105,109,101,69,114,114,111,114]) 99 (.type SL.s8682627914449686677x12), d P (u [83,116,111,112,65,115,121,110,99,73,116,101,114,97,116,105,111,110]) 100 (.type SL.s4428170145600203450x18), d P (u [83,116,111,112,73,116,101,114,97,116,105,111,110]) 101 (.type SL.s5991306692159431302x13), d P (u [83,121,110,116,97,120,69,114,114,111,114]) 102 (.type SL.s16067994140765818257x11), d P (u [83,121,115,116,101,109,69,114,114,111,114]) 103 (.type SL.s2327743974964600596x11), d P (u [84,121,112,101,69,114,114,111,114]) 104 (.type SL.s2804747833354056582x9), d P (u [86,97,108,117,101,69,114,114,111,114]) 105 (.type SL.s6070975301684473832x10), d P (u [87,97,114,110,105,110,103]) 106 (.type SL.s14270485950484850486x7), d P (u [70,108,111,97,116,105,110,103,80,111,105,110,116,69,114,114,111,114]) 107 (.type SL.s12041534306414923332x18), d P (u [79,118,101,114,102,108,111,119,69,114,114,111,114]) 108 (.type SL.s2531307568338490285x13), d P (u [90,101,114,111,68,105,118,105,115,105,111,110,69,114,114,111,114]) 109 (.type SL.s631175304937289666x17), d P (u [66,121,116,101,115,87,97,114,110,105,110,103]) 110 (.type SL.s5144983644357021410x12), d P (u [68,101,112,114,101,99,97,116,105,111,110,87,97,114,110,105,110,103]) 111 (.type SL.s18039099521571816885x18), d P (u [69,110,99,111,100,105,110,103,87,97,114,110,105,110,103]) 112 (.type SL.s6011586214260557989x15), d P (u [70,117,116,117,114,101,87,97,114,110,105,110,103]) 113 (.type SL.s5430567037509283100x13), d P (u [73,109,112,111,114,116,87,97,114,110,105,110,103]) 114 (.type SL.s8117915138073963741x13), d P (u [80,101,110,100,105,110,103,68,101,112,114,101,99,97,116,105,111,110,87,97,114,110,105,110,103]) 115 (.type SL.s3423317712779056401x25), d P (u [82,101,115,111,117,114,99,101,87,97,114,110,105,110,103]) 116 (.type SL.s2007317383269046180x15), d P (u [82,117,110,116,105,109,101,87,97,114,110,105,110,103]) 117 (.type SL.s17481586968713580700x14), d P (u [83,121,110,116,97,120,87,97,114,110,105,110,103]) 118 (.type SL.s2450899226349176912x13), d P (u [85,110,105,99,111,100,101,87,97,114,110,105,110,103]) 119 (.type SL.s16626165730633575011x14), d P (u [85,115,101,114,87,97,114,110,105,110,103]) 120 (.type SL.s14288496050688921416x11), d P (u [66,108,111,99,107,105,110,103,73,79,69,114,114,111,114]) 121 (.type SL.s5735081916595925998x15), d P (u [67,104,105,108,100,80,114,111,99,101,115,115,69,114,114,111,114]) 122 (.type SL.s3865607918536308442x17), d P (u [67,111,110,110,101,99,116,105,111,110,69,114,114,111,114]) 123 (.type SL.s13337502604062700212x15), d P (u [70,105,108,101,69,120,105,115,116,115,69,114,114,111,114]) 124 (.type SL.s13114017843053701147x15), d P (u [70,105,108,101,78,111,116,70,111,117,110,100,69,114,114,111,114]) 125 (.type SL.s17467278006356818441x17), d P (u [73,110,116,101,114,114,117,112,116,101,100,69,114,114,111,114]) 126 (.type SL.s17722149559621369488x16), d P (u [73,115,65,68,105,114,101,99,116,111,114,121,69,114,114,111,114]) 127 (.type SL.s7855274175708717672x17), d P (u [78,111,116,65,68,105,114,101,99,116,111,114,121,69,114,114,111,114]) 128 (.type SL.s13351283678309829046x18), d P (u [80,101,114,109,105,115,115,105,111,110,69,114,114,111,114]) 129 (.type SL.s6668348653404991179x15), d P (u [80,114,111,99,101,115,115,76,111,111,107,117,112,69,114,114,111,114]) 130 (.type SL.s12913350958174193794x18), d P (u [84,105,109,101,111,117,116,69,114,114,111,114]) 131 (.type SL.s16115879512475548326x12), d P (u [73,110,100,101,110,116,97,116,105,111,110,69,114,114,111,114]) 132 (.type SL.s15920661018069861047x16), d P (u [95,73,110,99,111,109,112,108,101,116,101,73,110,112,117,116,69,114,114,111,114]) 133 (.type SL.s10779130036587390575x21), d P (u [73,110,100,101,120,69,114,114,111,114]) 134 (.type SL.s7801419657504700863x10), d P (u [75,101,121,69,114,114,111,114]) 135 (.type SL.s1688129525768580628x8), d P (u [77,111,100,117,108,101,78,111,116,70,111,117,110,100,69,114,114,111,114]) 136 (.type SL.s1031832959479892071x19), d P (u [78,111,116,73,109,112,108,101,109,101,110,116,101,100,69,114,114,111,114]) 137 (.type SL.s8991790508128307865x19), d P (u [80,121,116,104,111,110,70,105,110,97,108,105,122,97,116,105,111,110,69,114,114,111,114]) 138 (.type SL.s14539662485746970245x23), d P (u [82,101,99,117,114,115,105,111,110,69,114,114,111,114]) 139 (.type SL.s11643622729373238714x14), d P (u [85,110,98,111,117,110,100,76,111,99,97,108,69,114,114,111,114]) 140 (.type SL.s3386828779285465597x17), d P (u [85,110,105,99,111,100,101,69,114,114,111,114]) 141 (.type SL.s13042696260734638735x12), d P (u [66,114,111,107,101,110,80,105,112,101,69,114,114,111,114]) 142 (.type SL.s18239426817015966623x15), d P (u [67,111,110,110,101,99,116,105,111,110,65,98,111,114,116,101,100,69,114,114,111,114]) 143 (.type SL.s1270395311379034370x22), d P (u [67,111,110,110,101,99,116,105,111,110,82,101,102,117,115,101,100,69,114,114,111,114]) 144 (.type SL.s10696252587037064777x22), d P (u [67,111,110,110,101,99,116,105,111,110,82,101,115,101,116,69,114,114,111,114]) 145 (.type SL.s7852717498200857586x20), d P (u [84,97,98,69,114,114,111,114]) 146 (.type SL.s6377248116197321094x8), d P (u [85,110,105,99,111,100,101,68,101,99,111,100,101,69,114,114,111,114]) 147 (.type SL.s3834378056692298002x18), d P (u [85,110,105,99,111,100,101,69,110,99,111,100,101,69,114,114,111,114]) 148 (.type SL.s17586630440231065808x18), d P (u [85,110,105,99,111,100,101,84,114,97,110,115,108,97,116,101,69,114,114,111,114]) 149 (.type SL.s15234114252648025395x21), d P (u [69,120,99,101,112,116,105,111,110,71,114,111,117,112]) 150 (.type SL.s8496462677383758984x14), d P (u [69,110,118,105,114,111,110,109,101,110,116,69,114,114,111,114]) 151 (.type SL.s10852414792293593619x7), d P (u [73,79,69,114,114,111,114]) 152 (.type SL.s10852414792293593619x7), d P (u [111,112,101,110]) 153 (.builtin SL.s16789243406116112673x4), d P (u [113,117,105,116]) 154 (.builtin SL.s14400166428656793546x20), d P (u [101,120,105,116]) 155 (.builtin SL.s5857708277339239366x20), d P (u [99,111,112,121,114,105,103,104,116]) 156 (.builtin z0), d P (u [99,114,101,100,105,116,115]) 157 (.builtin z1), d P (u [108,105,99,101,110,115,101]) 158 (.builtin z2), d P (u [104,101,108,112]) 159 (.builtin SL.s7804999707787243718x20)]⟩ 159), ⟨[]⟩⟩
noncomputable def k2 (P : Params) : Obj := ⟨.none,none,(.dict ⟨[d P (u [105,109,112,111,114,116,46,108,111,97,100,101,100,46,95,99,111,108,108,101,99,116,105,111,110,115]) 185 (.bool true),d P (u [99,108,97,115,115,46,95,102,114,111,122,101,110,95,105,109,112,111,114,116,108,105,98,46,66,117,105,108,116,105,110,73,109,112,111,114,116,101,114]) 187 (.ref 15),d P (u [119,97,116,99,104,101,100,46,105,109,112,111,114,116]) 208 (.ref 19),d P (u [99,108,97,115,115,46,95,102,114,111,122,101,110,95,105,109,112,111,114,116,108,105,98,46,77,111,100,117,108,101,83,112,101,99]) 218 (.ref 23),d P (u [115,121,115,46,109,111,100,117,108,101,115,46,98,111,111,107,101,100,45,101,112,111,99,104]) 247 (.int (3) 0),d P (u [115,121,115,46,109,111,100,117,108,101,115,46,108,97,110,100,101,100,46,95,99,111,108,108,101,99,116,105,111,110,115]) 248 (.bool true),d P (u [105,109,112,111,114,116,46,108,97,116,101,114,45,108,97,105,100,46,95,99,111,108,108,101,99,116,105,111,110,115]) 263 (.bool true),d P (u [119,97,116,99,104,101,100,46,108,105,98,114,97,114,121]) 265 (.ref 28),d P (u [119,97,116,99,104,101,100,46,108,105,98,114,97,114,121,45,111,98,106,101,99,116,115]) 0 (.str (u [13]) 0),d P (u [119,97,116,99,104,101,100,46,108,105,98,114,97,114,121,45,100,101,101,112,46,95,99,111,108,108,101,99,116,105,111,110,115]) 266 (.str (u [4,0,0,12,4,0,0,12,4,0,0,3,4,0,0,12,8,4,100,105,99,116,2]) 0),d P (u [116,121,112,101,46,95,95,115,117,98,99,108,97,115,115,101,115,95,95,46,79,83,69,114,114,111,114,46,48]) 322 (.int (63) 0),d P (u [116,121,112,101,46,95,95,115,117,98,99,108,97,115,115,101,115,95,95,46,79,83,69,114,114,111,114,46,110]) 323 (.int (1) 0)]⟩ 12),⟨[]⟩⟩
noncomputable def k3 (P : Params) : Obj := ⟨(.type SL.s14018661285674007319x4),none,(.dict ⟨[d P (u [95,95,110,97,109,101,95,95]) 165 (.str (u [108,97,119,95,105,107,48,49,57,56,95,48,49]) 1176),d P (u [95,95,100,111,99,95,95]) 166 .none,d P (u [95,95,112,97,99,107,97,103,101,95,95]) 167 .none,d P (u [95,95,108,111,97,100,101,114,95,95]) 168 (.builtin SL.s7097527257260152453x26),d P (u [95,95,115,112,101,99,95,95]) 169 .none,d P (u [95,95,97,110,110,111,116,97,116,105,111,110,115,95,95]) 170 (.ref 6),d P (u [95,95,98,117,105,108,116,105,110,115,95,95]) 171 (.ref 4),d P (u [95,95,102,105,108,101,95,95]) 173 (.str (u [47,99,108,97,105,109,47,99,117,116,46,112,121]) 172),d P (u [95,95,99,97,99,104,101,100,95,95]) 174 .none,d P (u [100,101,113,117,101]) 272 (.type SL.s5314052453082223887x17),d P (u [95,119,97,108,108]) 285 (.ref 39),d P (u [95,119,104,101,110,99,101]) 295 (.ref 46),d P (u [95,105,110,100,101,120]) 303 (.ref 53),d P (u [85,110,115,117,112,112,111,114,116,101,100,79,112,101,114,97,116,105,111,110]) 325 (.ref 63),d P (u [73,79,66,97,115,101]) 357 (.ref 83),d P (u [66,117,102,102,101,114,101,100,73,79,66,97,115,101]) 375 (.ref 98),d P (u [84,101,120,116,73,79,66,97,115,101]) 393 (.ref 110),d P (u [66,121,116,101,115,73,79]) 655 (.ref 340),d P (u [83,116,114,105,110,103,73,79]) 942 (.ref 587),d P (u [95,107,105,110,100]) 953 (.ref 596),d P (u [95,102,115,112,97,116,104]) 962 (.ref 603),d P (u [95,99,104,101,99,107,95,97,114,103,95,116,121,112,101,115]) 972 (.ref 610),d P (u [105,115,97,98,115]) 979 (.ref 617),d P (u [106,111,105,110]) 990 (.ref 624),d P (u [100,105,114,110,97,109,101]) 1000 (.ref 631),d P (u [115,104,108,101,120]) 1141 (.ref 722),d P (u [99,109,112,95,116,111,95,107,101,121]) 1152 (.ref 733),d P (u [95,105,110,105,116,105,97,108,95,109,105,115,115,105,110,103]) 1153 (.ref 734),d P (u [114,101,100,117,99,101]) 1165 (.ref 742),d P (u [95,115,116,114,99,111,108,108]) 1175 (.ref 749),d P (u [95,108,97,119,95,109,97,114,107]) 1184 (.ref 756),d P (u [95,108,97,119,95,115,119,97,112,112,101,100]) 1193 (.ref 763),d P (u [95,108,97,119,95,112,97,115,115,101,100]) 1204 (.ref 770),d P (u [95,108,97,119,95,119,97,121]) 1210 (.ref 775),d P (u [95,108,97,119,95,116,111,107,101,110]) 1218 (.ref 782),d P (u [108,97,119]) 1224 (.ref 787)]⟩ 36),⟨[]⟩⟩
noncomputable def k4 (P : Params) : Obj := ⟨(.type SL.s6658869562736209489x6),(some 0),.plain,⟨[]⟩⟩
noncomputable def k52 (P : Params) : Obj := ⟨(.type SL.s5856160107412720595x4),none,(.fields ⟨[(.str (u [95,105,110,100,101,120]) 296),(.str (u [95,105,110,100,101,120]) 297),(.str (u [47,99,108,97,105,109,47,99,117,116,46,112,121]) 298),(.int (11) 0),(.int (2) 0),(.int (0) 0),(.int (0) 0),(.int (3) 0),(.ref 47),(.bool true),(.int (273) 0),(.ref 48),.none,(.ref 49),(.ref 50),(.ref 51),(.int (301) 0),(.int (11) 0),(.str (u [47,99,108,97,105,109,47,99,117,116,46,112,121]) 302)]⟩),⟨[]⟩⟩
noncomputable def k53 (P : Params) : Obj := ⟨(.type SL.s7174869446012820540x8),none,(.func (fd [4] (u [95,105,110,100,101,120]) (u [95,105,110,100,101,120]) 3 .none .none .none (.str (u [105,111]) 286) none (.ref 52) .none 0)),⟨[]⟩⟩
noncomputable def k79 (P : Params) : Obj := ⟨(.type SL.s5856160107412720595x4),none,(.fields ⟨[(.str (u [95,95,110,101,119,95,95]) 340),(.str (u [73,79,66,97,115,101,46,95,95,110,101,119,95,95]) 341),(.str (u [47,99,108,97,105,109,47,99,117,116,46,112,121]) 342),(.int (23) 0),(.int (1) 0),(.int (1) 0),(.int (0) 0),(.int (15) 0),(.ref 74),(.bool true),(.int (273) 0),(.ref 75),.none,(.ref 76),(.ref 77),(.ref 78),(.int (346) 0),(.int (23) 0),(.str (u [47,99,108,97,105,109,47,99,117,116,46,112,121]) 347)]⟩),⟨[]⟩⟩
noncomputable def k80 (P : Params) : Obj := ⟨(.type SL.s7174869446012820540x8),none,(.func (fd [6,1] (u [95,95,110,101,119,95,95]) (u [73,79,66,97,115,101,46,95,95,110,101,119,95,95]) 3 .none .none .none (.str (u [105,111]) 286) none (.ref 79) .none 0)),⟨[]⟩⟩
noncomputable def k82 (P : Params) : Obj := ⟨(.type SL.s14018661285674007319x4),none,(.dict ⟨[d P (u [95,95,109,111,100,117,108,101,95,95]) 333 (.str (u [105,111]) 338),d P (u [95,95,102,105,114,115,116,108,105,110,101,110,111,95,95]) 337 (.int (20) 336),d P (u [95,95,110,101,119,95,95]) 348 (.ref 84),d P (u [95,95,115,116,97,116,105,99,95,97,116,116,114,105,98,117,116,101,115,95,95]) 349 (.ref 81),d P (u [95,95,100,105,99,116,95,95]) 352 (.ref 85),d P (u [95,95,119,101,97,107,114,101,102,95,95]) 354 (.ref 86),d P (u [95,95,100,111,99,95,95]) 355 .none]⟩ 4),⟨[]⟩⟩
noncomputable def k83 (P : Params) : Obj := ⟨(.type SL.s17162191345867700912x4),none,(.cls ⟨(u [73,79,66,97,115,101]),[(.type SL.s2742458400755230247x6)],[(.ref 83),(.type SL.s2742458400755230247x6)],82,(u [73,79,66,97,115,101]),true,[],[(.ref 98),(.ref 110)],false,none,false⟩),⟨[none,none,(some (.str (u [73,79,66,97,115,101]) 326)),(some (.str (u [73,79,66,97,115,101]) 334)),(some .none),(some (.bool true))]⟩⟩
noncomputable def k84 (P : Params) : Obj := ⟨(.type SL.s16656946322747308186x12),none,(.fields ⟨[(.ref 80)]⟩),⟨[]⟩⟩
noncomputable def k109 (P : Params) : Obj := ⟨(.type SL.s14018661285674007319x4),none,(.dict ⟨[d P (u [95,95,109,111,100,117,108,101,95,95]) 383 (.str (u [105,111]) 388),d P (u [95,95,102,105,114,115,116,108,105,110,101,110,111,95,95]) 387 (.int (29) 386),d P (u [95,95,115,116,97,116,105,99,95,97,116,116,114,105,98,117,116,101,115,95,95]) 390 (.ref 108),d P (u [95,95,100,111,99,95,95]) 391 .none]⟩ 2),⟨[]⟩⟩
noncomputable def k110 (P : Params) : Obj := ⟨(.type SL.s17162191345867700912x4),none,(.cls ⟨(u [84,101,120,116,73,79,66,97,115,101]),[(.ref 83)],[(.ref 110),(.ref 83),(.type SL.s2742458400755230247x6)],109,(u [84,101,120,116,73,79,66,97,115,101]),true,[],[(.ref 587)],false,none,false⟩),⟨[(some (.ref 101)),none,(some (.str (u [84,101,120,116,73,79,66,97,115,101]) 376)),(some (.str (u [84,101,120,116,73,79,66,97,115,101]) 384)),(some .none),(some (.bool true))]⟩⟩
noncomputable def k340 (P : Params) : Obj := ⟨(.type SL.s17162191345867700912x4),none,(.cls ⟨(u [66,121,116,101,115,73,79]),[(.ref 98)],[(.ref 340),(.ref 98),(.ref 83),(.type SL.s2742458400755230247x6)],339,(u [66,121,116,101,115,73,79]),true,[],[],false,none,false⟩),⟨[(some (.ref 113)),none,(some (.str (u [66,121,116,101,115,73,79]) 394)),(some (.str (u [66,121,116,101,115,73,79]) 402)),(some .none),(some (.bool true))]⟩⟩
noncomputable def k350 (P : Params) : Obj := ⟨(.type SL.s2766695959194262286x5),none,(.seq ⟨[(.str (u []) 670),(.str (u [10]) 671)]⟩ 0),⟨[]⟩⟩
noncomputable def k356 (P : Params) : Obj := ⟨(.type SL.s5856160107412720595x4),none,(.fields ⟨[(.str (u [95,95,105,110,105,116,95,95]) 672),(.str (u [83,116,114,105,110,103,73,79,46,95,95,105,110,105,116,95,95]) 673),(.str (u [47,99,108,97,105,109,47,99,117,116,46,112,121]) 674),(.int (204) 0),(.int (3) 0),(.int (0) 0),(.int (0) 0),(.int (3) 0),(.ref 351),(.bool true),(.int (273) 0),(.ref 352),.none,(.ref 353),(.ref 354),(.ref 355),(.int (678) 0),(.int (204) 0),(.str (u [47,99,108,97,105,109,47,99,117,116,46,112,121]) 679)]⟩),⟨[]⟩⟩
noncomputable def k357 (P : Params) : Obj := ⟨(.type SL.s7174869446012820540x8),none,(.func (fd [10,1] (u [95,95,105,110,105,116,95,95]) (u [83,116,114,105,110,103,73,79,46,95,95,105,110,105,116,95,95]) 3 (.ref 350) .none .none (.str (u [105,111]) 286) none (.ref 356) .none 0)),⟨[]⟩⟩
noncomputable def k363 (P : Params) : Obj := ⟨(.type SL.s5856160107412720595x4),none,(.fields ⟨[(.str (u [95,95,116,114,97,110,115,108,97,116,101,100]) 681),(.str (u [83,116,114,105,110,103,73,79,46,95,95,116,114,97,110,115,108,97,116,101,100]) 682),(.str (u [47,99,108,97,105,109,47,99,117,116,46,112,121]) 683),(.int (217) 0),(.int (2) 0),(.int (0) 0),(.int (0) 0),(.int (3) 0),(.ref 358),(.bool true),(.int (273) 0),(.ref 359),.none,(.ref 360),(.ref 361),(.ref 362),(.int (687) 0),(.int (217) 0),(.str (u [47,99,108,97,105,109,47,99,117,116,46,112,121]) 688)]⟩),⟨[]⟩⟩
noncomputable def k364 (P : Params) : Obj := ⟨(.type SL.s7174869446012820540x8),none,(.func (fd [10,2] (u [95,95,116,114,97,110,115,108,97,116,101,100]) (u [83,116,114,105,110,103,73,79,46,95,95,116,114,97,110,115,108,97,116,101,100]) 3 .none .none .none (.str (u [105,111]) 286) none (.ref 363) .none 0)),⟨[]⟩⟩
noncomputable def k370 (P : Params) : Obj := ⟨(.type SL.s5856160107412720595x4),none,(.fields ⟨[(.str (u [95,95,99,104,101,99,107]) 690),(.str (u [83,116,114,105,110,103,73,79,46,95,95,99,104,101,99,107]) 691),(.str (u [47,99,108,97,105,109,47,99,117,116,46,112,121]) 692),(.int (225) 0),(.int (1) 0),(.int (0) 0),(.int (0) 0),(.int (3) 0),(.ref 365),(.bool true),(.int (273) 0),(.ref 366),.none,(.ref 367),(.ref 368),(.ref 369),(.int (694) 0),(.int (225) 0),(.str (u [47,99,108,97,105,109,47,99,117,116,46,112,121]) 695)]⟩),⟨[]⟩⟩
noncomputable def k371 (P : Params) : Obj := ⟨(.type SL.s7174869446012820540x8),none,(.func (fd [10,3] (u [95,95,99,104,101,99,107]) (u [83,116,114,105,110,103,73,79,46,95,95,99,104,101,99,107]) 3 .none .none .none (.str (u [105,111]) 286) none (.ref 370) .none 0)),⟨[]⟩⟩
noncomputable def k526 (P : Params) : Obj := ⟨(.type SL.s2766695959194262286x5),none,(.seq ⟨[(.int (-1) 863)]⟩ 0),⟨[]⟩⟩
noncomputable def k532 (P : Params) : Obj := ⟨(.type SL.s5856160107412720595x4),none,(.fields ⟨[(.str (u [114,101,97,100]) 864),(.str (u [83,116,114,105,110,103,73,79,46,114,101,97,100]) 865),(.str (u [47,99,108,97,105,109,47,99,117,116,46,112,121]) 866),(.int (347) 0),(.int (2) 0),(.int (2) 0),(.int (0) 0),(.int (3) 0),(.ref 527),(.bool true),(.int (273) 0),(.ref 528),.none,(.ref 529),(.ref 530),(.ref 531),(.int (871) 0),(.int (347) 0),(.str (u [47,99,108,97,105,109,47,99,117,116,46,112,121]) 872)]⟩),⟨[]⟩⟩
noncomputable def k533 (P : Params) : Obj := ⟨(.type SL.s7174869446012820540x8),none,(.func (fd [10,25] (u [114,101,97,100]) (u [83,116,114,105,110,103,73,79,46,114,101,97,100]) 3 (.ref 526) .none .none (.str (u [105,111]) 286) none (.ref 532) .none 0)),⟨[]⟩⟩
noncomputable def k586 (P : Params) : Obj := ⟨(.type SL.s14018661285674007319x4),none,(.dict ⟨[d P (u [95,95,109,111,100,117,108,101,95,95]) 663 (.str (u [95,105,111]) 668),d P (u [95,95,102,105,114,115,116,108,105,110,101,110,111,95,95]) 667 (.int (201) 666),d P (u [95,95,105,110,105,116,95,95]) 680 (.ref 357),d P (u [95,83,116,114,105,110,103,73,79,95,95,116,114,97,110,115,108,97,116,101,100]) 689 (.ref 364),d P (u [95,83,116,114,105,110,103,73,79,95,95,99,104,101,99,107]) 696 (.ref 371),d P (u [95,83,116,114,105,110,103,73,79,95,95,99,104,101,99,107,95,100,111,116]) 703 (.ref 378),d P (u [95,83,116,114,105,110,103,73,79,95,95,108,105,110,101]) 718 (.ref 385),d P (u [99,108,111,115,101,100]) 726 (.ref 393),d P (u [108,105,110,101,95,98,117,102,102,101,114,105,110,103]) 734 (.ref 401),d P (u [110,101,119,108,105,110,101,115]) 742 (.ref 409),d P (u [101,110,99,111,100,105,110,103]) 750 (.ref 417),d P (u [101,114,114,111,114,115]) 758 (.ref 425),d P (u [99,108,111,115,101]) 765 (.ref 432),d P (u [95,95,101,110,116,101,114,95,95]) 772 (.ref 439),d P (u [95,95,101,120,105,116,95,95]) 780 (.ref 446),d P (u [114,101,97,100,97,98,108,101]) 787 (.ref 453),d P (u [119,114,105,116,97,98,108,101]) 794 (.ref 460),d P (u [115,101,101,107,97,98,108,101]) 801 (.ref 467),d P (u [105,115,97,116,116,121]) 808 (.ref 474),d P (u [102,108,117,115,104]) 815 (.ref 481),d P (u [102,105,108,101,110,111]) 822 (.ref 488),d P (u [100,101,116,97,99,104]) 829 (.ref 495),d P (u [103,101,116,118,97,108,117,101]) 836 (.ref 502),d P (u [116,101,108,108]) 843 (.ref 509),d P (u [115,101,101,107]) 853 (.ref 517),d P (u [116,114,117,110,99,97,116,101]) 861 (.ref 525),d P (u [114,101,97,100]) 873 (.ref 533),d P (u [114,101,97,100,108,105,110,101]) 883 (.ref 541),d P (u [114,101,97,100,108,105,110,101,115]) 893 (.ref 549),d P (u [95,95,105,116,101,114,95,95]) 900 (.ref 556),d P (u [95,95,110,101,120,116,95,95]) 908 (.ref 563),d P (u [119,114,105,116,101]) 920 (.ref 570),d P (u [119,114,105,116,101,108,105,110,101,115]) 928 (.ref 577),d P (u [95,95,114,101,112,114,95,95]) 935 (.ref 584),d P (u [95,95,115,116,97,116,105,99,95,97,116,116,114,105,98,117,116,101,115,95,95]) 939 (.ref 585),d P (u [95,95,100,111,99,95,95]) 940 .none]⟩ 2),⟨[]⟩⟩
noncomputable def k587 (P : Params) : Obj := ⟨(.type SL.s17162191345867700912x4),none,(.cls ⟨(u [83,116,114,105,110,103,73,79]),[(.ref 110)],[(.ref 587),(.ref 110),(.ref 83),(.type SL.s2742458400755230247x6)],586,(u [83,116,114,105,110,103,73,79]),true,[],[],false,none,false⟩),⟨[(some (.ref 343)),none,(some (.str (u [83,116,114,105,110,103,73,79]) 656)),(some (.str (u [83,116,114,105,110,103,73,79]) 664)),(some .none),(some (.bool true))]⟩⟩
noncomputable def k639 (P : Params) : Obj := ⟨(.type SL.s2766695959194262286x5),none,(.seq ⟨[.none,.none,(.bool false),(.bool false)]⟩ 0),⟨[]⟩⟩
noncomputable def k645 (P : Params) : Obj := ⟨(.type SL.s5856160107412720595x4),none,(.fields ⟨[(.str (u [95,95,105,110,105,116,95,95]) 1015),(.str (u [115,104,108,101,120,46,95,95,105,110,105,116,95,95]) 1016),(.str (u [47,99,108,97,105,109,47,99,117,116,46,112,121]) 1017),(.int (472) 0),(.int (5) 0),(.int (0) 0),(.int (0) 0),(.int (3) 0),(.ref 640),(.bool true),(.int (273) 0),(.ref 641),.none,(.ref 642),(.ref 643),(.ref 644),(.int (1024) 0),(.int (472) 0),(.str (u [47,99,108,97,105,109,47,99,117,116,46,112,121]) 1025)]⟩),⟨[]⟩⟩
noncomputable def k646 (P : Params) : Obj := ⟨(.type SL.s7174869446012820540x8),none,(.func (fd [19,0] (u [95,95,105,110,105,116,95,95]) (u [115,104,108,101,120,46,95,95,105,110,105,116,95,95]) 3 (.ref 639) .none .none (.str (u [99,112,121,51,49,51,46,115,104,108,101,120]) 1001) none (.ref 645) .none 0)),⟨[]⟩⟩
noncomputable def k652 (P : Params) : Obj := ⟨(.type SL.s5856160107412720595x4),none,(.fields ⟨[(.str (u [112,117,110,99,116,117,97,116,105,111,110,95,99,104,97,114,115]) 1027),(.str (u [115,104,108,101,120,46,112,117,110,99,116,117,97,116,105,111,110,95,99,104,97,114,115]) 1028),(.str (u [47,99,108,97,105,109,47,99,117,116,46,112,121]) 1029),(.int (513) 0),(.int (1) 0),(.int (0) 0),(.int (0) 0),(.int (3) 0),(.ref 647),(.bool true),(.int (273) 0),(.ref 648),.none,(.ref 649),(.ref 650),(.ref 651),(.int (1031) 0),(.int (513) 0),(.str (u [47,99,108,97,105,109,47,99,117,116,46,112,121]) 1032)]⟩),⟨[]⟩⟩
noncomputable def k653 (P : Params) : Obj := ⟨(.type SL.s7174869446012820540x8),none,(.func (fd [19,1] (u [112,117,110,99,116,117,97,116,105,111,110,95,99,104,97,114,115]) (u [115,104,108,101,120,46,112,117,110,99,116,117,97,116,105,111,110,95,99,104,97,114,115]) 3 .none .none .none (.str (u [99,112,121,51,49,51,46,115,104,108,101,120]) 1001) none (.ref 652) .none 0)),⟨[]⟩⟩
noncomputable def k654 (P : Params) : Obj := ⟨(.type SL.s8101838861749082086x8),none,(.fields ⟨[(.ref 653),.none,.none,.none,(.str (u [112,117,110,99,116,117,97,116,105,111,110,95,99,104,97,114,115]) 1034),(.bool false)]⟩),⟨[]⟩⟩
noncomputable def k682 (P : Params) : Obj := ⟨(.type SL.s5856160107412720595x4),none,(.fields ⟨[(.str (u [103,101,116,95,116,111,107,101,110]) 1059),(.str (u [115,104,108,101,120,46,103,101,116,95,116,111,107,101,110]) 1060),(.str (u [47,99,108,97,105,109,47,99,117,116,46,112,121]) 1061),(.int (540) 0),(.int (1) 0),(.int (0) 0),(.int (0) 0),(.int (3) 0),(.ref 677),(.bool true),(.int (273) 0),(.ref 678),.none,(.ref 679),(.ref 680),(.ref 681),(.int (1068) 0),(.int (540) 0),(.str (u [47,99,108,97,105,109,47,99,117,116,46,112,121]) 1069)]⟩),⟨[]⟩⟩
noncomputable def k683 (P : Params) : Obj := ⟨(.type SL.s7174869446012820540x8),none,(.func (fd [19,5] (u [103,101,116,95,116,111,107,101,110]) (u [115,104,108,101,120,46,103,101,116,95,116,111,107,101,110]) 3 .none .none .none (.str (u [99,112,121,51,49,51,46,115,104,108,101,120]) 1001) none (.ref 682) .none 0)),⟨[]⟩⟩
noncomputable def k689 (P : Params) : Obj := ⟨(.type SL.s5856160107412720595x4),none,(.fields ⟨[(.str (u [114,101,97,100,95,116,111,107,101,110]) 1071),(.str (u [115,104,108,101,120,46,114,101,97,100,95,116,111,107,101,110]) 1072),(.str (u [47,99,108,97,105,109,47,99,117,116,46,112,121]) 1073),(.int (567) 0),(.int (1) 0),(.int (0) 0),(.int (0) 0),(.int (3) 0),(.ref 684),(.bool true),(.int (273) 0),(.ref 685),.none,(.ref 686),(.ref 687),(.ref 688),(.int (1079) 0),(.int (567) 0),(.str (u [47,99,108,97,105,109,47,99,117,116,46,112,121]) 1080)]⟩),⟨[]⟩⟩
noncomputable def k690 (P : Params) : Obj := ⟨(.type SL.s7174869446012820540x8),none,(.func (fd [19,6] (u [114,101,97,100,95,116,111,107,101,110]) (u [115,104,108,101,120,46,114,101,97,100,95,116,111,107,101,110]) 3 .none .none .none (.str (u [99,112,121,51,49,51,46,115,104,108,101,120]) 1001) none (.ref 689) .none 0)),⟨[]⟩⟩
noncomputable def k721 (P : Params) : Obj := ⟨(.type SL.s14018661285674007319x4),none,(.dict ⟨[d P (u [95,95,109,111,100,117,108,101,95,95]) 1010 (.str (u [99,112,121,51,49,51,46,115,104,108,101,120]) 1001),d P (u [95,95,102,105,114,115,116,108,105,110,101,110,111,95,95]) 1014 (.int (470) 1013),d P (u [95,95,105,110,105,116,95,95]) 1026 (.ref 646),d P (u [112,117,110,99,116,117,97,116,105,111,110,95,99,104,97,114,115]) 1034 (.ref 654),d P (u [112,117,115,104,95,116,111,107,101,110]) 1042 (.ref 661),d P (u [112,117,115,104,95,115,111,117,114,99,101]) 1051 (.ref 669),d P (u [112,111,112,95,115,111,117,114,99,101]) 1058 (.ref 676),d P (u [103,101,116,95,116,111,107,101,110]) 1070 (.ref 683),d P (u [114,101,97,100,95,116,111,107,101,110]) 1081 (.ref 690),d P (u [115,111,117,114,99,101,104,111,111,107]) 1089 (.ref 697),d P (u [101,114,114,111,114,95,108,101,97,100,101,114]) 1098 (.ref 705),d P (u [95,95,105,116,101,114,95,95]) 1105 (.ref 712),d P (u [95,95,110,101,120,116,95,95]) 1113 (.ref 719),d P (u [95,95,115,116,97,116,105,99,95,97,116,116,114,105,98,117,116,101,115,95,95]) 1134 (.ref 720),d P (u [95,95,100,105,99,116,95,95]) 1136 (.ref 723),d P (u [95,95,119,101,97,107,114,101,102,95,95]) 1138 (.ref 724),d P (u [95,95,100,111,99,95,95]) 1139 .none]⟩ 4),⟨[]⟩⟩
noncomputable def k722 (P : Params) : Obj := ⟨(.type SL.s17162191345867700912x4),none,(.cls ⟨(u [115,104,108,101,120]),[(.type SL.s2742458400755230247x6)],[(.ref 722),(.type SL.s2742458400755230247x6)],721,(u [115,104,108,101,120]),true,[],[],false,none,false⟩),⟨[none,none,(some (.str (u [115,104,108,101,120]) 1003)),(some (.str (u [115,104,108,101,120]) 1011)),(some (.builtin SL.s11443829558043349243x14)),(some (.bool true))]⟩⟩
noncomputable def k728 (P : Params) : Obj := ⟨.none,none,(.fields ⟨[]⟩),⟨[]⟩⟩
noncomputable def k732 (P : Params) : Obj := ⟨(.type SL.s5856160107412720595x4),none,(.fields ⟨[(.str (u [99,109,112,95,116,111,95,107,101,121]) 1144),(.str (u [99,109,112,95,116,111,95,107,101,121]) 1145),(.str (u [47,99,108,97,105,109,47,99,117,116,46,112,121]) 1146),(.int (723) 0),(.int (1) 0),(.int (0) 0),(.int (0) 0),(.int (3) 0),(.ref 727),(.bool true),(.int (273) 0),(.ref 728),.none,(.ref 729),(.ref 730),(.ref 731),(.int (1150) 0),(.int (723) 0),(.str (u [47,99,108,97,105,109,47,99,117,116,46,112,121]) 1151)]⟩),⟨[]⟩⟩
noncomputable def k733 (P : Params) : Obj := ⟨(.type SL.s7174869446012820540x8),none,(.func (fd [21] (u [99,109,112,95,116,111,95,107,101,121]) (u [99,109,112,95,116,111,95,107,101,121]) 3 .none .none .none (.str (u [99,112,121,51,49,51,46,102,117,110,99,116,111,111,108,115]) 1142) none (.ref 732) .none 0)),⟨[]⟩⟩
noncomputable def k734 (P : Params) : Obj := ⟨(.type SL.s2742458400755230247x6),none,.plain,⟨[]⟩⟩
noncomputable def k735 (P : Params) : Obj := ⟨(.type SL.s2766695959194262286x5),none,(.seq ⟨[(.ref 734)]⟩ 0),⟨[]⟩⟩
noncomputable def k741 (P : Params) : Obj := ⟨(.type SL.s5856160107412720595x4),none,(.fields ⟨[(.str (u [114,101,100,117,99,101]) 1154),(.str (u [114,101,100,117,99,101]) 1155),(.str (u [47,99,108,97,105,109,47,99,117,116,46,112,121]) 1156),(.int (749) 0),(.int (3) 0),(.int (0) 0),(.int (0) 0),(.int (3) 0),(.ref 736),(.bool true),(.int (273) 0),(.ref 737),.none,(.ref 738),(.ref 739),(.ref 740),(.int (1163) 0),(.int (749) 0),(.str (u [47,99,108,97,105,109,47,99,117,116,46,112,121]) 1164)]⟩),⟨[]⟩⟩
noncomputable def k742 (P : Params) : Obj := ⟨(.type SL.s7174869446012820540x8),none,(.func (fd [23] (u [114,101,100,117,99,101]) (u [114,101,100,117,99,101]) 3 (.ref 735) .none .none (.str (u [99,112,121,51,49,51,46,102,117,110,99,116,111,111,108,115]) 1142) none (.ref 741) .none 0)),⟨[]⟩⟩
noncomputable def k748 (P : Params) : Obj := ⟨(.type SL.s5856160107412720595x4),none,(.fields ⟨[(.str (u [95,115,116,114,99,111,108,108]) 1168),(.str (u [95,115,116,114,99,111,108,108]) 1169),(.str (u [47,99,108,97,105,109,47,99,117,116,46,112,121]) 1170),(.int (762) 0),(.int (2) 0),(.int (0) 0),(.int (0) 0),(.int (3) 0),(.ref 743),(.bool true),(.int (273) 0),(.ref 744),.none,(.ref 745),(.ref 746),(.ref 747),(.int (1173) 0),(.int (762) 0),(.str (u [47,99,108,97,105,109,47,99,117,116,46,112,121]) 1174)]⟩),⟨[]⟩⟩
noncomputable def k749 (P : Params) : Obj := ⟨(.type SL.s7174869446012820540x8),none,(.func (fd [25] (u [95,115,116,114,99,111,108,108]) (u [95,115,116,114,99,111,108,108]) 3 .none .none .none (.str (u [99,112,121,51,49,51,46,108,111,99,97,108,101]) 1166) none (.ref 748) .none 0)),⟨[]⟩⟩
noncomputable def k755 (P : Params) : Obj := ⟨(.type SL.s5856160107412720595x4),none,(.fields ⟨[(.str (u [95,108,97,119,95,109,97,114,107]) 1178),(.str (u [95,108,97,119,95,109,97,114,107]) 1179),(.str (u [47,99,108,97,105,109,47,99,117,116,46,112,121]) 1180),(.int (765) 0),(.int (1) 0),(.int (0) 0),(.int (0) 0),(.int (3) 0),(.ref 750),(.bool true),(.int (273) 0),(.ref 751),.none,(.ref 752),(.ref 753),(.ref 754),(.int (1182) 0),(.int (765) 0),(.str (u [47,99,108,97,105,109,47,99,117,116,46,112,121]) 1183)]⟩),⟨[]⟩⟩
noncomputable def k756 (P : Params) : Obj := ⟨(.type SL.s7174869446012820540x8),none,(.func (fd [27] (u [95,108,97,119,95,109,97,114,107]) (u [95,108,97,119,95,109,97,114,107]) 3 .none .none .none (.str (u [108,97,119,95,105,107,48,49,57,56,95,48,49]) 1176) none (.ref 755) .none 0)),⟨[]⟩⟩
noncomputable def k762 (P : Params) : Obj := ⟨(.type SL.s5856160107412720595x4),none,(.fields ⟨[(.str (u [95,108,97,119,95,115,119,97,112,112,101,100]) 1185),(.str (u [95,108,97,119,95,115,119,97,112,112,101,100]) 1186),(.str (u [47,99,108,97,105,109,47,99,117,116,46,112,121]) 1187),(.int (767) 0),(.int (2) 0),(.int (0) 0),(.int (0) 0),(.int (3) 0),(.ref 757),(.bool true),(.int (273) 0),(.ref 758),.none,(.ref 759),(.ref 760),(.ref 761),(.int (1191) 0),(.int (767) 0),(.str (u [47,99,108,97,105,109,47,99,117,116,46,112,121]) 1192)]⟩),⟨[]⟩⟩
noncomputable def k763 (P : Params) : Obj := ⟨(.type SL.s7174869446012820540x8),none,(.func (fd [28] (u [95,108,97,119,95,115,119,97,112,112,101,100]) (u [95,108,97,119,95,115,119,97,112,112,101,100]) 3 .none .none .none (.str (u [108,97,119,95,105,107,48,49,57,56,95,48,49]) 1176) none (.ref 762) .none 0)),⟨[]⟩⟩
noncomputable def k769 (P : Params) : Obj := ⟨(.type SL.s5856160107412720595x4),none,(.fields ⟨[(.str (u [95,108,97,119,95,112,97,115,115,101,100]) 1194),(.str (u [95,108,97,119,95,112,97,115,115,101,100]) 1195),(.str (u [47,99,108,97,105,109,47,99,117,116,46,112,121]) 1196),(.int (772) 0),(.int (2) 0),(.int (0) 0),(.int (0) 0),(.int (3) 0),(.ref 764),(.bool true),(.int (273) 0),(.ref 765),.none,(.ref 766),(.ref 767),(.ref 768),(.int (1202) 0),(.int (772) 0),(.str (u [47,99,108,97,105,109,47,99,117,116,46,112,121]) 1203)]⟩),⟨[]⟩⟩
noncomputable def k770 (P : Params) : Obj := ⟨(.type SL.s7174869446012820540x8),none,(.func (fd [29] (u [95,108,97,119,95,112,97,115,115,101,100]) (u [95,108,97,119,95,112,97,115,115,101,100]) 3 .none .none .none (.str (u [108,97,119,95,105,107,48,49,57,56,95,48,49]) 1176) none (.ref 769) .none 0)),⟨[]⟩⟩
noncomputable def k774 (P : Params) : Obj := ⟨(.type SL.s5856160107412720595x4),none,(.fields ⟨[(.str (u [95,108,97,119,95,119,97,121]) 1205),(.str (u [95,108,97,119,95,119,97,121]) 1206),(.str (u [47,99,108,97,105,109,47,99,117,116,46,112,121]) 1207),(.int (778) 0),(.int (2) 0),(.int (0) 0),(.int (0) 0),(.int (3) 0),(.ref 771),(.bool true),(.int (273) 0),(.ref 772),.none,.none,.none,(.ref 773),(.int (1208) 0),(.int (778) 0),(.str (u [47,99,108,97,105,109,47,99,117,116,46,112,121]) 1209)]⟩),⟨[]⟩⟩
noncomputable def k775 (P : Params) : Obj := ⟨(.type SL.s7174869446012820540x8),none,(.func (fd [30] (u [95,108,97,119,95,119,97,121]) (u [95,108,97,119,95,119,97,121]) 3 .none .none .none (.str (u [108,97,119,95,105,107,48,49,57,56,95,48,49]) 1176) none (.ref 774) .none 0)),⟨[]⟩⟩
noncomputable def k781 (P : Params) : Obj := ⟨(.type SL.s5856160107412720595x4),none,(.fields ⟨[(.str (u [95,108,97,119,95,116,111,107,101,110]) 1211),(.str (u [95,108,97,119,95,116,111,107,101,110]) 1212),(.str (u [47,99,108,97,105,109,47,99,117,116,46,112,121]) 1213),(.int (786) 0),(.int (1) 0),(.int (0) 0),(.int (0) 0),(.int (3) 0),(.ref 776),(.bool true),(.int (273) 0),(.ref 777),.none,(.ref 778),(.ref 779),(.ref 780),(.int (1216) 0),(.int (786) 0),(.str (u [47,99,108,97,105,109,47,99,117,116,46,112,121]) 1217)]⟩),⟨[]⟩⟩
noncomputable def k782 (P : Params) : Obj := ⟨(.type SL.s7174869446012820540x8),none,(.func (fd [31] (u [95,108,97,119,95,116,111,107,101,110]) (u [95,108,97,119,95,116,111,107,101,110]) 3 .none .none .none (.str (u [108,97,119,95,105,107,48,49,57,56,95,48,49]) 1176) none (.ref 781) .none 0)),⟨[]⟩⟩
noncomputable def k786 (P : Params) : Obj := ⟨(.type SL.s5856160107412720595x4),none,(.fields ⟨[(.str (u [108,97,119]) 1219),(.str (u [108,97,119]) 1220),(.str (u [47,99,108,97,105,109,47,99,117,116,46,112,121]) 1221),(.int (793) 0),(.int (1) 0),(.int (0) 0),(.int (0) 0),(.int (3) 0),(.ref 783),(.bool true),(.int (273) 0),(.ref 784),.none,.none,.none,(.ref 785),(.int (1222) 0),(.int (793) 0),(.str (u [47,99,108,97,105,109,47,99,117,116,46,112,121]) 1223)]⟩),⟨[]⟩⟩
noncomputable def k787 (P : Params) : Obj := ⟨(.type SL.s7174869446012820540x8),none,(.func (fd [32] (u [108,97,119]) (u [108,97,119]) 3 .none .none .none (.str (u [108,97,119,95,105,107,48,49,57,56,95,48,49]) 1176) none (.ref 786) .none 0)),⟨[]⟩⟩
noncomputable def kT (P : Params) : TT := (.br 652 (.br 350 (.br 80 (.br 4 (.br 2 (.leaf 0 (k0 P)) (.br 3 (.leaf 2 (k2 P)) (.leaf 3 (k3 P)))) (.br 53 (.br 52 (.leaf 4 (k4 P)) (.leaf 52 (k52 P))) (.br 79 (.leaf 53 (k53 P)) (.leaf 79 (k79 P))))) (.br 84 (.br 82 (.leaf 80 (k80 P)) (.br 83 (.leaf 82 (k82 P)) (.leaf 83 (k83 P)))) (.br 110 (.br 109 (.leaf 84 (k84 P)) (.leaf 109 (k109 P))) (.br 340 (.leaf 110 (k110 P)) (.leaf 340 (k340 P)))))) (.br 526 (.br 363 (.br 356 (.leaf 350 (k350 P)) (.br 357 (.leaf 356 (k356 P)) (.leaf 357 (k357 P)))) (.br 370 (.br 364 (.leaf 363 (k363 P)) (.leaf 364 (k364 P))) (.br 371 (.leaf 370 (k370 P)) (.leaf 371 (k371 P))))) (.br 587 (.br 533 (.br 532 (.leaf 526 (k526 P)) (.leaf 532 (k532 P))) (.br 586 (.leaf 533 (k533 P)) (.leaf 586 (k586 P)))) (.br 645 (.br 639 (.leaf 587 (k587 P)) (.leaf 639 (k639 P))) (.br 646 (.leaf 645 (k645 P)) (.leaf 646 (k646 P))))))) (.br 742 (.br 721 (.br 682 (.br 653 (.leaf 652 (k652 P)) (.br 654 (.leaf 653 (k653 P)) (.leaf 654 (k654 P)))) (.br 689 (.br 683 (.leaf 682 (k682 P)) (.leaf 683 (k683 P))) (.br 690 (.leaf 689 (k689 P)) (.leaf 690 (k690 P))))) (.br 733 (.br 728 (.br 722 (.leaf 721 (k721 P)) (.leaf 722 (k722 P))) (.br 732 (.leaf 728 (k728 P)) (.leaf 732 (k732 P)))) (.br 735 (.br 734 (.leaf 733 (k733 P)) (.leaf 734 (k734 P))) (.br 741 (.leaf 735 (k735 P)) (.leaf 741 (k741 P)))))) (.br 769 (.br 755 (.br 748 (.leaf 742 (k742 P)) (.br 749 (.leaf 748 (k748 P)) (.leaf 749 (k749 P)))) (.br 762 (.br 756 (.leaf 755 (k755 P)) (.leaf 756 (k756 P))) (.br 763 (.leaf 762 (k762 P)) (.leaf 763 (k763 P))))) (.br 781 (.br 774 (.br 770 (.leaf 769 (k769 P)) (.leaf 770 (k770 P))) (.br 775 (.leaf 774 (k774 P)) (.leaf 775 (k775 P)))) (.br 786 (.br 782 (.leaf 781 (k781 P)) (.leaf 782 (k782 P))) (.br 787 (.leaf 786 (k786 P)) (.leaf 787 (k787 P))))))))
end Mine
end
section
open PySem PySem.W PyProof.Rows
namespace Mine
noncomputable def loose : List Str := [⟨⟨[100,101,113,117,101]⟩⟩,⟨⟨[95,119,97,108,108]⟩⟩,⟨⟨[95,119,104,101,110,99,101]⟩⟩,⟨⟨[95,105,110,100,101,120]⟩⟩,⟨⟨[85,110,115,117,112,112,111,114,116,101,100,79,112,101,114,97,116,105,111,110]⟩⟩,⟨⟨[73,79,66,97,115,101]⟩⟩,⟨⟨[66,117,102,102,101,114,101,100,73,79,66,97,115,101]⟩⟩,⟨⟨[84,101,120,116,73,79,66,97,115,101]⟩⟩,⟨⟨[66,121,116,101,115,73,79]⟩⟩,⟨⟨[83,116,114,105,110,103,73,79]⟩⟩,⟨⟨[95,107,105,110,100]⟩⟩,⟨⟨[95,102,115,112,97,116,104]⟩⟩,⟨⟨[95,99,104,101,99,107,95,97,114,103,95,116,121,112,101,115]⟩⟩,⟨⟨[105,115,97,98,115]⟩⟩,⟨⟨[106,111,105,110]⟩⟩,⟨⟨[100,105,114,110,97,109,101]⟩⟩,⟨⟨[115,104,108,101,120]⟩⟩,⟨⟨[99,109,112,95,116,111,95,107,101,121]⟩⟩,⟨⟨[95,105,110,105,116,105,97,108,95,109,105,115,115,105,110,103]⟩⟩,⟨⟨[114,101,100,117,99,101]⟩⟩,⟨⟨[95,115,116,114,99,111,108,108]⟩⟩,⟨⟨[95,108,97,119,95,109,97,114,107]⟩⟩,⟨⟨[95,108,97,119,95,115,119,97,112,112,101,100]⟩⟩,⟨⟨[95,108,97,119,95,112,97,115,115,101,100]⟩⟩,⟨⟨[95,108,97,119,95,119,97,121]⟩⟩,⟨⟨[95,108,97,119,95,116,111,107,101,110]⟩⟩]
noncomputable def qv : Program := view pg [32]
noncomputable abbrev seenT := PySem.W.Fast.tw4187177175401517315
noncomputable def mods : List Str := PySem.W.Fast.tw5923862056798008813 pg.main.body
noncomputable def asK : List Addr := [0,2,3,4,52,53,79,80,82,83,84,109,110,340,350,356,357,363,364,370,371,526,532,533,586,587,639,645,646,652,653,654,682,683,689,690,721,722,728,732,733,734,735,741,742,748,749,755,756,762,763,769,770,774,775,781,782,786,787]
noncomputable def K (P : Params) : Frag := (kT P).list
theorem leftT (w : World) : (endsT twF w 10144).map (fun s => (seenT qv loose mods (fun _ => true) true s,(asK.map s.heap.get?,s.heap.objs.size))) = some (openGood qv loose,((K w.params).map fun p => some p.2,788)) := by kernel_rfl
theorem asK_eq (P : Params) : asK = (K P).map (·.1) := by kernel_rfl
end Mine
end
section
open PySem PySem.W PyProof.Rows
namespace Mine
noncomputable def TT.getF (t : TT) : Nat → Option Obj := @TT.rec (fun _ => Nat → Option Obj) (fun _ => none) (fun a o i => @Bool.rec (fun _ => Option Obj) none (some o) (Nat.beq i a))
  (fun k _ _ l r i => @Bool.rec (fun _ => Option Obj) (l i) (r i) (Nat.ble k i)) t
theorem TT.getF_eq : ∀ (t : TT) (i : Nat),t.getF i = t.get i
  | .nil,_ => rfl
  | .leaf a o,i => by
    show @Bool.rec (fun _ => Option Obj) none (some o) (Nat.beq i a) = (match Nat.beq i a with | true => some o | false => none)
    cases Nat.beq i a <;> rfl
  | .br k l r,i => by
    show @Bool.rec (fun _ => Option Obj) (l.getF i) (r.getF i) (Nat.ble k i) = (match Nat.ble k i with | true => r.get i | false => l.get i)
    rw [getF_eq l,getF_eq r]
    cases Nat.ble k i <;> rfl
noncomputable def topF (P : Params) (a : Nat) : Option Obj := @Bool.rec (fun _ => Option Obj) ((kT P).getF a) none (Nat.beq a 728)
theorem topF_kT {P : Params} {a : Nat} {o : Obj} (h : topF P a = some o) : (kT P).get a = some o ∧ a ≠ 728 := by
  unfold topF at h
  rw [TT.getF_eq] at h
  cases q : Nat.beq a 728 with
  | true => rw [q] at h; cases h
  | false => rw [q] at h; exact ⟨h,fun e => by rw [e] at q; cases q⟩
noncomputable def adr (own ro : Nat → Nat) (h : Nat) : Nat := match Nat.beq (h % 3) 1 with
  | true => h / 3
  | false => match Nat.beq (h % 3) 2 with
    | true => ro (h / 3)
    | false => own (h / 3 - 1)
noncomputable def exps (own ro : Nat → Nat) : List Nat → List Nat → List Nat
  | [],acc => acc
  | h :: hs,acc => match Nat.beq h 0 with
    | true => exps own ro hs acc
    | false => exps own ro hs (adr own ro h :: acc)
noncomputable def behind (k : Nat) (f : Nat → Nat) (g : Nat → Nat) (i : Nat) : Nat := match Nat.blt i k with
  | true => f i
  | false => g (i - k)
noncomputable def simP : Scr → (Nat → Nat) → (Nat → Nat) → Prop
  | .fin hs out,own,ro => exps own ro hs [] = exps own ro hs [] ∧ out.res = out.res ∧ out.objs.map (fun x => some x.2) = out.objs.map (fun x => some x.2) ∧ out.ros.map (fun x => some x.2) = out.ros.map (fun x => some x.2)
  | .orc hs Sp m r rest,own,ro => exps own ro hs [] = exps own ro hs [] ∧ Sp.code = Sp.code ∧ (none : Option Value) = none ∧ ((none,none,none) : Option Value × Option Value × Option Value) = (none,none,none) ∧ Sp.shape = Sp.shape ∧
      Sp.pre.map (fun x => some x.2) = Sp.pre.map (fun x => some x.2) ∧ Sp.upd.map (fun x => some x.2.1) = Sp.upd.map (fun x => some x.2.1) ∧ (m,r) = (m,r) ∧
      ∀ (α : Nat → Nat) (tk : Tok) (n' τ' : Nat),(true,true,true) = (true,true,true) ∧ simP (rest α tk n' τ') (behind m own fun i => behind Sp.newT.length (fun i => α (Sp.newR.length + i)) (fun i => n' + i) i) (behind r ro α)
  | .finB hs out z,own,ro => exps own ro hs [] = exps own ro hs [] ∧ out.res = out.res ∧ out.objs.map (fun x => some x.2) = out.objs.map (fun x => some x.2) ∧ out.ros.map (fun x => some x.2) = out.ros.map (fun x => some x.2) ∧ z = z
  | .orcB hs Sp z c al m r rest,own,ro => exps own ro hs [] = exps own ro hs [] ∧ Sp.code = Sp.code ∧ (none : Option Value) = none ∧ ((none,none,none) : Option Value × Option Value × Option Value) = (none,none,none) ∧ Sp.shape = Sp.shape ∧
      Sp.pre.map (fun x => some x.2) = Sp.pre.map (fun x => some x.2) ∧ Sp.upd.map (fun x => some x.2.1) = Sp.upd.map (fun x => some x.2.1) ∧ (m,r) = (m,r) ∧ z = z ∧
      ∀ (α : Nat → Nat) (tk : Tok) (τ' : Nat),(true,true,true) = (true,true,true) ∧ simP (rest (pin al α) tk τ') (behind m own fun i => behind Sp.newT.length (fun i => pin al α (Sp.newR.length + i)) (fun i => z + c + i) i) (behind r ro (pin al α))
theorem simP_true : ∀ (S : Scr) (own ro : Nat → Nat),simP S own ro
  | .fin _ _,_,_ => ⟨rfl,rfl,rfl,rfl⟩
  | .orc _ _ _ _ rest,_,_ => ⟨rfl,rfl,rfl,rfl,rfl,rfl,rfl,rfl,fun α tk n' τ' => ⟨rfl,simP_true (rest α tk n' τ') _ _⟩⟩
  | .finB _ _ _,_,_ => ⟨rfl,rfl,rfl,rfl,rfl⟩
  | .orcB _ _ _ _ al _ _ rest,_,_ => ⟨rfl,rfl,rfl,rfl,rfl,rfl,rfl,rfl,rfl,fun α tk τ' => ⟨rfl,simP_true (rest (pin al α) tk τ') _ _⟩⟩
noncomputable def tabOf : List Ent → Nat → LT → LT
  | [],_,T => T
  | e :: l,i,T => tabOf l (i + 1) (T.put i e)
noncomputable def tabOk : List Ent → Nat → LT → Bool
  | [],_,_ => true
  | e :: l,i,T => ((T.put i e).get i).isSome && tabOk l (i + 1) (T.put i e)
theorem tabOf_get : ∀ (l : List Ent) (i : Nat) (T : LT),tabOk l i T = true → ∀ j e,(tabOf l i T).get j = some e → (j < i ∨ i + l.length ≤ j) ∧ T.get j = some e ∨ ∃ k,j = i + k ∧ l[k]? = some e
  | [],i,T,_,j,e,h => by
    refine .inl ⟨?_,h⟩
    simp only [List.length_nil,Nat.add_zero]
    omega
  | x :: l,i,T,ok,j,e,h => by
    unfold tabOk at ok
    obtain ⟨o1,o2⟩ := Bool.and_eq_true_iff.mp ok
    have gp := LT.get_put _ _ _ o1
    rcases tabOf_get l (i + 1) _ o2 j e h with ⟨h1,h2⟩ | ⟨k,h1,h2⟩
    · rw [gp] at h2
      split at h2
      · rename_i q
        cases h2
        exact .inr ⟨0,by omega,rfl⟩
      · rename_i q
        refine .inl ⟨?_,h2⟩
        simp only [List.length_cons]
        omega
    · exact .inr ⟨k + 1,by omega,by simpa using h2⟩
theorem Mt.start {V : HV} {s : Shared} {A₀ : Addr → Prop} (lT lR : List Ent) (ok : (tabOk lT 0 .nil && tabOk lR 0 .nil) = true) (htop : ∀ i ob,V.top i = some ob → s.heap.get? i = some ob)
    (hT : ∀ x ∈ lT,s.heap.get? x.1 = some x.2) (hR : ∀ x ∈ lR,s.heap.get? x.1 = some x.2) (hnd : (lT.map (·.1)).Nodup) (hsep : ∀ x ∈ lT,∀ y ∈ lR,x.1 ≠ y.1) (ht : ∀ x ∈ lT,∀ ob,V.top x.1 ≠ some ob)
    (hA : ∀ x ∈ lT,A₀ x.1) : Mt V s A₀ lT.length s (tabOf lR 0 .nil) (tabOf lT 0 .nil) lT.length lR.length s.heap.objs.size 0 s.toks 0 := by
  obtain ⟨o1,o2⟩ := Bool.and_eq_true_iff.mp ok
  have gT : ∀ i e,(tabOf lT 0 .nil).get i = some e → lT[i]? = some e := fun i e h => by
    rcases tabOf_get lT 0 .nil o1 i e h with ⟨_,h2⟩ | ⟨k,h1,h2⟩
    · rw [LT.get_nil] at h2; cases h2
    · rw [h1,Nat.zero_add]; exact h2
  have gR : ∀ i e,(tabOf lR 0 .nil).get i = some e → lR[i]? = some e := fun i e h => by
    rcases tabOf_get lR 0 .nil o2 i e h with ⟨_,h2⟩ | ⟨k,h1,h2⟩
    · rw [LT.get_nil] at h2; cases h2
    · rw [h1,Nat.zero_add]; exact h2
  refine ⟨rfl,rfl,htop,fun i e h => hR e (List.mem_of_getElem? (gR i e h)),fun i e h => hT e (List.mem_of_getElem? (gT i e h)),fun i j e e' h h' z => ?_,fun i j e e' h h' => hsep e (List.mem_of_getElem? (gT i e h)) e' (List.mem_of_getElem? (gR j e' h')),
    fun i e ob h => ht e (List.mem_of_getElem? (gT i e h)) ob,fun i e h => .inl (hA e (List.mem_of_getElem? (gT i e h))),fun i e h hm => ?_,fun _ _ h _ => h,(fun a ob h => ⟨ob,h⟩),Nat.le_refl _,Nat.le_refl _,rfl,rfl,rfl⟩
  · have hi := gT i e h
    have hj := gT j e' h'
    obtain ⟨li,hi⟩ := List.getElem?_eq_some_iff.mp hi
    obtain ⟨lj,hj⟩ := List.getElem?_eq_some_iff.mp hj
    have pw := List.pairwise_iff_getElem.mp hnd
    rcases Nat.lt_trichotomy i j with q | q | q
    · exact absurd (by rw [List.getElem_map,List.getElem_map,hi,hj,z]) (pw i j (by simpa using li) (by simpa using lj) q)
    · exact q
    · exact absurd (by rw [List.getElem_map,List.getElem_map,hi,hj,z]) (pw j i (by simpa using lj) (by simpa using li) q)
  · exact absurd (List.getElem?_eq_some_iff.mp (gT i e h)).1 (Nat.not_lt.mpr hm)
@[irreducible] noncomputable def SH (V : HV) (b : Bool) (f : Nat) (κ : List KF) (Γ : Ctx) (p : Pos) (t : Sem PySem.Fin) (S : Scr) (R T : LT) (m r n o τ j : Nat) (acc exp : List Nat) : Prop := simH V b f κ Γ p t S R T m r n o τ j acc exp
@[irreducible] noncomputable def SF (V : HV) (b : Bool) (f : Nat) : Ih := simF V b f
@[irreducible] noncomputable def SP (S : Scr) (own ro : Nat → Nat) : Prop := simP S own ro
theorem SH_simH {V : HV} {b : Bool} {f : Nat} {κ : List KF} {Γ : Ctx} {p : Pos} {t : Sem PySem.Fin} {S : Scr} {R T : LT} {m r n o τ j : Nat} {acc exp : List Nat} (h : SH V b f κ Γ p t S R T m r n o τ j acc exp) : simH V b f κ Γ p t S R T m r n o τ j acc exp := by
  unfold SH at h
  exact h
theorem enter {V : HV} (O : V.Ok) {Q : Result → Shared → Prop} {fuel : Nat} {Γ : Ctx} {p : Pos} {s : Shared} {S : Scr} {lT lR : List Ent}
    (run : SH V true fuel [] Γ p (V.den Γ.code) S (tabOf lR 0 .nil) (tabOf lT 0 .nil) lT.length lR.length s.heap.objs.size 0 s.toks 0 [] [])
    (ok : (tabOk lT 0 .nil && tabOk lR 0 .nil) = true) (htop : ∀ i ob,V.top i = some ob → s.heap.get? i = some ob)
    (hT : ∀ x ∈ lT,s.heap.get? x.1 = some x.2) (hR : ∀ x ∈ lR,s.heap.get? x.1 = some x.2) (hnd : (lT.map (·.1)).Nodup) (hsep : ∀ x ∈ lT,∀ y ∈ lR,x.1 ≠ y.1) (ht : ∀ x ∈ lT,∀ ob,V.top x.1 ≠ some ob)
    (hF : FinOk V (fun r s' => ∀ q,r = resF q → Q q s') s (fun a => a ∈ lT.map (·.1)) lT.length S) : wpCode (VM V) Γ Q p s := by
  rw [wpCode_iff_wp]
  have D := Mt.start (V := V) (s := s) (A₀ := fun a => a ∈ lT.map (·.1)) lT lR ok htop hT hR hnd hsep ht fun x hx => List.mem_map_of_mem hx
  have := simH_sound (Q := fun r s' => ∀ q,r = resF q → Q q s') O _ _ _ _ _ _ _ _ _ _ _ _ _ _ _ _ s (SH_simH run) D hF
  rw [O.den] at this
  refine Sem.wp_mono _ _ _ (fun fin p' s' h => ?_) (fun e p' s' h => ?_) _ _ this
  · have h : Sem.finPost (VM V) Γ (fun r s' => ∀ q,resF r = resF q → Q q s') fin p' s' := h
    exact finPost_mono (fun r s' h => h r rfl) h
  · exact h (.error e) rfl
theorem enterT {V : HV} (O : V.Ok) {Q : Result → Shared → Prop} {fuel : Nat} {Γ : Ctx} {p : Pos} {s : Shared} {S : Scr} {lT lR : List Ent}
    (run : SH V false fuel [] Γ p (V.den Γ.code) S (tabOf lR 0 .nil) (tabOf lT 0 .nil) lT.length lR.length s.heap.objs.size 0 s.toks 0 [] [])
    (ok : (tabOk lT 0 .nil && tabOk lR 0 .nil) = true) (htop : ∀ i ob,V.top i = some ob → s.heap.get? i = some ob)
    (hT : ∀ x ∈ lT,s.heap.get? x.1 = some x.2) (hR : ∀ x ∈ lR,s.heap.get? x.1 = some x.2) (hnd : (lT.map (·.1)).Nodup) (hsep : ∀ x ∈ lT,∀ y ∈ lR,x.1 ≠ y.1) (ht : ∀ x ∈ lT,∀ ob,V.top x.1 ≠ some ob)
    (hF : FinOk V (fun r s' => match r with
      | .ok (.done fl) => Q (.ok fl) s'
      | .ok (.again c) => c.quiet = true ∧ ∀ p',wpCode (VM V) (Γ.goto c) Q p' s'
      | .error e => Q (.error e) s') s (fun a => a ∈ lT.map (·.1)) lT.length S) : wpCode (VM V) Γ Q p s := by
  rw [wpCode_iff_wp]
  have D := Mt.start (V := V) (s := s) (A₀ := fun a => a ∈ lT.map (·.1)) lT lR ok htop hT hR hnd hsep ht fun x hx => List.mem_map_of_mem hx
  have := simH_sound O _ _ _ _ _ _ _ _ _ _ _ _ _ _ _ _ s (SH_simH run) D hF
  rw [O.den] at this
  refine Sem.wp_mono _ _ _ (fun fin p' s' h => ?_) (fun e p' s' h => h) _ _ this
  cases fin with
  | done fl => exact h
  | again c => exact ⟨h.1,h.2 p'⟩
noncomputable def W3 (w : World) (b1 b2 b3 : Bool) : World := ((w.withFollow "special-get-raises" b1).withFollow "comprehension-iter-twice" b2).withFollow "for-iterable-display-folded" b3
theorem W3_self (w : World) : ∃ b1 b2 b3,W3 w b1 b2 b3 = w := by
  refine ⟨w.params.followText "special-get-raises", w.params.followText "comprehension-iter-twice", w.params.followText "for-iterable-display-folded", ?_⟩
  unfold W3
  rw [World.withFollow_self,World.withFollow_self,World.withFollow_self]
noncomputable def adrs (l : List Nat) (n : Nat) (i : Nat) : Nat := match l[i]? with
  | some a => a
  | none => n + (i - l.length)
noncomputable def adr1 (l : List Nat) (i : Nat) : Nat := match l[i]? with
  | some a => a
  | none => 0
theorem runOf {V : HV} {b : Bool} {f : Nat} {Γ : Ctx} {p : Pos} {t : Sem PySem.Fin} {S : Scr} {R T : LT} {m r n τ : Nat} (own ro : Nat → Nat)
    (h : SP S own ro = SF V b f t ⟨[],Γ,p,S.hs,S.tl,R,T,m,r,n,0,τ,0,[],[]⟩) : SH V b f [] Γ p t S R T m r n 0 τ 0 [] [] := by
  unfold SP SF at h
  unfold SH
  exact simF_H (Eq.mp h (simP_true S own ro))
noncomputable def VX (w : World) (b1 b2 b3 : Bool) : HV := ⟨pg,W3 w b1 b2 b3,denT,PySem.W.ZFast.zw17772548960776305114,topF w.params⟩
theorem VX_ok (w : World) (b1 b2 b3 : Bool) : (VX w b1 b2 b3).Ok := ⟨by show denT = _; rw [← den_eq,table_eq_tree],by show PySem.W.ZFast.zw17772548960776305114 = _; rw [PySem.W.ZFast.ze17772548960776305114]⟩
end Mine
end
section
open PySem PySem.W PyProof.Rows
namespace Mine
noncomputable def i_str___add__ : String := S.litE [S.mk8 115 rfl,S.mk8 116 rfl,S.mk8 114 rfl,S.mk8 46 rfl,S.mk8 95 rfl,S.mk8 95 rfl,S.mk8 97 rfl,S.mk8 100 rfl,S.mk8 100 rfl,S.mk8 95 rfl,S.mk8 95 rfl] [115,116,114,46,95,95,97,100,100,95,95] rfl rfl
theorem i_str___add___eq : "str.__add__" = i_str___add__ := by kernel_rfl
noncomputable def i_str___ne__ : String := S.litE [S.mk8 115 rfl,S.mk8 116 rfl,S.mk8 114 rfl,S.mk8 46 rfl,S.mk8 95 rfl,S.mk8 95 rfl,S.mk8 110 rfl,S.mk8 101 rfl,S.mk8 95 rfl,S.mk8 95 rfl] [115,116,114,46,95,95,110,101,95,95] rfl rfl
theorem i_str___ne___eq : "str.__ne__" = i_str___ne__ := by kernel_rfl
noncomputable def i_str___gt__ : String := S.litE [S.mk8 115 rfl,S.mk8 116 rfl,S.mk8 114 rfl,S.mk8 46 rfl,S.mk8 95 rfl,S.mk8 95 rfl,S.mk8 103 rfl,S.mk8 116 rfl,S.mk8 95 rfl,S.mk8 95 rfl] [115,116,114,46,95,95,103,116,95,95] rfl rfl
theorem i_str___gt___eq : "str.__gt__" = i_str___gt__ := by kernel_rfl
noncomputable def i_list___add__ : String := S.litE [S.mk8 108 rfl,S.mk8 105 rfl,S.mk8 115 rfl,S.mk8 116 rfl,S.mk8 46 rfl,S.mk8 95 rfl,S.mk8 95 rfl,S.mk8 97 rfl,S.mk8 100 rfl,S.mk8 100 rfl,S.mk8 95 rfl,S.mk8 95 rfl] [108,105,115,116,46,95,95,97,100,100,95,95] rfl rfl
theorem i_list___add___eq : "list.__add__" = i_list___add__ := by kernel_rfl
noncomputable def i_list___ne__ : String := S.litE [S.mk8 108 rfl,S.mk8 105 rfl,S.mk8 115 rfl,S.mk8 116 rfl,S.mk8 46 rfl,S.mk8 95 rfl,S.mk8 95 rfl,S.mk8 110 rfl,S.mk8 101 rfl,S.mk8 95 rfl,S.mk8 95 rfl] [108,105,115,116,46,95,95,110,101,95,95] rfl rfl
theorem i_list___ne___eq : "list.__ne__" = i_list___ne__ := by kernel_rfl
noncomputable def i_int___mod__ : String := S.litE [S.mk8 105 rfl,S.mk8 110 rfl,S.mk8 116 rfl,S.mk8 46 rfl,S.mk8 95 rfl,S.mk8 95 rfl,S.mk8 109 rfl,S.mk8 111 rfl,S.mk8 100 rfl,S.mk8 95 rfl,S.mk8 95 rfl] [105,110,116,46,95,95,109,111,100,95,95] rfl rfl
theorem i_int___mod___eq : "int.__mod__" = i_int___mod__ := by kernel_rfl
noncomputable def i_int___floordiv__ : String := S.litE [S.mk8 105 rfl,S.mk8 110 rfl,S.mk8 116 rfl,S.mk8 46 rfl,S.mk8 95 rfl,S.mk8 95 rfl,S.mk8 102 rfl,S.mk8 108 rfl,S.mk8 111 rfl,S.mk8 111 rfl,S.mk8 114 rfl,S.mk8 100 rfl,S.mk8 105 rfl,S.mk8 118 rfl,S.mk8 95 rfl,S.mk8 95 rfl] [105,110,116,46,95,95,102,108,111,111,114,100,105,118,95,95] rfl rfl
theorem i_int___floordiv___eq : "int.__floordiv__" = i_int___floordiv__ := by kernel_rfl
noncomputable def i_int___ge__ : String := S.litE [S.mk8 105 rfl,S.mk8 110 rfl,S.mk8 116 rfl,S.mk8 46 rfl,S.mk8 95 rfl,S.mk8 95 rfl,S.mk8 103 rfl,S.mk8 101 rfl,S.mk8 95 rfl,S.mk8 95 rfl] [105,110,116,46,95,95,103,101,95,95] rfl rfl
theorem i_int___ge___eq : "int.__ge__" = i_int___ge__ := by kernel_rfl
noncomputable def i_int___lt__ : String := S.litE [S.mk8 105 rfl,S.mk8 110 rfl,S.mk8 116 rfl,S.mk8 46 rfl,S.mk8 95 rfl,S.mk8 95 rfl,S.mk8 108 rfl,S.mk8 116 rfl,S.mk8 95 rfl,S.mk8 95 rfl] [105,110,116,46,95,95,108,116,95,95] rfl rfl
theorem i_int___lt___eq : "int.__lt__" = i_int___lt__ := by kernel_rfl
noncomputable def i_int___add__ : String := S.litE [S.mk8 105 rfl,S.mk8 110 rfl,S.mk8 116 rfl,S.mk8 46 rfl,S.mk8 95 rfl,S.mk8 95 rfl,S.mk8 97 rfl,S.mk8 100 rfl,S.mk8 100 rfl,S.mk8 95 rfl,S.mk8 95 rfl] [105,110,116,46,95,95,97,100,100,95,95] rfl rfl
theorem i_int___add___eq : "int.__add__" = i_int___add__ := by kernel_rfl
noncomputable def i_tuple___contains__ : String := S.litE [S.mk8 116 rfl,S.mk8 117 rfl,S.mk8 112 rfl,S.mk8 108 rfl,S.mk8 101 rfl,S.mk8 46 rfl,S.mk8 95 rfl,S.mk8 95 rfl,S.mk8 99 rfl,S.mk8 111 rfl,S.mk8 110 rfl,S.mk8 116 rfl,S.mk8 97 rfl,S.mk8 105 rfl,S.mk8 110 rfl,S.mk8 115 rfl,S.mk8 95 rfl,S.mk8 95 rfl] [116,117,112,108,101,46,95,95,99,111,110,116,97,105,110,115,95,95] rfl rfl
theorem i_tuple___contains___eq : "tuple.__contains__" = i_tuple___contains__ := by kernel_rfl
noncomputable def i_str_ascii_iterator___next__ : String := S.litE [S.mk8 115 rfl,S.mk8 116 rfl,S.mk8 114 rfl,S.mk8 95 rfl,S.mk8 97 rfl,S.mk8 115 rfl,S.mk8 99 rfl,S.mk8 105 rfl,S.mk8 105 rfl,S.mk8 95 rfl,S.mk8 105 rfl,S.mk8 116 rfl,S.mk8 101 rfl,S.mk8 114 rfl,S.mk8 97 rfl,S.mk8 116 rfl,S.mk8 111 rfl,S.mk8 114 rfl,S.mk8 46 rfl,S.mk8 95 rfl,S.mk8 95 rfl,S.mk8 110 rfl,S.mk8 101 rfl,S.mk8 120 rfl,S.mk8 116 rfl,S.mk8 95 rfl,S.mk8 95 rfl] [115,116,114,95,97,115,99,105,105,95,105,116,101,114,97,116,111,114,46,95,95,110,101,120,116,95,95] rfl rfl
theorem i_str_ascii_iterator___next___eq : "str_ascii_iterator.__next__" = i_str_ascii_iterator___next__ := by kernel_rfl
noncomputable def i_range_iterator___next__ : String := S.litE [S.mk8 114 rfl,S.mk8 97 rfl,S.mk8 110 rfl,S.mk8 103 rfl,S.mk8 101 rfl,S.mk8 95 rfl,S.mk8 105 rfl,S.mk8 116 rfl,S.mk8 101 rfl,S.mk8 114 rfl,S.mk8 97 rfl,S.mk8 116 rfl,S.mk8 111 rfl,S.mk8 114 rfl,S.mk8 46 rfl,S.mk8 95 rfl,S.mk8 95 rfl,S.mk8 110 rfl,S.mk8 101 rfl,S.mk8 120 rfl,S.mk8 116 rfl,S.mk8 95 rfl,S.mk8 95 rfl] [114,97,110,103,101,95,105,116,101,114,97,116,111,114,46,95,95,110,101,120,116,95,95] rfl rfl
theorem i_range_iterator___next___eq : "range_iterator.__next__" = i_range_iterator___next__ := by kernel_rfl
end Mine
end
section
open PySem PySem.W PyProof.Rows
namespace Mine
noncomputable def spV (c : Code) (sh : List Sk) (pre : List (Nat × Ent)) (v : Tok → Value) : Spec := ⟨c,sh,pre,fun _ tk => .ok (.ret (v tk)),[],[],[],true⟩
noncomputable abbrev Same (s s' : Shared) : Prop := s'.heap = s.heap ∧ s'.gens = s.gens ∧ s'.drawn = s.drawn ∧ s'.os = s.os
noncomputable abbrev aBelow (l : List (Code × Pos)) : Around := { handled := none,depth := frameCount l,frames := none,guards := none,units := unitsOf l }
theorem below_any (c : Code) (l : List (Code × Pos)) : Ctx.Below ⟨c,none,none,l,none⟩ (aBelow l) := ⟨rfl,Nat.le_refl _,nofun,nofun,Nat.le_refl _⟩
theorem leaves_same {c : Code} {sh : List Sk} {pre : List (Nat × Ent)} {v : Tok → Value} {s s' : Shared} {q : Result} {α : Nat → Nat} {tk : Tok} (e : q = .ok (.ret (v tk))) (h : Same s s') : Leaves (spV c sh pre v) s q s' α tk :=
  ⟨e,(fun _ h => nomatch h),(fun _ _ h => nomatch h),(fun a ob g _ => by rw [h.1]; exact g),(fun _ _ h => nomatch h),(fun _ _ h => nomatch h),(fun _ _ h => absurd h (Nat.not_lt_zero _)),by rw [h.1]; exact Nat.le_refl _,h.2.1,h.2.2.1,h.2.2.2⟩
theorem valid_spV {V : HV} {c : Code} {sh : List Sk} {pre : List (Nat × Ent)} {v : Tok → Value}
    (h : ∀ (A : Around) (s : Shared),A.handled = none → (∀ x ∈ pre,s.heap.get? x.2.1 = some x.2.2) → codeAny (model V.prog V.w) A c (fun q s' => ∃ tk,q = .ok (.ret (v tk)) ∧ Same s s') s) : Valid V (spV c sh pre v) := fun hs p s _ hpre _ =>
  wpCode_mono (fun q s' x => let ⟨tk,a,b⟩ := x; ⟨fun _ => 0,tk,leaves_same a b⟩) (h (aBelow (fillAll sh hs)) s rfl hpre _ p rfl (below_any _ _))
theorem valid_gives {V : HV} {T : String} {name : Str} {id : String} {B : Builtin} {self : Value} {rest : List Value} {m : Made} {sh : List Sk} {pre : List (Nat × Ent)} {v : Tok → Value}
    (slot : Slot T name id) (hT : ∀ s : Shared,s.TypeIs self T) (entry : entryFor table id = some B) (args : argsOk id ⟨self :: rest,[]⟩) (g : Gives (B ⟨self :: rest,[]⟩) m)
    (hp : ∀ (s : Shared) (R : Value → Shared → Prop),(∀ tk s',Same s s' → R (v tk) s') → m.post R s) : Valid V (spV (.call (.builtin id) ⟨self :: rest,[]⟩) sh pre v) :=
  valid_spV fun A s _ _ => codeAny_call_builtin slot.plain entry (slot.check _ _ _ _ _ _ _ _ (hT s) args (g V.prog V.w A (fun q s' => ∃ tk,q = .ok (.ret (v tk)) ∧ Same s s') s (hp s (fun x s' => ∃ tk,(.ok (.ret x) : Result) = .ok (.ret (v tk)) ∧ Same s s') fun tk s' h => ⟨tk,rfl,h⟩)))
theorem str_ext {x y : Str} (h : x.cps = y.cps) : x = y := by cases x; cases y; exact congrArg _ h
theorem append_nil_str (x y : Str) (h : (y.length == 0) = true) : x ++ y = x := by
  have h0 : y.cps = #[] := Array.eq_empty_of_size_eq_zero (by simpa [Str.length] using h)
  show Str.append x y = x
  cases x; simp [Str.append,h0]
theorem nil_append_str (x y : Str) (h : (x.length == 0) = true) : x ++ y = y := by
  have h0 : x.cps = #[] := Array.eq_empty_of_size_eq_zero (by simpa [Str.length] using h)
  show Str.append x y = y
  cases y; simp [Str.append,h0]
noncomputable def oAdd (sh : List Sk) (x : Str) (t : Tok) (y : Str) (u : Tok) : Spec := spV (.call (.builtin i_str___add__) ⟨[.str x t,.str y u],[]⟩) sh [] fun tk => .str (x ++ y) tk
theorem vAdd {V : HV} {sh : List Sk} {x y : Str} {t u : Tok} (h : x.length + y.length ≤ sizeLine) : Valid V (oAdd sh x t y u) := by
  unfold oAdd
  rw [← i_str___add___eq]
  refine valid_gives F.slot_str_add (fun s => typeIs_str s x t) F.entry_str_add (F.args_str_add_2 _ _) (gives_str_add x y t u) fun s R hR => ?_
  cases hx : x.length == 0
  · cases hy : y.length == 0
    · exact ⟨by rw [strLen_append]; exact h,hR _ _ ⟨rfl,rfl,rfl,rfl⟩⟩
    · have := hR t s ⟨rfl,rfl,rfl,rfl⟩
      rw [append_nil_str x y hy] at this
      exact this
  · have := hR u s ⟨rfl,rfl,rfl,rfl⟩
    rw [nil_append_str x y hx] at this
    exact this
noncomputable def oEq (sh : List Sk) (x : Str) (t : Tok) (y : Str) (u : Tok) (b : Bool) : Spec := spV (.call (.builtin SL.s18434506764410088663x10) ⟨[.str x t,.str y u],[]⟩) sh [] fun _ => .bool b
theorem vEq {V : HV} {sh : List Sk} {x y : Str} {t u : Tok} {b : Bool} (h : (x == y) = b) : Valid V (oEq sh x t y u b) := by
  unfold oEq
  rw [← SL.e18434506764410088663x10]
  exact valid_gives F.slot_str_eq (fun s => typeIs_str s x t) F.entry_str_eq (F.args_str_eq_2 _ _) (gives_str_eq x y t u) fun s R hR => by
    have := hR 0 s ⟨rfl,rfl,rfl,rfl⟩
    rw [← h,← toList_beq] at this
    exact this
noncomputable def oNe (sh : List Sk) (x : Str) (t : Tok) (y : Str) (u : Tok) (b : Bool) : Spec := spV (.call (.builtin i_str___ne__) ⟨[.str x t,.str y u],[]⟩) sh [] fun _ => .bool b
theorem vNe {V : HV} {sh : List Sk} {x y : Str} {t u : Tok} {b : Bool} (h : (x != y) = b) : Valid V (oNe sh x t y u b) := by
  unfold oNe
  rw [← i_str___ne___eq]
  exact valid_gives F.slot_str_ne (fun s => typeIs_str s x t) F.entry_str_ne (F.args_str_ne_2 _ _) (gives_str_ne x y t u) fun s R hR => by
    have := hR 0 s ⟨rfl,rfl,rfl,rfl⟩
    rw [← h,← toList_bne] at this
    exact this
noncomputable def oLt (sh : List Sk) (x : Str) (t : Tok) (y : Str) (u : Tok) (b : Bool) : Spec := spV (.call (.builtin SL.s4994404353489887393x10) ⟨[.str x t,.str y u],[]⟩) sh [] fun _ => .bool b
theorem vLt {V : HV} {sh : List Sk} {x y : Str} {t u : Tok} {b : Bool} (h : decide (x.cps.toList < y.cps.toList) = b) : Valid V (oLt sh x t y u b) := by
  unfold oLt
  rw [← SL.e4994404353489887393x10]
  exact valid_gives F.slot_str_lt (fun s => typeIs_str s x t) F.entry_str_lt (F.args_str_lt_2 _ _) (gives_str_lt x y t u) fun s R hR => by
    have := hR 0 s ⟨rfl,rfl,rfl,rfl⟩
    rw [← h] at this
    exact this
noncomputable def oGt (sh : List Sk) (x : Str) (t : Tok) (y : Str) (u : Tok) (b : Bool) : Spec := spV (.call (.builtin i_str___gt__) ⟨[.str x t,.str y u],[]⟩) sh [] fun _ => .bool b
theorem vGt {V : HV} {sh : List Sk} {x y : Str} {t u : Tok} {b : Bool} (h : decide (y.cps.toList < x.cps.toList) = b) : Valid V (oGt sh x t y u b) := by
  unfold oGt
  rw [← i_str___gt___eq]
  exact valid_gives F.slot_str_gt (fun s => typeIs_str s x t) F.entry_str_gt (F.args_str_gt_2 _ _) (gives_str_gt x y t u) fun s R hR => by
    have := hR 0 s ⟨rfl,rfl,rfl,rfl⟩
    rw [← h] at this
    exact this
noncomputable def oGet (sh : List Sk) (x : Str) (t : Tok) (i : Int) (u : Tok) (c : Nat) : Spec := spV (.call (.builtin SL.s9290617385737656809x15) ⟨[.str x t,.int i u],[]⟩) sh [] fun tk => .str ⟨⟨[c]⟩⟩ tk
theorem vGet {V : HV} {sh : List Sk} {x : Str} {i : Int} {t u : Tok} {c : Nat} (hr : (decide (i < -(2 ^ 63 : Int)) || decide (i ≥ 2 ^ 63)) = false) (h : (seqIndex? i x.length).bind (x.cps[·]?) = some c) : Valid V (oGet sh x t i u c) := by
  unfold oGet
  rw [← SL.e9290617385737656809x15]
  exact valid_gives F.slot_str_getitem (fun s => typeIs_str s x t) F.entry_str_getitem (F.args_str_getitem_2 _ _) (gives_str_getitem x i t u c hr h) fun s R hR => ⟨(by show 1 ≤ sizeLine; decide),hR _ _ ⟨rfl,rfl,rfl,rfl⟩⟩
end Mine
end
section
open PySem PySem.W PyProof.Rows
namespace Mine
theorem valid_builtin {V : HV} {S : Spec} {T : String} {name : Str} {id : String} {B : Builtin} {self : Value} {rest : List Value} (hc : S.code = .call (.builtin id) ⟨self :: rest,[]⟩)
    (slot : Slot T name id) (entry : entryFor table id = some B) (args : argsOk id ⟨self :: rest,[]⟩)
    (h : ∀ (A : Around) (s : Shared),A.handled = none → (∀ x ∈ S.pre,s.heap.get? x.2.1 = some x.2.2) → Apart V S.pre → s.TypeIs self T ∧
      wpAny (model V.prog V.w) A.in1 (B ⟨self :: rest,[]⟩) (fun fin s' => ∃ v,fin = .done (.ret v) ∧ ∃ α tk,Leaves S s (.ok (.ret v)) s' α tk) (fun e s' => ∃ α tk,Leaves S s (.error e) s' α tk) s) : Valid V S := by
  intro hs p s htop hpre ⟨hap,hpp⟩
  obtain ⟨hT,hb⟩ := h (aBelow (fillAll S.shape hs)) s rfl hpre hap
  have : codeAny (model V.prog V.w) (aBelow (fillAll S.shape hs)) (.call (.builtin id) ⟨self :: rest,[]⟩) (fun q s' => ∃ α tk,Leaves S s q s' α tk) s :=
    codeAny_call_builtin slot.plain entry (slot.check _ _ _ _ _ _ _ _ hT args (wpAny_mono hb (fun fin s' x => by obtain ⟨v,rfl,y⟩ := x; exact y) fun _ _ x => x))
  rw [hc]
  exact this _ p rfl (below_any _ _)
noncomputable def ascO (T : Str) (tt : Tok) (i : Int) : Obj := ⟨.type SL.s13500813778147066322x18,none,.fields ⟨[.str T tt,.int i 0]⟩,#[]⟩
noncomputable def oStrIter (sh : List Sk) (T : Str) (tt : Tok) : Spec := ⟨.call (.builtin SL.s8232228318002612845x12) ⟨[.str T tt],[]⟩,sh,[],fun α _ => .ok (.ret (.ref (α 0))),[],[],[fun _ _ => ascO T tt 0],true⟩
theorem vStrIter {V : HV} {sh : List Sk} {T : Str} {tt : Tok} (hT : T.cps.all (· < 128) = true) : Valid V (oStrIter sh T tt) := by
  unfold oStrIter ascO
  rw [← SL.e8232228318002612845x12,← SL.e13500813778147066322x18]
  refine valid_builtin rfl F.slot_str_iter F.entry_str_iter (F.args_str_iter_1 _) fun A s hA hpre hap => ⟨typeIs_str s T tt,?_⟩
  show wpAny _ _ (newFields (if (true && T.cps.all (· < 128)) = true then "str_ascii_iterator" else "str_iterator") [.str T tt, rawInt 0] >>= _) _ _ s
  rw [hT]
  refine wpAny_bind ?_
  unfold newFields
  refine wpAny_newObj_type (wpAny_pure ⟨_,rfl,fun _ => s.heap.objs.size,0,?_⟩) (by size_fits)
  have hg : (s.heap.push { cls := .type "str_ascii_iterator", data := .fields #[.str T tt, rawInt 0] }).get? s.heap.objs.size = some { cls := .type "str_ascii_iterator", data := .fields #[.str T tt, rawInt 0] } := Heap.get?_push_size _ rfl
  refine ⟨rfl,(fun _ h => nomatch h),(fun _ _ h => nomatch h),(fun a ob g _ => Heap.get?_push_of_some _ g),(fun _ _ h => nomatch h),(fun i f h => ?_),(fun i j hi hj _ => ?_),?_,rfl,rfl,rfl⟩
  · cases i with
    | zero => cases h; exact ⟨hg,Nat.le_refl _⟩
    | succ i => cases h
  · simp only [List.length_nil,List.length_singleton] at hi hj ⊢
    omega
  · show s.heap.objs.size ≤ (s.heap.push _).objs.size
    rw [Heap.size_push]; exact Nat.le_succ _
noncomputable def oAscNext (sh : List Sk) (k : Nat) (a : Nat) (T : Str) (tt : Tok) (i : Nat) (c : Nat) : Spec :=
  ⟨.call (.builtin i_str_ascii_iterator___next__) ⟨[.ref a],[]⟩,sh,[(3 * k + 3,a,ascO T tt i)],fun _ tk => .ok (.ret (.str ⟨⟨[c]⟩⟩ tk)),[(k,a,fun _ _ => ascO T tt (i + 1))],[],[],true⟩
theorem vAscNext {V : HV} {sh : List Sk} {k a : Nat} {T : Str} {tt : Tok} {i c : Nat} (hx : T.cps[i]? = some c) : Valid V (oAscNext sh k a T tt i c) := by
  unfold oAscNext ascO
  rw [← i_str_ascii_iterator___next___eq,← SL.e13500813778147066322x18]
  refine valid_builtin rfl F.slot_str_ascii_iterator_next F.entry_str_ascii_iterator_next (F.args_str_ascii_iterator_next_1 _) fun A s hA hpre hap => ?_
  have ho := hpre _ (List.mem_singleton.mpr rfl)
  have hit : s.heap.IsStrIter a "str_ascii_iterator" T tt i := ⟨_, ho, rfl, rfl⟩
  refine ⟨hit.typeIs,?_⟩
  show wpAny _ _ (field (.ref a) 0 >>= _) _ _ s
  refine wpAny_bind (wpAny_field ho rfl (x := .str T tt) rfl ?_)
  show wpAny _ _ (field (.ref a) 1 >>= _) _ _ s
  refine wpAny_bind (wpAny_field ho rfl (x := .int i 0) rfl ?_)
  simp only [Int.toNat_natCast,hx]
  refine wpAny_bind (wpAny_setField ho rfl (by simp) (wpAny_bind (wpAny_mkStr (wpAny_pure ⟨_,rfl,fun _ => 0,s.toks,?_⟩))))
  have sb := Heap.SameBut.update s.heap a (Obj.mapFields (·.setIfInBounds 1 (rawInt (↑i + 1))))
  refine ⟨rfl,(fun x h => ?_),(fun _ _ h => nomatch h),(fun b ob g hb => (sb.2 b fun z => hb _ (List.mem_singleton.mpr rfl) z.symm).trans g),(fun _ _ h => nomatch h),(fun _ _ h => nomatch h),(fun _ _ h => absurd h (Nat.not_lt_zero _)),Nat.le_of_eq sb.1.symm,rfl,rfl,rfl⟩
  obtain rfl := List.mem_singleton.mp h
  exact Heap.get?_update_self _ ho rfl
noncomputable def stopO (b : Nat) : Obj := ⟨.type SL.s5991306692159431302x13,none,.fields ⟨[.ref b,.none,.none,.none,.bool false,.none]⟩,#[]⟩
noncomputable def ascE (i : Int) : Obj := ⟨.type SL.s13500813778147066322x18,none,.fields ⟨[.none,.int i 0]⟩,#[]⟩
noncomputable def al2 (a b i : Nat) : Nat := match i with
  | 0 => a
  | _ => b
noncomputable def oAscEnd (sh : List Sk) (k : Nat) (a : Nat) (T : Str) (tt : Tok) (i : Nat) : Spec :=
  ⟨.call (.builtin i_str_ascii_iterator___next__) ⟨[.ref a],[]⟩,sh,[(3 * k + 3,a,ascO T tt i)],fun α _ => .error (.ref (α 0)),[(k,a,fun _ _ => ascE i)],[fun α _ => stopO (α 1)],[],true⟩
theorem vAscEnd {V : HV} {sh : List Sk} {k a : Nat} {T : Str} {tt : Tok} {i : Nat} (hx : T.cps[i]? = none) : Valid V (oAscEnd sh k a T tt i) := by
  unfold oAscEnd ascO ascE stopO
  rw [← i_str_ascii_iterator___next___eq,← SL.e13500813778147066322x18,← SL.e5991306692159431302x13]
  refine valid_builtin rfl F.slot_str_ascii_iterator_next F.entry_str_ascii_iterator_next (F.args_str_ascii_iterator_next_1 _) fun A s hA hpre hap => ?_
  have ho := hpre _ (List.mem_singleton.mpr rfl)
  have hit : s.heap.IsStrIter a "str_ascii_iterator" T tt i := ⟨_, ho, rfl, rfl⟩
  refine ⟨hit.typeIs,?_⟩
  show wpAny _ _ (field (.ref a) 0 >>= _) _ _ s
  refine wpAny_bind (wpAny_field ho rfl (x := .str T tt) rfl ?_)
  show wpAny _ _ (field (.ref a) 1 >>= _) _ _ s
  refine wpAny_bind (wpAny_field ho rfl (x := .int i 0) rfl ?_)
  simp only [Int.toNat_natCast,hx]
  refine wpAny_bind (wpAny_rule (wpAny_bind (wpAny_setField ho rfl (by simp) (wpAny_bind (wpAny_letGo ?_)))))
  show wpAny _ _ (newExc (.type "StopIteration") [] >>= _) _ _ _
  refine wpAny_bind ?_
  simp only [newExc,newTuple]
  refine wpAny_bind (wpAny_newObj_type ?_ (by size_fits))
  refine wpAny_bind (m := firstArgMember _ _) (wpAny_of_eq (a := Value.none) (by first | rfl | (simp only [firstArgMember]; rfl)) ?_)
  refine wpAny_newObj_type ?_ (by size_fits)
  simp only [raiseNew]
  refine wpAny_bind (wpAny_handled ?_)
  rw [show A.in1.handled = none from hA]
  refine wpAny_bind (wpAny_pure (wpAny_throw ?_))
  have sb := Heap.SameBut.update s.heap a (Obj.mapFields (·.setIfInBounds 0 .none))
  have up : (s.heap.update a (Obj.mapFields (·.setIfInBounds 0 .none))).get? a = some { cls := .type "str_ascii_iterator", data := .fields #[.none, .int i 0] } := Heap.get?_update_self _ ho rfl
  have e0 : ∀ (y : Obj) b ob, (s.heap.update a (Obj.mapFields (·.setIfInBounds 0 .none))).get? b = some ob → (((s.heap.update a (Obj.mapFields (·.setIfInBounds 0 .none))).push { cls := .type "tuple", data := .seq #[] }).push y).get? b = some ob := fun y b ob g => Heap.get?_push_of_some _ (Heap.get?_push_of_some _ g)
  refine ⟨al2 ((s.heap.update a (Obj.mapFields (·.setIfInBounds 0 .none))).push { cls := .type "tuple", data := .seq #[] }).objs.size (s.heap.update a (Obj.mapFields (·.setIfInBounds 0 .none))).objs.size, 0, rfl, fun x h => ?_, fun j f h => ?_, fun b ob g hb => ?_, fun j f h => ?_, (fun _ _ h => nomatch h), (fun _ _ h => absurd h (Nat.not_lt_zero _)), ?_, rfl, rfl, rfl⟩
  · obtain rfl := List.mem_singleton.mp h
    exact e0 _ _ _ up
  · cases j with
    | zero => cases h; exact Heap.get?_push_size _ rfl
    | succ j => cases h
  · exact e0 _ _ _ ((sb.2 b fun z => hb _ (List.mem_singleton.mpr rfl) z.symm).trans g)
  · cases j with
    | zero =>
      refine .inl ?_
      show s.heap.objs.size ≤ (Heap.push _ _).objs.size
      rw [Heap.size_push,sb.1]; exact Nat.le_succ _
    | succ j => cases h
  · show s.heap.objs.size ≤ (Heap.push (Heap.push _ _) _).objs.size
    rw [Heap.size_push,Heap.size_push,sb.1]; omega
end Mine
end
section
open PySem PySem.W PyProof.Rows
namespace Mine
noncomputable def oMod (sh : List Sk) (x : Int) (t : Tok) (y : Int) (u : Tok) : Spec := spV (.call (.builtin i_int___mod__) ⟨[.int x t,.int y u],[]⟩) sh [] fun tk => .int (x.fmod y) tk
noncomputable def oFdiv (sh : List Sk) (x : Int) (t : Tok) (y : Int) (u : Tok) : Spec := spV (.call (.builtin i_int___floordiv__) ⟨[.int x t,.int y u],[]⟩) sh [] fun tk => .int (x.fdiv y) tk
end Mine
end
section
open PySem PySem.W PyProof.Rows
namespace Mine
theorem valid_meets {V : HV} {S : Spec} {T : String} {name : Str} {id : String} {B : Builtin} {self : Value} {rest : List Value} {Sp : PySem.Spec} (hc : S.code = .call (.builtin id) ⟨self :: rest,[]⟩)
    (slot : Slot T name id) (entry : entryFor table id = some B) (args : argsOk id ⟨self :: rest,[]⟩) (g : Meets (B ⟨self :: rest,[]⟩) Sp)
    (h : ∀ (A : Around) (s : Shared),A.handled = none → (∀ x ∈ S.pre,s.heap.get? x.2.1 = some x.2.2) → Apart V S.pre → s.TypeIs self T ∧ Sp A (fun q s' => ∃ α tk,Leaves S s q s' α tk) s) : Valid V S := by
  intro hs p s htop hpre ⟨hap,hpp⟩
  obtain ⟨hT,hb⟩ := h (aBelow (fillAll S.shape hs)) s rfl hpre hap
  have : codeAny (model V.prog V.w) (aBelow (fillAll S.shape hs)) (.call (.builtin id) ⟨self :: rest,[]⟩) (fun q s' => ∃ α tk,Leaves S s q s' α tk) s :=
    codeAny_call_builtin slot.plain entry (slot.check _ _ _ _ _ _ _ _ hT args (g _ _ _ _ _ hb))
  rw [hc]
  exact this _ p rfl (below_any _ _)
noncomputable def tplO (xs : List Value) (e : Nat) : Obj := ⟨.type SL.s2766695959194262286x5,none,.seq ⟨xs⟩ e,#[]⟩
noncomputable def oTupIn (sh : List Sk) (hp a : Nat) (xs : List Value) (e : Nat) (x : Str) (t : Tok) (b : Bool) : Spec := spV (.call (.builtin i_tuple___contains__) ⟨[.ref a,.str x t],[]⟩) sh [(hp,a,tplO xs e)] fun _ => .bool b
theorem vTupIn {V : HV} {sh : List Sk} {hp a : Nat} {xs : List Value} {e : Nat} {x : Str} {t : Tok} {b : Bool} (ys : List Str) (hi : StrsAre xs ys) (hb : ys.any (· == x) = b) : Valid V (oTupIn sh hp a xs e x t b) := by
  unfold oTupIn tplO
  rw [← i_tuple___contains___eq,← SL.e2766695959194262286x5]
  refine valid_builtin rfl F.slot_tuple_contains F.entry_tuple_contains (F.args_tuple_contains_2 _ _) fun A s hA hpre hap => ?_
  have ho := hpre _ (List.mem_singleton.mpr rfl)
  dsimp only at ho
  refine ⟨⟨_,ho,rfl⟩,?_⟩
  refine tuple_contains_strs (ys := ys) ⟨_,ho,rfl,_,rfl⟩ hi ?_
  exact ⟨_,rfl,fun _ => 0,0,leaves_same (by rw [hb]) ⟨rfl,rfl,rfl,rfl⟩⟩
noncomputable def oIGe (sh : List Sk) (x : Int) (t : Tok) (y : Int) (u : Tok) (b : Bool) : Spec := spV (.call (.builtin i_int___ge__) ⟨[.int x t,.int y u],[]⟩) sh [] fun _ => .bool b
noncomputable def oILt (sh : List Sk) (x : Int) (t : Tok) (y : Int) (u : Tok) (b : Bool) : Spec := spV (.call (.builtin i_int___lt__) ⟨[.int x t,.int y u],[]⟩) sh [] fun _ => .bool b
noncomputable def oIAdd (sh : List Sk) (x : Int) (t : Tok) (y : Int) (u : Tok) (z : Int) : Spec := spV (.call (.builtin i_int___add__) ⟨[.int x t,.int y u],[]⟩) sh [] fun tk => .int z tk
theorem vIGe {V : HV} {sh : List Sk} {x y : Int} {t u : Tok} {b : Bool} (h : decide (x ≥ y) = b) : Valid V (oIGe sh x t y u b) := by
  unfold oIGe
  rw [← i_int___ge___eq]
  exact valid_gives F.slot_int_ge (fun s => typeIs_int s x t) F.entry_int_ge (F.args_int_ge_2 _ _) (AutoIntG9.int___ge___int_int_0 x t y u) fun s R hR => by
    have := hR 0 s ⟨rfl,rfl,rfl,rfl⟩
    rw [← h] at this
    exact this
theorem vILt {V : HV} {sh : List Sk} {x y : Int} {t u : Tok} {b : Bool} (h : decide (x < y) = b) : Valid V (oILt sh x t y u b) := by
  unfold oILt
  rw [← i_int___lt___eq]
  exact valid_gives F.slot_int_lt (fun s => typeIs_int s x t) F.entry_int_lt (F.args_int_lt_2 _ _) (AutoIntG1.int___lt___int_int_0 x t y u) fun s R hR => by
    have := hR 0 s ⟨rfl,rfl,rfl,rfl⟩
    rw [← h] at this
    exact this
theorem vIAdd {V : HV} {sh : List Sk} {x y z : Int} {t u : Tok} (h : x + y = z) : Valid V (oIAdd sh x t y u z) := by
  unfold oIAdd
  rw [← i_int___add___eq]
  exact valid_gives F.slot_int_add (fun s => typeIs_int s x t) F.entry_int_add (F.args_int_add_2 _ _) (AutoIntG4.int___add___int_int_0 x t y u) fun s R hR => by
    have := hR
    rw [← h] at this
    exact this _ _ ⟨rfl,rfl,rfl,rfl⟩
theorem codeAny_plain {V : HV} {A : Around} {id : String} {b : Builtin} {args : List Value} {R : Result → Shared → Prop} {s : Shared} (hk : builtinKind id = none) (hp : plainId id = true)
    (hb : entryFor table id = some b) (ha : argsOk id ⟨args,[]⟩)
    (hc : wpAny (model V.prog V.w) A.in1 (b ⟨args,[]⟩) (fun fin s' => ∃ v,fin = .done (.ret v) ∧ R (.ok (.ret v)) s') (fun e s' => R (.error e) s') s) : codeAny (model V.prog V.w) A (.call (.builtin id) ⟨args,[]⟩) R s := by
  refine codeAny_call_builtin hp hb ?_
  have hfin := wpAny_mono hc (Q' := fun fin s' => match fin with
      | .done f => R (.ok f) s'
      | .again c' => c'.quiet = true ∧ codeAny (model V.prog V.w) A c' R s')
    (fun fin s' h' => by obtain ⟨v,rfl,hv⟩ := h'; exact hv) fun _ _ h' => h'
  simp only [checkBuiltinCall,hk]
  cases hsig : Manifest.signature? id with
  | none => exact wpAny_pure hfin
  | some sig =>
    simp only [argsOk,hsig] at ha
    have h2 : Bind.checkArgs id sig ⟨args,[]⟩ = pure () := ha
    show wpAny _ A.in1 (Bind.checkArgs id sig ⟨args,[]⟩) _ _ s
    rw [h2]; exact wpAny_pure hfin
noncomputable def oLen (sh : List Sk) (x : Str) (t : Tok) (n : Int) : Spec := spV (.call (.builtin SL.s13014049009108672802x3) ⟨[.str x t],[]⟩) sh [] fun tk => .int n tk
theorem vLen {V : HV} {sh : List Sk} {x : Str} {t : Tok} {n : Int} (hn : (x.length : Int) = n) (hl : n < 2 ^ 63) : Valid V (oLen sh x t n) := by
  unfold oLen
  subst hn
  rw [← SL.e13014049009108672802x3]
  refine valid_spV fun A s _ _ => codeAny_plain PySem.kind_len PySem.plain_len PySem.entry_len (PySem.args_len1 _) ?_
  unfold Builtin.«len»
  refine wpAny_bind (m := oneArg "len" _) (wpAny_pure ?_)
  refine wpAny_bind (m := callSpecial? (.str x t) (Str.ofString "__len__")) (wpAny_callSpecial?_slot (name := Str.ofString "__len__") (typeIs_str s x t) F.slot_str_len (call_gives F.slot_str_len (typeIs_str s x t) F.entry_str_len (F.args_str_len_1 _) (gives_str_len x t) ?_))
  show wpAny _ _ _ _ _ { s with toks := s.toks + 1 }
  refine wpAny_bind (wpAny_holding (wpAny_pure ?_))
  refine wpAny_bind (wpAny_letGo ?_)
  show wpAny _ _ (if (x.length : Int) < 0 then _ else _) _ _ _
  rw [if_neg (by omega)]
  show wpAny _ _ (if (x.length : Int) ≥ 2 ^ 63 then _ else _) _ _ _
  rw [if_neg (by omega)]
  exact wpAny_bind (wpAny_mkInt (wpAny_pure ⟨_,rfl,_,rfl,rfl,rfl,rfl,rfl⟩))
noncomputable def sliO (l u st : Value) : Obj := ⟨.type SL.s4674234679698826739x5,none,.fields ⟨[l,u,st]⟩,#[]⟩
noncomputable def oSl1 (sh : List Sk) (hp a : Nat) (x : Str) (t : Tok) (i j : Int) (ti tj : Tok) (c : Nat) : Spec := spV (.call (.builtin SL.s9290617385737656809x15) ⟨[.str x t,.ref a],[]⟩) sh [(hp,a,sliO (.int i ti) (.int j tj) .none)] fun tk => .str (u [c]) tk
theorem picked1 {i n : Nat} (h : i < n) : Builtin.Str.strSliceIndices (some (i : Int)) (some (i + 1 : Int)) 1 n = [i] := by
  have e : Builtin.Str.strSliceIndices (some (i : Int)) (some (i + 1 : Int)) 1 n = sliceRange ((i : Nat) : Int) ((i + 1 : Nat) : Int) 1 := by
    unfold Builtin.Str.strSliceIndices
    have h1 : max (0 : Int) (min (i : Int) (n : Int)) = ((i : Nat) : Int) := by omega
    have h2 : max (0 : Int) (min ((i : Int) + 1) (n : Int)) = ((i + 1 : Nat) : Int) := by omega
    dsimp only
    have hA : ¬ ((i : Int) < 0) := by omega
    have hB : ¬ ((i : Int) + 1 < 0) := by omega
    have hC : (1 : Int) > 0 := by decide
    simp only [if_neg hA,if_neg hB,if_pos hC,h1,h2]
  rw [e,sliceRange_one]
  rw [show i + 1 - i = 1 by omega]
  rfl
theorem vSl1 {V : HV} {sh : List Sk} {hp a : Nat} {x : Str} {t : Tok} {i : Nat} {ti tj : Tok} {c : Nat} (hx : x.cps[i]? = some c) (h2 : x.length ≠ 1) : Valid V (oSl1 sh hp a x t (i : Int) (i + 1 : Int) ti tj c) := by
  have hlt : i < x.length := (Array.getElem?_eq_some_iff.mp hx).1
  unfold oSl1 sliO
  rw [← SL.e9290617385737656809x15,← SL.e4674234679698826739x5]
  refine valid_meets rfl F.slot_str_getitem F.entry_str_getitem (F.args_str_getitem_2 _ _) (meets_str_getitem_slice x t a (some ((i : Int),ti)) (some ((i + 1 : Int),tj)) none rfl) fun A s hA hpre hap => ?_
  have ho := hpre _ (List.mem_singleton.mpr rfl)
  dsimp only at ho
  refine ⟨typeIs_str s x t,⟨_,ho,rfl,rfl⟩,?_⟩
  have hp1 : slicePicked x (some ((i : Int),ti)) (some ((i + 1 : Int),tj)) none = [i] := picked1 hlt
  unfold sliceMade
  rw [hp1]
  have : ((Option.map (fun x : Int × Tok => x.1) none).getD 1 == 1 && [i].length == x.length) = false := by
    simp; exact fun h => h2 h.symm
  rw [if_neg (by rw [this]; exact Bool.false_ne_true)]
  have e : ((⟨([i].filterMap (x.cps[·]?)).toArray⟩ : Str)) = u [c] := by
    simp only [List.filterMap_cons,hx,List.filterMap_nil]
  rw [e]
  exact ⟨(by show 1 ≤ sizeLine; decide),fun _ => 0,s.toks,leaves_same rfl ⟨rfl,rfl,rfl,rfl⟩⟩
end Mine
end
section
open PySem PySem.W PyProof.Rows
namespace Mine
noncomputable def sgn (i : Int) : Nat := if i = 1 then 39 else if i = 2 then 34 else if i = 3 then 96 else 120
theorem fmod4 (c : Int) : c.fmod 4 = 0 ∨ c.fmod 4 = 1 ∨ c.fmod 4 = 2 ∨ c.fmod 4 = 3 := by
  rw [Int.fmod_eq_emod_of_nonneg c (by decide)]
  omega
end Mine
end
section
open PySem PySem.W PyProof.Rows
namespace Mine
noncomputable def sw0_sh : List Sk := [.frl,.func,.func,.blt SL.s11611643536802374852x12]
noncomputable def sw0_code (row : Nat) (x0 x1 x2 x3 : Str) (y0 y1 y2 y3 : Tok) (st : Tok) (e : Nat) : Code := (.call (.ref 763) ⟨[(.ref row),(.str (u [120]) st)],[]⟩)
noncomputable def sw0_lT (P : Params) (row : Nat) (x0 x1 x2 x3 : Str) (y0 y1 y2 y3 : Tok) (st : Tok) (e : Nat) : List Ent := []
noncomputable def sw0_lR (P : Params) (row : Nat) (x0 x1 x2 x3 : Str) (y0 y1 y2 y3 : Tok) (st : Tok) (e : Nat) : List Ent := []
noncomputable def sw0_scr (P : Params) (n τ : Nat) (row : Nat) (x0 x1 x2 x3 : Str) (y0 y1 y2 y3 : Tok) (st : Tok) (e : Nat) : Scr := (.fin [2290,2287,3,3,3,3,7,3,0,3,3,3,0,3] ⟨.ok (.done (.ret (.ref row))),[],[]⟩)
noncomputable def sw1_sh : List Sk := [.frl,.func,.func,.blt SL.s11611643536802374852x12]
noncomputable def sw1_code (row : Nat) (x0 x1 x2 x3 : Str) (y0 y1 y2 y3 : Tok) (st : Tok) (e : Nat) : Code := (.call (.ref 763) ⟨[(.ref row),(.str (u [39]) st)],[]⟩)
noncomputable def sw1_lT (P : Params) (row : Nat) (x0 x1 x2 x3 : Str) (y0 y1 y2 y3 : Tok) (st : Tok) (e : Nat) : List Ent := []
noncomputable def sw1_lR (P : Params) (row : Nat) (x0 x1 x2 x3 : Str) (y0 y1 y2 y3 : Tok) (st : Tok) (e : Nat) : List Ent := [(row,⟨(.type SL.s9222952809800978799x4),none,(.seq ⟨[(.str x0 y0),(.str x1 y1),(.str x2 y2),(.str x3 y3)]⟩ e),⟨[]⟩⟩)]
noncomputable def sw1_scr (P : Params) (n τ : Nat) (row : Nat) (x0 x1 x2 x3 : Str) (y0 y1 y2 y3 : Tok) (st : Tok) (e : Nat) : Scr := (.fin [2290,2287,3,3,3,3,7,3,0,3,3,3,0,3,3,2,2,2,0,2,2,3,3,2,2,2,0,2,9,9,9,9,9,2,6,12,6,0,6,12,6,12,3,2,2,2,0,2,2,15,18,15,0,15,18,15,18,3,3,0,2,2,2,0,2,24,24,24,24,24,2,21,27,21,0,21,27,21,27] ⟨.ok (.done (.ret (.ref (n + 9)))),[(9,(n + 9),⟨(.type SL.s9222952809800978799x4),none,(.seq ⟨[(.str x1 y1),(.str x0 y0),(.str x2 y2),(.str x3 y3)]⟩ 0),⟨[]⟩⟩)],[]⟩)
noncomputable def sw2_sh : List Sk := [.frl,.func,.func,.blt SL.s11611643536802374852x12]
noncomputable def sw2_code (row : Nat) (x0 x1 x2 x3 : Str) (y0 y1 y2 y3 : Tok) (st : Tok) (e : Nat) : Code := (.call (.ref 763) ⟨[(.ref row),(.str (u [34]) st)],[]⟩)
noncomputable def sw2_lT (P : Params) (row : Nat) (x0 x1 x2 x3 : Str) (y0 y1 y2 y3 : Tok) (st : Tok) (e : Nat) : List Ent := []
noncomputable def sw2_lR (P : Params) (row : Nat) (x0 x1 x2 x3 : Str) (y0 y1 y2 y3 : Tok) (st : Tok) (e : Nat) : List Ent := [(row,⟨(.type SL.s9222952809800978799x4),none,(.seq ⟨[(.str x0 y0),(.str x1 y1),(.str x2 y2),(.str x3 y3)]⟩ e),⟨[]⟩⟩)]
noncomputable def sw2_scr (P : Params) (n τ : Nat) (row : Nat) (x0 x1 x2 x3 : Str) (y0 y1 y2 y3 : Tok) (st : Tok) (e : Nat) : Scr := (.fin [2290,2287,3,3,3,3,7,3,0,3,3,3,0,3,3,2,2,2,0,2,2,3,3,2,2,2,0,2,9,9,9,9,9,2,6,12,6,0,6,12,6,12,3,2,2,2,0,2,2,15,18,15,0,15,18,15,18,3,3,0,2,2,2,0,2,24,24,24,24,24,2,21,27,21,0,21,27,21,27] ⟨.ok (.done (.ret (.ref (n + 9)))),[(9,(n + 9),⟨(.type SL.s9222952809800978799x4),none,(.seq ⟨[(.str x2 y2),(.str x1 y1),(.str x0 y0),(.str x3 y3)]⟩ 0),⟨[]⟩⟩)],[]⟩)
noncomputable def sw3_sh : List Sk := [.frl,.func,.func,.blt SL.s11611643536802374852x12]
noncomputable def sw3_code (row : Nat) (x0 x1 x2 x3 : Str) (y0 y1 y2 y3 : Tok) (st : Tok) (e : Nat) : Code := (.call (.ref 763) ⟨[(.ref row),(.str (u [96]) st)],[]⟩)
noncomputable def sw3_lT (P : Params) (row : Nat) (x0 x1 x2 x3 : Str) (y0 y1 y2 y3 : Tok) (st : Tok) (e : Nat) : List Ent := []
noncomputable def sw3_lR (P : Params) (row : Nat) (x0 x1 x2 x3 : Str) (y0 y1 y2 y3 : Tok) (st : Tok) (e : Nat) : List Ent := [(row,⟨(.type SL.s9222952809800978799x4),none,(.seq ⟨[(.str x0 y0),(.str x1 y1),(.str x2 y2),(.str x3 y3)]⟩ e),⟨[]⟩⟩)]
noncomputable def sw3_scr (P : Params) (n τ : Nat) (row : Nat) (x0 x1 x2 x3 : Str) (y0 y1 y2 y3 : Tok) (st : Tok) (e : Nat) : Scr := (.fin [2290,2287,3,3,3,3,7,3,0,3,3,3,0,3,3,2,2,2,0,2,2,3,3,2,2,2,0,2,9,9,9,9,9,2,6,12,6,0,6,12,6,12,3,2,2,2,0,2,2,15,18,15,0,15,18,15,18,3,3,0,2,2,2,0,2,24,24,24,24,24,2,21,27,21,0,21,27,21,27] ⟨.ok (.done (.ret (.ref (n + 9)))),[(9,(n + 9),⟨(.type SL.s9222952809800978799x4),none,(.seq ⟨[(.str x3 y3),(.str x1 y1),(.str x2 y2),(.str x0 y0)]⟩ 0),⟨[]⟩⟩)],[]⟩)
theorem resF_inj {q : Result} {v : Value} (h : Except.ok (PySem.Fin.done (.ret v)) = resF q) : q = .ok (.ret v) := by
  cases q with
  | ok f => cases h; rfl
  | error e => cases h
noncomputable def oCallee (f : Nat) (sh : List Sk) (hp : Nat) (a : Nat) (ob : Obj) (c : Str) (ct : Tok) (ob' : (Nat → Nat) → Tok → Obj) (old : Bool) : Spec :=
  ⟨.call (.ref f) ⟨[.ref a,.str c ct],[]⟩,sh,[(hp,a,ob)],fun α _ => .ok (.ret (.ref (α 0))),[],[ob'],[],old⟩
noncomputable def rowO (x0 x1 x2 x3 : Str) (y0 y1 y2 y3 : Tok) (e : Nat) : Obj := ⟨.type SL.s9222952809800978799x4,none,.seq ⟨[.str x0 y0,.str x1 y1,.str x2 y2,.str x3 y3]⟩ e,#[]⟩
theorem callee_leaves {f : Nat} {sh : List Sk} {hp a : Nat} {ob : Obj} {c : Str} {ct : Tok} {ob' : (Nat → Nat) → Tok → Obj} {s s' : Shared} {A₀ : Addr → Prop} {m₀ : Nat} {objs ros : List (Nat × Ent)} {b : Nat} {q : Result}
    (L : Left s A₀ m₀ objs ros s') (hA : ∀ a,¬ A₀ a) (e : q = .ok (.ret (.ref b))) {α : Nat → Nat} {tk : Tok} (h0 : α 0 = b) (hb : s'.heap.get? b = some (ob' α tk)) {old : Bool} (hn : s.heap.objs.size ≤ b ∨ (old = true ∧ hp % 3 = 2 ∧ a = b)) :
    Leaves (oCallee f sh hp a ob c ct ob' old) s q s' α tk :=
  ⟨by rw [e]; show _ = Except.ok (Flow.ret (Value.ref (α 0))); rw [h0],(fun _ h => nomatch h),(fun i g hg => by
      cases i with
      | zero => cases hg; rw [h0]; exact hb
      | succ i => cases hg),(fun a ob g _ => L.keep a ob g (hA a)),(fun i g hg => by
      cases i with
      | zero =>
        rw [h0]
        rcases hn with h | ⟨h0,h1,h2⟩
        · exact .inl h
        · exact .inr ⟨h0,_,List.mem_singleton.mpr rfl,h1,h2⟩
      | succ i => cases hg),(fun _ _ h => nomatch h),(fun _ _ h => absurd h (Nat.not_lt_zero _)),L.grow,L.gens,L.drawn,L.os⟩
end Mine
end
section
open PySem PySem.W PyProof.Rows
namespace Mine
noncomputable def pa00_sh : List Sk := [.frl,.func,.frl,.func,.blt SL.s11611643536802374852x12]
noncomputable def pa00_code (fa : Nat) (K : Str) (st pt kt : Tok) : Code := (.call (.ref 770) ⟨[(.ref fa),(.str (u [120]) st)],[]⟩)
noncomputable def pa00_lT (P : Params) (fa : Nat) (K : Str) (st pt kt : Tok) : List Ent := []
noncomputable def pa00_lR (P : Params) (fa : Nat) (K : Str) (st pt kt : Tok) : List Ent := [(fa,⟨(.type SL.s2766695959194262286x5),none,(.seq ⟨[(.int (0) pt),(.str K kt)]⟩ 0),⟨[]⟩⟩)]
noncomputable def pa00_scr (P : Params) (n τ : Nat) (fa : Nat) (K : Str) (st pt kt : Tok) : Scr := (.orc [2311,2308,3,3,3,3,7,3,2,2,2,0,2,6,6,0,6,6,6,2,6,6,6,0,6,6,6,2,6,6,6,0,6,6,6,2,6,6,12,3,3,3,3,3,0,3,3,3,0,3,3,3] (oAdd [.func,.frl,.func,.frl,.func,.blt SL.s11611643536802374852x12] K kt (u [120]) st) 4 1 fun α1 tk1 n1 τ1 =>
  (.fin [] ⟨.ok (.done (.ret (.ref (n1 + 0)))),[(4,(n1 + 0),⟨(.type SL.s2766695959194262286x5),none,(.seq ⟨[(.int (0) pt),(.str (K ++ (u [120])) tk1)]⟩ 0),⟨[]⟩⟩)],[]⟩))
theorem pa00_run (w : World) (b1 b2 b3 : Bool) (hs : HL pa00_sh) (p : Pos) (n τ : Nat) (fa : Nat) (K : Str) (st pt kt : Tok) : SH (VX w b1 b2 b3) true 20000 [] ⟨pa00_code fa K st pt kt ,none,none,fillAll pa00_sh hs,none⟩ p ((VX w b1 b2 b3).den (pa00_code fa K st pt kt )) (pa00_scr w.params n τ fa K st pt kt ) (tabOf (pa00_lR w.params fa K st pt kt ) 0 .nil) (tabOf (pa00_lT w.params fa K st pt kt ) 0 .nil) 0 1 n 0 τ 0 [] [] := by
  cases b1 <;> exact runOf (adrs [] n) (adr1 [fa]) (by kernel_rfl)
noncomputable def pa01_sh : List Sk := [.frl,.func,.frl,.func,.blt SL.s11611643536802374852x12]
noncomputable def pa01_code (fa : Nat) (K : Str) (st pt kt : Tok) : Code := (.call (.ref 770) ⟨[(.ref fa),(.str (u [39]) st)],[]⟩)
noncomputable def pa01_lT (P : Params) (fa : Nat) (K : Str) (st pt kt : Tok) : List Ent := []
noncomputable def pa01_lR (P : Params) (fa : Nat) (K : Str) (st pt kt : Tok) : List Ent := [(fa,⟨(.type SL.s2766695959194262286x5),none,(.seq ⟨[(.int (0) pt),(.str K kt)]⟩ 0),⟨[]⟩⟩)]
noncomputable def pa01_scr (P : Params) (n τ : Nat) (fa : Nat) (K : Str) (st pt kt : Tok) : Scr := (.fin [2311,2308,3,3,3,3,7,3,2,2,2,0,2,6,6,0,6,6,6,2,6,6,6,0,6,6,6,2,6,6,6,0,6,6,6,2,6,6,12,3,3,3,3,3,0,3,3,3,0,3,0,3,3,0,3] ⟨.ok (.done (.ret (.ref (n + 4)))),[(4,(n + 4),⟨(.type SL.s2766695959194262286x5),none,(.seq ⟨[(.int (1) (τ + 9)),(.str K kt)]⟩ 0),⟨[]⟩⟩)],[]⟩)
theorem pa01_run (w : World) (b1 b2 b3 : Bool) (hs : HL pa01_sh) (p : Pos) (n τ : Nat) (fa : Nat) (K : Str) (st pt kt : Tok) : SH (VX w b1 b2 b3) true 20000 [] ⟨pa01_code fa K st pt kt ,none,none,fillAll pa01_sh hs,none⟩ p ((VX w b1 b2 b3).den (pa01_code fa K st pt kt )) (pa01_scr w.params n τ fa K st pt kt ) (tabOf (pa01_lR w.params fa K st pt kt ) 0 .nil) (tabOf (pa01_lT w.params fa K st pt kt ) 0 .nil) 0 1 n 0 τ 0 [] [] := by
  cases b1 <;> exact runOf (adrs [] n) (adr1 [fa]) (by kernel_rfl)
noncomputable def pa02_sh : List Sk := [.frl,.func,.frl,.func,.blt SL.s11611643536802374852x12]
noncomputable def pa02_code (fa : Nat) (K : Str) (st pt kt : Tok) : Code := (.call (.ref 770) ⟨[(.ref fa),(.str (u [34]) st)],[]⟩)
noncomputable def pa02_lT (P : Params) (fa : Nat) (K : Str) (st pt kt : Tok) : List Ent := []
noncomputable def pa02_lR (P : Params) (fa : Nat) (K : Str) (st pt kt : Tok) : List Ent := [(fa,⟨(.type SL.s2766695959194262286x5),none,(.seq ⟨[(.int (0) pt),(.str K kt)]⟩ 0),⟨[]⟩⟩)]
noncomputable def pa02_scr (P : Params) (n τ : Nat) (fa : Nat) (K : Str) (st pt kt : Tok) : Scr := (.fin [2311,2308,3,3,3,3,7,3,2,2,2,0,2,6,6,0,6,6,6,2,6,6,6,0,6,6,6,2,6,6,6,0,6,6,6,2,6,6,12,3,3,3,3,3,0,3,3,3,0,3,0,3,3,0,3] ⟨.ok (.done (.ret (.ref (n + 4)))),[(4,(n + 4),⟨(.type SL.s2766695959194262286x5),none,(.seq ⟨[(.int (2) (τ + 9)),(.str K kt)]⟩ 0),⟨[]⟩⟩)],[]⟩)
theorem pa02_run (w : World) (b1 b2 b3 : Bool) (hs : HL pa02_sh) (p : Pos) (n τ : Nat) (fa : Nat) (K : Str) (st pt kt : Tok) : SH (VX w b1 b2 b3) true 20000 [] ⟨pa02_code fa K st pt kt ,none,none,fillAll pa02_sh hs,none⟩ p ((VX w b1 b2 b3).den (pa02_code fa K st pt kt )) (pa02_scr w.params n τ fa K st pt kt ) (tabOf (pa02_lR w.params fa K st pt kt ) 0 .nil) (tabOf (pa02_lT w.params fa K st pt kt ) 0 .nil) 0 1 n 0 τ 0 [] [] := by
  cases b1 <;> exact runOf (adrs [] n) (adr1 [fa]) (by kernel_rfl)
noncomputable def pa03_sh : List Sk := [.frl,.func,.frl,.func,.blt SL.s11611643536802374852x12]
noncomputable def pa03_code (fa : Nat) (K : Str) (st pt kt : Tok) : Code := (.call (.ref 770) ⟨[(.ref fa),(.str (u [96]) st)],[]⟩)
noncomputable def pa03_lT (P : Params) (fa : Nat) (K : Str) (st pt kt : Tok) : List Ent := []
noncomputable def pa03_lR (P : Params) (fa : Nat) (K : Str) (st pt kt : Tok) : List Ent := [(fa,⟨(.type SL.s2766695959194262286x5),none,(.seq ⟨[(.int (0) pt),(.str K kt)]⟩ 0),⟨[]⟩⟩)]
noncomputable def pa03_scr (P : Params) (n τ : Nat) (fa : Nat) (K : Str) (st pt kt : Tok) : Scr := (.fin [2311,2308,3,3,3,3,7,3,2,2,2,0,2,6,6,0,6,6,6,2,6,6,6,0,6,6,6,2,6,6,6,0,6,6,6,2,6,6,12,3,3,3,3,3,0,3,3,3,0,3,0,3,3,0,3] ⟨.ok (.done (.ret (.ref (n + 4)))),[(4,(n + 4),⟨(.type SL.s2766695959194262286x5),none,(.seq ⟨[(.int (3) (τ + 9)),(.str K kt)]⟩ 0),⟨[]⟩⟩)],[]⟩)
theorem pa03_run (w : World) (b1 b2 b3 : Bool) (hs : HL pa03_sh) (p : Pos) (n τ : Nat) (fa : Nat) (K : Str) (st pt kt : Tok) : SH (VX w b1 b2 b3) true 20000 [] ⟨pa03_code fa K st pt kt ,none,none,fillAll pa03_sh hs,none⟩ p ((VX w b1 b2 b3).den (pa03_code fa K st pt kt )) (pa03_scr w.params n τ fa K st pt kt ) (tabOf (pa03_lR w.params fa K st pt kt ) 0 .nil) (tabOf (pa03_lT w.params fa K st pt kt ) 0 .nil) 0 1 n 0 τ 0 [] [] := by
  cases b1 <;> exact runOf (adrs [] n) (adr1 [fa]) (by kernel_rfl)
noncomputable def pa10_sh : List Sk := [.frl,.func,.frl,.func,.blt SL.s11611643536802374852x12]
noncomputable def pa10_code (fa : Nat) (K : Str) (st pt kt : Tok) : Code := (.call (.ref 770) ⟨[(.ref fa),(.str (u [120]) st)],[]⟩)
noncomputable def pa10_lT (P : Params) (fa : Nat) (K : Str) (st pt kt : Tok) : List Ent := []
noncomputable def pa10_lR (P : Params) (fa : Nat) (K : Str) (st pt kt : Tok) : List Ent := [(fa,⟨(.type SL.s2766695959194262286x5),none,(.seq ⟨[(.int (1) pt),(.str K kt)]⟩ 0),⟨[]⟩⟩)]
noncomputable def pa10_scr (P : Params) (n τ : Nat) (fa : Nat) (K : Str) (st pt kt : Tok) : Scr := (.orc [2311,2308,3,3,3,3,7,3,2,2,2,0,2,6,6,0,6,6,6,2,6,6,6,0,6,6,6,2,6,6,6,0,6,6,6,2,6,6,12,3,3,3,3,3,0,3,3,3,0,3,3,3] (oAdd [.func,.frl,.func,.frl,.func,.blt SL.s11611643536802374852x12] K kt (u [120]) st) 4 1 fun α1 tk1 n1 τ1 =>
  (.fin [] ⟨.ok (.done (.ret (.ref (n1 + 0)))),[(4,(n1 + 0),⟨(.type SL.s2766695959194262286x5),none,(.seq ⟨[(.int (1) pt),(.str (K ++ (u [120])) tk1)]⟩ 0),⟨[]⟩⟩)],[]⟩))
theorem pa10_run (w : World) (b1 b2 b3 : Bool) (hs : HL pa10_sh) (p : Pos) (n τ : Nat) (fa : Nat) (K : Str) (st pt kt : Tok) : SH (VX w b1 b2 b3) true 20000 [] ⟨pa10_code fa K st pt kt ,none,none,fillAll pa10_sh hs,none⟩ p ((VX w b1 b2 b3).den (pa10_code fa K st pt kt )) (pa10_scr w.params n τ fa K st pt kt ) (tabOf (pa10_lR w.params fa K st pt kt ) 0 .nil) (tabOf (pa10_lT w.params fa K st pt kt ) 0 .nil) 0 1 n 0 τ 0 [] [] := by
  cases b1 <;> exact runOf (adrs [] n) (adr1 [fa]) (by kernel_rfl)
noncomputable def pa11_sh : List Sk := [.frl,.func,.frl,.func,.blt SL.s11611643536802374852x12]
noncomputable def pa11_code (fa : Nat) (K : Str) (st pt kt : Tok) : Code := (.call (.ref 770) ⟨[(.ref fa),(.str (u [39]) st)],[]⟩)
noncomputable def pa11_lT (P : Params) (fa : Nat) (K : Str) (st pt kt : Tok) : List Ent := []
noncomputable def pa11_lR (P : Params) (fa : Nat) (K : Str) (st pt kt : Tok) : List Ent := [(fa,⟨(.type SL.s2766695959194262286x5),none,(.seq ⟨[(.int (1) pt),(.str K kt)]⟩ 0),⟨[]⟩⟩)]
noncomputable def pa11_scr (P : Params) (n τ : Nat) (fa : Nat) (K : Str) (st pt kt : Tok) : Scr := (.fin [2311,2308,3,3,3,3,7,3,2,2,2,0,2,6,6,0,6,6,6,2,6,6,6,0,6,6,6,2,6,6,6,0,6,6,6,2,6,6,12,3,3,3,3,3,0,3,3,3,0,3,0,3,3,0,3,3,0,3] ⟨.ok (.done (.ret (.ref (n + 4)))),[(4,(n + 4),⟨(.type SL.s2766695959194262286x5),none,(.seq ⟨[(.int (0) (τ + 9)),(.str K kt)]⟩ 0),⟨[]⟩⟩)],[]⟩)
theorem pa11_run (w : World) (b1 b2 b3 : Bool) (hs : HL pa11_sh) (p : Pos) (n τ : Nat) (fa : Nat) (K : Str) (st pt kt : Tok) : SH (VX w b1 b2 b3) true 20000 [] ⟨pa11_code fa K st pt kt ,none,none,fillAll pa11_sh hs,none⟩ p ((VX w b1 b2 b3).den (pa11_code fa K st pt kt )) (pa11_scr w.params n τ fa K st pt kt ) (tabOf (pa11_lR w.params fa K st pt kt ) 0 .nil) (tabOf (pa11_lT w.params fa K st pt kt ) 0 .nil) 0 1 n 0 τ 0 [] [] := by
  cases b1 <;> exact runOf (adrs [] n) (adr1 [fa]) (by kernel_rfl)
noncomputable def pa12_sh : List Sk := [.frl,.func,.frl,.func,.blt SL.s11611643536802374852x12]
noncomputable def pa12_code (fa : Nat) (K : Str) (st pt kt : Tok) : Code := (.call (.ref 770) ⟨[(.ref fa),(.str (u [34]) st)],[]⟩)
noncomputable def pa12_lT (P : Params) (fa : Nat) (K : Str) (st pt kt : Tok) : List Ent := []
noncomputable def pa12_lR (P : Params) (fa : Nat) (K : Str) (st pt kt : Tok) : List Ent := [(fa,⟨(.type SL.s2766695959194262286x5),none,(.seq ⟨[(.int (1) pt),(.str K kt)]⟩ 0),⟨[]⟩⟩)]
noncomputable def pa12_scr (P : Params) (n τ : Nat) (fa : Nat) (K : Str) (st pt kt : Tok) : Scr := (.orc [2311,2308,3,3,3,3,7,3,2,2,2,0,2,6,6,0,6,6,6,2,6,6,6,0,6,6,6,2,6,6,6,0,6,6,6,2,6,6,12,3,3,3,3,3,0,3,3,3,0,3,0,3,3,0,3,3,3] (oAdd [.func,.frl,.func,.frl,.func,.blt SL.s11611643536802374852x12] K kt (u [34]) st) 4 1 fun α1 tk1 n1 τ1 =>
  (.fin [] ⟨.ok (.done (.ret (.ref (n1 + 0)))),[(4,(n1 + 0),⟨(.type SL.s2766695959194262286x5),none,(.seq ⟨[(.int (1) pt),(.str (K ++ (u [34])) tk1)]⟩ 0),⟨[]⟩⟩)],[]⟩))
theorem pa12_run (w : World) (b1 b2 b3 : Bool) (hs : HL pa12_sh) (p : Pos) (n τ : Nat) (fa : Nat) (K : Str) (st pt kt : Tok) : SH (VX w b1 b2 b3) true 20000 [] ⟨pa12_code fa K st pt kt ,none,none,fillAll pa12_sh hs,none⟩ p ((VX w b1 b2 b3).den (pa12_code fa K st pt kt )) (pa12_scr w.params n τ fa K st pt kt ) (tabOf (pa12_lR w.params fa K st pt kt ) 0 .nil) (tabOf (pa12_lT w.params fa K st pt kt ) 0 .nil) 0 1 n 0 τ 0 [] [] := by
  cases b1 <;> exact runOf (adrs [] n) (adr1 [fa]) (by kernel_rfl)
noncomputable def pa13_sh : List Sk := [.frl,.func,.frl,.func,.blt SL.s11611643536802374852x12]
noncomputable def pa13_code (fa : Nat) (K : Str) (st pt kt : Tok) : Code := (.call (.ref 770) ⟨[(.ref fa),(.str (u [96]) st)],[]⟩)
noncomputable def pa13_lT (P : Params) (fa : Nat) (K : Str) (st pt kt : Tok) : List Ent := []
noncomputable def pa13_lR (P : Params) (fa : Nat) (K : Str) (st pt kt : Tok) : List Ent := [(fa,⟨(.type SL.s2766695959194262286x5),none,(.seq ⟨[(.int (1) pt),(.str K kt)]⟩ 0),⟨[]⟩⟩)]
noncomputable def pa13_scr (P : Params) (n τ : Nat) (fa : Nat) (K : Str) (st pt kt : Tok) : Scr := (.orc [2311,2308,3,3,3,3,7,3,2,2,2,0,2,6,6,0,6,6,6,2,6,6,6,0,6,6,6,2,6,6,6,0,6,6,6,2,6,6,12,3,3,3,3,3,0,3,3,3,0,3,0,3,3,0,3,3,3] (oAdd [.func,.frl,.func,.frl,.func,.blt SL.s11611643536802374852x12] K kt (u [96]) st) 4 1 fun α1 tk1 n1 τ1 =>
  (.fin [] ⟨.ok (.done (.ret (.ref (n1 + 0)))),[(4,(n1 + 0),⟨(.type SL.s2766695959194262286x5),none,(.seq ⟨[(.int (1) pt),(.str (K ++ (u [96])) tk1)]⟩ 0),⟨[]⟩⟩)],[]⟩))
theorem pa13_run (w : World) (b1 b2 b3 : Bool) (hs : HL pa13_sh) (p : Pos) (n τ : Nat) (fa : Nat) (K : Str) (st pt kt : Tok) : SH (VX w b1 b2 b3) true 20000 [] ⟨pa13_code fa K st pt kt ,none,none,fillAll pa13_sh hs,none⟩ p ((VX w b1 b2 b3).den (pa13_code fa K st pt kt )) (pa13_scr w.params n τ fa K st pt kt ) (tabOf (pa13_lR w.params fa K st pt kt ) 0 .nil) (tabOf (pa13_lT w.params fa K st pt kt ) 0 .nil) 0 1 n 0 τ 0 [] [] := by
  cases b1 <;> exact runOf (adrs [] n) (adr1 [fa]) (by kernel_rfl)
noncomputable def pa20_sh : List Sk := [.frl,.func,.frl,.func,.blt SL.s11611643536802374852x12]
noncomputable def pa20_code (fa : Nat) (K : Str) (st pt kt : Tok) : Code := (.call (.ref 770) ⟨[(.ref fa),(.str (u [120]) st)],[]⟩)
noncomputable def pa20_lT (P : Params) (fa : Nat) (K : Str) (st pt kt : Tok) : List Ent := []
noncomputable def pa20_lR (P : Params) (fa : Nat) (K : Str) (st pt kt : Tok) : List Ent := [(fa,⟨(.type SL.s2766695959194262286x5),none,(.seq ⟨[(.int (2) pt),(.str K kt)]⟩ 0),⟨[]⟩⟩)]
noncomputable def pa20_scr (P : Params) (n τ : Nat) (fa : Nat) (K : Str) (st pt kt : Tok) : Scr := (.orc [2311,2308,3,3,3,3,7,3,2,2,2,0,2,6,6,0,6,6,6,2,6,6,6,0,6,6,6,2,6,6,6,0,6,6,6,2,6,6,12,3,3,3,3,3,0,3,3,3,0,3,3,3] (oAdd [.func,.frl,.func,.frl,.func,.blt SL.s11611643536802374852x12] K kt (u [120]) st) 4 1 fun α1 tk1 n1 τ1 =>
  (.fin [] ⟨.ok (.done (.ret (.ref (n1 + 0)))),[(4,(n1 + 0),⟨(.type SL.s2766695959194262286x5),none,(.seq ⟨[(.int (2) pt),(.str (K ++ (u [120])) tk1)]⟩ 0),⟨[]⟩⟩)],[]⟩))
theorem pa20_run (w : World) (b1 b2 b3 : Bool) (hs : HL pa20_sh) (p : Pos) (n τ : Nat) (fa : Nat) (K : Str) (st pt kt : Tok) : SH (VX w b1 b2 b3) true 20000 [] ⟨pa20_code fa K st pt kt ,none,none,fillAll pa20_sh hs,none⟩ p ((VX w b1 b2 b3).den (pa20_code fa K st pt kt )) (pa20_scr w.params n τ fa K st pt kt ) (tabOf (pa20_lR w.params fa K st pt kt ) 0 .nil) (tabOf (pa20_lT w.params fa K st pt kt ) 0 .nil) 0 1 n 0 τ 0 [] [] := by
  cases b1 <;> exact runOf (adrs [] n) (adr1 [fa]) (by kernel_rfl)
noncomputable def pa21_sh : List Sk := [.frl,.func,.frl,.func,.blt SL.s11611643536802374852x12]
noncomputable def pa21_code (fa : Nat) (K : Str) (st pt kt : Tok) : Code := (.call (.ref 770) ⟨[(.ref fa),(.str (u [39]) st)],[]⟩)
noncomputable def pa21_lT (P : Params) (fa : Nat) (K : Str) (st pt kt : Tok) : List Ent := []
noncomputable def pa21_lR (P : Params) (fa : Nat) (K : Str) (st pt kt : Tok) : List Ent := [(fa,⟨(.type SL.s2766695959194262286x5),none,(.seq ⟨[(.int (2) pt),(.str K kt)]⟩ 0),⟨[]⟩⟩)]
noncomputable def pa21_scr (P : Params) (n τ : Nat) (fa : Nat) (K : Str) (st pt kt : Tok) : Scr := (.orc [2311,2308,3,3,3,3,7,3,2,2,2,0,2,6,6,0,6,6,6,2,6,6,6,0,6,6,6,2,6,6,6,0,6,6,6,2,6,6,12,3,3,3,3,3,0,3,3,3,0,3,0,3,3,0,3,3,3] (oAdd [.func,.frl,.func,.frl,.func,.blt SL.s11611643536802374852x12] K kt (u [39]) st) 4 1 fun α1 tk1 n1 τ1 =>
  (.fin [] ⟨.ok (.done (.ret (.ref (n1 + 0)))),[(4,(n1 + 0),⟨(.type SL.s2766695959194262286x5),none,(.seq ⟨[(.int (2) pt),(.str (K ++ (u [39])) tk1)]⟩ 0),⟨[]⟩⟩)],[]⟩))
theorem pa21_run (w : World) (b1 b2 b3 : Bool) (hs : HL pa21_sh) (p : Pos) (n τ : Nat) (fa : Nat) (K : Str) (st pt kt : Tok) : SH (VX w b1 b2 b3) true 20000 [] ⟨pa21_code fa K st pt kt ,none,none,fillAll pa21_sh hs,none⟩ p ((VX w b1 b2 b3).den (pa21_code fa K st pt kt )) (pa21_scr w.params n τ fa K st pt kt ) (tabOf (pa21_lR w.params fa K st pt kt ) 0 .nil) (tabOf (pa21_lT w.params fa K st pt kt ) 0 .nil) 0 1 n 0 τ 0 [] [] := by
  cases b1 <;> exact runOf (adrs [] n) (adr1 [fa]) (by kernel_rfl)
noncomputable def pa22_sh : List Sk := [.frl,.func,.frl,.func,.blt SL.s11611643536802374852x12]
noncomputable def pa22_code (fa : Nat) (K : Str) (st pt kt : Tok) : Code := (.call (.ref 770) ⟨[(.ref fa),(.str (u [34]) st)],[]⟩)
noncomputable def pa22_lT (P : Params) (fa : Nat) (K : Str) (st pt kt : Tok) : List Ent := []
noncomputable def pa22_lR (P : Params) (fa : Nat) (K : Str) (st pt kt : Tok) : List Ent := [(fa,⟨(.type SL.s2766695959194262286x5),none,(.seq ⟨[(.int (2) pt),(.str K kt)]⟩ 0),⟨[]⟩⟩)]
noncomputable def pa22_scr (P : Params) (n τ : Nat) (fa : Nat) (K : Str) (st pt kt : Tok) : Scr := (.fin [2311,2308,3,3,3,3,7,3,2,2,2,0,2,6,6,0,6,6,6,2,6,6,6,0,6,6,6,2,6,6,6,0,6,6,6,2,6,6,12,3,3,3,3,3,0,3,3,3,0,3,0,3,3,0,3,3,0,3] ⟨.ok (.done (.ret (.ref (n + 4)))),[(4,(n + 4),⟨(.type SL.s2766695959194262286x5),none,(.seq ⟨[(.int (0) (τ + 9)),(.str K kt)]⟩ 0),⟨[]⟩⟩)],[]⟩)
theorem pa22_run (w : World) (b1 b2 b3 : Bool) (hs : HL pa22_sh) (p : Pos) (n τ : Nat) (fa : Nat) (K : Str) (st pt kt : Tok) : SH (VX w b1 b2 b3) true 20000 [] ⟨pa22_code fa K st pt kt ,none,none,fillAll pa22_sh hs,none⟩ p ((VX w b1 b2 b3).den (pa22_code fa K st pt kt )) (pa22_scr w.params n τ fa K st pt kt ) (tabOf (pa22_lR w.params fa K st pt kt ) 0 .nil) (tabOf (pa22_lT w.params fa K st pt kt ) 0 .nil) 0 1 n 0 τ 0 [] [] := by
  cases b1 <;> exact runOf (adrs [] n) (adr1 [fa]) (by kernel_rfl)
noncomputable def pa23_sh : List Sk := [.frl,.func,.frl,.func,.blt SL.s11611643536802374852x12]
noncomputable def pa23_code (fa : Nat) (K : Str) (st pt kt : Tok) : Code := (.call (.ref 770) ⟨[(.ref fa),(.str (u [96]) st)],[]⟩)
noncomputable def pa23_lT (P : Params) (fa : Nat) (K : Str) (st pt kt : Tok) : List Ent := []
noncomputable def pa23_lR (P : Params) (fa : Nat) (K : Str) (st pt kt : Tok) : List Ent := [(fa,⟨(.type SL.s2766695959194262286x5),none,(.seq ⟨[(.int (2) pt),(.str K kt)]⟩ 0),⟨[]⟩⟩)]
noncomputable def pa23_scr (P : Params) (n τ : Nat) (fa : Nat) (K : Str) (st pt kt : Tok) : Scr := (.orc [2311,2308,3,3,3,3,7,3,2,2,2,0,2,6,6,0,6,6,6,2,6,6,6,0,6,6,6,2,6,6,6,0,6,6,6,2,6,6,12,3,3,3,3,3,0,3,3,3,0,3,0,3,3,0,3,3,3] (oAdd [.func,.frl,.func,.frl,.func,.blt SL.s11611643536802374852x12] K kt (u [96]) st) 4 1 fun α1 tk1 n1 τ1 =>
  (.fin [] ⟨.ok (.done (.ret (.ref (n1 + 0)))),[(4,(n1 + 0),⟨(.type SL.s2766695959194262286x5),none,(.seq ⟨[(.int (2) pt),(.str (K ++ (u [96])) tk1)]⟩ 0),⟨[]⟩⟩)],[]⟩))
theorem pa23_run (w : World) (b1 b2 b3 : Bool) (hs : HL pa23_sh) (p : Pos) (n τ : Nat) (fa : Nat) (K : Str) (st pt kt : Tok) : SH (VX w b1 b2 b3) true 20000 [] ⟨pa23_code fa K st pt kt ,none,none,fillAll pa23_sh hs,none⟩ p ((VX w b1 b2 b3).den (pa23_code fa K st pt kt )) (pa23_scr w.params n τ fa K st pt kt ) (tabOf (pa23_lR w.params fa K st pt kt ) 0 .nil) (tabOf (pa23_lT w.params fa K st pt kt ) 0 .nil) 0 1 n 0 τ 0 [] [] := by
  cases b1 <;> exact runOf (adrs [] n) (adr1 [fa]) (by kernel_rfl)
noncomputable def pa30_sh : List Sk := [.frl,.func,.frl,.func,.blt SL.s11611643536802374852x12]
noncomputable def pa30_code (fa : Nat) (K : Str) (st pt kt : Tok) : Code := (.call (.ref 770) ⟨[(.ref fa),(.str (u [120]) st)],[]⟩)
noncomputable def pa30_lT (P : Params) (fa : Nat) (K : Str) (st pt kt : Tok) : List Ent := []
noncomputable def pa30_lR (P : Params) (fa : Nat) (K : Str) (st pt kt : Tok) : List Ent := [(fa,⟨(.type SL.s2766695959194262286x5),none,(.seq ⟨[(.int (3) pt),(.str K kt)]⟩ 0),⟨[]⟩⟩)]
noncomputable def pa30_scr (P : Params) (n τ : Nat) (fa : Nat) (K : Str) (st pt kt : Tok) : Scr := (.orc [2311,2308,3,3,3,3,7,3,2,2,2,0,2,6,6,0,6,6,6,2,6,6,6,0,6,6,6,2,6,6,6,0,6,6,6,2,6,6,12,3,3,3,3,3,0,3,3,3,0,3,3,3] (oAdd [.func,.frl,.func,.frl,.func,.blt SL.s11611643536802374852x12] K kt (u [120]) st) 4 1 fun α1 tk1 n1 τ1 =>
  (.fin [] ⟨.ok (.done (.ret (.ref (n1 + 0)))),[(4,(n1 + 0),⟨(.type SL.s2766695959194262286x5),none,(.seq ⟨[(.int (3) pt),(.str (K ++ (u [120])) tk1)]⟩ 0),⟨[]⟩⟩)],[]⟩))
theorem pa30_run (w : World) (b1 b2 b3 : Bool) (hs : HL pa30_sh) (p : Pos) (n τ : Nat) (fa : Nat) (K : Str) (st pt kt : Tok) : SH (VX w b1 b2 b3) true 20000 [] ⟨pa30_code fa K st pt kt ,none,none,fillAll pa30_sh hs,none⟩ p ((VX w b1 b2 b3).den (pa30_code fa K st pt kt )) (pa30_scr w.params n τ fa K st pt kt ) (tabOf (pa30_lR w.params fa K st pt kt ) 0 .nil) (tabOf (pa30_lT w.params fa K st pt kt ) 0 .nil) 0 1 n 0 τ 0 [] [] := by
  cases b1 <;> exact runOf (adrs [] n) (adr1 [fa]) (by kernel_rfl)
noncomputable def pa31_sh : List Sk := [.frl,.func,.frl,.func,.blt SL.s11611643536802374852x12]
noncomputable def pa31_code (fa : Nat) (K : Str) (st pt kt : Tok) : Code := (.call (.ref 770) ⟨[(.ref fa),(.str (u [39]) st)],[]⟩)
noncomputable def pa31_lT (P : Params) (fa : Nat) (K : Str) (st pt kt : Tok) : List Ent := []
noncomputable def pa31_lR (P : Params) (fa : Nat) (K : Str) (st pt kt : Tok) : List Ent := [(fa,⟨(.type SL.s2766695959194262286x5),none,(.seq ⟨[(.int (3) pt),(.str K kt)]⟩ 0),⟨[]⟩⟩)]
noncomputable def pa31_scr (P : Params) (n τ : Nat) (fa : Nat) (K : Str) (st pt kt : Tok) : Scr := (.orc [2311,2308,3,3,3,3,7,3,2,2,2,0,2,6,6,0,6,6,6,2,6,6,6,0,6,6,6,2,6,6,6,0,6,6,6,2,6,6,12,3,3,3,3,3,0,3,3,3,0,3,0,3,3,0,3,3,3] (oAdd [.func,.frl,.func,.frl,.func,.blt SL.s11611643536802374852x12] K kt (u [39]) st) 4 1 fun α1 tk1 n1 τ1 =>
  (.fin [] ⟨.ok (.done (.ret (.ref (n1 + 0)))),[(4,(n1 + 0),⟨(.type SL.s2766695959194262286x5),none,(.seq ⟨[(.int (3) pt),(.str (K ++ (u [39])) tk1)]⟩ 0),⟨[]⟩⟩)],[]⟩))
theorem pa31_run (w : World) (b1 b2 b3 : Bool) (hs : HL pa31_sh) (p : Pos) (n τ : Nat) (fa : Nat) (K : Str) (st pt kt : Tok) : SH (VX w b1 b2 b3) true 20000 [] ⟨pa31_code fa K st pt kt ,none,none,fillAll pa31_sh hs,none⟩ p ((VX w b1 b2 b3).den (pa31_code fa K st pt kt )) (pa31_scr w.params n τ fa K st pt kt ) (tabOf (pa31_lR w.params fa K st pt kt ) 0 .nil) (tabOf (pa31_lT w.params fa K st pt kt ) 0 .nil) 0 1 n 0 τ 0 [] [] := by
  cases b1 <;> exact runOf (adrs [] n) (adr1 [fa]) (by kernel_rfl)
noncomputable def pa32_sh : List Sk := [.frl,.func,.frl,.func,.blt SL.s11611643536802374852x12]
noncomputable def pa32_code (fa : Nat) (K : Str) (st pt kt : Tok) : Code := (.call (.ref 770) ⟨[(.ref fa),(.str (u [34]) st)],[]⟩)
noncomputable def pa32_lT (P : Params) (fa : Nat) (K : Str) (st pt kt : Tok) : List Ent := []
noncomputable def pa32_lR (P : Params) (fa : Nat) (K : Str) (st pt kt : Tok) : List Ent := [(fa,⟨(.type SL.s2766695959194262286x5),none,(.seq ⟨[(.int (3) pt),(.str K kt)]⟩ 0),⟨[]⟩⟩)]
noncomputable def pa32_scr (P : Params) (n τ : Nat) (fa : Nat) (K : Str) (st pt kt : Tok) : Scr := (.orc [2311,2308,3,3,3,3,7,3,2,2,2,0,2,6,6,0,6,6,6,2,6,6,6,0,6,6,6,2,6,6,6,0,6,6,6,2,6,6,12,3,3,3,3,3,0,3,3,3,0,3,0,3,3,0,3,3,3] (oAdd [.func,.frl,.func,.frl,.func,.blt SL.s11611643536802374852x12] K kt (u [34]) st) 4 1 fun α1 tk1 n1 τ1 =>
  (.fin [] ⟨.ok (.done (.ret (.ref (n1 + 0)))),[(4,(n1 + 0),⟨(.type SL.s2766695959194262286x5),none,(.seq ⟨[(.int (3) pt),(.str (K ++ (u [34])) tk1)]⟩ 0),⟨[]⟩⟩)],[]⟩))
theorem pa32_run (w : World) (b1 b2 b3 : Bool) (hs : HL pa32_sh) (p : Pos) (n τ : Nat) (fa : Nat) (K : Str) (st pt kt : Tok) : SH (VX w b1 b2 b3) true 20000 [] ⟨pa32_code fa K st pt kt ,none,none,fillAll pa32_sh hs,none⟩ p ((VX w b1 b2 b3).den (pa32_code fa K st pt kt )) (pa32_scr w.params n τ fa K st pt kt ) (tabOf (pa32_lR w.params fa K st pt kt ) 0 .nil) (tabOf (pa32_lT w.params fa K st pt kt ) 0 .nil) 0 1 n 0 τ 0 [] [] := by
  cases b1 <;> exact runOf (adrs [] n) (adr1 [fa]) (by kernel_rfl)
noncomputable def pa33_sh : List Sk := [.frl,.func,.frl,.func,.blt SL.s11611643536802374852x12]
noncomputable def pa33_code (fa : Nat) (K : Str) (st pt kt : Tok) : Code := (.call (.ref 770) ⟨[(.ref fa),(.str (u [96]) st)],[]⟩)
noncomputable def pa33_lT (P : Params) (fa : Nat) (K : Str) (st pt kt : Tok) : List Ent := []
noncomputable def pa33_lR (P : Params) (fa : Nat) (K : Str) (st pt kt : Tok) : List Ent := [(fa,⟨(.type SL.s2766695959194262286x5),none,(.seq ⟨[(.int (3) pt),(.str K kt)]⟩ 0),⟨[]⟩⟩)]
noncomputable def pa33_scr (P : Params) (n τ : Nat) (fa : Nat) (K : Str) (st pt kt : Tok) : Scr := (.fin [2311,2308,3,3,3,3,7,3,2,2,2,0,2,6,6,0,6,6,6,2,6,6,6,0,6,6,6,2,6,6,6,0,6,6,6,2,6,6,12,3,3,3,3,3,0,3,3,3,0,3,0,3,3,0,3,3,0,3] ⟨.ok (.done (.ret (.ref (n + 4)))),[(4,(n + 4),⟨(.type SL.s2766695959194262286x5),none,(.seq ⟨[(.int (0) (τ + 9)),(.str K kt)]⟩ 0),⟨[]⟩⟩)],[]⟩)
theorem pa33_run (w : World) (b1 b2 b3 : Bool) (hs : HL pa33_sh) (p : Pos) (n τ : Nat) (fa : Nat) (K : Str) (st pt kt : Tok) : SH (VX w b1 b2 b3) true 20000 [] ⟨pa33_code fa K st pt kt ,none,none,fillAll pa33_sh hs,none⟩ p ((VX w b1 b2 b3).den (pa33_code fa K st pt kt )) (pa33_scr w.params n τ fa K st pt kt ) (tabOf (pa33_lR w.params fa K st pt kt ) 0 .nil) (tabOf (pa33_lT w.params fa K st pt kt ) 0 .nil) 0 1 n 0 τ 0 [] [] := by
  cases b1 <;> exact runOf (adrs [] n) (adr1 [fa]) (by kernel_rfl)
noncomputable def tupO (g : Int) (gt : Tok) (K : Str) (kt : Tok) (e : Nat) : Obj := ⟨.type SL.s2766695959194262286x5,none,.seq ⟨[.int g gt,.str K kt]⟩ e,#[]⟩
noncomputable def al3 (a b c i : Nat) : Nat := match i with
  | 0 => a
  | 1 => b
  | _ => c
theorem vPa00 (w : World) (b1 b2 b3 : Bool) (hp fa : Nat) (K : Str) (hK : K.length + 1 ≤ sizeLine) (st pt kt : Tok) : Valid (VX w b1 b2 b3) (oCallee 770 pa00_sh hp fa (tupO 0 pt K kt 0) (u [120]) st (fun α _ => tupO 0 (α 1) (K ++ (u [120])) (α 2) 0) false) := by
  intro hs p s htop hpre ⟨hap,hpp⟩
  refine enter (VX_ok _ _ _ _) (lT := []) (lR := [(fa,tupO 0 pt K kt 0)]) (pa00_run w b1 b2 b3 hs p s.heap.objs.size s.toks fa K st pt kt) rfl htop (fun _ h => nomatch h) (fun x hx => ?_) List.nodup_nil (fun _ h => nomatch h) (fun _ h => nomatch h) ?_
  · obtain rfl := List.mem_singleton.mp hx
    exact hpre _ (List.mem_singleton.mpr rfl)
  · refine ⟨vAdd hK,fun α tk n' τ' _ s' L q e => ?_⟩
    exact ⟨al3 (n' + 0) pt tk,0,callee_leaves (α := al3 (n' + 0) pt tk) L (fun _ h => nomatch h) (resF_inj e) rfl (L.at_ _ (List.mem_singleton.mpr rfl)) (.inl (L.new _ (List.mem_singleton.mpr rfl) (Nat.zero_le _)))⟩
theorem vPa01 (w : World) (b1 b2 b3 : Bool) (hp fa : Nat) (K : Str) (hK : K.length + 1 ≤ sizeLine) (st pt kt : Tok) : Valid (VX w b1 b2 b3) (oCallee 770 pa01_sh hp fa (tupO 0 pt K kt 0) (u [39]) st (fun α _ => tupO 1 (α 1) K (α 2) 0) false) := by
  intro hs p s htop hpre ⟨hap,hpp⟩
  refine enter (VX_ok _ _ _ _) (lT := []) (lR := [(fa,tupO 0 pt K kt 0)]) (pa01_run w b1 b2 b3 hs p s.heap.objs.size s.toks fa K st pt kt) rfl htop (fun _ h => nomatch h) (fun x hx => ?_) List.nodup_nil (fun _ h => nomatch h) (fun _ h => nomatch h) ?_
  · obtain rfl := List.mem_singleton.mp hx
    exact hpre _ (List.mem_singleton.mpr rfl)
  · intro s' L q e
    exact ⟨al3 (s.heap.objs.size + 4) (s.toks + 9) kt,0,callee_leaves (α := al3 (s.heap.objs.size + 4) (s.toks + 9) kt) L (fun _ h => nomatch h) (resF_inj e) rfl (L.at_ _ (List.mem_singleton.mpr rfl)) (.inl (L.new _ (List.mem_singleton.mpr rfl) (Nat.zero_le _)))⟩
theorem vPa02 (w : World) (b1 b2 b3 : Bool) (hp fa : Nat) (K : Str) (hK : K.length + 1 ≤ sizeLine) (st pt kt : Tok) : Valid (VX w b1 b2 b3) (oCallee 770 pa02_sh hp fa (tupO 0 pt K kt 0) (u [34]) st (fun α _ => tupO 2 (α 1) K (α 2) 0) false) := by
  intro hs p s htop hpre ⟨hap,hpp⟩
  refine enter (VX_ok _ _ _ _) (lT := []) (lR := [(fa,tupO 0 pt K kt 0)]) (pa02_run w b1 b2 b3 hs p s.heap.objs.size s.toks fa K st pt kt) rfl htop (fun _ h => nomatch h) (fun x hx => ?_) List.nodup_nil (fun _ h => nomatch h) (fun _ h => nomatch h) ?_
  · obtain rfl := List.mem_singleton.mp hx
    exact hpre _ (List.mem_singleton.mpr rfl)
  · intro s' L q e
    exact ⟨al3 (s.heap.objs.size + 4) (s.toks + 9) kt,0,callee_leaves (α := al3 (s.heap.objs.size + 4) (s.toks + 9) kt) L (fun _ h => nomatch h) (resF_inj e) rfl (L.at_ _ (List.mem_singleton.mpr rfl)) (.inl (L.new _ (List.mem_singleton.mpr rfl) (Nat.zero_le _)))⟩
theorem vPa03 (w : World) (b1 b2 b3 : Bool) (hp fa : Nat) (K : Str) (hK : K.length + 1 ≤ sizeLine) (st pt kt : Tok) : Valid (VX w b1 b2 b3) (oCallee 770 pa03_sh hp fa (tupO 0 pt K kt 0) (u [96]) st (fun α _ => tupO 3 (α 1) K (α 2) 0) false) := by
  intro hs p s htop hpre ⟨hap,hpp⟩
  refine enter (VX_ok _ _ _ _) (lT := []) (lR := [(fa,tupO 0 pt K kt 0)]) (pa03_run w b1 b2 b3 hs p s.heap.objs.size s.toks fa K st pt kt) rfl htop (fun _ h => nomatch h) (fun x hx => ?_) List.nodup_nil (fun _ h => nomatch h) (fun _ h => nomatch h) ?_
  · obtain rfl := List.mem_singleton.mp hx
    exact hpre _ (List.mem_singleton.mpr rfl)
  · intro s' L q e
    exact ⟨al3 (s.heap.objs.size + 4) (s.toks + 9) kt,0,callee_leaves (α := al3 (s.heap.objs.size + 4) (s.toks + 9) kt) L (fun _ h => nomatch h) (resF_inj e) rfl (L.at_ _ (List.mem_singleton.mpr rfl)) (.inl (L.new _ (List.mem_singleton.mpr rfl) (Nat.zero_le _)))⟩
theorem vPa10 (w : World) (b1 b2 b3 : Bool) (hp fa : Nat) (K : Str) (hK : K.length + 1 ≤ sizeLine) (st pt kt : Tok) : Valid (VX w b1 b2 b3) (oCallee 770 pa10_sh hp fa (tupO 1 pt K kt 0) (u [120]) st (fun α _ => tupO 1 (α 1) (K ++ (u [120])) (α 2) 0) false) := by
  intro hs p s htop hpre ⟨hap,hpp⟩
  refine enter (VX_ok _ _ _ _) (lT := []) (lR := [(fa,tupO 1 pt K kt 0)]) (pa10_run w b1 b2 b3 hs p s.heap.objs.size s.toks fa K st pt kt) rfl htop (fun _ h => nomatch h) (fun x hx => ?_) List.nodup_nil (fun _ h => nomatch h) (fun _ h => nomatch h) ?_
  · obtain rfl := List.mem_singleton.mp hx
    exact hpre _ (List.mem_singleton.mpr rfl)
  · refine ⟨vAdd hK,fun α tk n' τ' _ s' L q e => ?_⟩
    exact ⟨al3 (n' + 0) pt tk,0,callee_leaves (α := al3 (n' + 0) pt tk) L (fun _ h => nomatch h) (resF_inj e) rfl (L.at_ _ (List.mem_singleton.mpr rfl)) (.inl (L.new _ (List.mem_singleton.mpr rfl) (Nat.zero_le _)))⟩
theorem vPa11 (w : World) (b1 b2 b3 : Bool) (hp fa : Nat) (K : Str) (hK : K.length + 1 ≤ sizeLine) (st pt kt : Tok) : Valid (VX w b1 b2 b3) (oCallee 770 pa11_sh hp fa (tupO 1 pt K kt 0) (u [39]) st (fun α _ => tupO 0 (α 1) K (α 2) 0) false) := by
  intro hs p s htop hpre ⟨hap,hpp⟩
  refine enter (VX_ok _ _ _ _) (lT := []) (lR := [(fa,tupO 1 pt K kt 0)]) (pa11_run w b1 b2 b3 hs p s.heap.objs.size s.toks fa K st pt kt) rfl htop (fun _ h => nomatch h) (fun x hx => ?_) List.nodup_nil (fun _ h => nomatch h) (fun _ h => nomatch h) ?_
  · obtain rfl := List.mem_singleton.mp hx
    exact hpre _ (List.mem_singleton.mpr rfl)
  · intro s' L q e
    exact ⟨al3 (s.heap.objs.size + 4) (s.toks + 9) kt,0,callee_leaves (α := al3 (s.heap.objs.size + 4) (s.toks + 9) kt) L (fun _ h => nomatch h) (resF_inj e) rfl (L.at_ _ (List.mem_singleton.mpr rfl)) (.inl (L.new _ (List.mem_singleton.mpr rfl) (Nat.zero_le _)))⟩
theorem vPa12 (w : World) (b1 b2 b3 : Bool) (hp fa : Nat) (K : Str) (hK : K.length + 1 ≤ sizeLine) (st pt kt : Tok) : Valid (VX w b1 b2 b3) (oCallee 770 pa12_sh hp fa (tupO 1 pt K kt 0) (u [34]) st (fun α _ => tupO 1 (α 1) (K ++ (u [34])) (α 2) 0) false) := by
  intro hs p s htop hpre ⟨hap,hpp⟩
  refine enter (VX_ok _ _ _ _) (lT := []) (lR := [(fa,tupO 1 pt K kt 0)]) (pa12_run w b1 b2 b3 hs p s.heap.objs.size s.toks fa K st pt kt) rfl htop (fun _ h => nomatch h) (fun x hx => ?_) List.nodup_nil (fun _ h => nomatch h) (fun _ h => nomatch h) ?_
  · obtain rfl := List.mem_singleton.mp hx
    exact hpre _ (List.mem_singleton.mpr rfl)
  · refine ⟨vAdd hK,fun α tk n' τ' _ s' L q e => ?_⟩
    exact ⟨al3 (n' + 0) pt tk,0,callee_leaves (α := al3 (n' + 0) pt tk) L (fun _ h => nomatch h) (resF_inj e) rfl (L.at_ _ (List.mem_singleton.mpr rfl)) (.inl (L.new _ (List.mem_singleton.mpr rfl) (Nat.zero_le _)))⟩
theorem vPa13 (w : World) (b1 b2 b3 : Bool) (hp fa : Nat) (K : Str) (hK : K.length + 1 ≤ sizeLine) (st pt kt : Tok) : Valid (VX w b1 b2 b3) (oCallee 770 pa13_sh hp fa (tupO 1 pt K kt 0) (u [96]) st (fun α _ => tupO 1 (α 1) (K ++ (u [96])) (α 2) 0) false) := by
  intro hs p s htop hpre ⟨hap,hpp⟩
  refine enter (VX_ok _ _ _ _) (lT := []) (lR := [(fa,tupO 1 pt K kt 0)]) (pa13_run w b1 b2 b3 hs p s.heap.objs.size s.toks fa K st pt kt) rfl htop (fun _ h => nomatch h) (fun x hx => ?_) List.nodup_nil (fun _ h => nomatch h) (fun _ h => nomatch h) ?_
  · obtain rfl := List.mem_singleton.mp hx
    exact hpre _ (List.mem_singleton.mpr rfl)
  · refine ⟨vAdd hK,fun α tk n' τ' _ s' L q e => ?_⟩
    exact ⟨al3 (n' + 0) pt tk,0,callee_leaves (α := al3 (n' + 0) pt tk) L (fun _ h => nomatch h) (resF_inj e) rfl (L.at_ _ (List.mem_singleton.mpr rfl)) (.inl (L.new _ (List.mem_singleton.mpr rfl) (Nat.zero_le _)))⟩
theorem vPa20 (w : World) (b1 b2 b3 : Bool) (hp fa : Nat) (K : Str) (hK : K.length + 1 ≤ sizeLine) (st pt kt : Tok) : Valid (VX w b1 b2 b3) (oCallee 770 pa20_sh hp fa (tupO 2 pt K kt 0) (u [120]) st (fun α _ => tupO 2 (α 1) (K ++ (u [120])) (α 2) 0) false) := by
  intro hs p s htop hpre ⟨hap,hpp⟩
  refine enter (VX_ok _ _ _ _) (lT := []) (lR := [(fa,tupO 2 pt K kt 0)]) (pa20_run w b1 b2 b3 hs p s.heap.objs.size s.toks fa K st pt kt) rfl htop (fun _ h => nomatch h) (fun x hx => ?_) List.nodup_nil (fun _ h => nomatch h) (fun _ h => nomatch h) ?_
  · obtain rfl := List.mem_singleton.mp hx
    exact hpre _ (List.mem_singleton.mpr rfl)
  · refine ⟨vAdd hK,fun α tk n' τ' _ s' L q e => ?_⟩
    exact ⟨al3 (n' + 0) pt tk,0,callee_leaves (α := al3 (n' + 0) pt tk) L (fun _ h => nomatch h) (resF_inj e) rfl (L.at_ _ (List.mem_singleton.mpr rfl)) (.inl (L.new _ (List.mem_singleton.mpr rfl) (Nat.zero_le _)))⟩
theorem vPa21 (w : World) (b1 b2 b3 : Bool) (hp fa : Nat) (K : Str) (hK : K.length + 1 ≤ sizeLine) (st pt kt : Tok) : Valid (VX w b1 b2 b3) (oCallee 770 pa21_sh hp fa (tupO 2 pt K kt 0) (u [39]) st (fun α _ => tupO 2 (α 1) (K ++ (u [39])) (α 2) 0) false) := by
  intro hs p s htop hpre ⟨hap,hpp⟩
  refine enter (VX_ok _ _ _ _) (lT := []) (lR := [(fa,tupO 2 pt K kt 0)]) (pa21_run w b1 b2 b3 hs p s.heap.objs.size s.toks fa K st pt kt) rfl htop (fun _ h => nomatch h) (fun x hx => ?_) List.nodup_nil (fun _ h => nomatch h) (fun _ h => nomatch h) ?_
  · obtain rfl := List.mem_singleton.mp hx
    exact hpre _ (List.mem_singleton.mpr rfl)
  · refine ⟨vAdd hK,fun α tk n' τ' _ s' L q e => ?_⟩
    exact ⟨al3 (n' + 0) pt tk,0,callee_leaves (α := al3 (n' + 0) pt tk) L (fun _ h => nomatch h) (resF_inj e) rfl (L.at_ _ (List.mem_singleton.mpr rfl)) (.inl (L.new _ (List.mem_singleton.mpr rfl) (Nat.zero_le _)))⟩
theorem vPa22 (w : World) (b1 b2 b3 : Bool) (hp fa : Nat) (K : Str) (hK : K.length + 1 ≤ sizeLine) (st pt kt : Tok) : Valid (VX w b1 b2 b3) (oCallee 770 pa22_sh hp fa (tupO 2 pt K kt 0) (u [34]) st (fun α _ => tupO 0 (α 1) K (α 2) 0) false) := by
  intro hs p s htop hpre ⟨hap,hpp⟩
  refine enter (VX_ok _ _ _ _) (lT := []) (lR := [(fa,tupO 2 pt K kt 0)]) (pa22_run w b1 b2 b3 hs p s.heap.objs.size s.toks fa K st pt kt) rfl htop (fun _ h => nomatch h) (fun x hx => ?_) List.nodup_nil (fun _ h => nomatch h) (fun _ h => nomatch h) ?_
  · obtain rfl := List.mem_singleton.mp hx
    exact hpre _ (List.mem_singleton.mpr rfl)
  · intro s' L q e
    exact ⟨al3 (s.heap.objs.size + 4) (s.toks + 9) kt,0,callee_leaves (α := al3 (s.heap.objs.size + 4) (s.toks + 9) kt) L (fun _ h => nomatch h) (resF_inj e) rfl (L.at_ _ (List.mem_singleton.mpr rfl)) (.inl (L.new _ (List.mem_singleton.mpr rfl) (Nat.zero_le _)))⟩
theorem vPa23 (w : World) (b1 b2 b3 : Bool) (hp fa : Nat) (K : Str) (hK : K.length + 1 ≤ sizeLine) (st pt kt : Tok) : Valid (VX w b1 b2 b3) (oCallee 770 pa23_sh hp fa (tupO 2 pt K kt 0) (u [96]) st (fun α _ => tupO 2 (α 1) (K ++ (u [96])) (α 2) 0) false) := by
  intro hs p s htop hpre ⟨hap,hpp⟩
  refine enter (VX_ok _ _ _ _) (lT := []) (lR := [(fa,tupO 2 pt K kt 0)]) (pa23_run w b1 b2 b3 hs p s.heap.objs.size s.toks fa K st pt kt) rfl htop (fun _ h => nomatch h) (fun x hx => ?_) List.nodup_nil (fun _ h => nomatch h) (fun _ h => nomatch h) ?_
  · obtain rfl := List.mem_singleton.mp hx
    exact hpre _ (List.mem_singleton.mpr rfl)
  · refine ⟨vAdd hK,fun α tk n' τ' _ s' L q e => ?_⟩
    exact ⟨al3 (n' + 0) pt tk,0,callee_leaves (α := al3 (n' + 0) pt tk) L (fun _ h => nomatch h) (resF_inj e) rfl (L.at_ _ (List.mem_singleton.mpr rfl)) (.inl (L.new _ (List.mem_singleton.mpr rfl) (Nat.zero_le _)))⟩
theorem vPa30 (w : World) (b1 b2 b3 : Bool) (hp fa : Nat) (K : Str) (hK : K.length + 1 ≤ sizeLine) (st pt kt : Tok) : Valid (VX w b1 b2 b3) (oCallee 770 pa30_sh hp fa (tupO 3 pt K kt 0) (u [120]) st (fun α _ => tupO 3 (α 1) (K ++ (u [120])) (α 2) 0) false) := by
  intro hs p s htop hpre ⟨hap,hpp⟩
  refine enter (VX_ok _ _ _ _) (lT := []) (lR := [(fa,tupO 3 pt K kt 0)]) (pa30_run w b1 b2 b3 hs p s.heap.objs.size s.toks fa K st pt kt) rfl htop (fun _ h => nomatch h) (fun x hx => ?_) List.nodup_nil (fun _ h => nomatch h) (fun _ h => nomatch h) ?_
  · obtain rfl := List.mem_singleton.mp hx
    exact hpre _ (List.mem_singleton.mpr rfl)
  · refine ⟨vAdd hK,fun α tk n' τ' _ s' L q e => ?_⟩
    exact ⟨al3 (n' + 0) pt tk,0,callee_leaves (α := al3 (n' + 0) pt tk) L (fun _ h => nomatch h) (resF_inj e) rfl (L.at_ _ (List.mem_singleton.mpr rfl)) (.inl (L.new _ (List.mem_singleton.mpr rfl) (Nat.zero_le _)))⟩
theorem vPa31 (w : World) (b1 b2 b3 : Bool) (hp fa : Nat) (K : Str) (hK : K.length + 1 ≤ sizeLine) (st pt kt : Tok) : Valid (VX w b1 b2 b3) (oCallee 770 pa31_sh hp fa (tupO 3 pt K kt 0) (u [39]) st (fun α _ => tupO 3 (α 1) (K ++ (u [39])) (α 2) 0) false) := by
  intro hs p s htop hpre ⟨hap,hpp⟩
  refine enter (VX_ok _ _ _ _) (lT := []) (lR := [(fa,tupO 3 pt K kt 0)]) (pa31_run w b1 b2 b3 hs p s.heap.objs.size s.toks fa K st pt kt) rfl htop (fun _ h => nomatch h) (fun x hx => ?_) List.nodup_nil (fun _ h => nomatch h) (fun _ h => nomatch h) ?_
  · obtain rfl := List.mem_singleton.mp hx
    exact hpre _ (List.mem_singleton.mpr rfl)
  · refine ⟨vAdd hK,fun α tk n' τ' _ s' L q e => ?_⟩
    exact ⟨al3 (n' + 0) pt tk,0,callee_leaves (α := al3 (n' + 0) pt tk) L (fun _ h => nomatch h) (resF_inj e) rfl (L.at_ _ (List.mem_singleton.mpr rfl)) (.inl (L.new _ (List.mem_singleton.mpr rfl) (Nat.zero_le _)))⟩
theorem vPa32 (w : World) (b1 b2 b3 : Bool) (hp fa : Nat) (K : Str) (hK : K.length + 1 ≤ sizeLine) (st pt kt : Tok) : Valid (VX w b1 b2 b3) (oCallee 770 pa32_sh hp fa (tupO 3 pt K kt 0) (u [34]) st (fun α _ => tupO 3 (α 1) (K ++ (u [34])) (α 2) 0) false) := by
  intro hs p s htop hpre ⟨hap,hpp⟩
  refine enter (VX_ok _ _ _ _) (lT := []) (lR := [(fa,tupO 3 pt K kt 0)]) (pa32_run w b1 b2 b3 hs p s.heap.objs.size s.toks fa K st pt kt) rfl htop (fun _ h => nomatch h) (fun x hx => ?_) List.nodup_nil (fun _ h => nomatch h) (fun _ h => nomatch h) ?_
  · obtain rfl := List.mem_singleton.mp hx
    exact hpre _ (List.mem_singleton.mpr rfl)
  · refine ⟨vAdd hK,fun α tk n' τ' _ s' L q e => ?_⟩
    exact ⟨al3 (n' + 0) pt tk,0,callee_leaves (α := al3 (n' + 0) pt tk) L (fun _ h => nomatch h) (resF_inj e) rfl (L.at_ _ (List.mem_singleton.mpr rfl)) (.inl (L.new _ (List.mem_singleton.mpr rfl) (Nat.zero_le _)))⟩
theorem vPa33 (w : World) (b1 b2 b3 : Bool) (hp fa : Nat) (K : Str) (hK : K.length + 1 ≤ sizeLine) (st pt kt : Tok) : Valid (VX w b1 b2 b3) (oCallee 770 pa33_sh hp fa (tupO 3 pt K kt 0) (u [96]) st (fun α _ => tupO 0 (α 1) K (α 2) 0) false) := by
  intro hs p s htop hpre ⟨hap,hpp⟩
  refine enter (VX_ok _ _ _ _) (lT := []) (lR := [(fa,tupO 3 pt K kt 0)]) (pa33_run w b1 b2 b3 hs p s.heap.objs.size s.toks fa K st pt kt) rfl htop (fun _ h => nomatch h) (fun x hx => ?_) List.nodup_nil (fun _ h => nomatch h) (fun _ h => nomatch h) ?_
  · obtain rfl := List.mem_singleton.mp hx
    exact hpre _ (List.mem_singleton.mpr rfl)
  · intro s' L q e
    exact ⟨al3 (s.heap.objs.size + 4) (s.toks + 9) kt,0,callee_leaves (α := al3 (s.heap.objs.size + 4) (s.toks + 9) kt) L (fun _ h => nomatch h) (resF_inj e) rfl (L.at_ _ (List.mem_singleton.mpr rfl)) (.inl (L.new _ (List.mem_singleton.mpr rfl) (Nat.zero_le _)))⟩
end Mine
end
section
open PySem PySem.W PyProof.Rows
namespace Mine
noncomputable def bodyAt (path : List Nat) : List Stmt := match stAt pg.main.body path with
  | some (.FunctionDef _ _ b _ _ _ _ _ _ _) => b
  | _ => []
noncomputable def scAt (path : List Nat) : Scope := match stAt pg.main.body path with
  | some (.FunctionDef _ _ _ _ _ _ sc _ _ _) => sc
  | _ => default
noncomputable def rdEnv (fr : Nat) : Env := { scope := scAt [23],locals := fr,globals := 3,cells := [],qual := u [114,101,100,117,99,101,46,60,108,111,99,97,108,115,62,46],func := some 742,code := .ref 741,frame := some fr,builtins := 0 }
noncomputable def rdFor (fr it : Nat) : Code := match ((bodyAt [23])[2]? : Option Stmt) with
  | some (Stmt.For t _ b o _) => .forLoop t (.ref it) b o (rdEnv fr)
  | _ => default
noncomputable def rpA_sh : List Sk := [.func,.frl,.func,.blt SL.s11611643536802374852x12]
noncomputable def rpA_code (fr it ini av : Nat) (T el : Str) (tt q0 q1 q2 q3 q4 : Tok) (i c : Nat) (ob : Obj) (ob' : (Nat → Nat) → Tok → Obj) (ol : Bool) : Code := (rdFor fr it)
noncomputable def rpA_lT (P : Params) (fr it ini av : Nat) (T el : Str) (tt q0 q1 q2 q3 q4 : Tok) (i c : Nat) (ob : Obj) (ob' : (Nat → Nat) → Tok → Obj) (ol : Bool) : List Ent := [(it,(ascO T tt i)),(fr,⟨(.type SL.s658472552662922059x5),none,(.dict ⟨[d P (u [102,117,110,99,116,105,111,110]) q0 (.ref 770),d P (u [115,101,113,117,101,110,99,101]) q1 (.str T tt),d P (u [105,110,105,116,105,97,108]) q2 (.ref ini),d P (u [105,116]) q3 (.ref it),d P (u [118,97,108,117,101]) q4 (.ref ini)]⟩ 5),⟨[]⟩⟩)]
noncomputable def rpA_lR (P : Params) (fr it ini av : Nat) (T el : Str) (tt q0 q1 q2 q3 q4 : Tok) (i c : Nat) (ob : Obj) (ob' : (Nat → Nat) → Tok → Obj) (ol : Bool) : List Ent := [(ini,ob)]
noncomputable def rpA_scr (P : Params) (n τ : Nat) (fr it ini av : Nat) (T el : Str) (tt q0 q1 q2 q3 q4 : Tok) (i c : Nat) (ob : Obj) (ob' : (Nat → Nat) → Tok → Obj) (ol : Bool) : Scr := (.orc [3] (oAscNext [.frl,.func,.frl,.func,.blt SL.s11611643536802374852x12] 0 it T tt i c) 2 1 fun α1 tk1 n1 τ1 =>
  (.orc [6,6,6,6,6,2311] (oCallee 770 [.frl,.func,.frl,.func,.blt SL.s11611643536802374852x12] 2 ini ob (u [c]) tk1 ob' ol) 2 1 fun α2 tk2 n2 τ2 =>
  (.fin [6,6] ⟨.ok (.again (rdFor fr it)),[(1,fr,⟨(.type SL.s658472552662922059x5),none,(.dict ⟨[d P (u [102,117,110,99,116,105,111,110]) q0 (.ref 770),d P (u [115,101,113,117,101,110,99,101]) q1 (.str T tt),d P (u [105,110,105,116,105,97,108]) q2 (.ref ini),d P (u [105,116]) q3 (.ref it),d P (u [118,97,108,117,101]) q4 (.ref (α2 0)),d P (u [101,108,101,109,101,110,116]) (τ1 + 0) (.str (u [c]) tk1)]⟩ 6),⟨[]⟩⟩),(0,it,(ascO T tt (i + 1)))],[(1,(α2 0),(ob' α2 tk2))]⟩)))
theorem rpA_run (w : World) (b1 b2 b3 : Bool) (hs : HL rpA_sh) (p : Pos) (n τ : Nat) (fr it ini av : Nat) (T el : Str) (tt q0 q1 q2 q3 q4 : Tok) (i c : Nat) (ob : Obj) (ob' : (Nat → Nat) → Tok → Obj) (ol : Bool) : SH (VX w b1 b2 b3) false 20000 [] ⟨rpA_code fr it ini av T el tt q0 q1 q2 q3 q4 i c ob ob' ol ,none,none,fillAll rpA_sh hs,none⟩ p ((VX w b1 b2 b3).den (rpA_code fr it ini av T el tt q0 q1 q2 q3 q4 i c ob ob' ol )) (rpA_scr w.params n τ fr it ini av T el tt q0 q1 q2 q3 q4 i c ob ob' ol ) (tabOf (rpA_lR w.params fr it ini av T el tt q0 q1 q2 q3 q4 i c ob ob' ol ) 0 .nil) (tabOf (rpA_lT w.params fr it ini av T el tt q0 q1 q2 q3 q4 i c ob ob' ol ) 0 .nil) 2 1 n 0 τ 0 [] [] := by
  exact runOf (adrs [it,fr] n) (adr1 [ini]) (by kernel_rfl)
noncomputable def rpB_sh : List Sk := [.func,.frl,.func,.blt SL.s11611643536802374852x12]
noncomputable def rpB_code (fr it ini av : Nat) (T el : Str) (tt q0 q1 q2 q3 q4 q5 et : Tok) (i c : Nat) (ob : Obj) (ob' : (Nat → Nat) → Tok → Obj) (ol : Bool) : Code := (rdFor fr it)
noncomputable def rpB_lT (P : Params) (fr it ini av : Nat) (T el : Str) (tt q0 q1 q2 q3 q4 q5 et : Tok) (i c : Nat) (ob : Obj) (ob' : (Nat → Nat) → Tok → Obj) (ol : Bool) : List Ent := [(it,(ascO T tt i)),(fr,⟨(.type SL.s658472552662922059x5),none,(.dict ⟨[d P (u [102,117,110,99,116,105,111,110]) q0 (.ref 770),d P (u [115,101,113,117,101,110,99,101]) q1 (.str T tt),d P (u [105,110,105,116,105,97,108]) q2 (.ref ini),d P (u [105,116]) q3 (.ref it),d P (u [118,97,108,117,101]) q4 (.ref av),d P (u [101,108,101,109,101,110,116]) q5 (.str el et)]⟩ 6),⟨[]⟩⟩)]
noncomputable def rpB_lR (P : Params) (fr it ini av : Nat) (T el : Str) (tt q0 q1 q2 q3 q4 q5 et : Tok) (i c : Nat) (ob : Obj) (ob' : (Nat → Nat) → Tok → Obj) (ol : Bool) : List Ent := [(av,ob)]
noncomputable def rpB_scr (P : Params) (n τ : Nat) (fr it ini av : Nat) (T el : Str) (tt q0 q1 q2 q3 q4 q5 et : Tok) (i c : Nat) (ob : Obj) (ob' : (Nat → Nat) → Tok → Obj) (ol : Bool) : Scr := (.orc [3] (oAscNext [.frl,.func,.frl,.func,.blt SL.s11611643536802374852x12] 0 it T tt i c) 2 1 fun α1 tk1 n1 τ1 =>
  (.orc [6,6,6,6,6,2311] (oCallee 770 [.frl,.func,.frl,.func,.blt SL.s11611643536802374852x12] 2 av ob (u [c]) tk1 ob' ol) 2 1 fun α2 tk2 n2 τ2 =>
  (.fin [6,6] ⟨.ok (.again (rdFor fr it)),[(1,fr,⟨(.type SL.s658472552662922059x5),none,(.dict ⟨[d P (u [102,117,110,99,116,105,111,110]) q0 (.ref 770),d P (u [115,101,113,117,101,110,99,101]) q1 (.str T tt),d P (u [105,110,105,116,105,97,108]) q2 (.ref ini),d P (u [105,116]) q3 (.ref it),d P (u [118,97,108,117,101]) q4 (.ref (α2 0)),d P (u [101,108,101,109,101,110,116]) q5 (.str (u [c]) tk1)]⟩ 6),⟨[]⟩⟩),(0,it,(ascO T tt (i + 1)))],[(1,(α2 0),(ob' α2 tk2))]⟩)))
theorem rpB_run (w : World) (b1 b2 b3 : Bool) (hs : HL rpB_sh) (p : Pos) (n τ : Nat) (fr it ini av : Nat) (T el : Str) (tt q0 q1 q2 q3 q4 q5 et : Tok) (i c : Nat) (ob : Obj) (ob' : (Nat → Nat) → Tok → Obj) (ol : Bool) : SH (VX w b1 b2 b3) false 20000 [] ⟨rpB_code fr it ini av T el tt q0 q1 q2 q3 q4 q5 et i c ob ob' ol ,none,none,fillAll rpB_sh hs,none⟩ p ((VX w b1 b2 b3).den (rpB_code fr it ini av T el tt q0 q1 q2 q3 q4 q5 et i c ob ob' ol )) (rpB_scr w.params n τ fr it ini av T el tt q0 q1 q2 q3 q4 q5 et i c ob ob' ol ) (tabOf (rpB_lR w.params fr it ini av T el tt q0 q1 q2 q3 q4 q5 et i c ob ob' ol ) 0 .nil) (tabOf (rpB_lT w.params fr it ini av T el tt q0 q1 q2 q3 q4 q5 et i c ob ob' ol ) 0 .nil) 2 1 n 0 τ 0 [] [] := by
  exact runOf (adrs [it,fr] n) (adr1 [av]) (by kernel_rfl)
noncomputable def rpE_sh : List Sk := [.func,.frl,.func,.blt SL.s11611643536802374852x12]
noncomputable def rpE_code (fr it ini av : Nat) (T el : Str) (tt q0 q1 q2 q3 q4 q5 et : Tok) (i c : Nat) (ob : Obj) (ob' : (Nat → Nat) → Tok → Obj) (ol : Bool) : Code := (rdFor fr it)
noncomputable def rpE_lT (P : Params) (fr it ini av : Nat) (T el : Str) (tt q0 q1 q2 q3 q4 q5 et : Tok) (i c : Nat) (ob : Obj) (ob' : (Nat → Nat) → Tok → Obj) (ol : Bool) : List Ent := [(it,(ascO T tt i))]
noncomputable def rpE_lR (P : Params) (fr it ini av : Nat) (T el : Str) (tt q0 q1 q2 q3 q4 q5 et : Tok) (i c : Nat) (ob : Obj) (ob' : (Nat → Nat) → Tok → Obj) (ol : Bool) : List Ent := []
noncomputable def rpE_scr (P : Params) (n τ : Nat) (fr it ini av : Nat) (T el : Str) (tt q0 q1 q2 q3 q4 q5 et : Tok) (i c : Nat) (ob : Obj) (ob' : (Nat → Nat) → Tok → Obj) (ol : Bool) : Scr := (.orc [3] (oAscEnd [.frl,.func,.frl,.func,.blt SL.s11611643536802374852x12] 0 it T tt i) 1 0 fun α1 tk1 n1 τ1 =>
  (.fin [2] ⟨.ok (.done .next),[(0,it,(ascE i))],[]⟩))
theorem rpE_run (w : World) (b1 b2 b3 : Bool) (hs : HL rpE_sh) (p : Pos) (n τ : Nat) (fr it ini av : Nat) (T el : Str) (tt q0 q1 q2 q3 q4 q5 et : Tok) (i c : Nat) (ob : Obj) (ob' : (Nat → Nat) → Tok → Obj) (ol : Bool) : SH (VX w b1 b2 b3) true 20000 [] ⟨rpE_code fr it ini av T el tt q0 q1 q2 q3 q4 q5 et i c ob ob' ol ,none,none,fillAll rpE_sh hs,none⟩ p ((VX w b1 b2 b3).den (rpE_code fr it ini av T el tt q0 q1 q2 q3 q4 q5 et i c ob ob' ol )) (rpE_scr w.params n τ fr it ini av T el tt q0 q1 q2 q3 q4 q5 et i c ob ob' ol ) (tabOf (rpE_lR w.params fr it ini av T el tt q0 q1 q2 q3 q4 q5 et i c ob ob' ol ) 0 .nil) (tabOf (rpE_lT w.params fr it ini av T el tt q0 q1 q2 q3 q4 q5 et i c ob ob' ol ) 0 .nil) 1 0 n 0 τ 0 [] [] := by
  exact runOf (adrs [it] n) (adr1 []) (by kernel_rfl)
noncomputable def isSg (c : Nat) : Prop := c = 120 ∨ c = 39 ∨ c = 34 ∨ c = 96
noncomputable def frA (P : Params) (f it ini av : Nat) (T : Str) (tt q0 q1 q2 q3 q4 : Tok) : Obj := ⟨.type SL.s658472552662922059x5,none,.dict ⟨[d P (u [102,117,110,99,116,105,111,110]) q0 (.ref f),d P (u [115,101,113,117,101,110,99,101]) q1 (.str T tt),d P (u [105,110,105,116,105,97,108]) q2 (.ref ini),d P (u [105,116]) q3 (.ref it),d P (u [118,97,108,117,101]) q4 (.ref av)]⟩ 5,#[]⟩
noncomputable def frB (P : Params) (f it ini av : Nat) (T el : Str) (tt q0 q1 q2 q3 q4 q5 et : Tok) : Obj := ⟨.type SL.s658472552662922059x5,none,.dict ⟨[d P (u [102,117,110,99,116,105,111,110]) q0 (.ref f),d P (u [115,101,113,117,101,110,99,101]) q1 (.str T tt),d P (u [105,110,105,116,105,97,108]) q2 (.ref ini),d P (u [105,116]) q3 (.ref it),d P (u [118,97,108,117,101]) q4 (.ref av),d P (u [101,108,101,109,101,110,116]) q5 (.str el et)]⟩ 6,#[]⟩
structure Fam (V : HV) (f : Nat) (sh : List Sk) (old : Nat → Bool) where
  σ : Type
  O : σ → (Nat → Nat) → Obj
  step : σ → Nat → σ
  good : Nat → σ → Prop
  next : ∀ n st c,good (n + 1) st → isSg c → good n (step st c)
  valid : ∀ n st β c ct a,good (n + 1) st → isSg c → Valid V (oCallee f sh 2 a (O st β) (u [c]) ct (fun α _ => O (step st c) fun i => α (i + 1)) (old c))
theorem rdFor_quiet (fr it : Nat) : (rdFor fr it).quiet = true := by kernel_rfl
theorem resF_next {q : Result} (h : Except.ok (PySem.Fin.done .next) = resF q) : q = .ok .next := by
  cases q with
  | ok f => cases h; rfl
  | error e => cases h
structure RdEnd (s s' : Shared) (fr it : Nat) : Prop where
  keep : ∀ a ob,s.heap.get? a = some ob → a ≠ fr → a ≠ it → s'.heap.get? a = some ob
  grow : s.heap.objs.size ≤ s'.heap.objs.size
  gens : s'.gens = s.gens
  drawn : s'.drawn = s.drawn
  os : s'.os = s.os
theorem RdEnd.trans {s s' s'' : Shared} {fr it : Nat} (a : RdEnd s s' fr it) (b : RdEnd s' s'' fr it) : RdEnd s s'' fr it :=
  ⟨fun x ob h h1 h2 => b.keep x ob (a.keep x ob h h1 h2) h1 h2,Nat.le_trans a.grow b.grow,b.gens.trans a.gens,b.drawn.trans a.drawn,b.os.trans a.os⟩
noncomputable def oRdFor (P : Params) (f : Nat) (sh : List Sk) (kf ki hp fr it ini : Nat) (T : Str) (tt q0 q1 q2 q3 q4 : Tok) (ob : Obj) (obF : (Nat → Nat) → Obj) (old : Bool) : Spec :=
  ⟨rdFor fr it,sh,[(3 * kf + 3,fr,frA P f it ini ini T tt q0 q1 q2 q3 q4),(3 * ki + 3,it,ascO T tt 0),(hp,ini,ob)],fun _ _ => .ok .next,
    [(kf,fr,fun α _ => frB P f it ini (α 0) T (u [α 3]) tt q0 q1 q2 q3 q4 (α 1) (α 2)),(ki,it,fun _ _ => ascE T.length)],[fun α _ => obF fun i => α (i + 4)],[],old⟩
noncomputable def al4 (a b c e : Nat) (β : Nat → Nat) (i : Nat) : Nat := match i with
  | 0 => a
  | 1 => b
  | 2 => c
  | 3 => e
  | j + 4 => β j
section
variable {w : World} {b1 b2 b3 : Bool} {fr it ini : Nat} {T : Str} {tt q0 q1 q2 q3 q4 : Tok}
end
section
variable {w : World} {b1 b2 b3 : Bool} {fr it ini : Nat} {T : Str} {tt q0 q1 q2 q3 q4 : Tok}
theorem rp_loop {old : Nat → Bool} (F : Fam (VX w b1 b2 b3) 770 ([.frl,.func,.frl,.func,.blt SL.s11611643536802374852x12]) old) (hne : it ≠ fr) (hti : ∀ ob,topF w.params it ≠ some ob) (htf : ∀ ob,topF w.params fr ≠ some ob) (hs : HL rpB_sh) :
    ∀ (cs : List Nat) (i : Nat) (st : F.σ) (β : Nat → Nat) (av : Nat) (ec : Nat) (q5 et : Tok) (s : Shared) (p : Pos),(∀ j,T.cps[i + j]? = cs[j]?) → (∀ c ∈ cs,isSg c) → F.good cs.length st →
      (∀ a ob,topF w.params a = some ob → s.heap.get? a = some ob) → s.heap.get? it = some (ascO T tt i) → s.heap.get? fr = some (frB w.params 770 it ini av T (u [ec]) tt q0 q1 q2 q3 q4 q5 et) → s.heap.get? av = some (F.O st β) → it ≠ av → fr ≠ av →
      wpCode (VM (VX w b1 b2 b3)) ⟨rdFor fr it,none,none,fillAll rpB_sh hs,none⟩ (fun q s' => q = .ok .next ∧ ∃ a' β' ec' q5' et',s'.heap.get? fr = some (frB w.params 770 it ini a' T (u [ec']) tt q0 q1 q2 q3 q4 q5' et') ∧
        s'.heap.get? a' = some (F.O (cs.foldl F.step st) β') ∧ s'.heap.get? it = some (ascE (i + cs.length : Nat)) ∧ (s.heap.objs.size ≤ a' ∨ a' = av ∧ ∀ c ∈ cs,old c = true) ∧ RdEnd s s' fr it) p s
  | [],i,st,β,av,ec,q5,et,s,p,hcs,hsg,hg,htop,hit,hfr,hav,n1,n2 => by
    refine enter (VX_ok _ _ _ _) (lT := [(it,ascO T tt i)]) (lR := []) (rpE_run w b1 b2 b3 hs p s.heap.objs.size s.toks fr it ini av T (u [ec]) tt q0 q1 q2 q3 q4 q5 et i 0 (F.O st β) (fun _ _ => F.O st β) true) rfl htop (fun x hx => ?_) (fun _ h => nomatch h) (by simp) (fun _ _ _ h => nomatch h) (fun x hx => ?_) ?_
    · obtain rfl := List.mem_singleton.mp hx; exact hit
    · obtain rfl := List.mem_singleton.mp hx; exact hti
    · refine ⟨vAscEnd (by have := hcs 0; simpa using this),fun α tk n' τ' _ s' L q e => ⟨resF_next e,av,β,ec,q5,et,?_,?_,L.at_ _ (List.mem_singleton.mpr rfl),.inr ⟨rfl,fun _ h => nomatch h⟩,⟨fun a ob h _ h2 => L.keep a ob h (by simpa using h2),L.grow,L.gens,L.drawn,L.os⟩⟩⟩
      · exact L.keep _ _ hfr (by simpa using hne.symm)
      · exact L.keep _ _ hav (by simpa using n1.symm)
  | c :: cs,i,st,β,av,ec,q5,et,s,p,hcs,hsg,hg,htop,hit,hfr,hav,n1,n2 => by
    refine enterT (VX_ok _ _ _ _) (lT := [(it,ascO T tt i),(fr,frB w.params 770 it ini av T (u [ec]) tt q0 q1 q2 q3 q4 q5 et)]) (lR := [(av,F.O st β)])
      (rpB_run w b1 b2 b3 hs p s.heap.objs.size s.toks fr it ini av T (u [ec]) tt q0 q1 q2 q3 q4 q5 et i c (F.O st β) (fun α _ => F.O (F.step st c) fun i => α (i + 1)) (old c)) rfl htop (fun x hx => ?_) (fun x hx => ?_) ?_ (fun x hx y hy => ?_) (fun x hx => ?_) ?_
    · rcases List.mem_cons.mp hx with rfl | hx
      · exact hit
      · obtain rfl := List.mem_singleton.mp hx; exact hfr
    · obtain rfl := List.mem_singleton.mp hx; exact hav
    · simpa using hne
    · obtain rfl := List.mem_singleton.mp hy
      rcases List.mem_cons.mp hx with rfl | hx
      · exact n1
      · obtain rfl := List.mem_singleton.mp hx; exact n2
    · rcases List.mem_cons.mp hx with rfl | hx
      · exact hti
      · obtain rfl := List.mem_singleton.mp hx; exact htf
    · refine ⟨vAscNext (by have := hcs 0; simpa using this),fun α tk n1' τ1 _ => ⟨F.valid cs.length st β c tk av hg (hsg c (.head _)),fun α2 tk2 n2' τ2 hnew s' L => ⟨rdFor_quiet fr it,fun p' => ?_⟩⟩⟩
      have a0 : s.heap.objs.size ≤ α2 0 ∨ old c = true ∧ α2 0 = av := (hnew.1 0 _ rfl).imp id fun ⟨h0,x,hx,_,e⟩ => by
        obtain rfl := List.mem_singleton.mp hx; exact ⟨h0,e.symm⟩
      have nit : it ≠ α2 0 := fun e => by
        rcases a0 with h | h
        · have h := none_of_le h; rw [← e,hit] at h; cases h
        · exact n1 (e.trans h.2)
      have nfr : fr ≠ α2 0 := fun e => by
        rcases a0 with h | h
        · have h := none_of_le h; rw [← e,hfr] at h; cases h
        · exact n2 (e.trans h.2)
      have K : RdEnd s s' fr it := ⟨fun a ob h h1 h2 => L.keep a ob h (by simp [h1,h2]),L.grow,L.gens,L.drawn,L.os⟩
      have ih := rp_loop F hne hti htf hs cs (i + 1) (F.step st c) (fun i => α2 (i + 1)) (α2 0) c q5 tk s' p' (fun j => by have := hcs (j + 1); rw [show i + 1 + j = i + (j + 1) by omega]; simpa using this)
        (fun x hx => hsg x (.tail _ hx)) (F.next _ _ _ hg (hsg c (.head _)))
        (fun a ob h => K.keep a ob (htop a ob h) (fun e => htf ob (e ▸ h)) (fun e => hti ob (e ▸ h))) (by rw [show ((i + 1 : Nat) : Int) = (i : Int) + 1 by omega]; exact L.at_ (0,it,ascO T tt (i + 1)) (by simp)) (L.at_ (1,fr,_) (by simp)) (L.ro _ (List.mem_singleton.mpr rfl)) nit nfr
      refine wpCode_mono (fun q s'' x => ?_) ih
      obtain ⟨e,a',β',ec',q5',et',x1,x2,x3,x4,x5⟩ := x
      refine ⟨e,a',β',ec',q5',et',x1,x2,by rw [x3,List.length_cons,show i + 1 + cs.length = i + (cs.length + 1) by omega],?_,K.trans x5⟩
      rcases x4 with x4 | ⟨x4,x6⟩
      · exact .inl (Nat.le_trans K.grow x4)
      · rw [x4]
        exact a0.imp id fun h => ⟨h.2,fun y hy => by
          rcases List.mem_cons.mp hy with rfl | hy
          · exact h.1
          · exact x6 y hy⟩
theorem rp_for {old : Nat → Bool} (F : Fam (VX w b1 b2 b3) 770 ([.frl,.func,.frl,.func,.blt SL.s11611643536802374852x12]) old) (kf ki hp : Nat) (hk : kf ≠ ki) (hhp : hp % 3 = 2) (st : F.σ) (β : Nat → Nat) (hT : T.cps.toList ≠ []) (hsg : ∀ c ∈ T.cps.toList,isSg c) (hg : F.good T.cps.toList.length st) (ol : Bool) (hol : (∀ c ∈ T.cps.toList,old c = true) → ol = true) :
    Valid (VX w b1 b2 b3) (oRdFor w.params 770 rpB_sh kf ki hp fr it ini T tt q0 q1 q2 q3 q4 (F.O st β) (F.O (T.cps.toList.foldl F.step st)) ol) := by
  intro hs p s htop hpre ⟨hap,hpp⟩
  have hfr := hpre _ (List.Mem.head _)
  have hit := hpre _ (List.Mem.tail _ (List.Mem.head _))
  have hav := hpre _ (List.Mem.tail _ (List.Mem.tail _ (List.Mem.head _)))
  dsimp only at hfr hit hav
  have hne : it ≠ fr := fun e => by
    have := hap.inj _ (List.Mem.tail _ (List.Mem.head _)) (by show (3 * ki + 3) % 3 = 0; omega) _ (List.Mem.head _) (by show (3 * kf + 3) % 3 = 0; omega) e
    dsimp only at this
    omega
  have hti : ∀ ob,topF w.params it ≠ some ob := hap.top _ (List.Mem.tail _ (List.Mem.head _)) (by show (3 * ki + 3) % 3 = 0; omega)
  have htf : ∀ ob,topF w.params fr ≠ some ob := hap.top _ (List.Mem.head _) (by show (3 * kf + 3) % 3 = 0; omega)
  have n1 : it ≠ ini := hap.sep _ (List.Mem.tail _ (List.Mem.head _)) (by show (3 * ki + 3) % 3 = 0; omega) _ (List.Mem.tail _ (List.Mem.tail _ (List.Mem.head _))) hhp
  have n2 : fr ≠ ini := hap.sep _ (List.Mem.head _) (by show (3 * kf + 3) % 3 = 0; omega) _ (List.Mem.tail _ (List.Mem.tail _ (List.Mem.head _))) hhp
  obtain ⟨c,cs,hcc⟩ : ∃ c cs,T.cps.toList = c :: cs := by
    cases h : T.cps.toList with
    | nil => exact absurd h hT
    | cons c cs => exact ⟨c,cs,rfl⟩
  have hget : ∀ j,T.cps[j]? = (c :: cs)[j]? := fun j => by rw [← hcc,Array.getElem?_toList]
  have hlen : T.length = cs.length + 1 := by
    show T.cps.size = _
    rw [← Array.length_toList,hcc]; rfl
  rw [hcc] at hsg hg
  refine enterT (VX_ok _ _ _ _) (lT := [(it,ascO T tt (0 : Nat)),(fr,frA w.params 770 it ini ini T tt q0 q1 q2 q3 q4)]) (lR := [(ini,F.O st β)])
      (rpA_run w b1 b2 b3 hs p s.heap.objs.size s.toks fr it ini ini T (u []) tt q0 q1 q2 q3 q4 0 c (F.O st β) (fun α _ => F.O (F.step st c) fun i => α (i + 1)) (old c)) rfl htop (fun x hx => ?_) (fun x hx => ?_) ?_ (fun x hx y hy => ?_) (fun x hx => ?_) ?_
  · rcases List.mem_cons.mp hx with rfl | hx
    · exact hit
    · obtain rfl := List.mem_singleton.mp hx; exact hfr
  · obtain rfl := List.mem_singleton.mp hx; exact hav
  · simpa using hne
  · obtain rfl := List.mem_singleton.mp hy
    rcases List.mem_cons.mp hx with rfl | hx
    · exact n1
    · obtain rfl := List.mem_singleton.mp hx; exact n2
  · rcases List.mem_cons.mp hx with rfl | hx
    · exact hti
    · obtain rfl := List.mem_singleton.mp hx; exact htf
  · refine ⟨vAscNext (by have := hget 0; simpa using this),fun α tk n1' τ1 _ => ⟨F.valid cs.length st β c tk ini hg (hsg c (.head _)),fun α2 tk2 n2' τ2 hnew s' L => ⟨rdFor_quiet fr it,fun p' => ?_⟩⟩⟩
    have a0 : s.heap.objs.size ≤ α2 0 ∨ old c = true ∧ α2 0 = ini := (hnew.1 0 _ rfl).imp id fun ⟨h0,x,hx,_,e⟩ => by
      obtain rfl := List.mem_singleton.mp hx; exact ⟨h0,e.symm⟩
    have nit : it ≠ α2 0 := fun e => by
      rcases a0 with h | h
      · have h := none_of_le h; rw [← e,hit] at h; cases h
      · exact n1 (e.trans h.2)
    have nfr : fr ≠ α2 0 := fun e => by
      rcases a0 with h | h
      · have h := none_of_le h; rw [← e,hfr] at h; cases h
      · exact n2 (e.trans h.2)
    have K : RdEnd s s' fr it := ⟨fun a ob h h1 h2 => L.keep a ob h (by simp [h1,h2]),L.grow,L.gens,L.drawn,L.os⟩
    have ih := rp_loop F hne hti htf hs cs 1 (F.step st c) (fun i => α2 (i + 1)) (α2 0) c (τ1 + 0) tk s' p' (fun j => by have := hget (j + 1); rw [show 1 + j = j + 1 by omega]; simpa using this)
      (fun x hx => hsg x (.tail _ hx)) (F.next _ _ _ hg (hsg c (.head _)))
      (fun a ob h => K.keep a ob (htop a ob h) (fun e => htf ob (e ▸ h)) (fun e => hti ob (e ▸ h))) (L.at_ _ (List.Mem.tail _ (List.Mem.head _))) (L.at_ _ (List.Mem.head _)) (L.ro _ (List.mem_singleton.mpr rfl)) nit nfr
    refine wpCode_mono (fun q s'' x => ?_) ih
    obtain ⟨e,a',β',ec',q5',et',x1,x2,x3,x4,x5⟩ := x
    have K2 := K.trans x5
    refine ⟨al4 a' q5' et' ec' β',0,e,fun x hx => ?_,fun j f h => ?_,fun a ob h hb => K2.keep a ob h (fun z => hb _ (List.Mem.head _) z.symm) (fun z => hb _ (List.Mem.tail _ (List.Mem.head _)) z.symm),fun j f h => ?_,(fun _ _ h => nomatch h),(fun _ _ h => absurd h (Nat.not_lt_zero _)),K2.grow,K2.gens,K2.drawn,K2.os⟩
    · rcases List.mem_cons.mp hx with rfl | hx
      · exact x1
      · obtain rfl := List.mem_singleton.mp hx
        show s''.heap.get? it = some (ascE T.length)
        rw [x3,hlen,Nat.add_comm]
    · cases j with
      | zero =>
        cases h
        rw [hcc]
        exact x2
      | succ j => cases h
    · cases j with
      | succ j => cases h
      | zero =>
        show s.heap.objs.size ≤ a' ∨ _
        rcases x4 with x4 | ⟨x4,x6⟩
        · exact .inl (Nat.le_trans K.grow x4)
        · rw [x4]
          exact a0.imp id fun h => ⟨hol fun y hy => by
            rw [hcc] at hy
            rcases List.mem_cons.mp hy with rfl | hy
            · exact h.1
            · exact x6 y hy,_,List.Mem.tail _ (List.Mem.tail _ (List.Mem.head _)),hhp,h.2.symm⟩
end
end Mine
end
section
open PySem PySem.W PyProof.Rows
namespace Mine
noncomputable def rpH_sh : List Sk := [.frl,.func,.blt SL.s11611643536802374852x12]
noncomputable def rpH_code (ini : Nat) (T : Str) (tt : Tok) (dat : Data) (obF : (Nat → Nat) → Obj) (ol : Bool) : Code := (.call (.ref 742) ⟨[.ref 770,.str T tt,.ref (ini + 788)],[]⟩)
noncomputable def rpH_lT (P : Params) (ini : Nat) (T : Str) (tt : Tok) (dat : Data) (obF : (Nat → Nat) → Obj) (ol : Bool) : List Ent := []
noncomputable def rpH_lR (P : Params) (ini : Nat) (T : Str) (tt : Tok) (dat : Data) (obF : (Nat → Nat) → Obj) (ol : Bool) : List Ent := [((ini + 788),⟨.type SL.s2766695959194262286x5,none,dat,#[]⟩)]
noncomputable def rpH_scr (P : Params) (n τ : Nat) (ini : Nat) (T : Str) (tt : Tok) (dat : Data) (obF : (Nat → Nat) → Obj) (ol : Bool) : Scr := (.orc [2227,2224,2206,3,3,3,3,3,3,7,10,1,3,0] (oStrIter [.blt SL.s13761710972054866084x4,.func,.frl,.func,.blt SL.s11611643536802374852x12] T tt) 1 1 fun α1 tk1 n1 τ1 =>
  (.orc [6,3,3,3,10,2,2203,3,3,3,3,6,6,0,6,6] (oRdFor P 770 [.func,.frl,.func,.blt SL.s11611643536802374852x12] 0 1 2 (n + 0) (α1 0) (ini + 788) T tt (τ + 0) (τ + 1) (τ + 2) (τ1 + 0) (τ1 + 1) ⟨.type SL.s2766695959194262286x5,none,dat,#[]⟩ obF ol) 2 1 fun α2 tk2 n2 τ2 =>
  (.fin [3] ⟨.ok (.done (.ret (.ref (α2 0)))),[],[(1,(α2 0),(obF fun i => α2 (i + 4)))]⟩)))
theorem rpH_run (w : World) (b1 b2 b3 : Bool) (hs : HL rpH_sh) (p : Pos) (n τ : Nat) (ini : Nat) (T : Str) (tt : Tok) (dat : Data) (obF : (Nat → Nat) → Obj) (ol : Bool) : SH (VX w b1 b2 b3) true 20000 [] ⟨rpH_code ini T tt dat obF ol ,none,none,fillAll rpH_sh hs,none⟩ p ((VX w b1 b2 b3).den (rpH_code ini T tt dat obF ol )) (rpH_scr w.params n τ ini T tt dat obF ol ) (tabOf (rpH_lR w.params ini T tt dat obF ol ) 0 .nil) (tabOf (rpH_lT w.params ini T tt dat obF ol ) 0 .nil) 0 1 n 0 τ 0 [] [] := by
  cases b1 <;> exact runOf (adrs [] n) (adr1 [(ini + 788)]) (by kernel_rfl)
noncomputable def oRd (f : Nat) (sh : List Sk) (hp ini : Nat) (T : Str) (tt : Tok) (ob : Obj) (obF : (Nat → Nat) → Obj) (old : Bool) : Spec :=
  ⟨.call (.ref 742) ⟨[.ref f,.str T tt,.ref ini],[]⟩,sh,[(hp,ini,ob)],fun α _ => .ok (.ret (.ref (α 0))),[],[fun α _ => obF fun i => α (i + 1)],[],old⟩
theorem isSg_ascii {T : Str} (h : ∀ c ∈ T.cps.toList,isSg c) : T.cps.all (· < 128) = true := by
  rw [← Array.all_toList,List.all_eq_true]
  intro c hc
  rcases h c hc with rfl | rfl | rfl | rfl <;> decide
noncomputable def al1 (a : Nat) (β : Nat → Nat) (i : Nat) : Nat := match i with
  | 0 => a
  | j + 1 => β j
theorem v_rp {w : World} {b1 b2 b3 : Bool} {ini : Nat} {T : Str} {tt : Tok} {old : Nat → Bool} (F : Fam (VX w b1 b2 b3) 770 ([.frl,.func,.frl,.func,.blt SL.s11611643536802374852x12]) old) (hp : Nat) (ol : Bool) (hol : (∀ c ∈ T.cps.toList,old c = true) → ol = true) (hhp : ol = true → hp % 3 = 2) (h788 : 788 ≤ ini) (st : F.σ) (β : Nat → Nat) (dat : Data) (hO : F.O st β = ⟨.type SL.s2766695959194262286x5,none,dat,#[]⟩) (hT : T.cps.toList ≠ []) (hsg : ∀ c ∈ T.cps.toList,isSg c) (hg : F.good T.cps.toList.length st) :
    Valid (VX w b1 b2 b3) (oRd 770 rpH_sh hp ini T tt (F.O st β) (F.O (T.cps.toList.foldl F.step st)) ol) := by
  obtain ⟨ini,rfl⟩ : ∃ k,ini = k + 788 := ⟨ini - 788,by omega⟩
  have hfor := fun (fr it : Nat) (q0 q1 q2 q3 q4 : Tok) => rp_for (fr := fr) (it := it) (ini := ini + 788) (tt := tt) (q0 := q0) (q1 := q1) (q2 := q2) (q3 := q3) (q4 := q4) F 0 1 2 (by decide) rfl st β hT hsg hg ol hol
  rw [hO] at hfor ⊢
  intro hs p s htop hpre ⟨hap,hpp⟩
  refine enter (VX_ok _ _ _ _) (lT := []) (lR := [(ini + 788,⟨.type SL.s2766695959194262286x5,none,dat,#[]⟩)]) (rpH_run w b1 b2 b3 hs p s.heap.objs.size s.toks ini T tt dat (F.O (T.cps.toList.foldl F.step st)) ol) rfl htop (fun _ h => nomatch h) (fun x hx => ?_) List.nodup_nil (fun _ h => nomatch h) (fun _ h => nomatch h) ?_
  · obtain rfl := List.mem_singleton.mp hx
    exact hpre _ (List.mem_singleton.mpr rfl)
  · refine ⟨vStrIter (isSg_ascii hsg),fun α1 tk1 n1 τ1 _ => ⟨hfor _ _ _ _ _ _ _,fun α2 tk2 n2 τ2 hnew s' L q e => ?_⟩⟩
    refine ⟨al1 (α2 0) fun i => α2 (i + 4),0,resF_inj e,(fun _ h => nomatch h),fun j g h => ?_,fun a ob g _ => L.keep a ob g (fun h => nomatch h),fun j g h => ?_,(fun _ _ h => nomatch h),(fun _ _ h => absurd h (Nat.not_lt_zero _)),L.grow,L.gens,L.drawn,L.os⟩
    · cases j with
      | zero => cases h; exact L.ro _ (List.mem_singleton.mpr rfl)
      | succ j => cases h
    · cases j with
      | succ j => cases h
      | zero =>
        rcases hnew.1 0 _ rfl with h | ⟨h0,x,hx,hm,h⟩
        · exact .inl h
        · rcases List.mem_cons.mp hx with rfl | hx
          · exact absurd hm (by dsimp only; omega)
          · rcases List.mem_cons.mp hx with rfl | hx
            · exact absurd hm (by dsimp only; omega)
            · obtain rfl := List.mem_singleton.mp hx
              exact .inr ⟨h0,_,List.Mem.head _,hhp h0,h⟩
end Mine
end
section
open PySem PySem.W PyProof.Rows
namespace Mine
structure R4 where
  x0 : Str
  x1 : Str
  x2 : Str
  x3 : Str
  y0 : Tok
  y1 : Tok
  y2 : Tok
  y3 : Tok
  e : Nat
noncomputable def R4.obj (r : R4) : Obj := rowO r.x0 r.x1 r.x2 r.x3 r.y0 r.y1 r.y2 r.y3 r.e
noncomputable def R4.swap (r : R4) (c : Nat) : R4 :=
  if c = 39 then ⟨r.x1,r.x0,r.x2,r.x3,r.y1,r.y0,r.y2,r.y3,0⟩ else
  if c = 34 then ⟨r.x2,r.x1,r.x0,r.x3,r.y2,r.y1,r.y0,r.y3,0⟩ else
  if c = 96 then ⟨r.x3,r.x1,r.x2,r.x0,r.y3,r.y1,r.y2,r.y0,0⟩ else r
noncomputable def place (c : Nat) : Nat := if c = 39 then 1 else if c = 34 then 2 else if c = 96 then 3 else 0
noncomputable def passed (st : Nat × Str) (c : Nat) : Nat × Str :=
  if place c = 0 ∨ (st.1 ≠ 0 ∧ st.1 ≠ place c) then (st.1,st.2 ++ u [c]) else (place c - st.1,st.2)
theorem u_length (c : Nat) : (u [c]).length = 1 := rfl
noncomputable def famP (w : World) (b1 b2 b3 : Bool) : Fam (VX w b1 b2 b3) 770 [.frl,.func,.frl,.func,.blt SL.s11611643536802374852x12] (fun _ => false) where
  σ := Nat × Str
  O := fun st β => tupO st.1 (β 0) st.2 (β 1) 0
  step := passed
  good := fun n st => st.1 < 4 ∧ st.2.length + n ≤ sizeLine
  next := fun n st c hg hc => by
    obtain ⟨p,K⟩ := st
    obtain ⟨h1,h2⟩ := hg
    dsimp only at h1 h2
    unfold passed
    split
    · refine ⟨h1,?_⟩
      show (K ++ u [c]).length + n ≤ sizeLine
      rw [strLen_append,u_length]; omega
    · refine ⟨?_,by show K.length + n ≤ sizeLine; omega⟩
      show place c - p < 4
      unfold place
      split <;> (try split) <;> (try split) <;> omega
  valid := fun n st β c ct a hg hc => by
    obtain ⟨p,K⟩ := st
    obtain ⟨h1,h2⟩ := hg
    dsimp only at h1 h2
    have hK : K.length + 1 ≤ sizeLine := by omega
    have hp : p = 0 ∨ p = 1 ∨ p = 2 ∨ p = 3 := by omega
    rcases hp with rfl | rfl | rfl | rfl <;> rcases hc with rfl | rfl | rfl | rfl
    · exact vPa00 w b1 b2 b3 2 a K hK ct (β 0) (β 1)
    · exact vPa01 w b1 b2 b3 2 a K hK ct (β 0) (β 1)
    · exact vPa02 w b1 b2 b3 2 a K hK ct (β 0) (β 1)
    · exact vPa03 w b1 b2 b3 2 a K hK ct (β 0) (β 1)
    · exact vPa10 w b1 b2 b3 2 a K hK ct (β 0) (β 1)
    · exact vPa11 w b1 b2 b3 2 a K hK ct (β 0) (β 1)
    · exact vPa12 w b1 b2 b3 2 a K hK ct (β 0) (β 1)
    · exact vPa13 w b1 b2 b3 2 a K hK ct (β 0) (β 1)
    · exact vPa20 w b1 b2 b3 2 a K hK ct (β 0) (β 1)
    · exact vPa21 w b1 b2 b3 2 a K hK ct (β 0) (β 1)
    · exact vPa22 w b1 b2 b3 2 a K hK ct (β 0) (β 1)
    · exact vPa23 w b1 b2 b3 2 a K hK ct (β 0) (β 1)
    · exact vPa30 w b1 b2 b3 2 a K hK ct (β 0) (β 1)
    · exact vPa31 w b1 b2 b3 2 a K hK ct (β 0) (β 1)
    · exact vPa32 w b1 b2 b3 2 a K hK ct (β 0) (β 1)
    · exact vPa33 w b1 b2 b3 2 a K hK ct (β 0) (β 1)
theorem redP {w : World} {b1 b2 b3 : Bool} {ini : Nat} {T : Str} {tt : Tok} (hp : Nat) (h788 : 788 ≤ ini) (start : Nat) (h4 : start < 4) (st kt : Tok) (hT : T.cps.toList ≠ []) (hsg : ∀ c ∈ T.cps.toList,isSg c) (hl : T.length ≤ 1000) :
    Valid (VX w b1 b2 b3) (oRd 770 rpH_sh hp ini T tt (tupO start st (u []) kt 0) (fun α => tupO (T.cps.toList.foldl passed (start,u [])).1 (α 0) (T.cps.toList.foldl passed (start,u [])).2 (α 1) 0) false) :=
  v_rp (famP w b1 b2 b3) hp false (fun h => by
    cases e : T.cps.toList with
    | nil => exact absurd e hT
    | cons c cs => exact h c (by rw [e]; exact .head _)) (fun h => nomatch h) h788 (start,u []) (fun i => match i with | 0 => st | _ => kt) _ rfl hT hsg ⟨h4,by
    have : T.cps.toList.length = T.length := Array.length_toList
    rw [this]
    show 0 + T.length ≤ sizeLine
    have : (1000 : Nat) ≤ sizeLine := by decide
    omega⟩
end Mine
end
section
open PySem PySem.W PyProof.Rows
namespace Mine
noncomputable def updObjs (α : Nat → Nat) (tk : Tok) : List (Nat × Addr × ((Nat → Nat) → Tok → Obj)) → Nat → List (Nat × Ent)
  | [],_ => []
  | x :: xs,i => (i,x.2.1,x.2.2 α tk) :: updObjs α tk xs (i + 1)
noncomputable def newObjs (α : Nat → Nat) (tk : Tok) : List ((Nat → Nat) → Tok → Obj) → Nat → List Nat → List (Nat × Ent)
  | f :: fs,i,p :: ps => (p,α i,f α tk) :: newObjs α tk fs (i + 1) ps
  | _,_,_ => []
theorem updObjs_mem {α : Nat → Nat} {tk : Tok} : ∀ (l : List (Nat × Addr × ((Nat → Nat) → Tok → Obj))) (i : Nat),∀ x ∈ l,∃ j,(j,x.2.1,x.2.2 α tk) ∈ updObjs α tk l i
  | y :: l,i,x,h => by
    rcases List.mem_cons.mp h with rfl | h
    · exact ⟨i,.head _⟩
    · obtain ⟨j,hj⟩ := updObjs_mem l (i + 1) x h
      exact ⟨j,.tail _ hj⟩
theorem newObjs_mem {α : Nat → Nat} {tk : Tok} : ∀ (l : List ((Nat → Nat) → Tok → Obj)) (i : Nat) (ps : List Nat) (j : Nat) (f : (Nat → Nat) → Tok → Obj) (p : Nat),l[j]? = some f → ps[j]? = some p → (p,α (i + j),f α tk) ∈ newObjs α tk l i ps
  | [],i,ps,j,f,p,h,_ => nomatch h
  | g :: l,i,[],j,f,p,_,h => nomatch h
  | g :: l,i,q :: ps,0,f,p,h,h' => by cases h; cases h'; exact .head _
  | g :: l,i,q :: ps,j + 1,f,p,h,h' => by
    have := newObjs_mem (α := α) (tk := tk) l (i + 1) ps j f p h h'
    rw [show i + (j + 1) = i + 1 + j by omega]
    exact .tail _ this
theorem leaves_at {S : Spec} {s s' : Shared} {own : List (Nat × Ent)} {m₀ : Nat} {out : Out} {α : Nat → Nat} {tk : Tok} (ps : List Nat) {q : Result}
    (L : Left s (fun a => a ∈ own.map (·.2.1)) m₀ out.objs out.ros s') (e : out.res = resF q) (hr : out.res = resF (S.res α tk)) (hown : own.map (·.2.1) = S.upd.map (·.2.1))
    (hobj : out.objs = updObjs α tk S.upd 0 ++ newObjs α tk (S.newR ++ S.newT) 0 ps) (hlen : ps.length = (S.newR ++ S.newT).length) (hps : ∀ p ∈ ps,m₀ ≤ p) (hnd : ps.Nodup) : Leaves S s q s' α tk := by
  have at_ : ∀ j f,(S.newR ++ S.newT)[j]? = some f → ∃ p,ps[j]? = some p ∧ s'.heap.get? (α j) = some (f α tk) ∧ s.heap.objs.size ≤ α j ∧ (p,α j,f α tk) ∈ out.objs := fun j f h => by
    have hj : j < ps.length := by rw [hlen]; exact (List.getElem?_eq_some_iff.mp h).1
    obtain ⟨p,hp⟩ : ∃ p,ps[j]? = some p := ⟨_,List.getElem?_eq_getElem hj⟩
    have hm := newObjs_mem (α := α) (tk := tk) _ 0 ps j f p h hp
    rw [Nat.zero_add] at hm
    have hm : (p,α j,f α tk) ∈ out.objs := by rw [hobj]; exact List.mem_append_right _ hm
    exact ⟨p,hp,L.at_ _ hm,L.new _ hm (hps p (List.mem_of_getElem? hp)),hm⟩
  have qe : q = S.res α tk := by
    rw [e] at hr
    revert hr
    cases q <;> cases S.res α tk <;> intro hr <;> cases hr <;> rfl
  refine ⟨qe,fun x hx => ?_,fun i f h => ?_,fun a ob g hb => L.keep a ob g ?_,fun i f h => ?_,fun i f h => ?_,fun i j hi hj h => ?_,L.grow,L.gens,L.drawn,L.os⟩
  · obtain ⟨j,hj⟩ := updObjs_mem (α := α) (tk := tk) S.upd 0 x hx
    exact L.at_ _ (by rw [hobj]; exact List.mem_append_left _ hj)
  · obtain ⟨p,_,h2,_⟩ := at_ i f (by rw [List.getElem?_append_left (List.getElem?_eq_some_iff.mp h).1]; exact h)
    exact h2
  · intro hm
    have hm : a ∈ own.map (·.2.1) := hm
    rw [hown] at hm
    obtain ⟨x,hx,rfl⟩ := List.mem_map.mp hm
    exact hb x hx rfl
  · obtain ⟨p,_,_,h3,_⟩ := at_ i f (by rw [List.getElem?_append_left (List.getElem?_eq_some_iff.mp h).1]; exact h)
    exact .inl h3
  · obtain ⟨p,_,h2,h3,_⟩ := at_ (S.newR.length + i) f (by rw [List.getElem?_append_right (by omega),show S.newR.length + i - S.newR.length = i by omega]; exact h)
    exact ⟨h2,h3⟩
  · have l1 : S.newR.length + i < (S.newR ++ S.newT).length := by rw [List.length_append]; omega
    have l2 : j < (S.newR ++ S.newT).length := by rw [List.length_append]; exact hj
    obtain ⟨p,p1,_,_,p4⟩ := at_ _ _ (List.getElem?_eq_getElem l1)
    obtain ⟨p',q1,_,_,q4⟩ := at_ _ _ (List.getElem?_eq_getElem l2)
    have := L.inj _ p4 _ q4 h
    dsimp only at this
    subst this
    obtain ⟨a1,b1⟩ := List.getElem?_eq_some_iff.mp p1
    obtain ⟨a2,b2⟩ := List.getElem?_eq_some_iff.mp q1
    exact (List.getElem_inj hnd).mp (b1.trans b2.symm)
theorem leaves_end {S : Spec} {s s' : Shared} {own : List (Nat × Ent)} {m₀ : Nat} {out : Out} {α : Nat → Nat} {tk : Tok} (ps : List Nat) {q : Result}
    (L : Left s (fun a => a ∈ own.map (·.2.1)) m₀ out.objs out.ros s') (e : out.res = resF q) (hr : out.res = resF (S.res α tk)) (hown : own.map (·.2.1) = S.upd.map (·.2.1))
    (hobj : out.objs = updObjs α tk S.upd 0 ++ newObjs α tk (S.newR ++ S.newT) 0 ps) (hlen : ps.length = (S.newR ++ S.newT).length) (hps : ∀ p ∈ ps,m₀ ≤ p) (hnd : ps.Nodup) : ∃ α tk,Leaves S s q s' α tk :=
  ⟨α,tk,leaves_at ps L e hr hown hobj hlen hps hnd⟩
theorem valid_run' {V : HV} (O : V.Ok) {S : Spec} {fuel : Nat} (own ro : List (Nat × Ent)) (scr : Nat → Nat → Scr) (hpre : S.pre = own.map (fun x => (3 * x.1 + 3,x.2)) ++ ro) (hnd : (own.map (·.1)).Nodup) (hro : ∀ x ∈ ro,x.1 % 3 = 2)
    (run : ∀ (hs : HL S.shape) (p : Pos) (n τ : Nat),SH V true fuel [] ⟨S.code,none,none,fillAll S.shape hs,none⟩ p (V.den S.code) (scr n τ) (tabOf (ro.map (·.2)) 0 .nil) (tabOf (own.map (·.2)) 0 .nil) own.length ro.length n 0 τ 0 [] [])
    (ok : (tabOk (own.map (·.2)) 0 .nil && tabOk (ro.map (·.2)) 0 .nil) = true)
    (fin : ∀ s : Shared,(∀ i ob,V.top i = some ob → s.heap.get? i = some ob) → (∀ x ∈ S.pre,s.heap.get? x.2.1 = some x.2.2) → FinOk V (fun r s' => ∀ q,r = resF q → ∃ α tk,Leaves S s q s' α tk) s (fun a => a ∈ own.map (·.2.1)) own.length (scr s.heap.objs.size s.toks)) : Valid V S := by
  intro hs p s htop hp ⟨hap,hpp⟩
  have mo : ∀ x ∈ own,(3 * x.1 + 3,x.2) ∈ S.pre := fun x hx => by rw [hpre]; exact List.mem_append_left _ (List.mem_map_of_mem hx)
  have mr : ∀ x ∈ ro,x ∈ S.pre := fun x hx => by rw [hpre]; exact List.mem_append_right _ hx
  have z : ∀ k : Nat,(3 * k + 3) % 3 = 0 := fun k => by omega
  have r := run hs p s.heap.objs.size s.toks
  have l1 : own.length = (own.map (·.2)).length := by rw [List.length_map]
  have l2 : ro.length = (ro.map (·.2)).length := by rw [List.length_map]
  rw [l1,l2] at r
  refine enter O (lT := own.map (·.2)) (lR := ro.map (·.2)) r ok htop (fun x hx => ?_) (fun x hx => ?_) ?_ (fun x hx y hy => ?_) (fun x hx => ?_) ?_
  · obtain ⟨y,hy,rfl⟩ := List.mem_map.mp hx
    exact hp (3 * y.1 + 3,y.2) (mo y hy)
  · obtain ⟨y,hy,rfl⟩ := List.mem_map.mp hx
    exact hp _ (mr y hy)
  · rw [List.map_map]
    rw [List.nodup_iff_pairwise_ne,List.pairwise_map] at hnd ⊢
    refine List.Pairwise.imp_of_mem (fun {x y} hx hy hne he => ?_) hnd
    have := hap.inj _ (mo x hx) (z _) _ (mo y hy) (z _) he
    dsimp only at this
    omega
  · obtain ⟨x',hx',rfl⟩ := List.mem_map.mp hx
    obtain ⟨y',hy',rfl⟩ := List.mem_map.mp hy
    exact hap.sep _ (mo x' hx') (z _) _ (mr y' hy') (hro y' hy')
  · obtain ⟨x',hx',rfl⟩ := List.mem_map.mp hx
    exact hap.top (3 * x'.1 + 3,x'.2) (mo x' hx') (z _)
  · have := fin s htop hp
    rw [l1] at this
    have e : (fun a => a ∈ (own.map (·.2)).map (·.1)) = fun a => a ∈ own.map (·.2.1) := by
      funext a; rw [List.map_map]; rfl
    rw [e]
    exact this
theorem valid_run {V : HV} (O : V.Ok) {S : Spec} {fuel : Nat} (own ro : List (Nat × Ent)) (scr : Nat → Nat → Scr) (hpre : S.pre = own.map (fun x => (3 * x.1 + 3,x.2)) ++ ro) (hnd : (own.map (·.1)).Nodup) (hro : ∀ x ∈ ro,x.1 % 3 = 2)
    (run : ∀ (hs : HL S.shape) (p : Pos) (n τ : Nat),SH V true fuel [] ⟨S.code,none,none,fillAll S.shape hs,none⟩ p (V.den S.code) (scr n τ) (tabOf (ro.map (·.2)) 0 .nil) (tabOf (own.map (·.2)) 0 .nil) own.length ro.length n 0 τ 0 [] [])
    (ok : (tabOk (own.map (·.2)) 0 .nil && tabOk (ro.map (·.2)) 0 .nil) = true)
    (fin : ∀ s : Shared,FinOk V (fun r s' => ∀ q,r = resF q → ∃ α tk,Leaves S s q s' α tk) s (fun a => a ∈ own.map (·.2.1)) own.length (scr s.heap.objs.size s.toks)) : Valid V S :=
  valid_run' O own ro scr hpre hnd hro run ok fun s _ _ => fin s
end Mine
end
section
open PySem PySem.W PyProof.Rows
namespace Mine
noncomputable def shX : Bool → List Sk
  | true => [.frl,.frl,.func,.blt SL.s11611643536802374852x12]
  | false => [.frl,.func,.blt SL.s11611643536802374852x12]
noncomputable def rdM_sh (z : Bool) : List Sk := (.whl :: .func :: .func :: .func :: shX z)
noncomputable def rdM_code (z : Bool) (sio sd : Nat) (T : Str) (i L c : Nat) (tt pt k0 k1 k2 st : Tok) : Code := (.call (.ref 533) ⟨[(.ref sio),(.int (1) st)],[]⟩)
noncomputable def rdM_lT (P : Params) (z : Bool) (sio sd : Nat) (T : Str) (i L c : Nat) (tt pt k0 k1 k2 st : Tok) : List Ent := [(sd,⟨(.type SL.s14018661285674007319x4),none,(.dict ⟨[d P (u [95,83,116,114,105,110,103,73,79,95,95,110,101,119,108,105,110,101]) k0 (.str (u [10]) 671),d P (u [95,83,116,114,105,110,103,73,79,95,95,98,117,102]) k1 (.str T tt),d P (u [95,83,116,114,105,110,103,73,79,95,95,112,111,115]) k2 (.int (i : Int) pt)]⟩ 3),⟨[]⟩⟩)]
noncomputable def rdM_lR (P : Params) (z : Bool) (sio sd : Nat) (T : Str) (i L c : Nat) (tt pt k0 k1 k2 st : Tok) : List Ent := [(sio,⟨(.ref 587),(some sd),.plain,⟨[]⟩⟩)]
noncomputable def rdM_scr (P : Params) (n τ : Nat) (z : Bool) (sio sd : Nat) (T : Str) (i L c : Nat) (tt pt k0 k1 k2 st : Tok) : Scr := (.orc [1600,1597,1579,6,6,6,6,7,6,10,6,160,0,160,157,9,9,9,9,7,10,1,9,0,10,1,10,1,9,0,0,0,9,9,9,0,9,0,0,9,6,6,6,2,1762,1762,1759,331,328,250,247,2,1762,1762,1759,331,328,250,247,2,1762,1762,1759,1114,2,3,1114,0,1114,1111,12,12,7,12,2,1762,1762,1759,331,328,250,247,0,2,1762,1762,1759,331,328,250,247,2,2,1762,3,6,2,1762,1762,1759,331,328,250,247,0,2,1762,1762,1759,331,328,250,247,2,2,1762,3,6,6,10,1,6,2,1762,1762,1759,331,328,250,247,0,2,1762,1762,1759,331,328,250,247,2,2,1762,3] (oLen (.func :: .whl :: .func :: .func :: .func :: shX z) T tt (L : Int)) 4 1 fun α1 tk1 n1 τ1 =>
  (.orc [6,6,6,6] (oIGe (.func :: .whl :: .func :: .func :: .func :: shX z) (i : Int) pt (L : Int) tk1 false) 4 1 fun α2 tk2 n2 τ2 =>
  (.orc [6,0,6,6] (oIAdd (.func :: .whl :: .func :: .func :: .func :: shX z) (i : Int) pt (1) st (i + 1 : Int)) 4 1 fun α3 tk3 n3 τ3 =>
  (.orc [6] (oILt (.func :: .whl :: .func :: .func :: .func :: shX z) (i + 1 : Int) tk3 (L : Int) tk1 true) 4 1 fun α4 tk4 n4 τ4 =>
  (.orc [6,6] (oIAdd (.func :: .whl :: .func :: .func :: .func :: shX z) (i : Int) pt (1) st (i + 1 : Int)) 4 1 fun α5 tk5 n5 τ5 =>
  (.orc [6,6,6,6,2,1762,1762,1759,331,328,250,247,0,2,1762,2,1762,2,1762,1762,1759,331,328,250,247,2,1762,3,3,3,6,2,1762,1762,1759,331,328,250,247,0,2,1762,1762,1759,331,328,250,247,2,2,1762,3,6,6] (oSl1 (.func :: .whl :: .func :: .func :: .func :: shX z) 15 (n5 + 0) T tt (i : Int) (i + 1 : Int) pt tk5 c) 5 1 fun α6 tk6 n6 τ6 =>
  (.fin [0,0,0,18,18,18,18] ⟨.ok (.done (.ret (.str (u [c]) (τ6 + 4)))),[(0,sd,⟨(.type SL.s14018661285674007319x4),none,(.dict ⟨[d P (u [95,83,116,114,105,110,103,73,79,95,95,110,101,119,108,105,110,101]) k0 (.str (u [10]) 671),d P (u [95,83,116,114,105,110,103,73,79,95,95,98,117,102]) k1 (.str T tt),d P (u [95,83,116,114,105,110,103,73,79,95,95,112,111,115]) k2 (.int (i + 1 : Int) tk5)]⟩ 3),⟨[]⟩⟩)],[]⟩)))))))
theorem rdM_run (w : World) (b1 b2 b3 : Bool) (z : Bool) (hs : HL (rdM_sh z)) (p : Pos) (n τ : Nat) (sio sd : Nat) (T : Str) (i L c : Nat) (tt pt k0 k1 k2 st : Tok) : SH (VX w b1 b2 b3) true 20000 [] ⟨rdM_code z sio sd T i L c tt pt k0 k1 k2 st ,none,none,fillAll (rdM_sh z) hs,none⟩ p ((VX w b1 b2 b3).den (rdM_code z sio sd T i L c tt pt k0 k1 k2 st )) (rdM_scr w.params n τ z sio sd T i L c tt pt k0 k1 k2 st ) (tabOf (rdM_lR w.params z sio sd T i L c tt pt k0 k1 k2 st ) 0 .nil) (tabOf (rdM_lT w.params z sio sd T i L c tt pt k0 k1 k2 st ) 0 .nil) 1 1 n 0 τ 0 [] [] := by
  cases z <;> cases b1 <;> exact runOf (adrs [sd] n) (adr1 [sio]) (by kernel_rfl)
noncomputable def rdL_sh (z : Bool) : List Sk := (.whl :: .func :: .func :: .func :: shX z)
noncomputable def rdL_code (z : Bool) (sio sd : Nat) (T : Str) (i L c : Nat) (tt pt k0 k1 k2 st : Tok) : Code := (.call (.ref 533) ⟨[(.ref sio),(.int (1) st)],[]⟩)
noncomputable def rdL_lT (P : Params) (z : Bool) (sio sd : Nat) (T : Str) (i L c : Nat) (tt pt k0 k1 k2 st : Tok) : List Ent := [(sd,⟨(.type SL.s14018661285674007319x4),none,(.dict ⟨[d P (u [95,83,116,114,105,110,103,73,79,95,95,110,101,119,108,105,110,101]) k0 (.str (u [10]) 671),d P (u [95,83,116,114,105,110,103,73,79,95,95,98,117,102]) k1 (.str T tt),d P (u [95,83,116,114,105,110,103,73,79,95,95,112,111,115]) k2 (.int (i : Int) pt)]⟩ 3),⟨[]⟩⟩)]
noncomputable def rdL_lR (P : Params) (z : Bool) (sio sd : Nat) (T : Str) (i L c : Nat) (tt pt k0 k1 k2 st : Tok) : List Ent := [(sio,⟨(.ref 587),(some sd),.plain,⟨[]⟩⟩)]
noncomputable def rdL_scr (P : Params) (n τ : Nat) (z : Bool) (sio sd : Nat) (T : Str) (i L c : Nat) (tt pt k0 k1 k2 st : Tok) : Scr := (.orc [1600,1597,1579,6,6,6,6,7,6,10,6,160,0,160,157,9,9,9,9,7,10,1,9,0,10,1,10,1,9,0,0,0,9,9,9,0,9,0,0,9,6,6,6,2,1762,1762,1759,331,328,250,247,2,1762,1762,1759,331,328,250,247,2,1762,1762,1759,1114,2,3,1114,0,1114,1111,12,12,7,12,2,1762,1762,1759,331,328,250,247,0,2,1762,1762,1759,331,328,250,247,2,2,1762,3,6,2,1762,1762,1759,331,328,250,247,0,2,1762,1762,1759,331,328,250,247,2,2,1762,3,6,6,10,1,6,2,1762,1762,1759,331,328,250,247,0,2,1762,1762,1759,331,328,250,247,2,2,1762,3] (oLen (.func :: .whl :: .func :: .func :: .func :: shX z) T tt (L : Int)) 4 1 fun α1 tk1 n1 τ1 =>
  (.orc [6,6,6,6] (oIGe (.func :: .whl :: .func :: .func :: .func :: shX z) (i : Int) pt (L : Int) tk1 false) 4 1 fun α2 tk2 n2 τ2 =>
  (.orc [6,0,6,6] (oIAdd (.func :: .whl :: .func :: .func :: .func :: shX z) (i : Int) pt (1) st (i + 1 : Int)) 4 1 fun α3 tk3 n3 τ3 =>
  (.orc [6] (oILt (.func :: .whl :: .func :: .func :: .func :: shX z) (i + 1 : Int) tk3 (L : Int) tk1 false) 4 1 fun α4 tk4 n4 τ4 =>
  (.orc [6,6,2,1762,1762,1759,331,328,250,247,0,2,1762,2,1762,2,1762,1762,1759,331,328,250,247,2,1762,3,3,3,6,2,1762,1762,1759,331,328,250,247,0,2,1762,1762,1759,331,328,250,247,2,2,1762,3,6,6] (oSl1 (.func :: .whl :: .func :: .func :: .func :: shX z) 15 (n4 + 0) T tt (i : Int) (L : Int) pt tk1 c) 5 1 fun α5 tk5 n5 τ5 =>
  (.fin [0,0,0,18,18,18,18] ⟨.ok (.done (.ret (.str (u [c]) (τ5 + 4)))),[(0,sd,⟨(.type SL.s14018661285674007319x4),none,(.dict ⟨[d P (u [95,83,116,114,105,110,103,73,79,95,95,110,101,119,108,105,110,101]) k0 (.str (u [10]) 671),d P (u [95,83,116,114,105,110,103,73,79,95,95,98,117,102]) k1 (.str T tt),d P (u [95,83,116,114,105,110,103,73,79,95,95,112,111,115]) k2 (.int (L : Int) tk1)]⟩ 3),⟨[]⟩⟩)],[]⟩))))))
theorem rdL_run (w : World) (b1 b2 b3 : Bool) (z : Bool) (hs : HL (rdL_sh z)) (p : Pos) (n τ : Nat) (sio sd : Nat) (T : Str) (i L c : Nat) (tt pt k0 k1 k2 st : Tok) : SH (VX w b1 b2 b3) true 20000 [] ⟨rdL_code z sio sd T i L c tt pt k0 k1 k2 st ,none,none,fillAll (rdL_sh z) hs,none⟩ p ((VX w b1 b2 b3).den (rdL_code z sio sd T i L c tt pt k0 k1 k2 st )) (rdL_scr w.params n τ z sio sd T i L c tt pt k0 k1 k2 st ) (tabOf (rdL_lR w.params z sio sd T i L c tt pt k0 k1 k2 st ) 0 .nil) (tabOf (rdL_lT w.params z sio sd T i L c tt pt k0 k1 k2 st ) 0 .nil) 1 1 n 0 τ 0 [] [] := by
  cases z <;> cases b1 <;> exact runOf (adrs [sd] n) (adr1 [sio]) (by kernel_rfl)
noncomputable def rdE_sh (z : Bool) : List Sk := (.whl :: .func :: .func :: .func :: shX z)
noncomputable def rdE_code (z : Bool) (sio sd : Nat) (T : Str) (i L c : Nat) (tt pt k0 k1 k2 st : Tok) : Code := (.call (.ref 533) ⟨[(.ref sio),(.int (1) st)],[]⟩)
noncomputable def rdE_lT (P : Params) (z : Bool) (sio sd : Nat) (T : Str) (i L c : Nat) (tt pt k0 k1 k2 st : Tok) : List Ent := [(sd,⟨(.type SL.s14018661285674007319x4),none,(.dict ⟨[d P (u [95,83,116,114,105,110,103,73,79,95,95,110,101,119,108,105,110,101]) k0 (.str (u [10]) 671),d P (u [95,83,116,114,105,110,103,73,79,95,95,98,117,102]) k1 (.str T tt),d P (u [95,83,116,114,105,110,103,73,79,95,95,112,111,115]) k2 (.int (i : Int) pt)]⟩ 3),⟨[]⟩⟩)]
noncomputable def rdE_lR (P : Params) (z : Bool) (sio sd : Nat) (T : Str) (i L c : Nat) (tt pt k0 k1 k2 st : Tok) : List Ent := [(sio,⟨(.ref 587),(some sd),.plain,⟨[]⟩⟩)]
noncomputable def rdE_scr (P : Params) (n τ : Nat) (z : Bool) (sio sd : Nat) (T : Str) (i L c : Nat) (tt pt k0 k1 k2 st : Tok) : Scr := (.orc [1600,1597,1579,6,6,6,6,7,6,10,6,160,0,160,157,9,9,9,9,7,10,1,9,0,10,1,10,1,9,0,0,0,9,9,9,0,9,0,0,9,6,6,6,2,1762,1762,1759,331,328,250,247,2,1762,1762,1759,331,328,250,247,2,1762,1762,1759,1114,2,3,1114,0,1114,1111,12,12,7,12,2,1762,1762,1759,331,328,250,247,0,2,1762,1762,1759,331,328,250,247,2,2,1762,3,6,2,1762,1762,1759,331,328,250,247,0,2,1762,1762,1759,331,328,250,247,2,2,1762,3,6,6,10,1,6,2,1762,1762,1759,331,328,250,247,0,2,1762,1762,1759,331,328,250,247,2,2,1762,3] (oLen (.func :: .whl :: .func :: .func :: .func :: shX z) T tt (L : Int)) 4 1 fun α1 tk1 n1 τ1 =>
  (.orc [6,6,6,6] (oIGe (.func :: .whl :: .func :: .func :: .func :: shX z) (i : Int) pt (L : Int) tk1 true) 4 1 fun α2 tk2 n2 τ2 =>
  (.fin [] ⟨.ok (.done (.ret (.str (u []) (τ2 + 0)))),[(0,sd,⟨(.type SL.s14018661285674007319x4),none,(.dict ⟨[d P (u [95,83,116,114,105,110,103,73,79,95,95,110,101,119,108,105,110,101]) k0 (.str (u [10]) 671),d P (u [95,83,116,114,105,110,103,73,79,95,95,98,117,102]) k1 (.str T tt),d P (u [95,83,116,114,105,110,103,73,79,95,95,112,111,115]) k2 (.int (i : Int) pt)]⟩ 3),⟨[]⟩⟩)],[]⟩)))
theorem rdE_run (w : World) (b1 b2 b3 : Bool) (z : Bool) (hs : HL (rdE_sh z)) (p : Pos) (n τ : Nat) (sio sd : Nat) (T : Str) (i L c : Nat) (tt pt k0 k1 k2 st : Tok) : SH (VX w b1 b2 b3) true 20000 [] ⟨rdE_code z sio sd T i L c tt pt k0 k1 k2 st ,none,none,fillAll (rdE_sh z) hs,none⟩ p ((VX w b1 b2 b3).den (rdE_code z sio sd T i L c tt pt k0 k1 k2 st )) (rdE_scr w.params n τ z sio sd T i L c tt pt k0 k1 k2 st ) (tabOf (rdE_lR w.params z sio sd T i L c tt pt k0 k1 k2 st ) 0 .nil) (tabOf (rdE_lT w.params z sio sd T i L c tt pt k0 k1 k2 st ) 0 .nil) 1 1 n 0 τ 0 [] [] := by
  cases z <;> cases b1 <;> exact runOf (adrs [sd] n) (adr1 [sio]) (by kernel_rfl)
noncomputable def sdO (P : Params) (T : Str) (i : Int) (tt pt k0 k1 k2 : Tok) : Obj := ⟨.type SL.s14018661285674007319x4,none,.dict ⟨[d P (u [95,83,116,114,105,110,103,73,79,95,95,110,101,119,108,105,110,101]) k0 (.str (u [10]) 671),d P (u [95,83,116,114,105,110,103,73,79,95,95,98,117,102]) k1 (.str T tt),d P (u [95,83,116,114,105,110,103,73,79,95,95,112,111,115]) k2 (.int i pt)]⟩ 3,⟨[]⟩⟩
noncomputable def insO (c d : Nat) : Obj := ⟨.ref c,some d,.plain,⟨[]⟩⟩
noncomputable def oRead (P : Params) (sh : List Sk) (k h sio sd : Nat) (T : Str) (i c : Nat) (tt pt k0 k1 k2 st : Tok) : Spec :=
  ⟨.call (.ref 533) ⟨[.ref sio,.int 1 st],[]⟩,sh,[(3 * k + 3,sd,sdO P T i tt pt k0 k1 k2),(h,sio,insO 587 sd)],fun _ tk => .ok (.ret (.str (u [c]) tk)),[(k,sd,fun α _ => sdO P T ((i : Int) + 1) tt (α 0) k0 k1 k2)],[],[],true⟩
noncomputable def oReadE (P : Params) (sh : List Sk) (k h sio sd : Nat) (T : Str) (i : Nat) (tt pt k0 k1 k2 st : Tok) : Spec :=
  ⟨.call (.ref 533) ⟨[.ref sio,.int 1 st],[]⟩,sh,[(3 * k + 3,sd,sdO P T i tt pt k0 k1 k2),(h,sio,insO 587 sd)],fun _ tk => .ok (.ret (.str (u []) tk)),[(k,sd,fun _ _ => sdO P T i tt pt k0 k1 k2)],[],[],true⟩
noncomputable abbrev shR (z : Bool) : List Sk := .whl :: .func :: .func :: .func :: shX z
section
variable {w : World} {b1 b2 b3 z : Bool} {k h sio sd : Nat} {T : Str} {i c : Nat} {tt pt k0 k1 k2 st : Tok}
theorem vRead (hh : h % 3 = 2) (hx : T.cps[i]? = some c) (h1 : T.length ≠ 1) (hl : T.length ≤ 1000) : Valid (VX w b1 b2 b3) (oRead w.params (shR z) k h sio sd T i c tt pt k0 k1 k2 st) := by
  have hlt : i < T.length := (Array.getElem?_eq_some_iff.mp hx).1
  by_cases hm : i + 1 < T.length
  · refine valid_run (VX_ok _ _ _ _) [(k,sd,sdO w.params T i tt pt k0 k1 k2)] [(h,sio,insO 587 sd)] (fun n τ => rdM_scr w.params n τ z sio sd T i T.length c tt pt k0 k1 k2 st) rfl (by simp) (by simpa using hh) (fun hs p n τ => rdM_run w b1 b2 b3 z hs p n τ sio sd T i T.length c tt pt k0 k1 k2 st) rfl fun s => ?_
    refine ⟨vLen rfl (by omega),fun α1 tk1 n1 τ1 _ => ⟨vIGe (by simp; omega),fun α2 tk2 n2 τ2 _ => ⟨vIAdd rfl,fun α3 tk3 n3 τ3 _ => ⟨vILt (by simp; omega),fun α4 tk4 n4 τ4 _ => ⟨vIAdd rfl,fun α5 tk5 n5 τ5 _ => ⟨vSl1 hx h1,fun α6 tk6 n6 τ6 _ s' L q e => ?_⟩⟩⟩⟩⟩⟩
    exact leaves_end (α := fun _ => tk5) (tk := τ6 + 4) [] L e rfl rfl rfl rfl (by simp) (by simp)
  · have hL : T.length = i + 1 := by omega
    refine valid_run (VX_ok _ _ _ _) [(k,sd,sdO w.params T i tt pt k0 k1 k2)] [(h,sio,insO 587 sd)] (fun n τ => rdL_scr w.params n τ z sio sd T i (i + 1) c tt pt k0 k1 k2 st) rfl (by simp) (by simpa using hh) (fun hs p n τ => rdL_run w b1 b2 b3 z hs p n τ sio sd T i (i + 1) c tt pt k0 k1 k2 st) rfl fun s => ?_
    refine ⟨vLen (by rw [hL]) (by omega),fun α1 tk1 n1 τ1 _ => ⟨vIGe (by simp; omega),fun α2 tk2 n2 τ2 _ => ⟨vIAdd rfl,fun α3 tk3 n3 τ3 _ => ⟨vILt (by simp),fun α4 tk4 n4 τ4 _ => ⟨vSl1 hx h1,fun α5 tk5 n5 τ5 _ s' L q e => ?_⟩⟩⟩⟩⟩
    exact leaves_end (α := fun _ => tk1) (tk := τ5 + 4) [] L e rfl rfl rfl rfl (by simp) (by simp)
theorem vReadE (hh : h % 3 = 2) (hx : i = T.length) (hl : T.length ≤ 1000) : Valid (VX w b1 b2 b3) (oReadE w.params (shR z) k h sio sd T i tt pt k0 k1 k2 st) := by
  refine valid_run (VX_ok _ _ _ _) [(k,sd,sdO w.params T i tt pt k0 k1 k2)] [(h,sio,insO 587 sd)] (fun n τ => rdE_scr w.params n τ z sio sd T i T.length 0 tt pt k0 k1 k2 st) rfl (by simp) (by simpa using hh) (fun hs p n τ => rdE_run w b1 b2 b3 z hs p n τ sio sd T i T.length 0 tt pt k0 k1 k2 st) rfl fun s => ?_
  refine ⟨vLen rfl (by omega),fun α1 tk1 n1 τ1 _ => ⟨vIGe (by simp; omega),fun α2 tk2 n2 τ2 _ s' L q e => ?_⟩⟩
  exact leaves_end (α := fun _ => 0) (tk := (τ2 + 0)) [] L e rfl rfl rfl rfl (by simp) (by simp)
end
end Mine
end
section
open PySem PySem.W PyProof.Rows
namespace Mine
noncomputable def rtEnv (fr : Nat) : Env := { scope := scAt [19,6],locals := fr,globals := 3,cells := [],qual := u [115,104,108,101,120,46,114,101,97,100,95,116,111,107,101,110,46,60,108,111,99,97,108,115,62,46],func := some 690,code := .ref 689,frame := some fr,builtins := 0 }
noncomputable def rtWhile (fr : Nat) : Code := match ((bodyAt [19,6])[2]? : Option Stmt) with
  | some (Stmt.While t b o _) => .whileLoop t b o (rtEnv fr)
  | _ => default
noncomputable def lexO (P : Params) (sio dq1 dq2 : Nat) (κ : Nat → Tok) (stv : PySem.Value) (W : Str) (wt : Tok) : Obj := ⟨(.type SL.s14018661285674007319x4),none,(.dict ⟨[d P (u [105,110,115,116,114,101,97,109]) (κ 0) (.ref sio),d P (u [105,110,102,105,108,101]) (κ 1) .none,d P (u [112,111,115,105,120]) (κ 2) (.bool true),d P (u [101,111,102]) (κ 3) .none,d P (u [99,111,109,109,101,110,116,101,114,115]) (κ 4) (.str (u [35]) (κ 5)),d P (u [119,111,114,100,99,104,97,114,115]) (κ 6) (.str (u [97,98,99,100,102,101,103,104,105,106,107,108,109,110,111,112,113,114,115,116,117,118,119,120,121,122,65,66,67,68,69,70,71,72,73,74,75,76,77,78,79,80,81,82,83,84,85,86,87,88,89,90,48,49,50,51,52,53,54,55,56,57,95,223,224,225,226,227,228,229,230,231,232,233,234,235,236,237,238,239,240,241,242,243,244,245,246,248,249,250,251,252,253,254,255,192,193,194,195,196,197,198,199,200,201,202,203,204,205,206,207,208,209,210,211,212,213,214,216,217,218,219,220,221,222]) (κ 7)),d P (u [119,104,105,116,101,115,112,97,99,101]) (κ 8) (.str (u [32,9,13,10]) (κ 9)),d P (u [119,104,105,116,101,115,112,97,99,101,95,115,112,108,105,116]) (κ 10) (.bool false),d P (u [113,117,111,116,101,115]) (κ 11) (.str (u [39,34,96]) (κ 12)),d P (u [101,115,99,97,112,101]) (κ 13) (.str (u [92]) (κ 14)),d P (u [101,115,99,97,112,101,100,113,117,111,116,101,115]) (κ 15) (.str (u [34]) (κ 16)),d P (u [115,116,97,116,101]) (κ 17) stv,d P (u [112,117,115,104,98,97,99,107]) (κ 18) (.ref dq1),d P (u [108,105,110,101,110,111]) (κ 19) (.int (1) (κ 20)),d P (u [100,101,98,117,103]) (κ 21) (.int (0) (κ 22)),d P (u [116,111,107,101,110]) (κ 23) (.str W wt),d P (u [102,105,108,101,115,116,97,99,107]) (κ 24) (.ref dq2),d P (u [115,111,117,114,99,101]) (κ 25) .none,d P (u [95,112,117,110,99,116,117,97,116,105,111,110,95,99,104,97,114,115]) (κ 26) (.str (u []) (κ 27))]⟩ 19),⟨[]⟩⟩
noncomputable def rtFA (P : Params) (lex : Nat) (κ : Nat → Tok) (qd : Bool) : Obj := ⟨(.type SL.s658472552662922059x5),none,(.dict ⟨[d P (u [115,101,108,102]) (κ 28) (.ref lex),d P (u [113,117,111,116,101,100]) (κ 29) (.bool qd),d P (u [101,115,99,97,112,101,100,115,116,97,116,101]) (κ 30) (.str (u [32]) (κ 31))]⟩ 3),⟨[]⟩⟩
noncomputable def rtFB (P : Params) (lex : Nat) (κ : Nat → Tok) (qd : Bool) (nc : Str) (kn nt : Tok) : Obj := ⟨(.type SL.s658472552662922059x5),none,(.dict ⟨[d P (u [115,101,108,102]) (κ 28) (.ref lex),d P (u [113,117,111,116,101,100]) (κ 29) (.bool qd),d P (u [101,115,99,97,112,101,100,115,116,97,116,101]) (κ 30) (.str (u [32]) (κ 31)),d P (u [110,101,120,116,99,104,97,114]) kn (.str nc nt)]⟩ 4),⟨[]⟩⟩
noncomputable def tn32_39_sh (z : Bool) : List Sk := (.func :: .func :: .func :: shX z)
noncomputable def tn32_39_code (z : Bool) (lex ld sio sd fr dq1 dq2 : Nat) (κ : Nat → Tok) (T W : Str) (qd : Bool) (i ec : Nat) (tt pt k0 k1 k2 kn nt stt wt : Tok) : Code := (rtWhile fr)
noncomputable def tn32_39_lT (P : Params) (z : Bool) (lex ld sio sd fr dq1 dq2 : Nat) (κ : Nat → Tok) (T W : Str) (qd : Bool) (i ec : Nat) (tt pt k0 k1 k2 kn nt stt wt : Tok) : List Ent := [(fr,(rtFA P lex κ qd)),(ld,(lexO P sio dq1 dq2 κ (.str (u [32]) stt) (u []) wt)),(sd,(sdO P T i tt pt k0 k1 k2))]
noncomputable def tn32_39_lR (P : Params) (z : Bool) (lex ld sio sd fr dq1 dq2 : Nat) (κ : Nat → Tok) (T W : Str) (qd : Bool) (i ec : Nat) (tt pt k0 k1 k2 kn nt stt wt : Tok) : List Ent := [(lex,(insO 722 ld)),(sio,(insO 587 sd))]
noncomputable def tn32_39_scr (P : Params) (n τ : Nat) (z : Bool) (lex ld sio sd fr dq1 dq2 : Nat) (κ : Nat → Tok) (T W : Str) (qd : Bool) (i ec : Nat) (tt pt k0 k1 k2 kn nt stt wt : Tok) : Scr := (.orc [3,2,2167,2167,2164,0,2,2167,2167,2164,1963,1963,2167,2167,2164,0,1963,1963,1960,1957,12,12,7,12,2,2167,2167,2164,0,2,2167,2167,2164,2,2,2167,6,0,0,3,2,2167,2167,2164,0,2,2167,2167,2164,2,2,2167,6,5,1762,1762,1759,331,328,250,247,5,1762,1762,1759,331,328,250,247,5,1762,1762,1759,1600,5,9,1600] (oRead P (.whl :: .func :: .func :: .func :: shX z) 2 5 sio sd T i 39 tt pt k0 k1 k2 (τ + 6)) 4 2 fun α1 tk1 n1 τ1 =>
  (.fin [3,3,3,0,3,2,2167,2167,2164,0,2,2167,2167,2164,2,2,2167,6,0,3,2,2167,2167,2164,0,2,2167,2167,2164,2,2,2167,6,3,2,2167,2167,2164,0,2,2167,2167,2164,2,2,2167,6,0,3,0,0,3,3,2,2167,2167,2164,0,2,2167,2167,2164,2,2,2167,6,0,3,3,2,2167,2167,2164,0,2,2167,2167,2164,2,2,2167,6,0,3,2,2167,2167,2164,0,2,2167,2167,2164,2,2,2167,6,3,3,2,2167,2167,2164,0,2,2167,2167,2164,2,2,2167,6,0,3,3,2,2167,2167,2164,0,2,2167,2167,2164,2,2,2167,6,0,3,3,2,2167,2167,2164,0,2,2167,2167,2164,1963,1963,2167,2167,2164,0,1963,1963,1960,1957,15,15,7,15,2,2167,2167,2164,0,2,2167,2167,2164,2,2,2167,6,0,3,3,2,2167,2167,2164,0,2,2167,2167,2164,2,2,2167,6,0,3,2,2167,2167,2164,0,2,2167,2167,2164,2,2,2167,6,3,3,2,2167,2167,2164,0,2,2167,2,2167,2,2167,2167,2164,2,2167,6,6,6] ⟨.ok (.again (rtWhile fr)),[(1,ld,(lexO P sio dq1 dq2 κ (.str (u [39]) tk1) (u []) wt)),(2,sd,(sdO P T ((i : Int) + 1) tt (α1 0) k0 k1 k2)),(0,fr,(rtFB P lex κ qd (u [39]) (τ1 + 0) tk1))],[]⟩))
theorem tn32_39_run (w : World) (b1 b2 b3 : Bool) (z : Bool) (hs : HL (tn32_39_sh z)) (p : Pos) (n τ : Nat) (lex ld sio sd fr dq1 dq2 : Nat) (κ : Nat → Tok) (T W : Str) (qd : Bool) (i ec : Nat) (tt pt k0 k1 k2 kn nt stt wt : Tok) : SH (VX w b1 b2 b3) false 20000 [] ⟨tn32_39_code z lex ld sio sd fr dq1 dq2 κ T W qd i ec tt pt k0 k1 k2 kn nt stt wt ,none,none,fillAll (tn32_39_sh z) hs,none⟩ p ((VX w b1 b2 b3).den (tn32_39_code z lex ld sio sd fr dq1 dq2 κ T W qd i ec tt pt k0 k1 k2 kn nt stt wt )) (tn32_39_scr w.params n τ z lex ld sio sd fr dq1 dq2 κ T W qd i ec tt pt k0 k1 k2 kn nt stt wt ) (tabOf (tn32_39_lR w.params z lex ld sio sd fr dq1 dq2 κ T W qd i ec tt pt k0 k1 k2 kn nt stt wt ) 0 .nil) (tabOf (tn32_39_lT w.params z lex ld sio sd fr dq1 dq2 κ T W qd i ec tt pt k0 k1 k2 kn nt stt wt ) 0 .nil) 3 2 n 0 τ 0 [] [] := by
  cases z <;> cases b1 <;> exact runOf (adrs [fr,ld,sd] n) (adr1 [lex,sio]) (by kernel_rfl)
noncomputable def tn39_120_sh (z : Bool) : List Sk := (.func :: .func :: .func :: shX z)
noncomputable def tn39_120_code (z : Bool) (lex ld sio sd fr dq1 dq2 : Nat) (κ : Nat → Tok) (T W : Str) (qd : Bool) (i ec : Nat) (tt pt k0 k1 k2 kn nt stt wt : Tok) : Code := (rtWhile fr)
noncomputable def tn39_120_lT (P : Params) (z : Bool) (lex ld sio sd fr dq1 dq2 : Nat) (κ : Nat → Tok) (T W : Str) (qd : Bool) (i ec : Nat) (tt pt k0 k1 k2 kn nt stt wt : Tok) : List Ent := [(fr,(rtFB P lex κ qd (u [ec]) kn nt)),(ld,(lexO P sio dq1 dq2 κ (.str (u [39]) stt) W wt)),(sd,(sdO P T i tt pt k0 k1 k2))]
noncomputable def tn39_120_lR (P : Params) (z : Bool) (lex ld sio sd fr dq1 dq2 : Nat) (κ : Nat → Tok) (T W : Str) (qd : Bool) (i ec : Nat) (tt pt k0 k1 k2 kn nt stt wt : Tok) : List Ent := [(lex,(insO 722 ld)),(sio,(insO 587 sd))]
noncomputable def tn39_120_scr (P : Params) (n τ : Nat) (z : Bool) (lex ld sio sd fr dq1 dq2 : Nat) (κ : Nat → Tok) (T W : Str) (qd : Bool) (i ec : Nat) (tt pt k0 k1 k2 kn nt stt wt : Tok) : Scr := (.orc [3,2,2167,2167,2164,0,2,2167,2167,2164,1963,1963,2167,2167,2164,0,1963,1963,1960,1957,12,12,7,12,2,2167,2167,2164,0,2,2167,2167,2164,2,2,2167,6,0,0,3,2,2167,2167,2164,0,2,2167,2167,2164,2,2,2167,6,5,1762,1762,1759,331,328,250,247,5,1762,1762,1759,331,328,250,247,5,1762,1762,1759,1600,5,9,1600] (oRead P (.whl :: .func :: .func :: .func :: shX z) 2 5 sio sd T i 120 tt pt k0 k1 k2 (τ + 6)) 4 2 fun α1 tk1 n1 τ1 =>
  (.orc [3,3,3,0,3,2,2167,2167,2164,0,2,2167,2167,2164,2,2,2167,6,0,3,2,2167,2167,2164,0,2,2167,2167,2164,2,2,2167,6,3,2,2167,2167,2164,0,2,2167,2167,2164,2,2,2167,6,0,3,2,2167,2167,2164,0,2,2167,2167,2164,2,2,2167,6,3,2,2167,2167,2164,0,2,2167,2167,2164,2,2,2167,6,0,3,3,3,0,0,3,3,2,2167,2167,2164,0,2,2167,2167,2164,2,2,2167,6,0,3,2,2167,2167,2164,0,2,2167,2167,2164,2,2,2167,6,3,3,2,2167,2167,2164,0,2,2167,2167,2164,2,2,2167,6,0,3,2,2167,2167,2164,0,2,2167,2167,2164,2,2,2167,6,3] (oAdd (.whl :: .func :: .func :: .func :: shX z) W wt (u [120]) tk1) 4 2 fun α2 tk2 n2 τ2 =>
  (.fin [2,2167,2167,2164,0,2,2167,2,2167,2,2167,2167,2164,2,2167,6,6,6] ⟨.ok (.again (rtWhile fr)),[(1,ld,(lexO P sio dq1 dq2 κ (.str (u [39]) stt) (W ++ (u [120])) tk2)),(2,sd,(sdO P T ((i : Int) + 1) tt (α1 0) k0 k1 k2)),(0,fr,(rtFB P lex κ true (u [120]) kn tk1))],[]⟩)))
theorem tn39_120_run (w : World) (b1 b2 b3 : Bool) (z : Bool) (hs : HL (tn39_120_sh z)) (p : Pos) (n τ : Nat) (lex ld sio sd fr dq1 dq2 : Nat) (κ : Nat → Tok) (T W : Str) (qd : Bool) (i ec : Nat) (tt pt k0 k1 k2 kn nt stt wt : Tok) : SH (VX w b1 b2 b3) false 20000 [] ⟨tn39_120_code z lex ld sio sd fr dq1 dq2 κ T W qd i ec tt pt k0 k1 k2 kn nt stt wt ,none,none,fillAll (tn39_120_sh z) hs,none⟩ p ((VX w b1 b2 b3).den (tn39_120_code z lex ld sio sd fr dq1 dq2 κ T W qd i ec tt pt k0 k1 k2 kn nt stt wt )) (tn39_120_scr w.params n τ z lex ld sio sd fr dq1 dq2 κ T W qd i ec tt pt k0 k1 k2 kn nt stt wt ) (tabOf (tn39_120_lR w.params z lex ld sio sd fr dq1 dq2 κ T W qd i ec tt pt k0 k1 k2 kn nt stt wt ) 0 .nil) (tabOf (tn39_120_lT w.params z lex ld sio sd fr dq1 dq2 κ T W qd i ec tt pt k0 k1 k2 kn nt stt wt ) 0 .nil) 3 2 n 0 τ 0 [] [] := by
  cases z <;> cases b1 <;> exact runOf (adrs [fr,ld,sd] n) (adr1 [lex,sio]) (by kernel_rfl)
noncomputable def tn39_34_sh (z : Bool) : List Sk := (.func :: .func :: .func :: shX z)
noncomputable def tn39_34_code (z : Bool) (lex ld sio sd fr dq1 dq2 : Nat) (κ : Nat → Tok) (T W : Str) (qd : Bool) (i ec : Nat) (tt pt k0 k1 k2 kn nt stt wt : Tok) : Code := (rtWhile fr)
noncomputable def tn39_34_lT (P : Params) (z : Bool) (lex ld sio sd fr dq1 dq2 : Nat) (κ : Nat → Tok) (T W : Str) (qd : Bool) (i ec : Nat) (tt pt k0 k1 k2 kn nt stt wt : Tok) : List Ent := [(fr,(rtFB P lex κ qd (u [ec]) kn nt)),(ld,(lexO P sio dq1 dq2 κ (.str (u [39]) stt) W wt)),(sd,(sdO P T i tt pt k0 k1 k2))]
noncomputable def tn39_34_lR (P : Params) (z : Bool) (lex ld sio sd fr dq1 dq2 : Nat) (κ : Nat → Tok) (T W : Str) (qd : Bool) (i ec : Nat) (tt pt k0 k1 k2 kn nt stt wt : Tok) : List Ent := [(lex,(insO 722 ld)),(sio,(insO 587 sd))]
noncomputable def tn39_34_scr (P : Params) (n τ : Nat) (z : Bool) (lex ld sio sd fr dq1 dq2 : Nat) (κ : Nat → Tok) (T W : Str) (qd : Bool) (i ec : Nat) (tt pt k0 k1 k2 kn nt stt wt : Tok) : Scr := (.orc [3,2,2167,2167,2164,0,2,2167,2167,2164,1963,1963,2167,2167,2164,0,1963,1963,1960,1957,12,12,7,12,2,2167,2167,2164,0,2,2167,2167,2164,2,2,2167,6,0,0,3,2,2167,2167,2164,0,2,2167,2167,2164,2,2,2167,6,5,1762,1762,1759,331,328,250,247,5,1762,1762,1759,331,328,250,247,5,1762,1762,1759,1600,5,9,1600] (oRead P (.whl :: .func :: .func :: .func :: shX z) 2 5 sio sd T i 34 tt pt k0 k1 k2 (τ + 6)) 4 2 fun α1 tk1 n1 τ1 =>
  (.orc [3,3,3,0,3,2,2167,2167,2164,0,2,2167,2167,2164,2,2,2167,6,0,3,2,2167,2167,2164,0,2,2167,2167,2164,2,2,2167,6,3,2,2167,2167,2164,0,2,2167,2167,2164,2,2,2167,6,0,3,2,2167,2167,2164,0,2,2167,2167,2164,2,2,2167,6,3,2,2167,2167,2164,0,2,2167,2167,2164,2,2,2167,6,0,3,3,3,0,0,3,3,2,2167,2167,2164,0,2,2167,2167,2164,2,2,2167,6,0,3,2,2167,2167,2164,0,2,2167,2167,2164,2,2,2167,6,3,3,2,2167,2167,2164,0,2,2167,2167,2164,2,2,2167,6,0,3,2,2167,2167,2164,0,2,2167,2167,2164,2,2,2167,6,3] (oAdd (.whl :: .func :: .func :: .func :: shX z) W wt (u [34]) tk1) 4 2 fun α2 tk2 n2 τ2 =>
  (.fin [2,2167,2167,2164,0,2,2167,2,2167,2,2167,2167,2164,2,2167,6,6,6] ⟨.ok (.again (rtWhile fr)),[(1,ld,(lexO P sio dq1 dq2 κ (.str (u [39]) stt) (W ++ (u [34])) tk2)),(2,sd,(sdO P T ((i : Int) + 1) tt (α1 0) k0 k1 k2)),(0,fr,(rtFB P lex κ true (u [34]) kn tk1))],[]⟩)))
theorem tn39_34_run (w : World) (b1 b2 b3 : Bool) (z : Bool) (hs : HL (tn39_34_sh z)) (p : Pos) (n τ : Nat) (lex ld sio sd fr dq1 dq2 : Nat) (κ : Nat → Tok) (T W : Str) (qd : Bool) (i ec : Nat) (tt pt k0 k1 k2 kn nt stt wt : Tok) : SH (VX w b1 b2 b3) false 20000 [] ⟨tn39_34_code z lex ld sio sd fr dq1 dq2 κ T W qd i ec tt pt k0 k1 k2 kn nt stt wt ,none,none,fillAll (tn39_34_sh z) hs,none⟩ p ((VX w b1 b2 b3).den (tn39_34_code z lex ld sio sd fr dq1 dq2 κ T W qd i ec tt pt k0 k1 k2 kn nt stt wt )) (tn39_34_scr w.params n τ z lex ld sio sd fr dq1 dq2 κ T W qd i ec tt pt k0 k1 k2 kn nt stt wt ) (tabOf (tn39_34_lR w.params z lex ld sio sd fr dq1 dq2 κ T W qd i ec tt pt k0 k1 k2 kn nt stt wt ) 0 .nil) (tabOf (tn39_34_lT w.params z lex ld sio sd fr dq1 dq2 κ T W qd i ec tt pt k0 k1 k2 kn nt stt wt ) 0 .nil) 3 2 n 0 τ 0 [] [] := by
  cases z <;> cases b1 <;> exact runOf (adrs [fr,ld,sd] n) (adr1 [lex,sio]) (by kernel_rfl)
noncomputable def tn39_96_sh (z : Bool) : List Sk := (.func :: .func :: .func :: shX z)
noncomputable def tn39_96_code (z : Bool) (lex ld sio sd fr dq1 dq2 : Nat) (κ : Nat → Tok) (T W : Str) (qd : Bool) (i ec : Nat) (tt pt k0 k1 k2 kn nt stt wt : Tok) : Code := (rtWhile fr)
noncomputable def tn39_96_lT (P : Params) (z : Bool) (lex ld sio sd fr dq1 dq2 : Nat) (κ : Nat → Tok) (T W : Str) (qd : Bool) (i ec : Nat) (tt pt k0 k1 k2 kn nt stt wt : Tok) : List Ent := [(fr,(rtFB P lex κ qd (u [ec]) kn nt)),(ld,(lexO P sio dq1 dq2 κ (.str (u [39]) stt) W wt)),(sd,(sdO P T i tt pt k0 k1 k2))]
noncomputable def tn39_96_lR (P : Params) (z : Bool) (lex ld sio sd fr dq1 dq2 : Nat) (κ : Nat → Tok) (T W : Str) (qd : Bool) (i ec : Nat) (tt pt k0 k1 k2 kn nt stt wt : Tok) : List Ent := [(lex,(insO 722 ld)),(sio,(insO 587 sd))]
noncomputable def tn39_96_scr (P : Params) (n τ : Nat) (z : Bool) (lex ld sio sd fr dq1 dq2 : Nat) (κ : Nat → Tok) (T W : Str) (qd : Bool) (i ec : Nat) (tt pt k0 k1 k2 kn nt stt wt : Tok) : Scr := (.orc [3,2,2167,2167,2164,0,2,2167,2167,2164,1963,1963,2167,2167,2164,0,1963,1963,1960,1957,12,12,7,12,2,2167,2167,2164,0,2,2167,2167,2164,2,2,2167,6,0,0,3,2,2167,2167,2164,0,2,2167,2167,2164,2,2,2167,6,5,1762,1762,1759,331,328,250,247,5,1762,1762,1759,331,328,250,247,5,1762,1762,1759,1600,5,9,1600] (oRead P (.whl :: .func :: .func :: .func :: shX z) 2 5 sio sd T i 96 tt pt k0 k1 k2 (τ + 6)) 4 2 fun α1 tk1 n1 τ1 =>
  (.orc [3,3,3,0,3,2,2167,2167,2164,0,2,2167,2167,2164,2,2,2167,6,0,3,2,2167,2167,2164,0,2,2167,2167,2164,2,2,2167,6,3,2,2167,2167,2164,0,2,2167,2167,2164,2,2,2167,6,0,3,2,2167,2167,2164,0,2,2167,2167,2164,2,2,2167,6,3,2,2167,2167,2164,0,2,2167,2167,2164,2,2,2167,6,0,3,3,3,0,0,3,3,2,2167,2167,2164,0,2,2167,2167,2164,2,2,2167,6,0,3,2,2167,2167,2164,0,2,2167,2167,2164,2,2,2167,6,3,3,2,2167,2167,2164,0,2,2167,2167,2164,2,2,2167,6,0,3,2,2167,2167,2164,0,2,2167,2167,2164,2,2,2167,6,3] (oAdd (.whl :: .func :: .func :: .func :: shX z) W wt (u [96]) tk1) 4 2 fun α2 tk2 n2 τ2 =>
  (.fin [2,2167,2167,2164,0,2,2167,2,2167,2,2167,2167,2164,2,2167,6,6,6] ⟨.ok (.again (rtWhile fr)),[(1,ld,(lexO P sio dq1 dq2 κ (.str (u [39]) stt) (W ++ (u [96])) tk2)),(2,sd,(sdO P T ((i : Int) + 1) tt (α1 0) k0 k1 k2)),(0,fr,(rtFB P lex κ true (u [96]) kn tk1))],[]⟩)))
theorem tn39_96_run (w : World) (b1 b2 b3 : Bool) (z : Bool) (hs : HL (tn39_96_sh z)) (p : Pos) (n τ : Nat) (lex ld sio sd fr dq1 dq2 : Nat) (κ : Nat → Tok) (T W : Str) (qd : Bool) (i ec : Nat) (tt pt k0 k1 k2 kn nt stt wt : Tok) : SH (VX w b1 b2 b3) false 20000 [] ⟨tn39_96_code z lex ld sio sd fr dq1 dq2 κ T W qd i ec tt pt k0 k1 k2 kn nt stt wt ,none,none,fillAll (tn39_96_sh z) hs,none⟩ p ((VX w b1 b2 b3).den (tn39_96_code z lex ld sio sd fr dq1 dq2 κ T W qd i ec tt pt k0 k1 k2 kn nt stt wt )) (tn39_96_scr w.params n τ z lex ld sio sd fr dq1 dq2 κ T W qd i ec tt pt k0 k1 k2 kn nt stt wt ) (tabOf (tn39_96_lR w.params z lex ld sio sd fr dq1 dq2 κ T W qd i ec tt pt k0 k1 k2 kn nt stt wt ) 0 .nil) (tabOf (tn39_96_lT w.params z lex ld sio sd fr dq1 dq2 κ T W qd i ec tt pt k0 k1 k2 kn nt stt wt ) 0 .nil) 3 2 n 0 τ 0 [] [] := by
  cases z <;> cases b1 <;> exact runOf (adrs [fr,ld,sd] n) (adr1 [lex,sio]) (by kernel_rfl)
noncomputable def tn39_39_sh (z : Bool) : List Sk := (.func :: .func :: .func :: shX z)
noncomputable def tn39_39_code (z : Bool) (lex ld sio sd fr dq1 dq2 : Nat) (κ : Nat → Tok) (T W : Str) (qd : Bool) (i ec : Nat) (tt pt k0 k1 k2 kn nt stt wt : Tok) : Code := (rtWhile fr)
noncomputable def tn39_39_lT (P : Params) (z : Bool) (lex ld sio sd fr dq1 dq2 : Nat) (κ : Nat → Tok) (T W : Str) (qd : Bool) (i ec : Nat) (tt pt k0 k1 k2 kn nt stt wt : Tok) : List Ent := [(fr,(rtFB P lex κ qd (u [ec]) kn nt)),(ld,(lexO P sio dq1 dq2 κ (.str (u [39]) stt) W wt)),(sd,(sdO P T i tt pt k0 k1 k2))]
noncomputable def tn39_39_lR (P : Params) (z : Bool) (lex ld sio sd fr dq1 dq2 : Nat) (κ : Nat → Tok) (T W : Str) (qd : Bool) (i ec : Nat) (tt pt k0 k1 k2 kn nt stt wt : Tok) : List Ent := [(lex,(insO 722 ld)),(sio,(insO 587 sd))]
noncomputable def tn39_39_scr (P : Params) (n τ : Nat) (z : Bool) (lex ld sio sd fr dq1 dq2 : Nat) (κ : Nat → Tok) (T W : Str) (qd : Bool) (i ec : Nat) (tt pt k0 k1 k2 kn nt stt wt : Tok) : Scr := (.orc [3,2,2167,2167,2164,0,2,2167,2167,2164,1963,1963,2167,2167,2164,0,1963,1963,1960,1957,12,12,7,12,2,2167,2167,2164,0,2,2167,2167,2164,2,2,2167,6,0,0,3,2,2167,2167,2164,0,2,2167,2167,2164,2,2,2167,6,5,1762,1762,1759,331,328,250,247,5,1762,1762,1759,331,328,250,247,5,1762,1762,1759,1600,5,9,1600] (oRead P (.whl :: .func :: .func :: .func :: shX z) 2 5 sio sd T i 39 tt pt k0 k1 k2 (τ + 6)) 4 2 fun α1 tk1 n1 τ1 =>
  (.fin [3,3,3,0,3,2,2167,2167,2164,0,2,2167,2167,2164,2,2,2167,6,0,3,2,2167,2167,2164,0,2,2167,2167,2164,2,2,2167,6,3,2,2167,2167,2164,0,2,2167,2167,2164,2,2,2167,6,0,3,2,2167,2167,2164,0,2,2167,2167,2164,2,2,2167,6,3,2,2167,2167,2164,0,2,2167,2167,2164,2,2,2167,6,0,3,3,3,0,0,3,3,2,2167,2167,2164,0,2,2167,2167,2164,2,2,2167,6,0,3,2,2167,2167,2164,0,2,2167,2167,2164,2,2,2167,6,3,2,2167,2167,2164,0,2,2167,2,2167,2,2167,2167,2164,2,2167,6,6,6] ⟨.ok (.again (rtWhile fr)),[(1,ld,(lexO P sio dq1 dq2 κ (.str (u [97]) (τ1 + 14)) W wt)),(2,sd,(sdO P T ((i : Int) + 1) tt (α1 0) k0 k1 k2)),(0,fr,(rtFB P lex κ true (u [39]) kn tk1))],[]⟩))
theorem tn39_39_run (w : World) (b1 b2 b3 : Bool) (z : Bool) (hs : HL (tn39_39_sh z)) (p : Pos) (n τ : Nat) (lex ld sio sd fr dq1 dq2 : Nat) (κ : Nat → Tok) (T W : Str) (qd : Bool) (i ec : Nat) (tt pt k0 k1 k2 kn nt stt wt : Tok) : SH (VX w b1 b2 b3) false 20000 [] ⟨tn39_39_code z lex ld sio sd fr dq1 dq2 κ T W qd i ec tt pt k0 k1 k2 kn nt stt wt ,none,none,fillAll (tn39_39_sh z) hs,none⟩ p ((VX w b1 b2 b3).den (tn39_39_code z lex ld sio sd fr dq1 dq2 κ T W qd i ec tt pt k0 k1 k2 kn nt stt wt )) (tn39_39_scr w.params n τ z lex ld sio sd fr dq1 dq2 κ T W qd i ec tt pt k0 k1 k2 kn nt stt wt ) (tabOf (tn39_39_lR w.params z lex ld sio sd fr dq1 dq2 κ T W qd i ec tt pt k0 k1 k2 kn nt stt wt ) 0 .nil) (tabOf (tn39_39_lT w.params z lex ld sio sd fr dq1 dq2 κ T W qd i ec tt pt k0 k1 k2 kn nt stt wt ) 0 .nil) 3 2 n 0 τ 0 [] [] := by
  cases z <;> cases b1 <;> exact runOf (adrs [fr,ld,sd] n) (adr1 [lex,sio]) (by kernel_rfl)
noncomputable def tn97_120_sh (z : Bool) : List Sk := (.func :: .func :: .func :: shX z)
noncomputable def tn97_120_code (z : Bool) (lex ld sio sd fr dq1 dq2 : Nat) (κ : Nat → Tok) (T W : Str) (qd : Bool) (i ec : Nat) (tt pt k0 k1 k2 kn nt stt wt : Tok) : Code := (rtWhile fr)
noncomputable def tn97_120_lT (P : Params) (z : Bool) (lex ld sio sd fr dq1 dq2 : Nat) (κ : Nat → Tok) (T W : Str) (qd : Bool) (i ec : Nat) (tt pt k0 k1 k2 kn nt stt wt : Tok) : List Ent := [(fr,(rtFB P lex κ qd (u [ec]) kn nt)),(ld,(lexO P sio dq1 dq2 κ (.str (u [97]) stt) W wt)),(sd,(sdO P T i tt pt k0 k1 k2))]
noncomputable def tn97_120_lR (P : Params) (z : Bool) (lex ld sio sd fr dq1 dq2 : Nat) (κ : Nat → Tok) (T W : Str) (qd : Bool) (i ec : Nat) (tt pt k0 k1 k2 kn nt stt wt : Tok) : List Ent := [(lex,(insO 722 ld)),(sio,(insO 587 sd))]
noncomputable def tn97_120_scr (P : Params) (n τ : Nat) (z : Bool) (lex ld sio sd fr dq1 dq2 : Nat) (κ : Nat → Tok) (T W : Str) (qd : Bool) (i ec : Nat) (tt pt k0 k1 k2 kn nt stt wt : Tok) : Scr := (.orc [3,2,2167,2167,2164,0,2,2167,2167,2164,1963,1963,2167,2167,2164,0,1963,1963,1960,1957,12,12,7,12,2,2167,2167,2164,0,2,2167,2167,2164,2,2,2167,6,0,0,3,2,2167,2167,2164,0,2,2167,2167,2164,2,2,2167,6,5,1762,1762,1759,331,328,250,247,5,1762,1762,1759,331,328,250,247,5,1762,1762,1759,1600,5,9,1600] (oRead P (.whl :: .func :: .func :: .func :: shX z) 2 5 sio sd T i 120 tt pt k0 k1 k2 (τ + 6)) 4 2 fun α1 tk1 n1 τ1 =>
  (.orc [3,3,3,0,3,2,2167,2167,2164,0,2,2167,2167,2164,2,2,2167,6,0,3,2,2167,2167,2164,0,2,2167,2167,2164,2,2,2167,6,3,2,2167,2167,2164,0,2,2167,2167,2164,2,2,2167,6,0,3,2,2167,2167,2164,0,2,2167,2167,2164,2,2,2167,6,3,2,2167,2167,2164,0,2,2167,2167,2164,2,2,2167,6,0,3,2,2167,2167,2164,0,2,2167,2167,2164,2,2,2167,6,3,2,2167,2167,2164,0,2,2167,2167,2164,2,2,2167,6,0,3,2,2167,2167,2164,0,2,2167,2167,2164,2,2,2167,6,15,15] (oTupIn (.whl :: .func :: .func :: .func :: shX z) 15 (n1 + 0) [(.str (u [97]) (τ1 + 12)),(.str (u [99]) (τ1 + 13))] 0 (u [97]) stt true) 5 2 fun α2 tk2 n2 τ2 =>
  (.orc [3,0,0,3,3,2,2167,2167,2164,0,2,2167,2167,2164,2,2,2167,6,0,3,3,2,2167,2167,2164,0,2,2167,2167,2164,2,2,2167,6,0,3,2,2167,2167,2164,0,2,2167,2167,2164,2,2,2167,6,0,3,2,2167,2167,2164,0,2,2167,2167,2164,2,2,2167,6,3,3,2,2167,2167,2164,0,2,2167,2167,2164,2,2,2167,6,0,3,2,2167,2167,2164,0,2,2167,2167,2164,2,2,2167,6,3,3,2,2167,2167,2164,0,2,2167,2167,2164,2,2,2167,6,0,3,3,2,2167,2167,2164,0,2,2167,2167,2164,2,2,2167,6,0,3,2,2167,2167,2164,0,2,2167,2167,2164,2,2,2167,6,3] (oAdd (.whl :: .func :: .func :: .func :: shX z) W wt (u [120]) tk1) 5 2 fun α3 tk3 n3 τ3 =>
  (.fin [2,2167,2167,2164,0,2,2167,2,2167,2,2167,2167,2164,2,2167,6,6,6] ⟨.ok (.again (rtWhile fr)),[(1,ld,(lexO P sio dq1 dq2 κ (.str (u [97]) stt) (W ++ (u [120])) tk3)),(2,sd,(sdO P T ((i : Int) + 1) tt (α1 0) k0 k1 k2)),(0,fr,(rtFB P lex κ qd (u [120]) kn tk1))],[]⟩))))
theorem tn97_120_run (w : World) (b1 b2 b3 : Bool) (z : Bool) (hs : HL (tn97_120_sh z)) (p : Pos) (n τ : Nat) (lex ld sio sd fr dq1 dq2 : Nat) (κ : Nat → Tok) (T W : Str) (qd : Bool) (i ec : Nat) (tt pt k0 k1 k2 kn nt stt wt : Tok) : SH (VX w b1 b2 b3) false 20000 [] ⟨tn97_120_code z lex ld sio sd fr dq1 dq2 κ T W qd i ec tt pt k0 k1 k2 kn nt stt wt ,none,none,fillAll (tn97_120_sh z) hs,none⟩ p ((VX w b1 b2 b3).den (tn97_120_code z lex ld sio sd fr dq1 dq2 κ T W qd i ec tt pt k0 k1 k2 kn nt stt wt )) (tn97_120_scr w.params n τ z lex ld sio sd fr dq1 dq2 κ T W qd i ec tt pt k0 k1 k2 kn nt stt wt ) (tabOf (tn97_120_lR w.params z lex ld sio sd fr dq1 dq2 κ T W qd i ec tt pt k0 k1 k2 kn nt stt wt ) 0 .nil) (tabOf (tn97_120_lT w.params z lex ld sio sd fr dq1 dq2 κ T W qd i ec tt pt k0 k1 k2 kn nt stt wt ) 0 .nil) 3 2 n 0 τ 0 [] [] := by
  cases z <;> cases b1 <;> exact runOf (adrs [fr,ld,sd] n) (adr1 [lex,sio]) (by kernel_rfl)
noncomputable def tn97_34_sh (z : Bool) : List Sk := (.func :: .func :: .func :: shX z)
noncomputable def tn97_34_code (z : Bool) (lex ld sio sd fr dq1 dq2 : Nat) (κ : Nat → Tok) (T W : Str) (qd : Bool) (i ec : Nat) (tt pt k0 k1 k2 kn nt stt wt : Tok) : Code := (rtWhile fr)
noncomputable def tn97_34_lT (P : Params) (z : Bool) (lex ld sio sd fr dq1 dq2 : Nat) (κ : Nat → Tok) (T W : Str) (qd : Bool) (i ec : Nat) (tt pt k0 k1 k2 kn nt stt wt : Tok) : List Ent := [(fr,(rtFB P lex κ qd (u [ec]) kn nt)),(ld,(lexO P sio dq1 dq2 κ (.str (u [97]) stt) W wt)),(sd,(sdO P T i tt pt k0 k1 k2))]
noncomputable def tn97_34_lR (P : Params) (z : Bool) (lex ld sio sd fr dq1 dq2 : Nat) (κ : Nat → Tok) (T W : Str) (qd : Bool) (i ec : Nat) (tt pt k0 k1 k2 kn nt stt wt : Tok) : List Ent := [(lex,(insO 722 ld)),(sio,(insO 587 sd))]
noncomputable def tn97_34_scr (P : Params) (n τ : Nat) (z : Bool) (lex ld sio sd fr dq1 dq2 : Nat) (κ : Nat → Tok) (T W : Str) (qd : Bool) (i ec : Nat) (tt pt k0 k1 k2 kn nt stt wt : Tok) : Scr := (.orc [3,2,2167,2167,2164,0,2,2167,2167,2164,1963,1963,2167,2167,2164,0,1963,1963,1960,1957,12,12,7,12,2,2167,2167,2164,0,2,2167,2167,2164,2,2,2167,6,0,0,3,2,2167,2167,2164,0,2,2167,2167,2164,2,2,2167,6,5,1762,1762,1759,331,328,250,247,5,1762,1762,1759,331,328,250,247,5,1762,1762,1759,1600,5,9,1600] (oRead P (.whl :: .func :: .func :: .func :: shX z) 2 5 sio sd T i 34 tt pt k0 k1 k2 (τ + 6)) 4 2 fun α1 tk1 n1 τ1 =>
  (.orc [3,3,3,0,3,2,2167,2167,2164,0,2,2167,2167,2164,2,2,2167,6,0,3,2,2167,2167,2164,0,2,2167,2167,2164,2,2,2167,6,3,2,2167,2167,2164,0,2,2167,2167,2164,2,2,2167,6,0,3,2,2167,2167,2164,0,2,2167,2167,2164,2,2,2167,6,3,2,2167,2167,2164,0,2,2167,2167,2164,2,2,2167,6,0,3,2,2167,2167,2164,0,2,2167,2167,2164,2,2,2167,6,3,2,2167,2167,2164,0,2,2167,2167,2164,2,2,2167,6,0,3,2,2167,2167,2164,0,2,2167,2167,2164,2,2,2167,6,15,15] (oTupIn (.whl :: .func :: .func :: .func :: shX z) 15 (n1 + 0) [(.str (u [97]) (τ1 + 12)),(.str (u [99]) (τ1 + 13))] 0 (u [97]) stt true) 5 2 fun α2 tk2 n2 τ2 =>
  (.fin [3,0,0,3,3,2,2167,2167,2164,0,2,2167,2167,2164,2,2,2167,6,0,3,3,2,2167,2167,2164,0,2,2167,2167,2164,2,2,2167,6,0,3,2,2167,2167,2164,0,2,2167,2167,2164,2,2,2167,6,0,3,2,2167,2167,2164,0,2,2167,2167,2164,2,2,2167,6,3,3,2,2167,2167,2164,0,2,2167,2167,2164,2,2,2167,6,0,3,3,2,2167,2167,2164,0,2,2167,2,2167,2,2167,2167,2164,2,2167,6,6,6] ⟨.ok (.again (rtWhile fr)),[(1,ld,(lexO P sio dq1 dq2 κ (.str (u [34]) tk1) W wt)),(2,sd,(sdO P T ((i : Int) + 1) tt (α1 0) k0 k1 k2)),(0,fr,(rtFB P lex κ qd (u [34]) kn tk1))],[]⟩)))
theorem tn97_34_run (w : World) (b1 b2 b3 : Bool) (z : Bool) (hs : HL (tn97_34_sh z)) (p : Pos) (n τ : Nat) (lex ld sio sd fr dq1 dq2 : Nat) (κ : Nat → Tok) (T W : Str) (qd : Bool) (i ec : Nat) (tt pt k0 k1 k2 kn nt stt wt : Tok) : SH (VX w b1 b2 b3) false 20000 [] ⟨tn97_34_code z lex ld sio sd fr dq1 dq2 κ T W qd i ec tt pt k0 k1 k2 kn nt stt wt ,none,none,fillAll (tn97_34_sh z) hs,none⟩ p ((VX w b1 b2 b3).den (tn97_34_code z lex ld sio sd fr dq1 dq2 κ T W qd i ec tt pt k0 k1 k2 kn nt stt wt )) (tn97_34_scr w.params n τ z lex ld sio sd fr dq1 dq2 κ T W qd i ec tt pt k0 k1 k2 kn nt stt wt ) (tabOf (tn97_34_lR w.params z lex ld sio sd fr dq1 dq2 κ T W qd i ec tt pt k0 k1 k2 kn nt stt wt ) 0 .nil) (tabOf (tn97_34_lT w.params z lex ld sio sd fr dq1 dq2 κ T W qd i ec tt pt k0 k1 k2 kn nt stt wt ) 0 .nil) 3 2 n 0 τ 0 [] [] := by
  cases z <;> cases b1 <;> exact runOf (adrs [fr,ld,sd] n) (adr1 [lex,sio]) (by kernel_rfl)
noncomputable def tn34_34_sh (z : Bool) : List Sk := (.func :: .func :: .func :: shX z)
noncomputable def tn34_34_code (z : Bool) (lex ld sio sd fr dq1 dq2 : Nat) (κ : Nat → Tok) (T W : Str) (qd : Bool) (i ec : Nat) (tt pt k0 k1 k2 kn nt stt wt : Tok) : Code := (rtWhile fr)
noncomputable def tn34_34_lT (P : Params) (z : Bool) (lex ld sio sd fr dq1 dq2 : Nat) (κ : Nat → Tok) (T W : Str) (qd : Bool) (i ec : Nat) (tt pt k0 k1 k2 kn nt stt wt : Tok) : List Ent := [(fr,(rtFB P lex κ qd (u [ec]) kn nt)),(ld,(lexO P sio dq1 dq2 κ (.str (u [34]) stt) W wt)),(sd,(sdO P T i tt pt k0 k1 k2))]
noncomputable def tn34_34_lR (P : Params) (z : Bool) (lex ld sio sd fr dq1 dq2 : Nat) (κ : Nat → Tok) (T W : Str) (qd : Bool) (i ec : Nat) (tt pt k0 k1 k2 kn nt stt wt : Tok) : List Ent := [(lex,(insO 722 ld)),(sio,(insO 587 sd))]
noncomputable def tn34_34_scr (P : Params) (n τ : Nat) (z : Bool) (lex ld sio sd fr dq1 dq2 : Nat) (κ : Nat → Tok) (T W : Str) (qd : Bool) (i ec : Nat) (tt pt k0 k1 k2 kn nt stt wt : Tok) : Scr := (.orc [3,2,2167,2167,2164,0,2,2167,2167,2164,1963,1963,2167,2167,2164,0,1963,1963,1960,1957,12,12,7,12,2,2167,2167,2164,0,2,2167,2167,2164,2,2,2167,6,0,0,3,2,2167,2167,2164,0,2,2167,2167,2164,2,2,2167,6,5,1762,1762,1759,331,328,250,247,5,1762,1762,1759,331,328,250,247,5,1762,1762,1759,1600,5,9,1600] (oRead P (.whl :: .func :: .func :: .func :: shX z) 2 5 sio sd T i 34 tt pt k0 k1 k2 (τ + 6)) 4 2 fun α1 tk1 n1 τ1 =>
  (.fin [3,3,3,0,3,2,2167,2167,2164,0,2,2167,2167,2164,2,2,2167,6,0,3,2,2167,2167,2164,0,2,2167,2167,2164,2,2,2167,6,3,2,2167,2167,2164,0,2,2167,2167,2164,2,2,2167,6,0,3,2,2167,2167,2164,0,2,2167,2167,2164,2,2,2167,6,3,2,2167,2167,2164,0,2,2167,2167,2164,2,2,2167,6,0,3,3,3,0,0,3,3,2,2167,2167,2164,0,2,2167,2167,2164,2,2,2167,6,0,3,2,2167,2167,2164,0,2,2167,2167,2164,2,2,2167,6,3,2,2167,2167,2164,0,2,2167,2,2167,2,2167,2167,2164,2,2167,6,6,6] ⟨.ok (.again (rtWhile fr)),[(1,ld,(lexO P sio dq1 dq2 κ (.str (u [97]) (τ1 + 14)) W wt)),(2,sd,(sdO P T ((i : Int) + 1) tt (α1 0) k0 k1 k2)),(0,fr,(rtFB P lex κ true (u [34]) kn tk1))],[]⟩))
theorem tn34_34_run (w : World) (b1 b2 b3 : Bool) (z : Bool) (hs : HL (tn34_34_sh z)) (p : Pos) (n τ : Nat) (lex ld sio sd fr dq1 dq2 : Nat) (κ : Nat → Tok) (T W : Str) (qd : Bool) (i ec : Nat) (tt pt k0 k1 k2 kn nt stt wt : Tok) : SH (VX w b1 b2 b3) false 20000 [] ⟨tn34_34_code z lex ld sio sd fr dq1 dq2 κ T W qd i ec tt pt k0 k1 k2 kn nt stt wt ,none,none,fillAll (tn34_34_sh z) hs,none⟩ p ((VX w b1 b2 b3).den (tn34_34_code z lex ld sio sd fr dq1 dq2 κ T W qd i ec tt pt k0 k1 k2 kn nt stt wt )) (tn34_34_scr w.params n τ z lex ld sio sd fr dq1 dq2 κ T W qd i ec tt pt k0 k1 k2 kn nt stt wt ) (tabOf (tn34_34_lR w.params z lex ld sio sd fr dq1 dq2 κ T W qd i ec tt pt k0 k1 k2 kn nt stt wt ) 0 .nil) (tabOf (tn34_34_lT w.params z lex ld sio sd fr dq1 dq2 κ T W qd i ec tt pt k0 k1 k2 kn nt stt wt ) 0 .nil) 3 2 n 0 τ 0 [] [] := by
  cases z <;> cases b1 <;> exact runOf (adrs [fr,ld,sd] n) (adr1 [lex,sio]) (by kernel_rfl)
noncomputable def tn97_0_sh (z : Bool) : List Sk := (.func :: .func :: .func :: shX z)
noncomputable def tn97_0_code (z : Bool) (lex ld sio sd fr dq1 dq2 : Nat) (κ : Nat → Tok) (T W : Str) (qd : Bool) (i ec : Nat) (tt pt k0 k1 k2 kn nt stt wt : Tok) : Code := (rtWhile fr)
noncomputable def tn97_0_lT (P : Params) (z : Bool) (lex ld sio sd fr dq1 dq2 : Nat) (κ : Nat → Tok) (T W : Str) (qd : Bool) (i ec : Nat) (tt pt k0 k1 k2 kn nt stt wt : Tok) : List Ent := [(fr,(rtFB P lex κ qd (u [ec]) kn nt)),(ld,(lexO P sio dq1 dq2 κ (.str (u [97]) stt) W wt)),(sd,(sdO P T i tt pt k0 k1 k2))]
noncomputable def tn97_0_lR (P : Params) (z : Bool) (lex ld sio sd fr dq1 dq2 : Nat) (κ : Nat → Tok) (T W : Str) (qd : Bool) (i ec : Nat) (tt pt k0 k1 k2 kn nt stt wt : Tok) : List Ent := [(lex,(insO 722 ld)),(sio,(insO 587 sd))]
noncomputable def tn97_0_scr (P : Params) (n τ : Nat) (z : Bool) (lex ld sio sd fr dq1 dq2 : Nat) (κ : Nat → Tok) (T W : Str) (qd : Bool) (i ec : Nat) (tt pt k0 k1 k2 kn nt stt wt : Tok) : Scr := (.orc [3,2,2167,2167,2164,0,2,2167,2167,2164,1963,1963,2167,2167,2164,0,1963,1963,1960,1957,12,12,7,12,2,2167,2167,2164,0,2,2167,2167,2164,2,2,2167,6,0,0,3,2,2167,2167,2164,0,2,2167,2167,2164,2,2,2167,6,5,1762,1762,1759,331,328,250,247,5,1762,1762,1759,331,328,250,247,5,1762,1762,1759,1600,5,9,1600] (oReadE P (.whl :: .func :: .func :: .func :: shX z) 2 5 sio sd T i tt pt k0 k1 k2 (τ + 6)) 4 2 fun α1 tk1 n1 τ1 =>
  (.orc [3,3,3,0,3,2,2167,2167,2164,0,2,2167,2167,2164,2,2,2167,6,0,3,2,2167,2167,2164,0,2,2167,2167,2164,2,2,2167,6,3,2,2167,2167,2164,0,2,2167,2167,2164,2,2,2167,6,0,3,2,2167,2167,2164,0,2,2167,2167,2164,2,2,2167,6,3,2,2167,2167,2164,0,2,2167,2167,2164,2,2,2167,6,0,3,2,2167,2167,2164,0,2,2167,2167,2164,2,2,2167,6,3,2,2167,2167,2164,0,2,2167,2167,2164,2,2,2167,6,0,3,2,2167,2167,2164,0,2,2167,2167,2164,2,2,2167,6,15,15] (oTupIn (.whl :: .func :: .func :: .func :: shX z) 15 (n1 + 0) [(.str (u [97]) (τ1 + 12)),(.str (u [99]) (τ1 + 13))] 0 (u [97]) stt true) 5 2 fun α2 tk2 n2 τ2 =>
  (.fin [3,0,0,3,2,2167,2167,2164,0,2,2167,2,2167,2,2167,2167,2164,2,2167,6,6,6] ⟨.ok (.done .next),[(1,ld,(lexO P sio dq1 dq2 κ .none W wt)),(2,sd,(sdO P T i tt pt k0 k1 k2)),(0,fr,(rtFB P lex κ qd (u []) kn tk1))],[]⟩)))
theorem tn97_0_run (w : World) (b1 b2 b3 : Bool) (z : Bool) (hs : HL (tn97_0_sh z)) (p : Pos) (n τ : Nat) (lex ld sio sd fr dq1 dq2 : Nat) (κ : Nat → Tok) (T W : Str) (qd : Bool) (i ec : Nat) (tt pt k0 k1 k2 kn nt stt wt : Tok) : SH (VX w b1 b2 b3) true 20000 [] ⟨tn97_0_code z lex ld sio sd fr dq1 dq2 κ T W qd i ec tt pt k0 k1 k2 kn nt stt wt ,none,none,fillAll (tn97_0_sh z) hs,none⟩ p ((VX w b1 b2 b3).den (tn97_0_code z lex ld sio sd fr dq1 dq2 κ T W qd i ec tt pt k0 k1 k2 kn nt stt wt )) (tn97_0_scr w.params n τ z lex ld sio sd fr dq1 dq2 κ T W qd i ec tt pt k0 k1 k2 kn nt stt wt ) (tabOf (tn97_0_lR w.params z lex ld sio sd fr dq1 dq2 κ T W qd i ec tt pt k0 k1 k2 kn nt stt wt ) 0 .nil) (tabOf (tn97_0_lT w.params z lex ld sio sd fr dq1 dq2 κ T W qd i ec tt pt k0 k1 k2 kn nt stt wt ) 0 .nil) 3 2 n 0 τ 0 [] [] := by
  cases z <;> cases b1 <;> exact runOf (adrs [fr,ld,sd] n) (adr1 [lex,sio]) (by kernel_rfl)
noncomputable def tn32_34_sh (z : Bool) : List Sk := (.func :: .func :: .func :: shX z)
noncomputable def tn32_34_code (z : Bool) (lex ld sio sd fr dq1 dq2 : Nat) (κ : Nat → Tok) (T W : Str) (qd : Bool) (i ec : Nat) (tt pt k0 k1 k2 kn nt stt wt : Tok) : Code := (rtWhile fr)
noncomputable def tn32_34_lT (P : Params) (z : Bool) (lex ld sio sd fr dq1 dq2 : Nat) (κ : Nat → Tok) (T W : Str) (qd : Bool) (i ec : Nat) (tt pt k0 k1 k2 kn nt stt wt : Tok) : List Ent := [(fr,(rtFA P lex κ qd)),(ld,(lexO P sio dq1 dq2 κ (.str (u [32]) stt) (u []) wt)),(sd,(sdO P T i tt pt k0 k1 k2))]
noncomputable def tn32_34_lR (P : Params) (z : Bool) (lex ld sio sd fr dq1 dq2 : Nat) (κ : Nat → Tok) (T W : Str) (qd : Bool) (i ec : Nat) (tt pt k0 k1 k2 kn nt stt wt : Tok) : List Ent := [(lex,(insO 722 ld)),(sio,(insO 587 sd))]
noncomputable def tn32_34_scr (P : Params) (n τ : Nat) (z : Bool) (lex ld sio sd fr dq1 dq2 : Nat) (κ : Nat → Tok) (T W : Str) (qd : Bool) (i ec : Nat) (tt pt k0 k1 k2 kn nt stt wt : Tok) : Scr := (.orc [3,2,2167,2167,2164,0,2,2167,2167,2164,1963,1963,2167,2167,2164,0,1963,1963,1960,1957,12,12,7,12,2,2167,2167,2164,0,2,2167,2167,2164,2,2,2167,6,0,0,3,2,2167,2167,2164,0,2,2167,2167,2164,2,2,2167,6,5,1762,1762,1759,331,328,250,247,5,1762,1762,1759,331,328,250,247,5,1762,1762,1759,1600,5,9,1600] (oRead P (.whl :: .func :: .func :: .func :: shX z) 2 5 sio sd T i 34 tt pt k0 k1 k2 (τ + 6)) 4 2 fun α1 tk1 n1 τ1 =>
  (.fin [3,3,3,0,3,2,2167,2167,2164,0,2,2167,2167,2164,2,2,2167,6,0,3,2,2167,2167,2164,0,2,2167,2167,2164,2,2,2167,6,3,2,2167,2167,2164,0,2,2167,2167,2164,2,2,2167,6,0,3,0,0,3,3,2,2167,2167,2164,0,2,2167,2167,2164,2,2,2167,6,0,3,3,2,2167,2167,2164,0,2,2167,2167,2164,2,2,2167,6,0,3,2,2167,2167,2164,0,2,2167,2167,2164,2,2,2167,6,3,3,2,2167,2167,2164,0,2,2167,2167,2164,2,2,2167,6,0,3,3,2,2167,2167,2164,0,2,2167,2167,2164,2,2,2167,6,0,3,3,2,2167,2167,2164,0,2,2167,2167,2164,1963,1963,2167,2167,2164,0,1963,1963,1960,1957,15,15,7,15,2,2167,2167,2164,0,2,2167,2167,2164,2,2,2167,6,0,3,3,2,2167,2167,2164,0,2,2167,2167,2164,2,2,2167,6,0,3,2,2167,2167,2164,0,2,2167,2167,2164,2,2,2167,6,3,3,2,2167,2167,2164,0,2,2167,2,2167,2,2167,2167,2164,2,2167,6,6,6] ⟨.ok (.again (rtWhile fr)),[(1,ld,(lexO P sio dq1 dq2 κ (.str (u [34]) tk1) (u []) wt)),(2,sd,(sdO P T ((i : Int) + 1) tt (α1 0) k0 k1 k2)),(0,fr,(rtFB P lex κ qd (u [34]) (τ1 + 0) tk1))],[]⟩))
theorem tn32_34_run (w : World) (b1 b2 b3 : Bool) (z : Bool) (hs : HL (tn32_34_sh z)) (p : Pos) (n τ : Nat) (lex ld sio sd fr dq1 dq2 : Nat) (κ : Nat → Tok) (T W : Str) (qd : Bool) (i ec : Nat) (tt pt k0 k1 k2 kn nt stt wt : Tok) : SH (VX w b1 b2 b3) false 20000 [] ⟨tn32_34_code z lex ld sio sd fr dq1 dq2 κ T W qd i ec tt pt k0 k1 k2 kn nt stt wt ,none,none,fillAll (tn32_34_sh z) hs,none⟩ p ((VX w b1 b2 b3).den (tn32_34_code z lex ld sio sd fr dq1 dq2 κ T W qd i ec tt pt k0 k1 k2 kn nt stt wt )) (tn32_34_scr w.params n τ z lex ld sio sd fr dq1 dq2 κ T W qd i ec tt pt k0 k1 k2 kn nt stt wt ) (tabOf (tn32_34_lR w.params z lex ld sio sd fr dq1 dq2 κ T W qd i ec tt pt k0 k1 k2 kn nt stt wt ) 0 .nil) (tabOf (tn32_34_lT w.params z lex ld sio sd fr dq1 dq2 κ T W qd i ec tt pt k0 k1 k2 kn nt stt wt ) 0 .nil) 3 2 n 0 τ 0 [] [] := by
  cases z <;> cases b1 <;> exact runOf (adrs [fr,ld,sd] n) (adr1 [lex,sio]) (by kernel_rfl)
noncomputable def tn34_120_sh (z : Bool) : List Sk := (.func :: .func :: .func :: shX z)
noncomputable def tn34_120_code (z : Bool) (lex ld sio sd fr dq1 dq2 : Nat) (κ : Nat → Tok) (T W : Str) (qd : Bool) (i ec : Nat) (tt pt k0 k1 k2 kn nt stt wt : Tok) : Code := (rtWhile fr)
noncomputable def tn34_120_lT (P : Params) (z : Bool) (lex ld sio sd fr dq1 dq2 : Nat) (κ : Nat → Tok) (T W : Str) (qd : Bool) (i ec : Nat) (tt pt k0 k1 k2 kn nt stt wt : Tok) : List Ent := [(fr,(rtFB P lex κ qd (u [ec]) kn nt)),(ld,(lexO P sio dq1 dq2 κ (.str (u [34]) stt) W wt)),(sd,(sdO P T i tt pt k0 k1 k2))]
noncomputable def tn34_120_lR (P : Params) (z : Bool) (lex ld sio sd fr dq1 dq2 : Nat) (κ : Nat → Tok) (T W : Str) (qd : Bool) (i ec : Nat) (tt pt k0 k1 k2 kn nt stt wt : Tok) : List Ent := [(lex,(insO 722 ld)),(sio,(insO 587 sd))]
noncomputable def tn34_120_scr (P : Params) (n τ : Nat) (z : Bool) (lex ld sio sd fr dq1 dq2 : Nat) (κ : Nat → Tok) (T W : Str) (qd : Bool) (i ec : Nat) (tt pt k0 k1 k2 kn nt stt wt : Tok) : Scr := (.orc [3,2,2167,2167,2164,0,2,2167,2167,2164,1963,1963,2167,2167,2164,0,1963,1963,1960,1957,12,12,7,12,2,2167,2167,2164,0,2,2167,2167,2164,2,2,2167,6,0,0,3,2,2167,2167,2164,0,2,2167,2167,2164,2,2,2167,6,5,1762,1762,1759,331,328,250,247,5,1762,1762,1759,331,328,250,247,5,1762,1762,1759,1600,5,9,1600] (oRead P (.whl :: .func :: .func :: .func :: shX z) 2 5 sio sd T i 120 tt pt k0 k1 k2 (τ + 6)) 4 2 fun α1 tk1 n1 τ1 =>
  (.orc [3,3,3,0,3,2,2167,2167,2164,0,2,2167,2167,2164,2,2,2167,6,0,3,2,2167,2167,2164,0,2,2167,2167,2164,2,2,2167,6,3,2,2167,2167,2164,0,2,2167,2167,2164,2,2,2167,6,0,3,2,2167,2167,2164,0,2,2167,2167,2164,2,2,2167,6,3,2,2167,2167,2164,0,2,2167,2167,2164,2,2,2167,6,0,3,3,3,0,0,3,3,2,2167,2167,2164,0,2,2167,2167,2164,2,2,2167,6,0,3,2,2167,2167,2164,0,2,2167,2167,2164,2,2,2167,6,3,3,2,2167,2167,2164,0,2,2167,2167,2164,2,2,2167,6,0,3,2,2167,2167,2164,0,2,2167,2167,2164,2,2,2167,6,3] (oAdd (.whl :: .func :: .func :: .func :: shX z) W wt (u [120]) tk1) 4 2 fun α2 tk2 n2 τ2 =>
  (.fin [2,2167,2167,2164,0,2,2167,2,2167,2,2167,2167,2164,2,2167,6,6,6] ⟨.ok (.again (rtWhile fr)),[(1,ld,(lexO P sio dq1 dq2 κ (.str (u [34]) stt) (W ++ (u [120])) tk2)),(2,sd,(sdO P T ((i : Int) + 1) tt (α1 0) k0 k1 k2)),(0,fr,(rtFB P lex κ true (u [120]) kn tk1))],[]⟩)))
theorem tn34_120_run (w : World) (b1 b2 b3 : Bool) (z : Bool) (hs : HL (tn34_120_sh z)) (p : Pos) (n τ : Nat) (lex ld sio sd fr dq1 dq2 : Nat) (κ : Nat → Tok) (T W : Str) (qd : Bool) (i ec : Nat) (tt pt k0 k1 k2 kn nt stt wt : Tok) : SH (VX w b1 b2 b3) false 20000 [] ⟨tn34_120_code z lex ld sio sd fr dq1 dq2 κ T W qd i ec tt pt k0 k1 k2 kn nt stt wt ,none,none,fillAll (tn34_120_sh z) hs,none⟩ p ((VX w b1 b2 b3).den (tn34_120_code z lex ld sio sd fr dq1 dq2 κ T W qd i ec tt pt k0 k1 k2 kn nt stt wt )) (tn34_120_scr w.params n τ z lex ld sio sd fr dq1 dq2 κ T W qd i ec tt pt k0 k1 k2 kn nt stt wt ) (tabOf (tn34_120_lR w.params z lex ld sio sd fr dq1 dq2 κ T W qd i ec tt pt k0 k1 k2 kn nt stt wt ) 0 .nil) (tabOf (tn34_120_lT w.params z lex ld sio sd fr dq1 dq2 κ T W qd i ec tt pt k0 k1 k2 kn nt stt wt ) 0 .nil) 3 2 n 0 τ 0 [] [] := by
  cases z <;> cases b1 <;> exact runOf (adrs [fr,ld,sd] n) (adr1 [lex,sio]) (by kernel_rfl)
noncomputable def tn34_39_sh (z : Bool) : List Sk := (.func :: .func :: .func :: shX z)
noncomputable def tn34_39_code (z : Bool) (lex ld sio sd fr dq1 dq2 : Nat) (κ : Nat → Tok) (T W : Str) (qd : Bool) (i ec : Nat) (tt pt k0 k1 k2 kn nt stt wt : Tok) : Code := (rtWhile fr)
noncomputable def tn34_39_lT (P : Params) (z : Bool) (lex ld sio sd fr dq1 dq2 : Nat) (κ : Nat → Tok) (T W : Str) (qd : Bool) (i ec : Nat) (tt pt k0 k1 k2 kn nt stt wt : Tok) : List Ent := [(fr,(rtFB P lex κ qd (u [ec]) kn nt)),(ld,(lexO P sio dq1 dq2 κ (.str (u [34]) stt) W wt)),(sd,(sdO P T i tt pt k0 k1 k2))]
noncomputable def tn34_39_lR (P : Params) (z : Bool) (lex ld sio sd fr dq1 dq2 : Nat) (κ : Nat → Tok) (T W : Str) (qd : Bool) (i ec : Nat) (tt pt k0 k1 k2 kn nt stt wt : Tok) : List Ent := [(lex,(insO 722 ld)),(sio,(insO 587 sd))]
noncomputable def tn34_39_scr (P : Params) (n τ : Nat) (z : Bool) (lex ld sio sd fr dq1 dq2 : Nat) (κ : Nat → Tok) (T W : Str) (qd : Bool) (i ec : Nat) (tt pt k0 k1 k2 kn nt stt wt : Tok) : Scr := (.orc [3,2,2167,2167,2164,0,2,2167,2167,2164,1963,1963,2167,2167,2164,0,1963,1963,1960,1957,12,12,7,12,2,2167,2167,2164,0,2,2167,2167,2164,2,2,2167,6,0,0,3,2,2167,2167,2164,0,2,2167,2167,2164,2,2,2167,6,5,1762,1762,1759,331,328,250,247,5,1762,1762,1759,331,328,250,247,5,1762,1762,1759,1600,5,9,1600] (oRead P (.whl :: .func :: .func :: .func :: shX z) 2 5 sio sd T i 39 tt pt k0 k1 k2 (τ + 6)) 4 2 fun α1 tk1 n1 τ1 =>
  (.orc [3,3,3,0,3,2,2167,2167,2164,0,2,2167,2167,2164,2,2,2167,6,0,3,2,2167,2167,2164,0,2,2167,2167,2164,2,2,2167,6,3,2,2167,2167,2164,0,2,2167,2167,2164,2,2,2167,6,0,3,2,2167,2167,2164,0,2,2167,2167,2164,2,2,2167,6,3,2,2167,2167,2164,0,2,2167,2167,2164,2,2,2167,6,0,3,3,3,0,0,3,3,2,2167,2167,2164,0,2,2167,2167,2164,2,2,2167,6,0,3,2,2167,2167,2164,0,2,2167,2167,2164,2,2,2167,6,3,3,2,2167,2167,2164,0,2,2167,2167,2164,2,2,2167,6,0,3,2,2167,2167,2164,0,2,2167,2167,2164,2,2,2167,6,3] (oAdd (.whl :: .func :: .func :: .func :: shX z) W wt (u [39]) tk1) 4 2 fun α2 tk2 n2 τ2 =>
  (.fin [2,2167,2167,2164,0,2,2167,2,2167,2,2167,2167,2164,2,2167,6,6,6] ⟨.ok (.again (rtWhile fr)),[(1,ld,(lexO P sio dq1 dq2 κ (.str (u [34]) stt) (W ++ (u [39])) tk2)),(2,sd,(sdO P T ((i : Int) + 1) tt (α1 0) k0 k1 k2)),(0,fr,(rtFB P lex κ true (u [39]) kn tk1))],[]⟩)))
theorem tn34_39_run (w : World) (b1 b2 b3 : Bool) (z : Bool) (hs : HL (tn34_39_sh z)) (p : Pos) (n τ : Nat) (lex ld sio sd fr dq1 dq2 : Nat) (κ : Nat → Tok) (T W : Str) (qd : Bool) (i ec : Nat) (tt pt k0 k1 k2 kn nt stt wt : Tok) : SH (VX w b1 b2 b3) false 20000 [] ⟨tn34_39_code z lex ld sio sd fr dq1 dq2 κ T W qd i ec tt pt k0 k1 k2 kn nt stt wt ,none,none,fillAll (tn34_39_sh z) hs,none⟩ p ((VX w b1 b2 b3).den (tn34_39_code z lex ld sio sd fr dq1 dq2 κ T W qd i ec tt pt k0 k1 k2 kn nt stt wt )) (tn34_39_scr w.params n τ z lex ld sio sd fr dq1 dq2 κ T W qd i ec tt pt k0 k1 k2 kn nt stt wt ) (tabOf (tn34_39_lR w.params z lex ld sio sd fr dq1 dq2 κ T W qd i ec tt pt k0 k1 k2 kn nt stt wt ) 0 .nil) (tabOf (tn34_39_lT w.params z lex ld sio sd fr dq1 dq2 κ T W qd i ec tt pt k0 k1 k2 kn nt stt wt ) 0 .nil) 3 2 n 0 τ 0 [] [] := by
  cases z <;> cases b1 <;> exact runOf (adrs [fr,ld,sd] n) (adr1 [lex,sio]) (by kernel_rfl)
noncomputable def tn34_96_sh (z : Bool) : List Sk := (.func :: .func :: .func :: shX z)
noncomputable def tn34_96_code (z : Bool) (lex ld sio sd fr dq1 dq2 : Nat) (κ : Nat → Tok) (T W : Str) (qd : Bool) (i ec : Nat) (tt pt k0 k1 k2 kn nt stt wt : Tok) : Code := (rtWhile fr)
noncomputable def tn34_96_lT (P : Params) (z : Bool) (lex ld sio sd fr dq1 dq2 : Nat) (κ : Nat → Tok) (T W : Str) (qd : Bool) (i ec : Nat) (tt pt k0 k1 k2 kn nt stt wt : Tok) : List Ent := [(fr,(rtFB P lex κ qd (u [ec]) kn nt)),(ld,(lexO P sio dq1 dq2 κ (.str (u [34]) stt) W wt)),(sd,(sdO P T i tt pt k0 k1 k2))]
noncomputable def tn34_96_lR (P : Params) (z : Bool) (lex ld sio sd fr dq1 dq2 : Nat) (κ : Nat → Tok) (T W : Str) (qd : Bool) (i ec : Nat) (tt pt k0 k1 k2 kn nt stt wt : Tok) : List Ent := [(lex,(insO 722 ld)),(sio,(insO 587 sd))]
noncomputable def tn34_96_scr (P : Params) (n τ : Nat) (z : Bool) (lex ld sio sd fr dq1 dq2 : Nat) (κ : Nat → Tok) (T W : Str) (qd : Bool) (i ec : Nat) (tt pt k0 k1 k2 kn nt stt wt : Tok) : Scr := (.orc [3,2,2167,2167,2164,0,2,2167,2167,2164,1963,1963,2167,2167,2164,0,1963,1963,1960,1957,12,12,7,12,2,2167,2167,2164,0,2,2167,2167,2164,2,2,2167,6,0,0,3,2,2167,2167,2164,0,2,2167,2167,2164,2,2,2167,6,5,1762,1762,1759,331,328,250,247,5,1762,1762,1759,331,328,250,247,5,1762,1762,1759,1600,5,9,1600] (oRead P (.whl :: .func :: .func :: .func :: shX z) 2 5 sio sd T i 96 tt pt k0 k1 k2 (τ + 6)) 4 2 fun α1 tk1 n1 τ1 =>
  (.orc [3,3,3,0,3,2,2167,2167,2164,0,2,2167,2167,2164,2,2,2167,6,0,3,2,2167,2167,2164,0,2,2167,2167,2164,2,2,2167,6,3,2,2167,2167,2164,0,2,2167,2167,2164,2,2,2167,6,0,3,2,2167,2167,2164,0,2,2167,2167,2164,2,2,2167,6,3,2,2167,2167,2164,0,2,2167,2167,2164,2,2,2167,6,0,3,3,3,0,0,3,3,2,2167,2167,2164,0,2,2167,2167,2164,2,2,2167,6,0,3,2,2167,2167,2164,0,2,2167,2167,2164,2,2,2167,6,3,3,2,2167,2167,2164,0,2,2167,2167,2164,2,2,2167,6,0,3,2,2167,2167,2164,0,2,2167,2167,2164,2,2,2167,6,3] (oAdd (.whl :: .func :: .func :: .func :: shX z) W wt (u [96]) tk1) 4 2 fun α2 tk2 n2 τ2 =>
  (.fin [2,2167,2167,2164,0,2,2167,2,2167,2,2167,2167,2164,2,2167,6,6,6] ⟨.ok (.again (rtWhile fr)),[(1,ld,(lexO P sio dq1 dq2 κ (.str (u [34]) stt) (W ++ (u [96])) tk2)),(2,sd,(sdO P T ((i : Int) + 1) tt (α1 0) k0 k1 k2)),(0,fr,(rtFB P lex κ true (u [96]) kn tk1))],[]⟩)))
theorem tn34_96_run (w : World) (b1 b2 b3 : Bool) (z : Bool) (hs : HL (tn34_96_sh z)) (p : Pos) (n τ : Nat) (lex ld sio sd fr dq1 dq2 : Nat) (κ : Nat → Tok) (T W : Str) (qd : Bool) (i ec : Nat) (tt pt k0 k1 k2 kn nt stt wt : Tok) : SH (VX w b1 b2 b3) false 20000 [] ⟨tn34_96_code z lex ld sio sd fr dq1 dq2 κ T W qd i ec tt pt k0 k1 k2 kn nt stt wt ,none,none,fillAll (tn34_96_sh z) hs,none⟩ p ((VX w b1 b2 b3).den (tn34_96_code z lex ld sio sd fr dq1 dq2 κ T W qd i ec tt pt k0 k1 k2 kn nt stt wt )) (tn34_96_scr w.params n τ z lex ld sio sd fr dq1 dq2 κ T W qd i ec tt pt k0 k1 k2 kn nt stt wt ) (tabOf (tn34_96_lR w.params z lex ld sio sd fr dq1 dq2 κ T W qd i ec tt pt k0 k1 k2 kn nt stt wt ) 0 .nil) (tabOf (tn34_96_lT w.params z lex ld sio sd fr dq1 dq2 κ T W qd i ec tt pt k0 k1 k2 kn nt stt wt ) 0 .nil) 3 2 n 0 τ 0 [] [] := by
  cases z <;> cases b1 <;> exact runOf (adrs [fr,ld,sd] n) (adr1 [lex,sio]) (by kernel_rfl)
noncomputable def tn97_96_sh (z : Bool) : List Sk := (.func :: .func :: .func :: shX z)
noncomputable def tn97_96_code (z : Bool) (lex ld sio sd fr dq1 dq2 : Nat) (κ : Nat → Tok) (T W : Str) (qd : Bool) (i ec : Nat) (tt pt k0 k1 k2 kn nt stt wt : Tok) : Code := (rtWhile fr)
noncomputable def tn97_96_lT (P : Params) (z : Bool) (lex ld sio sd fr dq1 dq2 : Nat) (κ : Nat → Tok) (T W : Str) (qd : Bool) (i ec : Nat) (tt pt k0 k1 k2 kn nt stt wt : Tok) : List Ent := [(fr,(rtFB P lex κ qd (u [ec]) kn nt)),(ld,(lexO P sio dq1 dq2 κ (.str (u [97]) stt) W wt)),(sd,(sdO P T i tt pt k0 k1 k2))]
noncomputable def tn97_96_lR (P : Params) (z : Bool) (lex ld sio sd fr dq1 dq2 : Nat) (κ : Nat → Tok) (T W : Str) (qd : Bool) (i ec : Nat) (tt pt k0 k1 k2 kn nt stt wt : Tok) : List Ent := [(lex,(insO 722 ld)),(sio,(insO 587 sd))]
noncomputable def tn97_96_scr (P : Params) (n τ : Nat) (z : Bool) (lex ld sio sd fr dq1 dq2 : Nat) (κ : Nat → Tok) (T W : Str) (qd : Bool) (i ec : Nat) (tt pt k0 k1 k2 kn nt stt wt : Tok) : Scr := (.orc [3,2,2167,2167,2164,0,2,2167,2167,2164,1963,1963,2167,2167,2164,0,1963,1963,1960,1957,12,12,7,12,2,2167,2167,2164,0,2,2167,2167,2164,2,2,2167,6,0,0,3,2,2167,2167,2164,0,2,2167,2167,2164,2,2,2167,6,5,1762,1762,1759,331,328,250,247,5,1762,1762,1759,331,328,250,247,5,1762,1762,1759,1600,5,9,1600] (oRead P (.whl :: .func :: .func :: .func :: shX z) 2 5 sio sd T i 96 tt pt k0 k1 k2 (τ + 6)) 4 2 fun α1 tk1 n1 τ1 =>
  (.orc [3,3,3,0,3,2,2167,2167,2164,0,2,2167,2167,2164,2,2,2167,6,0,3,2,2167,2167,2164,0,2,2167,2167,2164,2,2,2167,6,3,2,2167,2167,2164,0,2,2167,2167,2164,2,2,2167,6,0,3,2,2167,2167,2164,0,2,2167,2167,2164,2,2,2167,6,3,2,2167,2167,2164,0,2,2167,2167,2164,2,2,2167,6,0,3,2,2167,2167,2164,0,2,2167,2167,2164,2,2,2167,6,3,2,2167,2167,2164,0,2,2167,2167,2164,2,2,2167,6,0,3,2,2167,2167,2164,0,2,2167,2167,2164,2,2,2167,6,15,15] (oTupIn (.whl :: .func :: .func :: .func :: shX z) 15 (n1 + 0) [(.str (u [97]) (τ1 + 12)),(.str (u [99]) (τ1 + 13))] 0 (u [97]) stt true) 5 2 fun α2 tk2 n2 τ2 =>
  (.fin [3,0,0,3,3,2,2167,2167,2164,0,2,2167,2167,2164,2,2,2167,6,0,3,3,2,2167,2167,2164,0,2,2167,2167,2164,2,2,2167,6,0,3,2,2167,2167,2164,0,2,2167,2167,2164,2,2,2167,6,0,3,2,2167,2167,2164,0,2,2167,2167,2164,2,2,2167,6,3,3,2,2167,2167,2164,0,2,2167,2167,2164,2,2,2167,6,0,3,3,2,2167,2167,2164,0,2,2167,2,2167,2,2167,2167,2164,2,2167,6,6,6] ⟨.ok (.again (rtWhile fr)),[(1,ld,(lexO P sio dq1 dq2 κ (.str (u [96]) tk1) W wt)),(2,sd,(sdO P T ((i : Int) + 1) tt (α1 0) k0 k1 k2)),(0,fr,(rtFB P lex κ qd (u [96]) kn tk1))],[]⟩)))
theorem tn97_96_run (w : World) (b1 b2 b3 : Bool) (z : Bool) (hs : HL (tn97_96_sh z)) (p : Pos) (n τ : Nat) (lex ld sio sd fr dq1 dq2 : Nat) (κ : Nat → Tok) (T W : Str) (qd : Bool) (i ec : Nat) (tt pt k0 k1 k2 kn nt stt wt : Tok) : SH (VX w b1 b2 b3) false 20000 [] ⟨tn97_96_code z lex ld sio sd fr dq1 dq2 κ T W qd i ec tt pt k0 k1 k2 kn nt stt wt ,none,none,fillAll (tn97_96_sh z) hs,none⟩ p ((VX w b1 b2 b3).den (tn97_96_code z lex ld sio sd fr dq1 dq2 κ T W qd i ec tt pt k0 k1 k2 kn nt stt wt )) (tn97_96_scr w.params n τ z lex ld sio sd fr dq1 dq2 κ T W qd i ec tt pt k0 k1 k2 kn nt stt wt ) (tabOf (tn97_96_lR w.params z lex ld sio sd fr dq1 dq2 κ T W qd i ec tt pt k0 k1 k2 kn nt stt wt ) 0 .nil) (tabOf (tn97_96_lT w.params z lex ld sio sd fr dq1 dq2 κ T W qd i ec tt pt k0 k1 k2 kn nt stt wt ) 0 .nil) 3 2 n 0 τ 0 [] [] := by
  cases z <;> cases b1 <;> exact runOf (adrs [fr,ld,sd] n) (adr1 [lex,sio]) (by kernel_rfl)
noncomputable def tn96_96_sh (z : Bool) : List Sk := (.func :: .func :: .func :: shX z)
noncomputable def tn96_96_code (z : Bool) (lex ld sio sd fr dq1 dq2 : Nat) (κ : Nat → Tok) (T W : Str) (qd : Bool) (i ec : Nat) (tt pt k0 k1 k2 kn nt stt wt : Tok) : Code := (rtWhile fr)
noncomputable def tn96_96_lT (P : Params) (z : Bool) (lex ld sio sd fr dq1 dq2 : Nat) (κ : Nat → Tok) (T W : Str) (qd : Bool) (i ec : Nat) (tt pt k0 k1 k2 kn nt stt wt : Tok) : List Ent := [(fr,(rtFB P lex κ qd (u [ec]) kn nt)),(ld,(lexO P sio dq1 dq2 κ (.str (u [96]) stt) W wt)),(sd,(sdO P T i tt pt k0 k1 k2))]
noncomputable def tn96_96_lR (P : Params) (z : Bool) (lex ld sio sd fr dq1 dq2 : Nat) (κ : Nat → Tok) (T W : Str) (qd : Bool) (i ec : Nat) (tt pt k0 k1 k2 kn nt stt wt : Tok) : List Ent := [(lex,(insO 722 ld)),(sio,(insO 587 sd))]
noncomputable def tn96_96_scr (P : Params) (n τ : Nat) (z : Bool) (lex ld sio sd fr dq1 dq2 : Nat) (κ : Nat → Tok) (T W : Str) (qd : Bool) (i ec : Nat) (tt pt k0 k1 k2 kn nt stt wt : Tok) : Scr := (.orc [3,2,2167,2167,2164,0,2,2167,2167,2164,1963,1963,2167,2167,2164,0,1963,1963,1960,1957,12,12,7,12,2,2167,2167,2164,0,2,2167,2167,2164,2,2,2167,6,0,0,3,2,2167,2167,2164,0,2,2167,2167,2164,2,2,2167,6,5,1762,1762,1759,331,328,250,247,5,1762,1762,1759,331,328,250,247,5,1762,1762,1759,1600,5,9,1600] (oRead P (.whl :: .func :: .func :: .func :: shX z) 2 5 sio sd T i 96 tt pt k0 k1 k2 (τ + 6)) 4 2 fun α1 tk1 n1 τ1 =>
  (.fin [3,3,3,0,3,2,2167,2167,2164,0,2,2167,2167,2164,2,2,2167,6,0,3,2,2167,2167,2164,0,2,2167,2167,2164,2,2,2167,6,3,2,2167,2167,2164,0,2,2167,2167,2164,2,2,2167,6,0,3,2,2167,2167,2164,0,2,2167,2167,2164,2,2,2167,6,3,2,2167,2167,2164,0,2,2167,2167,2164,2,2,2167,6,0,3,3,3,0,0,3,3,2,2167,2167,2164,0,2,2167,2167,2164,2,2,2167,6,0,3,2,2167,2167,2164,0,2,2167,2167,2164,2,2,2167,6,3,2,2167,2167,2164,0,2,2167,2,2167,2,2167,2167,2164,2,2167,6,6,6] ⟨.ok (.again (rtWhile fr)),[(1,ld,(lexO P sio dq1 dq2 κ (.str (u [97]) (τ1 + 14)) W wt)),(2,sd,(sdO P T ((i : Int) + 1) tt (α1 0) k0 k1 k2)),(0,fr,(rtFB P lex κ true (u [96]) kn tk1))],[]⟩))
theorem tn96_96_run (w : World) (b1 b2 b3 : Bool) (z : Bool) (hs : HL (tn96_96_sh z)) (p : Pos) (n τ : Nat) (lex ld sio sd fr dq1 dq2 : Nat) (κ : Nat → Tok) (T W : Str) (qd : Bool) (i ec : Nat) (tt pt k0 k1 k2 kn nt stt wt : Tok) : SH (VX w b1 b2 b3) false 20000 [] ⟨tn96_96_code z lex ld sio sd fr dq1 dq2 κ T W qd i ec tt pt k0 k1 k2 kn nt stt wt ,none,none,fillAll (tn96_96_sh z) hs,none⟩ p ((VX w b1 b2 b3).den (tn96_96_code z lex ld sio sd fr dq1 dq2 κ T W qd i ec tt pt k0 k1 k2 kn nt stt wt )) (tn96_96_scr w.params n τ z lex ld sio sd fr dq1 dq2 κ T W qd i ec tt pt k0 k1 k2 kn nt stt wt ) (tabOf (tn96_96_lR w.params z lex ld sio sd fr dq1 dq2 κ T W qd i ec tt pt k0 k1 k2 kn nt stt wt ) 0 .nil) (tabOf (tn96_96_lT w.params z lex ld sio sd fr dq1 dq2 κ T W qd i ec tt pt k0 k1 k2 kn nt stt wt ) 0 .nil) 3 2 n 0 τ 0 [] [] := by
  cases z <;> cases b1 <;> exact runOf (adrs [fr,ld,sd] n) (adr1 [lex,sio]) (by kernel_rfl)
noncomputable def tn97_39_sh (z : Bool) : List Sk := (.func :: .func :: .func :: shX z)
noncomputable def tn97_39_code (z : Bool) (lex ld sio sd fr dq1 dq2 : Nat) (κ : Nat → Tok) (T W : Str) (qd : Bool) (i ec : Nat) (tt pt k0 k1 k2 kn nt stt wt : Tok) : Code := (rtWhile fr)
noncomputable def tn97_39_lT (P : Params) (z : Bool) (lex ld sio sd fr dq1 dq2 : Nat) (κ : Nat → Tok) (T W : Str) (qd : Bool) (i ec : Nat) (tt pt k0 k1 k2 kn nt stt wt : Tok) : List Ent := [(fr,(rtFB P lex κ qd (u [ec]) kn nt)),(ld,(lexO P sio dq1 dq2 κ (.str (u [97]) stt) W wt)),(sd,(sdO P T i tt pt k0 k1 k2))]
noncomputable def tn97_39_lR (P : Params) (z : Bool) (lex ld sio sd fr dq1 dq2 : Nat) (κ : Nat → Tok) (T W : Str) (qd : Bool) (i ec : Nat) (tt pt k0 k1 k2 kn nt stt wt : Tok) : List Ent := [(lex,(insO 722 ld)),(sio,(insO 587 sd))]
noncomputable def tn97_39_scr (P : Params) (n τ : Nat) (z : Bool) (lex ld sio sd fr dq1 dq2 : Nat) (κ : Nat → Tok) (T W : Str) (qd : Bool) (i ec : Nat) (tt pt k0 k1 k2 kn nt stt wt : Tok) : Scr := (.orc [3,2,2167,2167,2164,0,2,2167,2167,2164,1963,1963,2167,2167,2164,0,1963,1963,1960,1957,12,12,7,12,2,2167,2167,2164,0,2,2167,2167,2164,2,2,2167,6,0,0,3,2,2167,2167,2164,0,2,2167,2167,2164,2,2,2167,6,5,1762,1762,1759,331,328,250,247,5,1762,1762,1759,331,328,250,247,5,1762,1762,1759,1600,5,9,1600] (oRead P (.whl :: .func :: .func :: .func :: shX z) 2 5 sio sd T i 39 tt pt k0 k1 k2 (τ + 6)) 4 2 fun α1 tk1 n1 τ1 =>
  (.orc [3,3,3,0,3,2,2167,2167,2164,0,2,2167,2167,2164,2,2,2167,6,0,3,2,2167,2167,2164,0,2,2167,2167,2164,2,2,2167,6,3,2,2167,2167,2164,0,2,2167,2167,2164,2,2,2167,6,0,3,2,2167,2167,2164,0,2,2167,2167,2164,2,2,2167,6,3,2,2167,2167,2164,0,2,2167,2167,2164,2,2,2167,6,0,3,2,2167,2167,2164,0,2,2167,2167,2164,2,2,2167,6,3,2,2167,2167,2164,0,2,2167,2167,2164,2,2,2167,6,0,3,2,2167,2167,2164,0,2,2167,2167,2164,2,2,2167,6,15,15] (oTupIn (.whl :: .func :: .func :: .func :: shX z) 15 (n1 + 0) [(.str (u [97]) (τ1 + 12)),(.str (u [99]) (τ1 + 13))] 0 (u [97]) stt true) 5 2 fun α2 tk2 n2 τ2 =>
  (.fin [3,0,0,3,3,2,2167,2167,2164,0,2,2167,2167,2164,2,2,2167,6,0,3,3,2,2167,2167,2164,0,2,2167,2167,2164,2,2,2167,6,0,3,2,2167,2167,2164,0,2,2167,2167,2164,2,2,2167,6,0,3,2,2167,2167,2164,0,2,2167,2167,2164,2,2,2167,6,3,3,2,2167,2167,2164,0,2,2167,2167,2164,2,2,2167,6,0,3,3,2,2167,2167,2164,0,2,2167,2,2167,2,2167,2167,2164,2,2167,6,6,6] ⟨.ok (.again (rtWhile fr)),[(1,ld,(lexO P sio dq1 dq2 κ (.str (u [39]) tk1) W wt)),(2,sd,(sdO P T ((i : Int) + 1) tt (α1 0) k0 k1 k2)),(0,fr,(rtFB P lex κ qd (u [39]) kn tk1))],[]⟩)))
theorem tn97_39_run (w : World) (b1 b2 b3 : Bool) (z : Bool) (hs : HL (tn97_39_sh z)) (p : Pos) (n τ : Nat) (lex ld sio sd fr dq1 dq2 : Nat) (κ : Nat → Tok) (T W : Str) (qd : Bool) (i ec : Nat) (tt pt k0 k1 k2 kn nt stt wt : Tok) : SH (VX w b1 b2 b3) false 20000 [] ⟨tn97_39_code z lex ld sio sd fr dq1 dq2 κ T W qd i ec tt pt k0 k1 k2 kn nt stt wt ,none,none,fillAll (tn97_39_sh z) hs,none⟩ p ((VX w b1 b2 b3).den (tn97_39_code z lex ld sio sd fr dq1 dq2 κ T W qd i ec tt pt k0 k1 k2 kn nt stt wt )) (tn97_39_scr w.params n τ z lex ld sio sd fr dq1 dq2 κ T W qd i ec tt pt k0 k1 k2 kn nt stt wt ) (tabOf (tn97_39_lR w.params z lex ld sio sd fr dq1 dq2 κ T W qd i ec tt pt k0 k1 k2 kn nt stt wt ) 0 .nil) (tabOf (tn97_39_lT w.params z lex ld sio sd fr dq1 dq2 κ T W qd i ec tt pt k0 k1 k2 kn nt stt wt ) 0 .nil) 3 2 n 0 τ 0 [] [] := by
  cases z <;> cases b1 <;> exact runOf (adrs [fr,ld,sd] n) (adr1 [lex,sio]) (by kernel_rfl)
noncomputable def tn32_96_sh (z : Bool) : List Sk := (.func :: .func :: .func :: shX z)
noncomputable def tn32_96_code (z : Bool) (lex ld sio sd fr dq1 dq2 : Nat) (κ : Nat → Tok) (T W : Str) (qd : Bool) (i ec : Nat) (tt pt k0 k1 k2 kn nt stt wt : Tok) : Code := (rtWhile fr)
noncomputable def tn32_96_lT (P : Params) (z : Bool) (lex ld sio sd fr dq1 dq2 : Nat) (κ : Nat → Tok) (T W : Str) (qd : Bool) (i ec : Nat) (tt pt k0 k1 k2 kn nt stt wt : Tok) : List Ent := [(fr,(rtFA P lex κ qd)),(ld,(lexO P sio dq1 dq2 κ (.str (u [32]) stt) (u []) wt)),(sd,(sdO P T i tt pt k0 k1 k2))]
noncomputable def tn32_96_lR (P : Params) (z : Bool) (lex ld sio sd fr dq1 dq2 : Nat) (κ : Nat → Tok) (T W : Str) (qd : Bool) (i ec : Nat) (tt pt k0 k1 k2 kn nt stt wt : Tok) : List Ent := [(lex,(insO 722 ld)),(sio,(insO 587 sd))]
noncomputable def tn32_96_scr (P : Params) (n τ : Nat) (z : Bool) (lex ld sio sd fr dq1 dq2 : Nat) (κ : Nat → Tok) (T W : Str) (qd : Bool) (i ec : Nat) (tt pt k0 k1 k2 kn nt stt wt : Tok) : Scr := (.orc [3,2,2167,2167,2164,0,2,2167,2167,2164,1963,1963,2167,2167,2164,0,1963,1963,1960,1957,12,12,7,12,2,2167,2167,2164,0,2,2167,2167,2164,2,2,2167,6,0,0,3,2,2167,2167,2164,0,2,2167,2167,2164,2,2,2167,6,5,1762,1762,1759,331,328,250,247,5,1762,1762,1759,331,328,250,247,5,1762,1762,1759,1600,5,9,1600] (oRead P (.whl :: .func :: .func :: .func :: shX z) 2 5 sio sd T i 96 tt pt k0 k1 k2 (τ + 6)) 4 2 fun α1 tk1 n1 τ1 =>
  (.fin [3,3,3,0,3,2,2167,2167,2164,0,2,2167,2167,2164,2,2,2167,6,0,3,2,2167,2167,2164,0,2,2167,2167,2164,2,2,2167,6,3,2,2167,2167,2164,0,2,2167,2167,2164,2,2,2167,6,0,3,0,0,3,3,2,2167,2167,2164,0,2,2167,2167,2164,2,2,2167,6,0,3,3,2,2167,2167,2164,0,2,2167,2167,2164,2,2,2167,6,0,3,2,2167,2167,2164,0,2,2167,2167,2164,2,2,2167,6,3,3,2,2167,2167,2164,0,2,2167,2167,2164,2,2,2167,6,0,3,3,2,2167,2167,2164,0,2,2167,2167,2164,2,2,2167,6,0,3,3,2,2167,2167,2164,0,2,2167,2167,2164,1963,1963,2167,2167,2164,0,1963,1963,1960,1957,15,15,7,15,2,2167,2167,2164,0,2,2167,2167,2164,2,2,2167,6,0,3,3,2,2167,2167,2164,0,2,2167,2167,2164,2,2,2167,6,0,3,2,2167,2167,2164,0,2,2167,2167,2164,2,2,2167,6,3,3,2,2167,2167,2164,0,2,2167,2,2167,2,2167,2167,2164,2,2167,6,6,6] ⟨.ok (.again (rtWhile fr)),[(1,ld,(lexO P sio dq1 dq2 κ (.str (u [96]) tk1) (u []) wt)),(2,sd,(sdO P T ((i : Int) + 1) tt (α1 0) k0 k1 k2)),(0,fr,(rtFB P lex κ qd (u [96]) (τ1 + 0) tk1))],[]⟩))
theorem tn32_96_run (w : World) (b1 b2 b3 : Bool) (z : Bool) (hs : HL (tn32_96_sh z)) (p : Pos) (n τ : Nat) (lex ld sio sd fr dq1 dq2 : Nat) (κ : Nat → Tok) (T W : Str) (qd : Bool) (i ec : Nat) (tt pt k0 k1 k2 kn nt stt wt : Tok) : SH (VX w b1 b2 b3) false 20000 [] ⟨tn32_96_code z lex ld sio sd fr dq1 dq2 κ T W qd i ec tt pt k0 k1 k2 kn nt stt wt ,none,none,fillAll (tn32_96_sh z) hs,none⟩ p ((VX w b1 b2 b3).den (tn32_96_code z lex ld sio sd fr dq1 dq2 κ T W qd i ec tt pt k0 k1 k2 kn nt stt wt )) (tn32_96_scr w.params n τ z lex ld sio sd fr dq1 dq2 κ T W qd i ec tt pt k0 k1 k2 kn nt stt wt ) (tabOf (tn32_96_lR w.params z lex ld sio sd fr dq1 dq2 κ T W qd i ec tt pt k0 k1 k2 kn nt stt wt ) 0 .nil) (tabOf (tn32_96_lT w.params z lex ld sio sd fr dq1 dq2 κ T W qd i ec tt pt k0 k1 k2 kn nt stt wt ) 0 .nil) 3 2 n 0 τ 0 [] [] := by
  cases z <;> cases b1 <;> exact runOf (adrs [fr,ld,sd] n) (adr1 [lex,sio]) (by kernel_rfl)
noncomputable def tn96_120_sh (z : Bool) : List Sk := (.func :: .func :: .func :: shX z)
noncomputable def tn96_120_code (z : Bool) (lex ld sio sd fr dq1 dq2 : Nat) (κ : Nat → Tok) (T W : Str) (qd : Bool) (i ec : Nat) (tt pt k0 k1 k2 kn nt stt wt : Tok) : Code := (rtWhile fr)
noncomputable def tn96_120_lT (P : Params) (z : Bool) (lex ld sio sd fr dq1 dq2 : Nat) (κ : Nat → Tok) (T W : Str) (qd : Bool) (i ec : Nat) (tt pt k0 k1 k2 kn nt stt wt : Tok) : List Ent := [(fr,(rtFB P lex κ qd (u [ec]) kn nt)),(ld,(lexO P sio dq1 dq2 κ (.str (u [96]) stt) W wt)),(sd,(sdO P T i tt pt k0 k1 k2))]
noncomputable def tn96_120_lR (P : Params) (z : Bool) (lex ld sio sd fr dq1 dq2 : Nat) (κ : Nat → Tok) (T W : Str) (qd : Bool) (i ec : Nat) (tt pt k0 k1 k2 kn nt stt wt : Tok) : List Ent := [(lex,(insO 722 ld)),(sio,(insO 587 sd))]
noncomputable def tn96_120_scr (P : Params) (n τ : Nat) (z : Bool) (lex ld sio sd fr dq1 dq2 : Nat) (κ : Nat → Tok) (T W : Str) (qd : Bool) (i ec : Nat) (tt pt k0 k1 k2 kn nt stt wt : Tok) : Scr := (.orc [3,2,2167,2167,2164,0,2,2167,2167,2164,1963,1963,2167,2167,2164,0,1963,1963,1960,1957,12,12,7,12,2,2167,2167,2164,0,2,2167,2167,2164,2,2,2167,6,0,0,3,2,2167,2167,2164,0,2,2167,2167,2164,2,2,2167,6,5,1762,1762,1759,331,328,250,247,5,1762,1762,1759,331,328,250,247,5,1762,1762,1759,1600,5,9,1600] (oRead P (.whl :: .func :: .func :: .func :: shX z) 2 5 sio sd T i 120 tt pt k0 k1 k2 (τ + 6)) 4 2 fun α1 tk1 n1 τ1 =>
  (.orc [3,3,3,0,3,2,2167,2167,2164,0,2,2167,2167,2164,2,2,2167,6,0,3,2,2167,2167,2164,0,2,2167,2167,2164,2,2,2167,6,3,2,2167,2167,2164,0,2,2167,2167,2164,2,2,2167,6,0,3,2,2167,2167,2164,0,2,2167,2167,2164,2,2,2167,6,3,2,2167,2167,2164,0,2,2167,2167,2164,2,2,2167,6,0,3,3,3,0,0,3,3,2,2167,2167,2164,0,2,2167,2167,2164,2,2,2167,6,0,3,2,2167,2167,2164,0,2,2167,2167,2164,2,2,2167,6,3,3,2,2167,2167,2164,0,2,2167,2167,2164,2,2,2167,6,0,3,2,2167,2167,2164,0,2,2167,2167,2164,2,2,2167,6,3] (oAdd (.whl :: .func :: .func :: .func :: shX z) W wt (u [120]) tk1) 4 2 fun α2 tk2 n2 τ2 =>
  (.fin [2,2167,2167,2164,0,2,2167,2,2167,2,2167,2167,2164,2,2167,6,6,6] ⟨.ok (.again (rtWhile fr)),[(1,ld,(lexO P sio dq1 dq2 κ (.str (u [96]) stt) (W ++ (u [120])) tk2)),(2,sd,(sdO P T ((i : Int) + 1) tt (α1 0) k0 k1 k2)),(0,fr,(rtFB P lex κ true (u [120]) kn tk1))],[]⟩)))
theorem tn96_120_run (w : World) (b1 b2 b3 : Bool) (z : Bool) (hs : HL (tn96_120_sh z)) (p : Pos) (n τ : Nat) (lex ld sio sd fr dq1 dq2 : Nat) (κ : Nat → Tok) (T W : Str) (qd : Bool) (i ec : Nat) (tt pt k0 k1 k2 kn nt stt wt : Tok) : SH (VX w b1 b2 b3) false 20000 [] ⟨tn96_120_code z lex ld sio sd fr dq1 dq2 κ T W qd i ec tt pt k0 k1 k2 kn nt stt wt ,none,none,fillAll (tn96_120_sh z) hs,none⟩ p ((VX w b1 b2 b3).den (tn96_120_code z lex ld sio sd fr dq1 dq2 κ T W qd i ec tt pt k0 k1 k2 kn nt stt wt )) (tn96_120_scr w.params n τ z lex ld sio sd fr dq1 dq2 κ T W qd i ec tt pt k0 k1 k2 kn nt stt wt ) (tabOf (tn96_120_lR w.params z lex ld sio sd fr dq1 dq2 κ T W qd i ec tt pt k0 k1 k2 kn nt stt wt ) 0 .nil) (tabOf (tn96_120_lT w.params z lex ld sio sd fr dq1 dq2 κ T W qd i ec tt pt k0 k1 k2 kn nt stt wt ) 0 .nil) 3 2 n 0 τ 0 [] [] := by
  cases z <;> cases b1 <;> exact runOf (adrs [fr,ld,sd] n) (adr1 [lex,sio]) (by kernel_rfl)
noncomputable def tn96_39_sh (z : Bool) : List Sk := (.func :: .func :: .func :: shX z)
noncomputable def tn96_39_code (z : Bool) (lex ld sio sd fr dq1 dq2 : Nat) (κ : Nat → Tok) (T W : Str) (qd : Bool) (i ec : Nat) (tt pt k0 k1 k2 kn nt stt wt : Tok) : Code := (rtWhile fr)
noncomputable def tn96_39_lT (P : Params) (z : Bool) (lex ld sio sd fr dq1 dq2 : Nat) (κ : Nat → Tok) (T W : Str) (qd : Bool) (i ec : Nat) (tt pt k0 k1 k2 kn nt stt wt : Tok) : List Ent := [(fr,(rtFB P lex κ qd (u [ec]) kn nt)),(ld,(lexO P sio dq1 dq2 κ (.str (u [96]) stt) W wt)),(sd,(sdO P T i tt pt k0 k1 k2))]
noncomputable def tn96_39_lR (P : Params) (z : Bool) (lex ld sio sd fr dq1 dq2 : Nat) (κ : Nat → Tok) (T W : Str) (qd : Bool) (i ec : Nat) (tt pt k0 k1 k2 kn nt stt wt : Tok) : List Ent := [(lex,(insO 722 ld)),(sio,(insO 587 sd))]
noncomputable def tn96_39_scr (P : Params) (n τ : Nat) (z : Bool) (lex ld sio sd fr dq1 dq2 : Nat) (κ : Nat → Tok) (T W : Str) (qd : Bool) (i ec : Nat) (tt pt k0 k1 k2 kn nt stt wt : Tok) : Scr := (.orc [3,2,2167,2167,2164,0,2,2167,2167,2164,1963,1963,2167,2167,2164,0,1963,1963,1960,1957,12,12,7,12,2,2167,2167,2164,0,2,2167,2167,2164,2,2,2167,6,0,0,3,2,2167,2167,2164,0,2,2167,2167,2164,2,2,2167,6,5,1762,1762,1759,331,328,250,247,5,1762,1762,1759,331,328,250,247,5,1762,1762,1759,1600,5,9,1600] (oRead P (.whl :: .func :: .func :: .func :: shX z) 2 5 sio sd T i 39 tt pt k0 k1 k2 (τ + 6)) 4 2 fun α1 tk1 n1 τ1 =>
  (.orc [3,3,3,0,3,2,2167,2167,2164,0,2,2167,2167,2164,2,2,2167,6,0,3,2,2167,2167,2164,0,2,2167,2167,2164,2,2,2167,6,3,2,2167,2167,2164,0,2,2167,2167,2164,2,2,2167,6,0,3,2,2167,2167,2164,0,2,2167,2167,2164,2,2,2167,6,3,2,2167,2167,2164,0,2,2167,2167,2164,2,2,2167,6,0,3,3,3,0,0,3,3,2,2167,2167,2164,0,2,2167,2167,2164,2,2,2167,6,0,3,2,2167,2167,2164,0,2,2167,2167,2164,2,2,2167,6,3,3,2,2167,2167,2164,0,2,2167,2167,2164,2,2,2167,6,0,3,2,2167,2167,2164,0,2,2167,2167,2164,2,2,2167,6,3] (oAdd (.whl :: .func :: .func :: .func :: shX z) W wt (u [39]) tk1) 4 2 fun α2 tk2 n2 τ2 =>
  (.fin [2,2167,2167,2164,0,2,2167,2,2167,2,2167,2167,2164,2,2167,6,6,6] ⟨.ok (.again (rtWhile fr)),[(1,ld,(lexO P sio dq1 dq2 κ (.str (u [96]) stt) (W ++ (u [39])) tk2)),(2,sd,(sdO P T ((i : Int) + 1) tt (α1 0) k0 k1 k2)),(0,fr,(rtFB P lex κ true (u [39]) kn tk1))],[]⟩)))
theorem tn96_39_run (w : World) (b1 b2 b3 : Bool) (z : Bool) (hs : HL (tn96_39_sh z)) (p : Pos) (n τ : Nat) (lex ld sio sd fr dq1 dq2 : Nat) (κ : Nat → Tok) (T W : Str) (qd : Bool) (i ec : Nat) (tt pt k0 k1 k2 kn nt stt wt : Tok) : SH (VX w b1 b2 b3) false 20000 [] ⟨tn96_39_code z lex ld sio sd fr dq1 dq2 κ T W qd i ec tt pt k0 k1 k2 kn nt stt wt ,none,none,fillAll (tn96_39_sh z) hs,none⟩ p ((VX w b1 b2 b3).den (tn96_39_code z lex ld sio sd fr dq1 dq2 κ T W qd i ec tt pt k0 k1 k2 kn nt stt wt )) (tn96_39_scr w.params n τ z lex ld sio sd fr dq1 dq2 κ T W qd i ec tt pt k0 k1 k2 kn nt stt wt ) (tabOf (tn96_39_lR w.params z lex ld sio sd fr dq1 dq2 κ T W qd i ec tt pt k0 k1 k2 kn nt stt wt ) 0 .nil) (tabOf (tn96_39_lT w.params z lex ld sio sd fr dq1 dq2 κ T W qd i ec tt pt k0 k1 k2 kn nt stt wt ) 0 .nil) 3 2 n 0 τ 0 [] [] := by
  cases z <;> cases b1 <;> exact runOf (adrs [fr,ld,sd] n) (adr1 [lex,sio]) (by kernel_rfl)
noncomputable def tn96_34_sh (z : Bool) : List Sk := (.func :: .func :: .func :: shX z)
noncomputable def tn96_34_code (z : Bool) (lex ld sio sd fr dq1 dq2 : Nat) (κ : Nat → Tok) (T W : Str) (qd : Bool) (i ec : Nat) (tt pt k0 k1 k2 kn nt stt wt : Tok) : Code := (rtWhile fr)
noncomputable def tn96_34_lT (P : Params) (z : Bool) (lex ld sio sd fr dq1 dq2 : Nat) (κ : Nat → Tok) (T W : Str) (qd : Bool) (i ec : Nat) (tt pt k0 k1 k2 kn nt stt wt : Tok) : List Ent := [(fr,(rtFB P lex κ qd (u [ec]) kn nt)),(ld,(lexO P sio dq1 dq2 κ (.str (u [96]) stt) W wt)),(sd,(sdO P T i tt pt k0 k1 k2))]
noncomputable def tn96_34_lR (P : Params) (z : Bool) (lex ld sio sd fr dq1 dq2 : Nat) (κ : Nat → Tok) (T W : Str) (qd : Bool) (i ec : Nat) (tt pt k0 k1 k2 kn nt stt wt : Tok) : List Ent := [(lex,(insO 722 ld)),(sio,(insO 587 sd))]
noncomputable def tn96_34_scr (P : Params) (n τ : Nat) (z : Bool) (lex ld sio sd fr dq1 dq2 : Nat) (κ : Nat → Tok) (T W : Str) (qd : Bool) (i ec : Nat) (tt pt k0 k1 k2 kn nt stt wt : Tok) : Scr := (.orc [3,2,2167,2167,2164,0,2,2167,2167,2164,1963,1963,2167,2167,2164,0,1963,1963,1960,1957,12,12,7,12,2,2167,2167,2164,0,2,2167,2167,2164,2,2,2167,6,0,0,3,2,2167,2167,2164,0,2,2167,2167,2164,2,2,2167,6,5,1762,1762,1759,331,328,250,247,5,1762,1762,1759,331,328,250,247,5,1762,1762,1759,1600,5,9,1600] (oRead P (.whl :: .func :: .func :: .func :: shX z) 2 5 sio sd T i 34 tt pt k0 k1 k2 (τ + 6)) 4 2 fun α1 tk1 n1 τ1 =>
  (.orc [3,3,3,0,3,2,2167,2167,2164,0,2,2167,2167,2164,2,2,2167,6,0,3,2,2167,2167,2164,0,2,2167,2167,2164,2,2,2167,6,3,2,2167,2167,2164,0,2,2167,2167,2164,2,2,2167,6,0,3,2,2167,2167,2164,0,2,2167,2167,2164,2,2,2167,6,3,2,2167,2167,2164,0,2,2167,2167,2164,2,2,2167,6,0,3,3,3,0,0,3,3,2,2167,2167,2164,0,2,2167,2167,2164,2,2,2167,6,0,3,2,2167,2167,2164,0,2,2167,2167,2164,2,2,2167,6,3,3,2,2167,2167,2164,0,2,2167,2167,2164,2,2,2167,6,0,3,2,2167,2167,2164,0,2,2167,2167,2164,2,2,2167,6,3] (oAdd (.whl :: .func :: .func :: .func :: shX z) W wt (u [34]) tk1) 4 2 fun α2 tk2 n2 τ2 =>
  (.fin [2,2167,2167,2164,0,2,2167,2,2167,2,2167,2167,2164,2,2167,6,6,6] ⟨.ok (.again (rtWhile fr)),[(1,ld,(lexO P sio dq1 dq2 κ (.str (u [96]) stt) (W ++ (u [34])) tk2)),(2,sd,(sdO P T ((i : Int) + 1) tt (α1 0) k0 k1 k2)),(0,fr,(rtFB P lex κ true (u [34]) kn tk1))],[]⟩)))
theorem tn96_34_run (w : World) (b1 b2 b3 : Bool) (z : Bool) (hs : HL (tn96_34_sh z)) (p : Pos) (n τ : Nat) (lex ld sio sd fr dq1 dq2 : Nat) (κ : Nat → Tok) (T W : Str) (qd : Bool) (i ec : Nat) (tt pt k0 k1 k2 kn nt stt wt : Tok) : SH (VX w b1 b2 b3) false 20000 [] ⟨tn96_34_code z lex ld sio sd fr dq1 dq2 κ T W qd i ec tt pt k0 k1 k2 kn nt stt wt ,none,none,fillAll (tn96_34_sh z) hs,none⟩ p ((VX w b1 b2 b3).den (tn96_34_code z lex ld sio sd fr dq1 dq2 κ T W qd i ec tt pt k0 k1 k2 kn nt stt wt )) (tn96_34_scr w.params n τ z lex ld sio sd fr dq1 dq2 κ T W qd i ec tt pt k0 k1 k2 kn nt stt wt ) (tabOf (tn96_34_lR w.params z lex ld sio sd fr dq1 dq2 κ T W qd i ec tt pt k0 k1 k2 kn nt stt wt ) 0 .nil) (tabOf (tn96_34_lT w.params z lex ld sio sd fr dq1 dq2 κ T W qd i ec tt pt k0 k1 k2 kn nt stt wt ) 0 .nil) 3 2 n 0 τ 0 [] [] := by
  cases z <;> cases b1 <;> exact runOf (adrs [fr,ld,sd] n) (adr1 [lex,sio]) (by kernel_rfl)
noncomputable def tn32_120_sh (z : Bool) : List Sk := (.func :: .func :: .func :: shX z)
noncomputable def tn32_120_code (z : Bool) (lex ld sio sd fr dq1 dq2 : Nat) (κ : Nat → Tok) (T W : Str) (qd : Bool) (i ec : Nat) (tt pt k0 k1 k2 kn nt stt wt : Tok) : Code := (rtWhile fr)
noncomputable def tn32_120_lT (P : Params) (z : Bool) (lex ld sio sd fr dq1 dq2 : Nat) (κ : Nat → Tok) (T W : Str) (qd : Bool) (i ec : Nat) (tt pt k0 k1 k2 kn nt stt wt : Tok) : List Ent := [(fr,(rtFA P lex κ qd)),(ld,(lexO P sio dq1 dq2 κ (.str (u [32]) stt) (u []) wt)),(sd,(sdO P T i tt pt k0 k1 k2))]
noncomputable def tn32_120_lR (P : Params) (z : Bool) (lex ld sio sd fr dq1 dq2 : Nat) (κ : Nat → Tok) (T W : Str) (qd : Bool) (i ec : Nat) (tt pt k0 k1 k2 kn nt stt wt : Tok) : List Ent := [(lex,(insO 722 ld)),(sio,(insO 587 sd))]
noncomputable def tn32_120_scr (P : Params) (n τ : Nat) (z : Bool) (lex ld sio sd fr dq1 dq2 : Nat) (κ : Nat → Tok) (T W : Str) (qd : Bool) (i ec : Nat) (tt pt k0 k1 k2 kn nt stt wt : Tok) : Scr := (.orc [3,2,2167,2167,2164,0,2,2167,2167,2164,1963,1963,2167,2167,2164,0,1963,1963,1960,1957,12,12,7,12,2,2167,2167,2164,0,2,2167,2167,2164,2,2,2167,6,0,0,3,2,2167,2167,2164,0,2,2167,2167,2164,2,2,2167,6,5,1762,1762,1759,331,328,250,247,5,1762,1762,1759,331,328,250,247,5,1762,1762,1759,1600,5,9,1600] (oRead P (.whl :: .func :: .func :: .func :: shX z) 2 5 sio sd T i 120 tt pt k0 k1 k2 (τ + 6)) 4 2 fun α1 tk1 n1 τ1 =>
  (.fin [3,3,3,0,3,2,2167,2167,2164,0,2,2167,2167,2164,2,2,2167,6,0,3,2,2167,2167,2164,0,2,2167,2167,2164,2,2,2167,6,3,2,2167,2167,2164,0,2,2167,2167,2164,2,2,2167,6,0,3,0,0,3,3,2,2167,2167,2164,0,2,2167,2167,2164,2,2,2167,6,0,3,3,2,2167,2167,2164,0,2,2167,2167,2164,2,2,2167,6,0,3,2,2167,2167,2164,0,2,2167,2167,2164,2,2,2167,6,3,3,2,2167,2167,2164,0,2,2167,2167,2164,2,2,2167,6,0,3,3,2,2167,2167,2164,0,2,2167,2167,2164,2,2,2167,6,0,3,3,2,2167,2167,2164,0,2,2167,2,2167,2,2167,2167,2164,2,2167,6,6,6,3,2,2167,2167,2164,0,2,2167,2,2167,2,2167,2167,2164,2,2167,6,6,6] ⟨.ok (.again (rtWhile fr)),[(1,ld,(lexO P sio dq1 dq2 κ (.str (u [97]) (τ1 + 16)) (u [120]) tk1)),(2,sd,(sdO P T ((i : Int) + 1) tt (α1 0) k0 k1 k2)),(0,fr,(rtFB P lex κ qd (u [120]) (τ1 + 0) tk1))],[]⟩))
theorem tn32_120_run (w : World) (b1 b2 b3 : Bool) (z : Bool) (hs : HL (tn32_120_sh z)) (p : Pos) (n τ : Nat) (lex ld sio sd fr dq1 dq2 : Nat) (κ : Nat → Tok) (T W : Str) (qd : Bool) (i ec : Nat) (tt pt k0 k1 k2 kn nt stt wt : Tok) : SH (VX w b1 b2 b3) false 20000 [] ⟨tn32_120_code z lex ld sio sd fr dq1 dq2 κ T W qd i ec tt pt k0 k1 k2 kn nt stt wt ,none,none,fillAll (tn32_120_sh z) hs,none⟩ p ((VX w b1 b2 b3).den (tn32_120_code z lex ld sio sd fr dq1 dq2 κ T W qd i ec tt pt k0 k1 k2 kn nt stt wt )) (tn32_120_scr w.params n τ z lex ld sio sd fr dq1 dq2 κ T W qd i ec tt pt k0 k1 k2 kn nt stt wt ) (tabOf (tn32_120_lR w.params z lex ld sio sd fr dq1 dq2 κ T W qd i ec tt pt k0 k1 k2 kn nt stt wt ) 0 .nil) (tabOf (tn32_120_lT w.params z lex ld sio sd fr dq1 dq2 κ T W qd i ec tt pt k0 k1 k2 kn nt stt wt ) 0 .nil) 3 2 n 0 τ 0 [] [] := by
  cases z <;> cases b1 <;> exact runOf (adrs [fr,ld,sd] n) (adr1 [lex,sio]) (by kernel_rfl)
end Mine
end
section
open PySem PySem.W PyProof.Rows
namespace Mine
theorem enter3 {V : HV} (O : V.Ok) {Q : Result → Shared → Prop} {fuel : Nat} {Γ : Ctx} {p : Pos} {s : Shared} {S : Scr} {a1 a2 a3 r1 r2 : Nat} {o1 o2 o3 q1 q2 : Obj}
    (run : SH V false fuel [] Γ p (V.den Γ.code) S (tabOf [(r1,q1),(r2,q2)] 0 .nil) (tabOf [(a1,o1),(a2,o2),(a3,o3)] 0 .nil) 3 2 s.heap.objs.size 0 s.toks 0 [] [])
    (htop : ∀ i ob,V.top i = some ob → s.heap.get? i = some ob) (h1 : s.heap.get? a1 = some o1) (h2 : s.heap.get? a2 = some o2) (h3 : s.heap.get? a3 = some o3) (h4 : s.heap.get? r1 = some q1) (h5 : s.heap.get? r2 = some q2)
    (d12 : a1 ≠ a2) (d13 : a1 ≠ a3) (d23 : a2 ≠ a3) (e11 : a1 ≠ r1) (e12 : a1 ≠ r2) (e21 : a2 ≠ r1) (e22 : a2 ≠ r2) (e31 : a3 ≠ r1) (e32 : a3 ≠ r2) (t1 : ∀ ob,V.top a1 ≠ some ob) (t2 : ∀ ob,V.top a2 ≠ some ob) (t3 : ∀ ob,V.top a3 ≠ some ob)
    (hF : FinOk V (fun r s' => match r with
      | .ok (.done fl) => Q (.ok fl) s'
      | .ok (.again c) => c.quiet = true ∧ ∀ p',wpCode (VM V) (Γ.goto c) Q p' s'
      | .error e => Q (.error e) s') s (fun a => a ∈ [a1,a2,a3]) 3 S) : wpCode (VM V) Γ Q p s := by
  refine enterT O (lT := [(a1,o1),(a2,o2),(a3,o3)]) (lR := [(r1,q1),(r2,q2)]) run rfl htop (fun x hx => ?_) (fun x hx => ?_) ?_ (fun x hx y hy => ?_) (fun x hx => ?_) hF
  · simp only [List.mem_cons,List.not_mem_nil,or_false] at hx
    rcases hx with rfl | rfl | rfl <;> assumption
  · simp only [List.mem_cons,List.not_mem_nil,or_false] at hx
    rcases hx with rfl | rfl <;> assumption
  · simp [d12,d13,d23]
  · simp only [List.mem_cons,List.not_mem_nil,or_false] at hx hy
    rcases hx with rfl | rfl | rfl <;> rcases hy with rfl | rfl <;> assumption
  · simp only [List.mem_cons,List.not_mem_nil,or_false] at hx
    rcases hx with rfl | rfl | rfl <;> assumption
noncomputable abbrev Ls : Type := Nat × Str × Bool
noncomputable def lstep (x : Ls) (c : Nat) : Ls :=
  if x.1 = 97 then (if c = 120 then (97,x.2.1 ++ u [c],x.2.2) else (c,x.2.1,x.2.2)) else if c = x.1 then (97,x.2.1,true) else (x.1,x.2.1 ++ u [c],true)
noncomputable def lstart (c : Nat) : Ls := if c = 120 then (97,u [120],false) else (c,u [],false)
noncomputable def isSt (st : Nat) : Prop := st = 97 ∨ st = 39 ∨ st = 34 ∨ st = 96
theorem lstep_st {x : Ls} {c : Nat} (h : isSt x.1) (hc : isSg c) : isSt (lstep x c).1 := by
  obtain ⟨st,W,qd⟩ := x
  rcases h with h | h | h | h <;> dsimp only at h <;> subst h <;> rcases hc with rfl | rfl | rfl | rfl <;> first | exact .inl rfl | exact .inr (.inl rfl) | exact .inr (.inr (.inl rfl)) | exact .inr (.inr (.inr rfl))
theorem lstart_st {c : Nat} (hc : isSg c) : isSt (lstart c).1 := by
  rcases hc with rfl | rfl | rfl | rfl <;> first | exact .inl rfl | exact .inr (.inl rfl) | exact .inr (.inr (.inl rfl)) | exact .inr (.inr (.inr rfl))
theorem lstep_len (x : Ls) (c : Nat) : (lstep x c).2.1.length ≤ x.2.1.length + 1 := by
  unfold lstep
  split <;> split <;> first | exact Nat.le_succ _ | (rw [strLen_append,u_length]; exact Nat.le_refl _)
theorem lstart_len (c : Nat) : (lstart c).2.1.length ≤ 1 := by
  unfold lstart
  split
  · decide
  · exact Nat.zero_le 1
structure Lx where
  lex : Nat
  ld : Nat
  sio : Nat
  sd : Nat
  fr : Nat
  dq1 : Nat
  dq2 : Nat
  κ : Nat → Tok
  T : Str
  tt : Tok
  k0 : Tok
  k1 : Tok
  k2 : Tok
structure Lx.Ok (x : Lx) (P : Params) : Prop where
  d12 : x.fr ≠ x.ld
  d13 : x.fr ≠ x.sd
  d23 : x.ld ≠ x.sd
  e11 : x.fr ≠ x.lex
  e12 : x.fr ≠ x.sio
  e21 : x.ld ≠ x.lex
  e22 : x.ld ≠ x.sio
  e31 : x.sd ≠ x.lex
  e32 : x.sd ≠ x.sio
  t1 : ∀ ob,topF P x.fr ≠ some ob
  t2 : ∀ ob,topF P x.ld ≠ some ob
  t3 : ∀ ob,topF P x.sd ≠ some ob
structure Lx.Kept (x : Lx) (s s' : Shared) : Prop where
  keep : ∀ a ob,s.heap.get? a = some ob → a ≠ x.fr → a ≠ x.ld → a ≠ x.sd → s'.heap.get? a = some ob
  grow : s.heap.objs.size ≤ s'.heap.objs.size
  gens : s'.gens = s.gens
  drawn : s'.drawn = s.drawn
  os : s'.os = s.os
theorem Lx.Kept.refl (x : Lx) (s : Shared) : x.Kept s s := ⟨fun _ _ h _ _ _ => h,Nat.le_refl _,rfl,rfl,rfl⟩
theorem Lx.Kept.trans {x : Lx} {s s' s'' : Shared} (a : x.Kept s s') (b : x.Kept s' s'') : x.Kept s s'' :=
  ⟨fun y ob h h1 h2 h3 => b.keep y ob (a.keep y ob h h1 h2 h3) h1 h2 h3,Nat.le_trans a.grow b.grow,b.gens.trans a.gens,b.drawn.trans a.drawn,b.os.trans a.os⟩
theorem Lx.Kept.of {x : Lx} {s s' : Shared} {m₀ : Nat} {objs ros : List (Nat × Ent)} (L : Left s (fun a => a ∈ [x.fr,x.ld,x.sd]) m₀ objs ros s') : x.Kept s s' :=
  ⟨fun a ob h h1 h2 h3 => L.keep a ob h (by simp [h1,h2,h3]),L.grow,L.gens,L.drawn,L.os⟩
structure Lx.At (x : Lx) (P : Params) (y : Ls) (i : Nat) (s : Shared) : Prop where
  top : ∀ a ob,topF P a = some ob → s.heap.get? a = some ob
  lex : s.heap.get? x.lex = some (insO 722 x.ld)
  sio : s.heap.get? x.sio = some (insO 587 x.sd)
  own : ∃ (ec : Nat) (pt kn nt stt wt : Tok),s.heap.get? x.ld = some (lexO P x.sio x.dq1 x.dq2 x.κ (.str (u [y.1]) stt) y.2.1 wt) ∧ s.heap.get? x.sd = some (sdO P x.T i x.tt pt x.k0 x.k1 x.k2) ∧ s.heap.get? x.fr = some (rtFB P x.lex x.κ y.2.2 (u [ec]) kn nt)
theorem rtWhile_quiet (fr : Nat) : (rtWhile fr).quiet = true := by kernel_rfl
theorem Lx.At.next {x : Lx} {P : Params} (K : x.Ok P) {st' : Nat} {W' : Str} {qd : Bool} {y : Ls} {i : Nat} {s s' : Shared} (A : x.At P y i s) (k : x.Kept s s') {ec : Nat} {pt kn nt stt wt : Tok}
    (h1 : s'.heap.get? x.ld = some (lexO P x.sio x.dq1 x.dq2 x.κ (.str (u [st']) stt) W' wt)) (h2 : s'.heap.get? x.sd = some (sdO P x.T ((i : Int) + 1) x.tt pt x.k0 x.k1 x.k2)) (h3 : s'.heap.get? x.fr = some (rtFB P x.lex x.κ qd (u [ec]) kn nt)) : x.At P (st',W',qd) (i + 1) s' :=
  ⟨fun a ob h => k.keep a ob (A.top a ob h) (fun e => K.t1 ob (e ▸ h)) (fun e => K.t2 ob (e ▸ h)) (fun e => K.t3 ob (e ▸ h)),k.keep _ _ A.lex K.e11.symm K.e21.symm K.e31.symm,k.keep _ _ A.sio K.e12.symm K.e22.symm K.e32.symm,ec,pt,kn,nt,stt,wt,h1,h2,h3⟩
theorem rt_turn {w : World} {b1 b2 b3 z : Bool} {x : Lx} (K : x.Ok w.params) (hs : HL (tn97_120_sh z)) {Q : Result → Shared → Prop} {st c : Nat} {W : Str} {qd : Bool} {i : Nat} {s : Shared} {p : Pos} (hst : isSt st) (hc : isSg c) (hx : x.T.cps[i]? = some c) (h1 : x.T.length ≠ 1) (hl : x.T.length ≤ 1000) (hW : W.length + 1 ≤ sizeLine)
    (A : x.At w.params (st,W,qd) i s) (H : ∀ s' p',x.At w.params (lstep (st,W,qd) c) (i + 1) s' → x.Kept s s' → wpCode (VM (VX w b1 b2 b3)) ⟨rtWhile x.fr,none,none,fillAll (tn97_120_sh z) hs,none⟩ Q p' s') :
    wpCode (VM (VX w b1 b2 b3)) ⟨rtWhile x.fr,none,none,fillAll (tn97_120_sh z) hs,none⟩ Q p s := by
  obtain ⟨ec,pt,kn,nt,stt,wt,g1,g2,g3⟩ := A.own
  rcases hst with rfl | rfl | rfl | rfl <;> rcases hc with rfl | rfl | rfl | rfl
  · refine enter3 (VX_ok _ _ _ _) (tn97_120_run w b1 b2 b3 z hs p s.heap.objs.size s.toks x.lex x.ld x.sio x.sd x.fr x.dq1 x.dq2 x.κ x.T W qd i ec x.tt pt x.k0 x.k1 x.k2 kn nt stt wt) A.top g3 g1 g2 A.lex A.sio K.d12 K.d13 K.d23 K.e11 K.e12 K.e21 K.e22 K.e31 K.e32 K.t1 K.t2 K.t3 ⟨vRead rfl hx h1 hl,fun α1 tk1 n1 τ1 _ => ⟨vTupIn [u [97],u [99]] (.cons _ _ (.cons _ _ .nil)) (by decide),fun α2 tk2 n2 τ2 _ => ⟨vAdd (by rw [u_length]; exact hW),fun α3 tk3 n3 τ3 _ => fun s' L => ⟨rtWhile_quiet _,fun p' => H s' p' ?_ (.of L)⟩⟩⟩⟩
    exact A.next K (.of L) (L.at_ _ (.head _)) (L.at_ _ (.tail _ (.head _))) (L.at_ _ (.tail _ (.tail _ (.head _))))
  · refine enter3 (VX_ok _ _ _ _) (tn97_39_run w b1 b2 b3 z hs p s.heap.objs.size s.toks x.lex x.ld x.sio x.sd x.fr x.dq1 x.dq2 x.κ x.T W qd i ec x.tt pt x.k0 x.k1 x.k2 kn nt stt wt) A.top g3 g1 g2 A.lex A.sio K.d12 K.d13 K.d23 K.e11 K.e12 K.e21 K.e22 K.e31 K.e32 K.t1 K.t2 K.t3 ⟨vRead rfl hx h1 hl,fun α1 tk1 n1 τ1 _ => ⟨vTupIn [u [97],u [99]] (.cons _ _ (.cons _ _ .nil)) (by decide),fun α2 tk2 n2 τ2 _ => fun s' L => ⟨rtWhile_quiet _,fun p' => H s' p' ?_ (.of L)⟩⟩⟩
    exact A.next K (.of L) (L.at_ _ (.head _)) (L.at_ _ (.tail _ (.head _))) (L.at_ _ (.tail _ (.tail _ (.head _))))
  · refine enter3 (VX_ok _ _ _ _) (tn97_34_run w b1 b2 b3 z hs p s.heap.objs.size s.toks x.lex x.ld x.sio x.sd x.fr x.dq1 x.dq2 x.κ x.T W qd i ec x.tt pt x.k0 x.k1 x.k2 kn nt stt wt) A.top g3 g1 g2 A.lex A.sio K.d12 K.d13 K.d23 K.e11 K.e12 K.e21 K.e22 K.e31 K.e32 K.t1 K.t2 K.t3 ⟨vRead rfl hx h1 hl,fun α1 tk1 n1 τ1 _ => ⟨vTupIn [u [97],u [99]] (.cons _ _ (.cons _ _ .nil)) (by decide),fun α2 tk2 n2 τ2 _ => fun s' L => ⟨rtWhile_quiet _,fun p' => H s' p' ?_ (.of L)⟩⟩⟩
    exact A.next K (.of L) (L.at_ _ (.head _)) (L.at_ _ (.tail _ (.head _))) (L.at_ _ (.tail _ (.tail _ (.head _))))
  · refine enter3 (VX_ok _ _ _ _) (tn97_96_run w b1 b2 b3 z hs p s.heap.objs.size s.toks x.lex x.ld x.sio x.sd x.fr x.dq1 x.dq2 x.κ x.T W qd i ec x.tt pt x.k0 x.k1 x.k2 kn nt stt wt) A.top g3 g1 g2 A.lex A.sio K.d12 K.d13 K.d23 K.e11 K.e12 K.e21 K.e22 K.e31 K.e32 K.t1 K.t2 K.t3 ⟨vRead rfl hx h1 hl,fun α1 tk1 n1 τ1 _ => ⟨vTupIn [u [97],u [99]] (.cons _ _ (.cons _ _ .nil)) (by decide),fun α2 tk2 n2 τ2 _ => fun s' L => ⟨rtWhile_quiet _,fun p' => H s' p' ?_ (.of L)⟩⟩⟩
    exact A.next K (.of L) (L.at_ _ (.head _)) (L.at_ _ (.tail _ (.head _))) (L.at_ _ (.tail _ (.tail _ (.head _))))
  · refine enter3 (VX_ok _ _ _ _) (tn39_120_run w b1 b2 b3 z hs p s.heap.objs.size s.toks x.lex x.ld x.sio x.sd x.fr x.dq1 x.dq2 x.κ x.T W qd i ec x.tt pt x.k0 x.k1 x.k2 kn nt stt wt) A.top g3 g1 g2 A.lex A.sio K.d12 K.d13 K.d23 K.e11 K.e12 K.e21 K.e22 K.e31 K.e32 K.t1 K.t2 K.t3 ⟨vRead rfl hx h1 hl,fun α1 tk1 n1 τ1 _ => ⟨vAdd (by rw [u_length]; exact hW),fun α2 tk2 n2 τ2 _ => fun s' L => ⟨rtWhile_quiet _,fun p' => H s' p' ?_ (.of L)⟩⟩⟩
    exact A.next K (.of L) (L.at_ _ (.head _)) (L.at_ _ (.tail _ (.head _))) (L.at_ _ (.tail _ (.tail _ (.head _))))
  · refine enter3 (VX_ok _ _ _ _) (tn39_39_run w b1 b2 b3 z hs p s.heap.objs.size s.toks x.lex x.ld x.sio x.sd x.fr x.dq1 x.dq2 x.κ x.T W qd i ec x.tt pt x.k0 x.k1 x.k2 kn nt stt wt) A.top g3 g1 g2 A.lex A.sio K.d12 K.d13 K.d23 K.e11 K.e12 K.e21 K.e22 K.e31 K.e32 K.t1 K.t2 K.t3 ⟨vRead rfl hx h1 hl,fun α1 tk1 n1 τ1 _ => fun s' L => ⟨rtWhile_quiet _,fun p' => H s' p' ?_ (.of L)⟩⟩
    exact A.next K (.of L) (L.at_ _ (.head _)) (L.at_ _ (.tail _ (.head _))) (L.at_ _ (.tail _ (.tail _ (.head _))))
  · refine enter3 (VX_ok _ _ _ _) (tn39_34_run w b1 b2 b3 z hs p s.heap.objs.size s.toks x.lex x.ld x.sio x.sd x.fr x.dq1 x.dq2 x.κ x.T W qd i ec x.tt pt x.k0 x.k1 x.k2 kn nt stt wt) A.top g3 g1 g2 A.lex A.sio K.d12 K.d13 K.d23 K.e11 K.e12 K.e21 K.e22 K.e31 K.e32 K.t1 K.t2 K.t3 ⟨vRead rfl hx h1 hl,fun α1 tk1 n1 τ1 _ => ⟨vAdd (by rw [u_length]; exact hW),fun α2 tk2 n2 τ2 _ => fun s' L => ⟨rtWhile_quiet _,fun p' => H s' p' ?_ (.of L)⟩⟩⟩
    exact A.next K (.of L) (L.at_ _ (.head _)) (L.at_ _ (.tail _ (.head _))) (L.at_ _ (.tail _ (.tail _ (.head _))))
  · refine enter3 (VX_ok _ _ _ _) (tn39_96_run w b1 b2 b3 z hs p s.heap.objs.size s.toks x.lex x.ld x.sio x.sd x.fr x.dq1 x.dq2 x.κ x.T W qd i ec x.tt pt x.k0 x.k1 x.k2 kn nt stt wt) A.top g3 g1 g2 A.lex A.sio K.d12 K.d13 K.d23 K.e11 K.e12 K.e21 K.e22 K.e31 K.e32 K.t1 K.t2 K.t3 ⟨vRead rfl hx h1 hl,fun α1 tk1 n1 τ1 _ => ⟨vAdd (by rw [u_length]; exact hW),fun α2 tk2 n2 τ2 _ => fun s' L => ⟨rtWhile_quiet _,fun p' => H s' p' ?_ (.of L)⟩⟩⟩
    exact A.next K (.of L) (L.at_ _ (.head _)) (L.at_ _ (.tail _ (.head _))) (L.at_ _ (.tail _ (.tail _ (.head _))))
  · refine enter3 (VX_ok _ _ _ _) (tn34_120_run w b1 b2 b3 z hs p s.heap.objs.size s.toks x.lex x.ld x.sio x.sd x.fr x.dq1 x.dq2 x.κ x.T W qd i ec x.tt pt x.k0 x.k1 x.k2 kn nt stt wt) A.top g3 g1 g2 A.lex A.sio K.d12 K.d13 K.d23 K.e11 K.e12 K.e21 K.e22 K.e31 K.e32 K.t1 K.t2 K.t3 ⟨vRead rfl hx h1 hl,fun α1 tk1 n1 τ1 _ => ⟨vAdd (by rw [u_length]; exact hW),fun α2 tk2 n2 τ2 _ => fun s' L => ⟨rtWhile_quiet _,fun p' => H s' p' ?_ (.of L)⟩⟩⟩
    exact A.next K (.of L) (L.at_ _ (.head _)) (L.at_ _ (.tail _ (.head _))) (L.at_ _ (.tail _ (.tail _ (.head _))))
  · refine enter3 (VX_ok _ _ _ _) (tn34_39_run w b1 b2 b3 z hs p s.heap.objs.size s.toks x.lex x.ld x.sio x.sd x.fr x.dq1 x.dq2 x.κ x.T W qd i ec x.tt pt x.k0 x.k1 x.k2 kn nt stt wt) A.top g3 g1 g2 A.lex A.sio K.d12 K.d13 K.d23 K.e11 K.e12 K.e21 K.e22 K.e31 K.e32 K.t1 K.t2 K.t3 ⟨vRead rfl hx h1 hl,fun α1 tk1 n1 τ1 _ => ⟨vAdd (by rw [u_length]; exact hW),fun α2 tk2 n2 τ2 _ => fun s' L => ⟨rtWhile_quiet _,fun p' => H s' p' ?_ (.of L)⟩⟩⟩
    exact A.next K (.of L) (L.at_ _ (.head _)) (L.at_ _ (.tail _ (.head _))) (L.at_ _ (.tail _ (.tail _ (.head _))))
  · refine enter3 (VX_ok _ _ _ _) (tn34_34_run w b1 b2 b3 z hs p s.heap.objs.size s.toks x.lex x.ld x.sio x.sd x.fr x.dq1 x.dq2 x.κ x.T W qd i ec x.tt pt x.k0 x.k1 x.k2 kn nt stt wt) A.top g3 g1 g2 A.lex A.sio K.d12 K.d13 K.d23 K.e11 K.e12 K.e21 K.e22 K.e31 K.e32 K.t1 K.t2 K.t3 ⟨vRead rfl hx h1 hl,fun α1 tk1 n1 τ1 _ => fun s' L => ⟨rtWhile_quiet _,fun p' => H s' p' ?_ (.of L)⟩⟩
    exact A.next K (.of L) (L.at_ _ (.head _)) (L.at_ _ (.tail _ (.head _))) (L.at_ _ (.tail _ (.tail _ (.head _))))
  · refine enter3 (VX_ok _ _ _ _) (tn34_96_run w b1 b2 b3 z hs p s.heap.objs.size s.toks x.lex x.ld x.sio x.sd x.fr x.dq1 x.dq2 x.κ x.T W qd i ec x.tt pt x.k0 x.k1 x.k2 kn nt stt wt) A.top g3 g1 g2 A.lex A.sio K.d12 K.d13 K.d23 K.e11 K.e12 K.e21 K.e22 K.e31 K.e32 K.t1 K.t2 K.t3 ⟨vRead rfl hx h1 hl,fun α1 tk1 n1 τ1 _ => ⟨vAdd (by rw [u_length]; exact hW),fun α2 tk2 n2 τ2 _ => fun s' L => ⟨rtWhile_quiet _,fun p' => H s' p' ?_ (.of L)⟩⟩⟩
    exact A.next K (.of L) (L.at_ _ (.head _)) (L.at_ _ (.tail _ (.head _))) (L.at_ _ (.tail _ (.tail _ (.head _))))
  · refine enter3 (VX_ok _ _ _ _) (tn96_120_run w b1 b2 b3 z hs p s.heap.objs.size s.toks x.lex x.ld x.sio x.sd x.fr x.dq1 x.dq2 x.κ x.T W qd i ec x.tt pt x.k0 x.k1 x.k2 kn nt stt wt) A.top g3 g1 g2 A.lex A.sio K.d12 K.d13 K.d23 K.e11 K.e12 K.e21 K.e22 K.e31 K.e32 K.t1 K.t2 K.t3 ⟨vRead rfl hx h1 hl,fun α1 tk1 n1 τ1 _ => ⟨vAdd (by rw [u_length]; exact hW),fun α2 tk2 n2 τ2 _ => fun s' L => ⟨rtWhile_quiet _,fun p' => H s' p' ?_ (.of L)⟩⟩⟩
    exact A.next K (.of L) (L.at_ _ (.head _)) (L.at_ _ (.tail _ (.head _))) (L.at_ _ (.tail _ (.tail _ (.head _))))
  · refine enter3 (VX_ok _ _ _ _) (tn96_39_run w b1 b2 b3 z hs p s.heap.objs.size s.toks x.lex x.ld x.sio x.sd x.fr x.dq1 x.dq2 x.κ x.T W qd i ec x.tt pt x.k0 x.k1 x.k2 kn nt stt wt) A.top g3 g1 g2 A.lex A.sio K.d12 K.d13 K.d23 K.e11 K.e12 K.e21 K.e22 K.e31 K.e32 K.t1 K.t2 K.t3 ⟨vRead rfl hx h1 hl,fun α1 tk1 n1 τ1 _ => ⟨vAdd (by rw [u_length]; exact hW),fun α2 tk2 n2 τ2 _ => fun s' L => ⟨rtWhile_quiet _,fun p' => H s' p' ?_ (.of L)⟩⟩⟩
    exact A.next K (.of L) (L.at_ _ (.head _)) (L.at_ _ (.tail _ (.head _))) (L.at_ _ (.tail _ (.tail _ (.head _))))
  · refine enter3 (VX_ok _ _ _ _) (tn96_34_run w b1 b2 b3 z hs p s.heap.objs.size s.toks x.lex x.ld x.sio x.sd x.fr x.dq1 x.dq2 x.κ x.T W qd i ec x.tt pt x.k0 x.k1 x.k2 kn nt stt wt) A.top g3 g1 g2 A.lex A.sio K.d12 K.d13 K.d23 K.e11 K.e12 K.e21 K.e22 K.e31 K.e32 K.t1 K.t2 K.t3 ⟨vRead rfl hx h1 hl,fun α1 tk1 n1 τ1 _ => ⟨vAdd (by rw [u_length]; exact hW),fun α2 tk2 n2 τ2 _ => fun s' L => ⟨rtWhile_quiet _,fun p' => H s' p' ?_ (.of L)⟩⟩⟩
    exact A.next K (.of L) (L.at_ _ (.head _)) (L.at_ _ (.tail _ (.head _))) (L.at_ _ (.tail _ (.tail _ (.head _))))
  · refine enter3 (VX_ok _ _ _ _) (tn96_96_run w b1 b2 b3 z hs p s.heap.objs.size s.toks x.lex x.ld x.sio x.sd x.fr x.dq1 x.dq2 x.κ x.T W qd i ec x.tt pt x.k0 x.k1 x.k2 kn nt stt wt) A.top g3 g1 g2 A.lex A.sio K.d12 K.d13 K.d23 K.e11 K.e12 K.e21 K.e22 K.e31 K.e32 K.t1 K.t2 K.t3 ⟨vRead rfl hx h1 hl,fun α1 tk1 n1 τ1 _ => fun s' L => ⟨rtWhile_quiet _,fun p' => H s' p' ?_ (.of L)⟩⟩
    exact A.next K (.of L) (L.at_ _ (.head _)) (L.at_ _ (.tail _ (.head _))) (L.at_ _ (.tail _ (.tail _ (.head _))))
theorem rt_loop {w : World} {b1 b2 b3 z : Bool} {x : Lx} (K : x.Ok w.params) (hs : HL (tn97_120_sh z)) {Q : Result → Shared → Prop} (h1 : x.T.length ≠ 1) (hl : x.T.length ≤ 1000) :
    ∀ (cs : List Nat) (i : Nat) (y : Ls) (s : Shared) (p : Pos),(∀ j,x.T.cps[i + j]? = cs[j]?) → (∀ c ∈ cs,isSg c) → isSt y.1 → y.2.1.length + cs.length ≤ sizeLine → x.At w.params y i s →
      (∀ s' p',x.At w.params (cs.foldl lstep y) (i + cs.length) s' → x.Kept s s' → wpCode (VM (VX w b1 b2 b3)) ⟨rtWhile x.fr,none,none,fillAll (tn97_120_sh z) hs,none⟩ Q p' s') →
      wpCode (VM (VX w b1 b2 b3)) ⟨rtWhile x.fr,none,none,fillAll (tn97_120_sh z) hs,none⟩ Q p s
  | [],i,y,s,p,hcs,hsg,hst,hW,A,H => H s p A (.refl x s)
  | c :: cs,i,(st,W,qd),s,p,hcs,hsg,hst,hW,A,H => by
    have hW' : W.length + 1 ≤ sizeLine := by rw [List.length_cons] at hW; dsimp only at hW; omega
    refine rt_turn K hs hst (hsg c (.head _)) (by have := hcs 0; simpa using this) h1 hl hW' A fun s' p' A' k => ?_
    refine rt_loop K hs h1 hl cs (i + 1) _ s' p' (fun j => by have := hcs (j + 1); rw [show i + 1 + j = i + (j + 1) by omega]; simpa using this) (fun y hy => hsg y (.tail _ hy)) (lstep_st hst (hsg c (.head _))) ?_ A' fun s'' p'' A'' k' => ?_
    · have := lstep_len (st,W,qd) c
      rw [List.length_cons] at hW
      dsimp only at this hW
      omega
    · refine H s'' p'' ?_ (k.trans k')
      rw [List.length_cons,show i + (cs.length + 1) = i + 1 + cs.length by omega]
      exact A''
end Mine
end
section
open PySem PySem.W PyProof.Rows
namespace Mine
theorem enter3b {V : HV} (O : V.Ok) {Q : Result → Shared → Prop} {fuel : Nat} {Γ : Ctx} {p : Pos} {s : Shared} {S : Scr} {a1 a2 a3 r1 r2 : Nat} {o1 o2 o3 q1 q2 : Obj}
    (run : SH V true fuel [] Γ p (V.den Γ.code) S (tabOf [(r1,q1),(r2,q2)] 0 .nil) (tabOf [(a1,o1),(a2,o2),(a3,o3)] 0 .nil) 3 2 s.heap.objs.size 0 s.toks 0 [] [])
    (htop : ∀ i ob,V.top i = some ob → s.heap.get? i = some ob) (h1 : s.heap.get? a1 = some o1) (h2 : s.heap.get? a2 = some o2) (h3 : s.heap.get? a3 = some o3) (h4 : s.heap.get? r1 = some q1) (h5 : s.heap.get? r2 = some q2)
    (d12 : a1 ≠ a2) (d13 : a1 ≠ a3) (d23 : a2 ≠ a3) (e11 : a1 ≠ r1) (e12 : a1 ≠ r2) (e21 : a2 ≠ r1) (e22 : a2 ≠ r2) (e31 : a3 ≠ r1) (e32 : a3 ≠ r2) (t1 : ∀ ob,V.top a1 ≠ some ob) (t2 : ∀ ob,V.top a2 ≠ some ob) (t3 : ∀ ob,V.top a3 ≠ some ob)
    (hF : FinOk V (fun r s' => ∀ q,r = resF q → Q q s') s (fun a => a ∈ [a1,a2,a3]) 3 S) : wpCode (VM V) Γ Q p s := by
  refine enter O (lT := [(a1,o1),(a2,o2),(a3,o3)]) (lR := [(r1,q1),(r2,q2)]) run rfl htop (fun x hx => ?_) (fun x hx => ?_) ?_ (fun x hx y hy => ?_) (fun x hx => ?_) hF
  · simp only [List.mem_cons,List.not_mem_nil,or_false] at hx
    rcases hx with rfl | rfl | rfl <;> assumption
  · simp only [List.mem_cons,List.not_mem_nil,or_false] at hx
    rcases hx with rfl | rfl <;> assumption
  · simp [d12,d13,d23]
  · simp only [List.mem_cons,List.not_mem_nil,or_false] at hx hy
    rcases hx with rfl | rfl | rfl <;> rcases hy with rfl | rfl <;> assumption
  · simp only [List.mem_cons,List.not_mem_nil,or_false] at hx
    rcases hx with rfl | rfl | rfl <;> assumption
structure Lx.At0 (x : Lx) (P : Params) (stt wt pt : Tok) (s : Shared) : Prop where
  top : ∀ a ob,topF P a = some ob → s.heap.get? a = some ob
  lex : s.heap.get? x.lex = some (insO 722 x.ld)
  sio : s.heap.get? x.sio = some (insO 587 x.sd)
  ld : s.heap.get? x.ld = some (lexO P x.sio x.dq1 x.dq2 x.κ (.str (u [32]) stt) (u []) wt)
  sd : s.heap.get? x.sd = some (sdO P x.T 0 x.tt pt x.k0 x.k1 x.k2)
  fr : s.heap.get? x.fr = some (rtFA P x.lex x.κ false)
theorem Lx.At0.next {x : Lx} {P : Params} (K : x.Ok P) {st' : Nat} {W' : Str} {qd : Bool} {s s' : Shared} {stt0 wt0 pt0 : Tok} (A : x.At0 P stt0 wt0 pt0 s) (k : x.Kept s s') {ec : Nat} {pt kn nt stt wt : Tok}
    (h1 : s'.heap.get? x.ld = some (lexO P x.sio x.dq1 x.dq2 x.κ (.str (u [st']) stt) W' wt)) (h2 : s'.heap.get? x.sd = some (sdO P x.T (((0 : Nat) : Int) + 1) x.tt pt x.k0 x.k1 x.k2)) (h3 : s'.heap.get? x.fr = some (rtFB P x.lex x.κ qd (u [ec]) kn nt)) : x.At P (st',W',qd) 1 s' :=
  ⟨fun a ob h => k.keep a ob (A.top a ob h) (fun e => K.t1 ob (e ▸ h)) (fun e => K.t2 ob (e ▸ h)) (fun e => K.t3 ob (e ▸ h)),k.keep _ _ A.lex K.e11.symm K.e21.symm K.e31.symm,k.keep _ _ A.sio K.e12.symm K.e22.symm K.e32.symm,ec,pt,kn,nt,stt,wt,h1,h2,h3⟩
theorem rt_first {w : World} {b1 b2 b3 z : Bool} {x : Lx} (K : x.Ok w.params) (hs : HL (tn97_120_sh z)) {Q : Result → Shared → Prop} {c : Nat} {stt wt pt : Tok} {s : Shared} {p : Pos} (hc : isSg c) (hx : x.T.cps[0]? = some c) (h1 : x.T.length ≠ 1) (hl : x.T.length ≤ 1000)
    (A : x.At0 w.params stt wt pt s) (H : ∀ s' p',x.At w.params (lstart c) 1 s' → x.Kept s s' → wpCode (VM (VX w b1 b2 b3)) ⟨rtWhile x.fr,none,none,fillAll (tn97_120_sh z) hs,none⟩ Q p' s') :
    wpCode (VM (VX w b1 b2 b3)) ⟨rtWhile x.fr,none,none,fillAll (tn97_120_sh z) hs,none⟩ Q p s := by
  rcases hc with rfl | rfl | rfl | rfl
  · refine enter3 (VX_ok _ _ _ _) (tn32_120_run w b1 b2 b3 z hs p s.heap.objs.size s.toks x.lex x.ld x.sio x.sd x.fr x.dq1 x.dq2 x.κ x.T (u []) false 0 0 x.tt pt x.k0 x.k1 x.k2 0 0 stt wt) A.top A.fr A.ld A.sd A.lex A.sio K.d12 K.d13 K.d23 K.e11 K.e12 K.e21 K.e22 K.e31 K.e32 K.t1 K.t2 K.t3 ⟨vRead rfl hx h1 hl,fun α1 tk1 n1 τ1 _ => fun s' L => ⟨rtWhile_quiet _,fun p' => H s' p' ?_ (.of L)⟩⟩
    exact A.next K (.of L) (L.at_ _ (.head _)) (L.at_ _ (.tail _ (.head _))) (L.at_ _ (.tail _ (.tail _ (.head _))))
  · refine enter3 (VX_ok _ _ _ _) (tn32_39_run w b1 b2 b3 z hs p s.heap.objs.size s.toks x.lex x.ld x.sio x.sd x.fr x.dq1 x.dq2 x.κ x.T (u []) false 0 0 x.tt pt x.k0 x.k1 x.k2 0 0 stt wt) A.top A.fr A.ld A.sd A.lex A.sio K.d12 K.d13 K.d23 K.e11 K.e12 K.e21 K.e22 K.e31 K.e32 K.t1 K.t2 K.t3 ⟨vRead rfl hx h1 hl,fun α1 tk1 n1 τ1 _ => fun s' L => ⟨rtWhile_quiet _,fun p' => H s' p' ?_ (.of L)⟩⟩
    exact A.next K (.of L) (L.at_ _ (.head _)) (L.at_ _ (.tail _ (.head _))) (L.at_ _ (.tail _ (.tail _ (.head _))))
  · refine enter3 (VX_ok _ _ _ _) (tn32_34_run w b1 b2 b3 z hs p s.heap.objs.size s.toks x.lex x.ld x.sio x.sd x.fr x.dq1 x.dq2 x.κ x.T (u []) false 0 0 x.tt pt x.k0 x.k1 x.k2 0 0 stt wt) A.top A.fr A.ld A.sd A.lex A.sio K.d12 K.d13 K.d23 K.e11 K.e12 K.e21 K.e22 K.e31 K.e32 K.t1 K.t2 K.t3 ⟨vRead rfl hx h1 hl,fun α1 tk1 n1 τ1 _ => fun s' L => ⟨rtWhile_quiet _,fun p' => H s' p' ?_ (.of L)⟩⟩
    exact A.next K (.of L) (L.at_ _ (.head _)) (L.at_ _ (.tail _ (.head _))) (L.at_ _ (.tail _ (.tail _ (.head _))))
  · refine enter3 (VX_ok _ _ _ _) (tn32_96_run w b1 b2 b3 z hs p s.heap.objs.size s.toks x.lex x.ld x.sio x.sd x.fr x.dq1 x.dq2 x.κ x.T (u []) false 0 0 x.tt pt x.k0 x.k1 x.k2 0 0 stt wt) A.top A.fr A.ld A.sd A.lex A.sio K.d12 K.d13 K.d23 K.e11 K.e12 K.e21 K.e22 K.e31 K.e32 K.t1 K.t2 K.t3 ⟨vRead rfl hx h1 hl,fun α1 tk1 n1 τ1 _ => fun s' L => ⟨rtWhile_quiet _,fun p' => H s' p' ?_ (.of L)⟩⟩
    exact A.next K (.of L) (L.at_ _ (.head _)) (L.at_ _ (.tail _ (.head _))) (L.at_ _ (.tail _ (.tail _ (.head _))))
theorem rt_end {w : World} {b1 b2 b3 z : Bool} {x : Lx} (K : x.Ok w.params) (hs : HL (tn97_120_sh z)) {Q : Result → Shared → Prop} {W : Str} {qd : Bool} {i : Nat} {s : Shared} {p : Pos} (hi : i = x.T.length) (hl : x.T.length ≤ 1000)
    (A : x.At w.params (97,W,qd) i s) (H : ∀ s' (pt kn nt wt : Tok),s'.heap.get? x.ld = some (lexO w.params x.sio x.dq1 x.dq2 x.κ .none W wt) → s'.heap.get? x.sd = some (sdO w.params x.T i x.tt pt x.k0 x.k1 x.k2) → s'.heap.get? x.fr = some (rtFB w.params x.lex x.κ qd (u []) kn nt) → x.Kept s s' → Q (.ok .next) s') :
    wpCode (VM (VX w b1 b2 b3)) ⟨rtWhile x.fr,none,none,fillAll (tn97_120_sh z) hs,none⟩ Q p s := by
  obtain ⟨ec,pt,kn,nt,stt,wt,g1,g2,g3⟩ := A.own
  refine enter3b (VX_ok _ _ _ _) (tn97_0_run w b1 b2 b3 z hs p s.heap.objs.size s.toks x.lex x.ld x.sio x.sd x.fr x.dq1 x.dq2 x.κ x.T W qd i ec x.tt pt x.k0 x.k1 x.k2 kn nt stt wt) A.top g3 g1 g2 A.lex A.sio K.d12 K.d13 K.d23 K.e11 K.e12 K.e21 K.e22 K.e31 K.e32 K.t1 K.t2 K.t3 ⟨vReadE rfl hi hl,fun α1 tk1 n1 τ1 _ => ⟨vTupIn [u [97],u [99]] (.cons _ _ (.cons _ _ .nil)) (by decide),fun α2 tk2 n2 τ2 _ => fun s' L q e => ?_⟩⟩
  rw [resF_next e]
  exact H s' _ _ _ _ (L.at_ _ (.head _)) (L.at_ _ (.tail _ (.head _))) (L.at_ _ (.tail _ (.tail _ (.head _)))) (.of L)
noncomputable def oLoop (P : Params) (sh : List Sk) (kf kl ks kx ky : Nat) (x : Lx) (W : Str) (qd : Bool) (stt wt pt : Tok) : Spec :=
  ⟨rtWhile x.fr,sh,[(3 * kf + 3,x.fr,rtFA P x.lex x.κ false),(3 * kl + 3,x.ld,lexO P x.sio x.dq1 x.dq2 x.κ (.str (u [32]) stt) (u []) wt),(3 * ks + 3,x.sd,sdO P x.T 0 x.tt pt x.k0 x.k1 x.k2),(3 * kx + 3,x.lex,insO 722 x.ld),(3 * ky + 3,x.sio,insO 587 x.sd)],
    fun _ _ => .ok .next,[(kf,x.fr,fun α _ => rtFB P x.lex x.κ qd (u []) (α 2) (α 3)),(kl,x.ld,fun α _ => lexO P x.sio x.dq1 x.dq2 x.κ .none W (α 0)),(ks,x.sd,fun α _ => sdO P x.T (x.T.length : Nat) x.tt (α 1) x.k0 x.k1 x.k2)],[],[],true⟩
noncomputable def lexT (l : List Nat) : Ls := match l with
  | [] => (32,u [],false)
  | c :: cs => cs.foldl lstep (lstart c)
noncomputable abbrev shL (z : Bool) : List Sk := .func :: .func :: .func :: shX z
theorem apart_own {V : HV} {pre : List (Nat × Ent)} (hap : Apart V pre) {k k' a b : Nat} {o o' : Obj} (h : (3 * k + 3,a,o) ∈ pre) (h' : (3 * k' + 3,b,o') ∈ pre) (n : k ≠ k') : a ≠ b := fun e => by
  have := hap.inj _ h (by dsimp only; omega) _ h' (by dsimp only; omega) e
  dsimp only at this
  omega
theorem apart_top {V : HV} {pre : List (Nat × Ent)} (hap : Apart V pre) {k a : Nat} {o : Obj} (h : (3 * k + 3,a,o) ∈ pre) : ∀ ob,V.top a ≠ some ob := hap.top _ h (by dsimp only; omega)
theorem Lx.ok_of {w : World} {b1 b2 b3 : Bool} {sh : List Sk} {kf kl ks kx ky : Nat} {x : Lx} {W : Str} {qd : Bool} {stt wt pt : Tok} (nd : [kf,kl,ks,kx,ky].Nodup)
    (hap : Apart (VX w b1 b2 b3) (oLoop w.params sh kf kl ks kx ky x W qd stt wt pt).pre) : x.Ok w.params := by
  simp only [List.nodup_cons,List.mem_cons,List.not_mem_nil,or_false,not_or,not_false_eq_true,List.nodup_nil,and_true] at nd
  obtain ⟨⟨n1,n2,n3,n4⟩,⟨n5,n6,n7⟩,⟨n8,n9⟩,n10⟩ := nd
  have m1 := List.Mem.head (a := (3 * kf + 3,x.fr,rtFA w.params x.lex x.κ false)) [(3 * kl + 3,x.ld,lexO w.params x.sio x.dq1 x.dq2 x.κ (.str (u [32]) stt) (u []) wt),(3 * ks + 3,x.sd,sdO w.params x.T 0 x.tt pt x.k0 x.k1 x.k2),(3 * kx + 3,x.lex,insO 722 x.ld),(3 * ky + 3,x.sio,insO 587 x.sd)]
  have m2 : (3 * kl + 3,x.ld,lexO w.params x.sio x.dq1 x.dq2 x.κ (.str (u [32]) stt) (u []) wt) ∈ (oLoop w.params sh kf kl ks kx ky x W qd stt wt pt).pre := .tail _ (.head _)
  have m3 : (3 * ks + 3,x.sd,sdO w.params x.T 0 x.tt pt x.k0 x.k1 x.k2) ∈ (oLoop w.params sh kf kl ks kx ky x W qd stt wt pt).pre := .tail _ (.tail _ (.head _))
  have m4 : (3 * kx + 3,x.lex,insO 722 x.ld) ∈ (oLoop w.params sh kf kl ks kx ky x W qd stt wt pt).pre := .tail _ (.tail _ (.tail _ (.head _)))
  have m5 : (3 * ky + 3,x.sio,insO 587 x.sd) ∈ (oLoop w.params sh kf kl ks kx ky x W qd stt wt pt).pre := .tail _ (.tail _ (.tail _ (.tail _ (.head _))))
  exact ⟨apart_own hap m1 m2 n1,apart_own hap m1 m3 n2,apart_own hap m2 m3 n5,apart_own hap m1 m4 n3,apart_own hap m1 m5 n4,apart_own hap m2 m4 n6,apart_own hap m2 m5 n7,apart_own hap m3 m4 n8,apart_own hap m3 m5 n9,apart_top hap m1,apart_top hap m2,apart_top hap m3⟩
theorem Lx.at0_of {w : World} {b1 b2 b3 : Bool} {sh : List Sk} {kf kl ks kx ky : Nat} {x : Lx} {W : Str} {qd : Bool} {stt wt pt : Tok} {s : Shared} (htop : ∀ i ob,(VX w b1 b2 b3).top i = some ob → s.heap.get? i = some ob)
    (hpre : ∀ y ∈ (oLoop w.params sh kf kl ks kx ky x W qd stt wt pt).pre,s.heap.get? y.2.1 = some y.2.2) : x.At0 w.params stt wt pt s :=
  ⟨htop,hpre _ (.tail _ (.tail _ (.tail _ (.head _)))),hpre _ (.tail _ (.tail _ (.tail _ (.tail _ (.head _))))),hpre _ (.tail _ (.head _)),hpre _ (.tail _ (.tail _ (.head _))),hpre _ (.head _)⟩
theorem rt_all {w : World} {b1 b2 b3 z : Bool} {x : Lx} (K : x.Ok w.params) (hs : HL (tn97_120_sh z)) {Q : Result → Shared → Prop} {stt wt pt : Tok} {s : Shared} {p : Pos} (hT : x.T.cps.toList ≠ []) (hsg : ∀ c ∈ x.T.cps.toList,isSg c) (h1 : x.T.length ≠ 1) (hl : x.T.length ≤ 1000)
    (A : x.At0 w.params stt wt pt s) (H : ∀ s' p',x.At w.params (lexT x.T.cps.toList) x.T.length s' → x.Kept s s' → wpCode (VM (VX w b1 b2 b3)) ⟨rtWhile x.fr,none,none,fillAll (tn97_120_sh z) hs,none⟩ Q p' s') :
    wpCode (VM (VX w b1 b2 b3)) ⟨rtWhile x.fr,none,none,fillAll (tn97_120_sh z) hs,none⟩ Q p s := by
  obtain ⟨c,cs,hcc⟩ : ∃ c cs,x.T.cps.toList = c :: cs := by
    cases h : x.T.cps.toList with
    | nil => exact absurd h hT
    | cons c cs => exact ⟨c,cs,rfl⟩
  have hget : ∀ j,x.T.cps[j]? = (c :: cs)[j]? := fun j => by rw [← hcc,Array.getElem?_toList]
  have hlen : x.T.length = 1 + cs.length := by
    show x.T.cps.size = _
    rw [← Array.length_toList,hcc,List.length_cons,Nat.add_comm]
  rw [hcc] at hsg H
  have s1000 : (1000 : Nat) ≤ sizeLine := by decide
  refine rt_first K hs (hsg c (.head _)) (by simpa using hget 0) h1 hl A fun s' p' A' k => ?_
  refine rt_loop K hs h1 hl cs 1 _ s' p' (fun j => by have := hget (j + 1); rw [show 1 + j = j + 1 by omega]; simpa using this) (fun y hy => hsg y (.tail _ hy)) (lstart_st (hsg c (.head _))) (by have := lstart_len c; omega) A' fun s'' p'' A'' k' => ?_
  rw [← hlen] at A''
  exact H s'' p'' A'' (k.trans k')
theorem vLoop {w : World} {b1 b2 b3 z : Bool} {kf kl ks kx ky : Nat} {x : Lx} {W : Str} {qd : Bool} {stt wt pt : Tok} (nd : [kf,kl,ks,kx,ky].Nodup) (hT : x.T.cps.toList ≠ []) (hsg : ∀ c ∈ x.T.cps.toList,isSg c) (h1 : x.T.length ≠ 1) (hl : x.T.length ≤ 1000) (hr : lexT x.T.cps.toList = (97,W,qd)) :
    Valid (VX w b1 b2 b3) (oLoop w.params (shL z) kf kl ks kx ky x W qd stt wt pt) := by
  intro hs p s htop hpre ⟨hap,hpp⟩
  have K := Lx.ok_of nd hap
  refine rt_all K hs hT hsg h1 hl (Lx.at0_of htop hpre) fun s' p' A' k => ?_
  rw [hr] at A'
  refine rt_end K hs rfl hl A' fun s'' pt' kn' nt' wt' g1 g2 g3 k' => ?_
  have k := k.trans k'
  refine ⟨fun i => match i with | 0 => wt' | 1 => pt' | 2 => kn' | _ => nt',0,rfl,fun y hy => ?_,(fun _ _ h => nomatch h),fun a ob g hb => k.keep a ob g (fun e => hb _ (.head _) e.symm) (fun e => hb _ (.tail _ (.head _)) e.symm) (fun e => hb _ (.tail _ (.tail _ (.head _))) e.symm),(fun _ _ h => nomatch h),(fun _ _ h => nomatch h),(fun _ _ h => absurd h (Nat.not_lt_zero _)),k.grow,k.gens,k.drawn,k.os⟩
  rcases List.mem_cons.mp hy with rfl | hy
  · exact g3
  · rcases List.mem_cons.mp hy with rfl | hy
    · exact g1
    · obtain rfl := List.mem_singleton.mp hy
      exact g2
end Mine
end
section
open PySem PySem.W PyProof.Rows
namespace Mine
noncomputable def kap : List Nat → Nat → Tok
  | [],_ => 0
  | t :: _,0 => t
  | _ :: l,i + 1 => kap l i
noncomputable def tkT_sh (z : Bool) : List Sk := (shX z)
noncomputable def tkT_code (z : Bool) (T W : Str) (tt : Tok) : Code := (.call (.ref 782) ⟨[(.str T tt)],[]⟩)
noncomputable def tkT_lT (P : Params) (z : Bool) (T W : Str) (tt : Tok) : List Ent := []
noncomputable def tkT_lR (P : Params) (z : Bool) (T W : Str) (tt : Tok) : List Ent := []
noncomputable def tkT_scr (P : Params) (n τ : Nat) (z : Bool) (T W : Str) (tt : Tok) : Scr := (.orc [2347,2344,3,3,7,10,3,2167,2167,0,2167,2167,2167,2167,2167,2167,0,2167,2167,2167,2167,2167,2167,2167,2167,2167,2167,2167,2167,2167,2167,2167,2167,2167,2164,2167,2167,9,2167,9,2167,2167,2164,1939,0,1939,1936,1918,12,12,12,12,12,12,12,12,12,12,7,10,1,12,10,1,0,10,12,1762,1762,0,1762,1762,1762,1762,1762,1762,1762,0,1762,7,1762,1762,1762,1759,331,328,250,247,253,253,0,253,253,0,241,238,21,21,21,21,21,21,7,21,10,1762,1021,21,10,10,1,0,21,0,1762,1762,1762,1762,1762,1762,331,331,250,250,331,331,331,250,250,250,250,250,1762,1762,1762,1762,1762,331,331,250,250,331,331,331,250,250,250,250,250,1762,1762,27,1762,27,1762,1762,1759,1072,0,1072,1069,1051,30,30,30,30,30,30,7,30,10,1,30,0,10,1,30,30,0,30,0,30,10,1,30,0,10,1,30,30,27,1762,1762,1759,331,328,250,247,0,27,1762,27,1762,27,1762,1762,1759,331,328,250,247,27,1762,24,24,24,30,27,1762,1762,1759,331,328,250,247,0,27,1762,27,1762,27,1762,1762,1759,331,328,250,247,27,1762,24,24,24,30,27,1762,1762,1759,331,328,250,247,0,27,1762,27,1762,27,1762,1762,1759,331,328,250,247,27,1762,24,24,24,30,30,27,1762,1762,1759,331,328,250,247,27,1762,1762,1759,331,328,250,247,27,1762,1762,1759,1093,27,24,30,1093,0,1093,1090,33,33,33,33,7,33,27,1762,1762,1759,331,328,250,247,0,27,1762,1762,1759,331,328,250,247,27,27,1762,24,33,33,33,33,0,33,0,33,30,27,1762,1762,1759,331,328,250,247,0,27,1762,27,1762,27,1762,1762,1759,331,328,250,247,27,1762,24,24,24,12,12,12,12,12,9,2167,2167,2164,0,9,2167,9,2167,9,2167,2167,2164,9,2167,6,6,6,12,12,9,2167,2167,2164,0,9,2167,9,2167,9,2167,2167,2164,9,2167,6,6,6,12,12,9,2167,2167,2164,0,9,2167,9,2167,9,2167,2167,2164,9,2167,6,6,6,12,12,9,2167,2167,2164,0,9,2167,9,2167,9,2167,2167,2164,9,2167,6,6,6,12,9,2167,2167,2164,0,9,2167,9,2167,9,2167,2167,2164,9,2167,6,6,6,12,9,2167,2167,2164,0,9,2167,9,2167,9,2167,2167,2164,9,2167,6,6,6,12,9,2167,2167,2164,0,9,2167,2167,2164,9,9,2167,6,12,9,2167,2167,2164,0,9,2167,2167,2164,9,9,2167,6,0,9,2167,2167,2164,0,9,2167,9,2167,9,2167,2167,2164,9,2167,6,6,6,12,9,2167,2167,2164,0,9,2167,9,2167,9,2167,2167,2164,9,2167,6,6,6,12,9,2167,2167,2164,0,9,2167,9,2167,9,2167,2167,2164,9,2167,6,6,6,12,9,2167,2167,2164,0,9,2167,9,2167,9,2167,2167,2164,9,2167,6,6,6,12,9,2167,2167,2164,0,9,2167,9,2167,9,2167,2167,2164,9,2167,6,6,6,12,9,2167,2167,2164,0,9,2167,9,2167,9,2167,2167,2164,9,2167,6,6,6,12,9,2167,2167,2164,0,9,2167,9,2167,9,2167,2167,2164,9,2167,6,6,6,10,0,0,36,36,0,36,36,36,36,12,9,2167,2167,2164,0,9,2167,9,2167,9,2167,2167,2164,9,2167,6,6,6,12,9,2167,2167,2164,0,9,2167,9,2167,9,2167,2167,2164,9,2167,6,6,6,12,9,2167,2167,2164,0,9,2167,9,2167,9,2167,2167,2164,9,2167,6,6,6,12,9,2167,2167,2164,0,9,2167,9,2167,9,2167,2167,2164,9,2167,6,6,6,10,0,0,39,39,0,39,39,39,39,12,9,2167,2167,2164,0,9,2167,9,2167,9,2167,2167,2164,9,2167,6,6,6,12,9,2167,2167,2164,0,9,2167,9,2167,9,2167,2167,2164,9,2167,6,6,6,12,12,12,12,12,9,2167,2167,2164,0,9,2167,9,2167,9,2167,2167,2164,9,2167,6,6,6,12,0,0,3,3,3,9,2167,2167,2164,0,9,2167,9,2167,9,2167,2167,2164,9,2167,6,6,6,3,9,2167,2167,2164,9,2167,2167,2164,9,2167,2167,2164,2050,9,6,2050,0,2050,2047,42,42,7,42,9,2167,2167,2164,0,9,2167,2167,2164,9,9,2167,6,36,36,0,36,0,36,36,42,9,2167,2167,2164,9,2167,2167,2164,9,2167,2167,2164,2071,9,6,2071,0,2071,2068,45,45,7,45,45,45,45] (oLoop P (.func :: .func :: .func :: shX z) 14 1 7 2 8 ⟨(n + 2),(n + 1),(n + 8),(n + 7),(n + 14),(n + 11),(n + 12),kap [(τ + 34),(τ + 36),(τ + 38),(τ + 40),(τ + 43),(τ + 41),(τ + 46),(τ + 50),(τ + 55),(τ + 53),(τ + 57),(τ + 60),(τ + 92),(τ + 63),(τ + 61),(τ + 66),(τ + 64),(τ + 69),(τ + 71),(τ + 74),(τ + 72),(τ + 77),(τ + 75),(τ + 80),(τ + 82),(τ + 84),(τ + 88),(τ + 85),(τ + 99),(τ + 100),(τ + 102),(τ + 101)],T,tt,(τ + 17),(τ + 20),(τ + 23)⟩ W true (τ + 67) (τ + 78) (τ + 21)) 15 0 fun α1 tk1 n1 τ1 =>
  (.fin [45,9,2167,2167,2164,0,9,2167,2167,2164,9,9,2167,6,45,45,45,9,2167,2167,2164,0,9,2167,9,2167,9,2167,2167,2164,9,2167,6,6,6,45,9,2167,2167,2164,0,9,2167,2167,2164,9,9,2167,6,45,45,9,2167,2167,2164,0,9,2167,2167,2164,9,9,2167,6,0,45,42,42,42,9,2167,2167,2164,0,9,2167,2167,2164,9,9,2167,6,0,42,42,9,2167,2167,2164,0,9,2167,2167,2164,9,9,2167,6,0,0,42,9,2167,2167,2164,0,9,2167,2167,2164,9,9,2167,6,0,42] ⟨.ok (.done (.ret (.str W (α1 0)))),[],[]⟩))
theorem tkT_run (w : World) (b1 b2 b3 : Bool) (z : Bool) (hs : HL (tkT_sh z)) (p : Pos) (n τ : Nat) (T W : Str) (tt : Tok) : SH (VX w b1 b2 b3) true 20000 [] ⟨tkT_code z T W tt ,none,none,fillAll (tkT_sh z) hs,none⟩ p ((VX w b1 b2 b3).den (tkT_code z T W tt )) (tkT_scr w.params n τ z T W tt ) (tabOf (tkT_lR w.params z T W tt ) 0 .nil) (tabOf (tkT_lT w.params z T W tt ) 0 .nil) 0 0 n 0 τ 0 [] [] := by
  cases z <;> cases b1 <;> exact runOf (adrs [] n) (adr1 []) (by kernel_rfl)
noncomputable def tkF_sh (z : Bool) : List Sk := (shX z)
noncomputable def tkF_code (z : Bool) (T W : Str) (tt : Tok) : Code := (.call (.ref 782) ⟨[(.str T tt)],[]⟩)
noncomputable def tkF_lT (P : Params) (z : Bool) (T W : Str) (tt : Tok) : List Ent := []
noncomputable def tkF_lR (P : Params) (z : Bool) (T W : Str) (tt : Tok) : List Ent := []
noncomputable def tkF_scr (P : Params) (n τ : Nat) (z : Bool) (T W : Str) (tt : Tok) : Scr := (.orc [2347,2344,3,3,7,10,3,2167,2167,0,2167,2167,2167,2167,2167,2167,0,2167,2167,2167,2167,2167,2167,2167,2167,2167,2167,2167,2167,2167,2167,2167,2167,2167,2164,2167,2167,9,2167,9,2167,2167,2164,1939,0,1939,1936,1918,12,12,12,12,12,12,12,12,12,12,7,10,1,12,10,1,0,10,12,1762,1762,0,1762,1762,1762,1762,1762,1762,1762,0,1762,7,1762,1762,1762,1759,331,328,250,247,253,253,0,253,253,0,241,238,21,21,21,21,21,21,7,21,10,1762,1021,21,10,10,1,0,21,0,1762,1762,1762,1762,1762,1762,331,331,250,250,331,331,331,250,250,250,250,250,1762,1762,1762,1762,1762,331,331,250,250,331,331,331,250,250,250,250,250,1762,1762,27,1762,27,1762,1762,1759,1072,0,1072,1069,1051,30,30,30,30,30,30,7,30,10,1,30,0,10,1,30,30,0,30,0,30,10,1,30,0,10,1,30,30,27,1762,1762,1759,331,328,250,247,0,27,1762,27,1762,27,1762,1762,1759,331,328,250,247,27,1762,24,24,24,30,27,1762,1762,1759,331,328,250,247,0,27,1762,27,1762,27,1762,1762,1759,331,328,250,247,27,1762,24,24,24,30,27,1762,1762,1759,331,328,250,247,0,27,1762,27,1762,27,1762,1762,1759,331,328,250,247,27,1762,24,24,24,30,30,27,1762,1762,1759,331,328,250,247,27,1762,1762,1759,331,328,250,247,27,1762,1762,1759,1093,27,24,30,1093,0,1093,1090,33,33,33,33,7,33,27,1762,1762,1759,331,328,250,247,0,27,1762,1762,1759,331,328,250,247,27,27,1762,24,33,33,33,33,0,33,0,33,30,27,1762,1762,1759,331,328,250,247,0,27,1762,27,1762,27,1762,1762,1759,331,328,250,247,27,1762,24,24,24,12,12,12,12,12,9,2167,2167,2164,0,9,2167,9,2167,9,2167,2167,2164,9,2167,6,6,6,12,12,9,2167,2167,2164,0,9,2167,9,2167,9,2167,2167,2164,9,2167,6,6,6,12,12,9,2167,2167,2164,0,9,2167,9,2167,9,2167,2167,2164,9,2167,6,6,6,12,12,9,2167,2167,2164,0,9,2167,9,2167,9,2167,2167,2164,9,2167,6,6,6,12,9,2167,2167,2164,0,9,2167,9,2167,9,2167,2167,2164,9,2167,6,6,6,12,9,2167,2167,2164,0,9,2167,9,2167,9,2167,2167,2164,9,2167,6,6,6,12,9,2167,2167,2164,0,9,2167,2167,2164,9,9,2167,6,12,9,2167,2167,2164,0,9,2167,2167,2164,9,9,2167,6,0,9,2167,2167,2164,0,9,2167,9,2167,9,2167,2167,2164,9,2167,6,6,6,12,9,2167,2167,2164,0,9,2167,9,2167,9,2167,2167,2164,9,2167,6,6,6,12,9,2167,2167,2164,0,9,2167,9,2167,9,2167,2167,2164,9,2167,6,6,6,12,9,2167,2167,2164,0,9,2167,9,2167,9,2167,2167,2164,9,2167,6,6,6,12,9,2167,2167,2164,0,9,2167,9,2167,9,2167,2167,2164,9,2167,6,6,6,12,9,2167,2167,2164,0,9,2167,9,2167,9,2167,2167,2164,9,2167,6,6,6,12,9,2167,2167,2164,0,9,2167,9,2167,9,2167,2167,2164,9,2167,6,6,6,10,0,0,36,36,0,36,36,36,36,12,9,2167,2167,2164,0,9,2167,9,2167,9,2167,2167,2164,9,2167,6,6,6,12,9,2167,2167,2164,0,9,2167,9,2167,9,2167,2167,2164,9,2167,6,6,6,12,9,2167,2167,2164,0,9,2167,9,2167,9,2167,2167,2164,9,2167,6,6,6,12,9,2167,2167,2164,0,9,2167,9,2167,9,2167,2167,2164,9,2167,6,6,6,10,0,0,39,39,0,39,39,39,39,12,9,2167,2167,2164,0,9,2167,9,2167,9,2167,2167,2164,9,2167,6,6,6,12,9,2167,2167,2164,0,9,2167,9,2167,9,2167,2167,2164,9,2167,6,6,6,12,12,12,12,12,9,2167,2167,2164,0,9,2167,9,2167,9,2167,2167,2164,9,2167,6,6,6,12,0,0,3,3,3,9,2167,2167,2164,0,9,2167,9,2167,9,2167,2167,2164,9,2167,6,6,6,3,9,2167,2167,2164,9,2167,2167,2164,9,2167,2167,2164,2050,9,6,2050,0,2050,2047,42,42,7,42,9,2167,2167,2164,0,9,2167,2167,2164,9,9,2167,6,36,36,0,36,0,36,36,42,9,2167,2167,2164,9,2167,2167,2164,9,2167,2167,2164,2071,9,6,2071,0,2071,2068,45,45,7,45,45,45,45] (oLoop P (.func :: .func :: .func :: shX z) 14 1 7 2 8 ⟨(n + 2),(n + 1),(n + 8),(n + 7),(n + 14),(n + 11),(n + 12),kap [(τ + 34),(τ + 36),(τ + 38),(τ + 40),(τ + 43),(τ + 41),(τ + 46),(τ + 50),(τ + 55),(τ + 53),(τ + 57),(τ + 60),(τ + 92),(τ + 63),(τ + 61),(τ + 66),(τ + 64),(τ + 69),(τ + 71),(τ + 74),(τ + 72),(τ + 77),(τ + 75),(τ + 80),(τ + 82),(τ + 84),(τ + 88),(τ + 85),(τ + 99),(τ + 100),(τ + 102),(τ + 101)],T,tt,(τ + 17),(τ + 20),(τ + 23)⟩ W false (τ + 67) (τ + 78) (τ + 21)) 15 0 fun α1 tk1 n1 τ1 =>
  (.orc [45,9,2167,2167,2164,0,9,2167,2167,2164,9,9,2167,6,45,45,45,9,2167,2167,2164,0,9,2167,9,2167,9,2167,2167,2164,9,2167,6,6,6,45,9,2167,2167,2164,0,9,2167,2167,2164,9,9,2167,6,45,45] (oEq (.func :: .func :: .func :: shX z) W (α1 0) (u []) (τ1 + 6) false) 15 0 fun α2 tk2 n2 τ2 =>
  (.fin [45,9,2167,2167,2164,0,9,2167,2167,2164,9,9,2167,6,0,45,42,42,42,9,2167,2167,2164,0,9,2167,2167,2164,9,9,2167,6,0,42,42,9,2167,2167,2164,0,9,2167,2167,2164,9,9,2167,6,0,0,42,9,2167,2167,2164,0,9,2167,2167,2164,9,9,2167,6,0,42] ⟨.ok (.done (.ret (.str W (α1 0)))),[],[]⟩)))
theorem tkF_run (w : World) (b1 b2 b3 : Bool) (z : Bool) (hs : HL (tkF_sh z)) (p : Pos) (n τ : Nat) (T W : Str) (tt : Tok) : SH (VX w b1 b2 b3) true 20000 [] ⟨tkF_code z T W tt ,none,none,fillAll (tkF_sh z) hs,none⟩ p ((VX w b1 b2 b3).den (tkF_code z T W tt )) (tkF_scr w.params n τ z T W tt ) (tabOf (tkF_lR w.params z T W tt ) 0 .nil) (tabOf (tkF_lT w.params z T W tt ) 0 .nil) 0 0 n 0 τ 0 [] [] := by
  cases z <;> cases b1 <;> exact runOf (adrs [] n) (adr1 []) (by kernel_rfl)
end Mine
end
section
open PySem PySem.W PyProof.Rows
namespace Mine
noncomputable def rtTurn (fr : Nat) : Sem PySem.Fin := match ((bodyAt [19,6])[2]? : Option Stmt) with
  | some (Stmt.While t b o _) => whileTurn t b o (rtEnv fr)
  | _ => .unsupported ""
noncomputable def tr39_sh (z : Bool) : List Sk := (.func :: .func :: .func :: shX z)
noncomputable def tr39_code (z : Bool) (lex ld sio sd fr dq1 dq2 : Nat) (κ : Nat → Tok) (T W : Str) (qd : Bool) (i ec : Nat) (tt pt k0 k1 k2 kn nt stt wt : Tok) : Code := (rtWhile fr)
noncomputable def tr39_lT (P : Params) (z : Bool) (lex ld sio sd fr dq1 dq2 : Nat) (κ : Nat → Tok) (T W : Str) (qd : Bool) (i ec : Nat) (tt pt k0 k1 k2 kn nt stt wt : Tok) : List Ent := [(fr,(rtFB P lex κ qd (u [ec]) kn nt)),(ld,(lexO P sio dq1 dq2 κ (.str (u [39]) stt) W wt)),(sd,(sdO P T i tt pt k0 k1 k2))]
noncomputable def tr39_lR (P : Params) (z : Bool) (lex ld sio sd fr dq1 dq2 : Nat) (κ : Nat → Tok) (T W : Str) (qd : Bool) (i ec : Nat) (tt pt k0 k1 k2 kn nt stt wt : Tok) : List Ent := [(lex,(insO 722 ld)),(sio,(insO 587 sd))]
noncomputable def tr39_scr (P : Params) (n τ : Nat) (z : Bool) (lex ld sio sd fr dq1 dq2 : Nat) (κ : Nat → Tok) (T W : Str) (qd : Bool) (i ec : Nat) (tt pt k0 k1 k2 kn nt stt wt : Tok) : Scr := (.orc [3,2,2167,2167,2164,0,2,2167,2167,2164,1963,1963,2167,2167,2164,0,1963,1963,1960,1957,12,12,7,12,2,2167,2167,2164,0,2,2167,2167,2164,2,2,2167,6,0,0,3,2,2167,2167,2164,0,2,2167,2167,2164,2,2,2167,6,5,1762,1762,1759,331,328,250,247,5,1762,1762,1759,331,328,250,247,5,1762,1762,1759,1600,5,9,1600] (oReadE P (.whl :: .func :: .func :: .func :: shX z) 2 5 sio sd T i tt pt k0 k1 k2 (τ + 6)) 4 2 fun α1 tk1 n1 τ1 =>
  (.fin [3,3,3,0,3,2,2167,2167,2164,0,2,2167,2167,2164,2,2,2167,6,0,3,2,2167,2167,2164,0,2,2167,2167,2164,2,2,2167,6,3,2,2167,2167,2164,0,2,2167,2167,2164,2,2,2167,6,0,3,2,2167,2167,2164,0,2,2167,2167,2164,2,2,2167,6,3,2,2167,2167,2164,0,2,2167,2167,2164,2,2,2167,6,0,3,3,3,0,0,3,2,2167,2167,2164,0,2,2167,2167,2164,2,2,2167,6,0,10,1,0,0,18,18,0,18,18,18,18,18,18,18,18,18,18] ⟨.error (.ref (n1 + 1)),[(1,ld,(lexO P sio dq1 dq2 κ (.str (u [39]) stt) W wt)),(2,sd,(sdO P T i tt pt k0 k1 k2)),(0,fr,(rtFB P lex κ true (u []) kn tk1)),(5,(n1 + 1),⟨(.type SL.s6070975301684473832x10),none,(.fields ⟨[(.ref (n1 + 2)),.none,.none,.none,(.bool false),.none]⟩),⟨[]⟩⟩)],[]⟩))
theorem tr39_run (w : World) (b1 b2 b3 : Bool) (z : Bool) (hs : HL (tr39_sh z)) (p : Pos) (n τ : Nat) (lex ld sio sd fr dq1 dq2 : Nat) (κ : Nat → Tok) (T W : Str) (qd : Bool) (i ec : Nat) (tt pt k0 k1 k2 kn nt stt wt : Tok) : SH (VX w b1 b2 b3) false 20000 [] ⟨tr39_code z lex ld sio sd fr dq1 dq2 κ T W qd i ec tt pt k0 k1 k2 kn nt stt wt ,none,none,fillAll (tr39_sh z) hs,none⟩ p (rtTurn fr) (tr39_scr w.params n τ z lex ld sio sd fr dq1 dq2 κ T W qd i ec tt pt k0 k1 k2 kn nt stt wt ) (tabOf (tr39_lR w.params z lex ld sio sd fr dq1 dq2 κ T W qd i ec tt pt k0 k1 k2 kn nt stt wt ) 0 .nil) (tabOf (tr39_lT w.params z lex ld sio sd fr dq1 dq2 κ T W qd i ec tt pt k0 k1 k2 kn nt stt wt ) 0 .nil) 3 2 n 0 τ 0 [] [] := by
  cases z <;> cases b1 <;> exact runOf (adrs [fr,ld,sd] n) (adr1 [lex,sio]) (by kernel_rfl)
noncomputable def tr34_sh (z : Bool) : List Sk := (.func :: .func :: .func :: shX z)
noncomputable def tr34_code (z : Bool) (lex ld sio sd fr dq1 dq2 : Nat) (κ : Nat → Tok) (T W : Str) (qd : Bool) (i ec : Nat) (tt pt k0 k1 k2 kn nt stt wt : Tok) : Code := (rtWhile fr)
noncomputable def tr34_lT (P : Params) (z : Bool) (lex ld sio sd fr dq1 dq2 : Nat) (κ : Nat → Tok) (T W : Str) (qd : Bool) (i ec : Nat) (tt pt k0 k1 k2 kn nt stt wt : Tok) : List Ent := [(fr,(rtFB P lex κ qd (u [ec]) kn nt)),(ld,(lexO P sio dq1 dq2 κ (.str (u [34]) stt) W wt)),(sd,(sdO P T i tt pt k0 k1 k2))]
noncomputable def tr34_lR (P : Params) (z : Bool) (lex ld sio sd fr dq1 dq2 : Nat) (κ : Nat → Tok) (T W : Str) (qd : Bool) (i ec : Nat) (tt pt k0 k1 k2 kn nt stt wt : Tok) : List Ent := [(lex,(insO 722 ld)),(sio,(insO 587 sd))]
noncomputable def tr34_scr (P : Params) (n τ : Nat) (z : Bool) (lex ld sio sd fr dq1 dq2 : Nat) (κ : Nat → Tok) (T W : Str) (qd : Bool) (i ec : Nat) (tt pt k0 k1 k2 kn nt stt wt : Tok) : Scr := (.orc [3,2,2167,2167,2164,0,2,2167,2167,2164,1963,1963,2167,2167,2164,0,1963,1963,1960,1957,12,12,7,12,2,2167,2167,2164,0,2,2167,2167,2164,2,2,2167,6,0,0,3,2,2167,2167,2164,0,2,2167,2167,2164,2,2,2167,6,5,1762,1762,1759,331,328,250,247,5,1762,1762,1759,331,328,250,247,5,1762,1762,1759,1600,5,9,1600] (oReadE P (.whl :: .func :: .func :: .func :: shX z) 2 5 sio sd T i tt pt k0 k1 k2 (τ + 6)) 4 2 fun α1 tk1 n1 τ1 =>
  (.fin [3,3,3,0,3,2,2167,2167,2164,0,2,2167,2167,2164,2,2,2167,6,0,3,2,2167,2167,2164,0,2,2167,2167,2164,2,2,2167,6,3,2,2167,2167,2164,0,2,2167,2167,2164,2,2,2167,6,0,3,2,2167,2167,2164,0,2,2167,2167,2164,2,2,2167,6,3,2,2167,2167,2164,0,2,2167,2167,2164,2,2,2167,6,0,3,3,3,0,0,3,2,2167,2167,2164,0,2,2167,2167,2164,2,2,2167,6,0,10,1,0,0,18,18,0,18,18,18,18,18,18,18,18,18,18] ⟨.error (.ref (n1 + 1)),[(1,ld,(lexO P sio dq1 dq2 κ (.str (u [34]) stt) W wt)),(2,sd,(sdO P T i tt pt k0 k1 k2)),(0,fr,(rtFB P lex κ true (u []) kn tk1)),(5,(n1 + 1),⟨(.type SL.s6070975301684473832x10),none,(.fields ⟨[(.ref (n1 + 2)),.none,.none,.none,(.bool false),.none]⟩),⟨[]⟩⟩)],[]⟩))
theorem tr34_run (w : World) (b1 b2 b3 : Bool) (z : Bool) (hs : HL (tr34_sh z)) (p : Pos) (n τ : Nat) (lex ld sio sd fr dq1 dq2 : Nat) (κ : Nat → Tok) (T W : Str) (qd : Bool) (i ec : Nat) (tt pt k0 k1 k2 kn nt stt wt : Tok) : SH (VX w b1 b2 b3) false 20000 [] ⟨tr34_code z lex ld sio sd fr dq1 dq2 κ T W qd i ec tt pt k0 k1 k2 kn nt stt wt ,none,none,fillAll (tr34_sh z) hs,none⟩ p (rtTurn fr) (tr34_scr w.params n τ z lex ld sio sd fr dq1 dq2 κ T W qd i ec tt pt k0 k1 k2 kn nt stt wt ) (tabOf (tr34_lR w.params z lex ld sio sd fr dq1 dq2 κ T W qd i ec tt pt k0 k1 k2 kn nt stt wt ) 0 .nil) (tabOf (tr34_lT w.params z lex ld sio sd fr dq1 dq2 κ T W qd i ec tt pt k0 k1 k2 kn nt stt wt ) 0 .nil) 3 2 n 0 τ 0 [] [] := by
  cases z <;> cases b1 <;> exact runOf (adrs [fr,ld,sd] n) (adr1 [lex,sio]) (by kernel_rfl)
noncomputable def tr96_sh (z : Bool) : List Sk := (.func :: .func :: .func :: shX z)
noncomputable def tr96_code (z : Bool) (lex ld sio sd fr dq1 dq2 : Nat) (κ : Nat → Tok) (T W : Str) (qd : Bool) (i ec : Nat) (tt pt k0 k1 k2 kn nt stt wt : Tok) : Code := (rtWhile fr)
noncomputable def tr96_lT (P : Params) (z : Bool) (lex ld sio sd fr dq1 dq2 : Nat) (κ : Nat → Tok) (T W : Str) (qd : Bool) (i ec : Nat) (tt pt k0 k1 k2 kn nt stt wt : Tok) : List Ent := [(fr,(rtFB P lex κ qd (u [ec]) kn nt)),(ld,(lexO P sio dq1 dq2 κ (.str (u [96]) stt) W wt)),(sd,(sdO P T i tt pt k0 k1 k2))]
noncomputable def tr96_lR (P : Params) (z : Bool) (lex ld sio sd fr dq1 dq2 : Nat) (κ : Nat → Tok) (T W : Str) (qd : Bool) (i ec : Nat) (tt pt k0 k1 k2 kn nt stt wt : Tok) : List Ent := [(lex,(insO 722 ld)),(sio,(insO 587 sd))]
noncomputable def tr96_scr (P : Params) (n τ : Nat) (z : Bool) (lex ld sio sd fr dq1 dq2 : Nat) (κ : Nat → Tok) (T W : Str) (qd : Bool) (i ec : Nat) (tt pt k0 k1 k2 kn nt stt wt : Tok) : Scr := (.orc [3,2,2167,2167,2164,0,2,2167,2167,2164,1963,1963,2167,2167,2164,0,1963,1963,1960,1957,12,12,7,12,2,2167,2167,2164,0,2,2167,2167,2164,2,2,2167,6,0,0,3,2,2167,2167,2164,0,2,2167,2167,2164,2,2,2167,6,5,1762,1762,1759,331,328,250,247,5,1762,1762,1759,331,328,250,247,5,1762,1762,1759,1600,5,9,1600] (oReadE P (.whl :: .func :: .func :: .func :: shX z) 2 5 sio sd T i tt pt k0 k1 k2 (τ + 6)) 4 2 fun α1 tk1 n1 τ1 =>
  (.fin [3,3,3,0,3,2,2167,2167,2164,0,2,2167,2167,2164,2,2,2167,6,0,3,2,2167,2167,2164,0,2,2167,2167,2164,2,2,2167,6,3,2,2167,2167,2164,0,2,2167,2167,2164,2,2,2167,6,0,3,2,2167,2167,2164,0,2,2167,2167,2164,2,2,2167,6,3,2,2167,2167,2164,0,2,2167,2167,2164,2,2,2167,6,0,3,3,3,0,0,3,2,2167,2167,2164,0,2,2167,2167,2164,2,2,2167,6,0,10,1,0,0,18,18,0,18,18,18,18,18,18,18,18,18,18] ⟨.error (.ref (n1 + 1)),[(1,ld,(lexO P sio dq1 dq2 κ (.str (u [96]) stt) W wt)),(2,sd,(sdO P T i tt pt k0 k1 k2)),(0,fr,(rtFB P lex κ true (u []) kn tk1)),(5,(n1 + 1),⟨(.type SL.s6070975301684473832x10),none,(.fields ⟨[(.ref (n1 + 2)),.none,.none,.none,(.bool false),.none]⟩),⟨[]⟩⟩)],[]⟩))
theorem tr96_run (w : World) (b1 b2 b3 : Bool) (z : Bool) (hs : HL (tr96_sh z)) (p : Pos) (n τ : Nat) (lex ld sio sd fr dq1 dq2 : Nat) (κ : Nat → Tok) (T W : Str) (qd : Bool) (i ec : Nat) (tt pt k0 k1 k2 kn nt stt wt : Tok) : SH (VX w b1 b2 b3) false 20000 [] ⟨tr96_code z lex ld sio sd fr dq1 dq2 κ T W qd i ec tt pt k0 k1 k2 kn nt stt wt ,none,none,fillAll (tr96_sh z) hs,none⟩ p (rtTurn fr) (tr96_scr w.params n τ z lex ld sio sd fr dq1 dq2 κ T W qd i ec tt pt k0 k1 k2 kn nt stt wt ) (tabOf (tr96_lR w.params z lex ld sio sd fr dq1 dq2 κ T W qd i ec tt pt k0 k1 k2 kn nt stt wt ) 0 .nil) (tabOf (tr96_lT w.params z lex ld sio sd fr dq1 dq2 κ T W qd i ec tt pt k0 k1 k2 kn nt stt wt ) 0 .nil) 3 2 n 0 τ 0 [] [] := by
  cases z <;> cases b1 <;> exact runOf (adrs [fr,ld,sd] n) (adr1 [lex,sio]) (by kernel_rfl)
end Mine
end
section
open PySem PySem.W PyProof.Rows
namespace Mine
noncomputable def excO (a0 tb : Value) : Obj := ⟨.type SL.s6070975301684473832x10,none,.fields ⟨[a0,tb,.none,.none,.bool false,.none]⟩,#[]⟩
noncomputable def tbO (hd : Value) (f : Nat) (fl : Value) (pl : List Value) : Obj := ⟨.type SL.s6853684981869738458x9,none,.fields ⟨hd :: .ref f :: .none :: fl :: .none :: pl⟩,#[]⟩
noncomputable def PlOk (l : List Value) : Prop := ∃ pl,IsPlace pl ∧ l = if pl.isEmpty then List.replicate 6 Value.none else pl
section
variable {M : Model} {A : Around} {E : Value → Shared → Prop} {s : Shared}
theorem frameOf_ready {env : Env} {outer : List Env} {L : Addr} {o : Obj} {Q : Value → Shared → Prop} (hfr : A.frames = some (env :: outer)) (hf : env.frame = some L) (ho : s.heap.get? L = some o) (hr : (o.slots.getD 3 none).isSome = true) (h : Q (.ref L) s) : wpAny M A (PySem.frameOf env) Q E s := by
  unfold PySem.frameOf
  refine wpAny_bind (wpAny_frameEnvs hfr ?_)
  have hdw : ((env :: outer).dropWhile fun x => x.frame != env.frame) = env :: outer := by simp [List.dropWhile]
  rw [hdw]
  unfold frameObject
  refine wpAny_bind (wpAny_bind ?_)
  simp only [readyFrames,hf]
  refine wpAny_bind (wpAny_load ho ?_)
  rw [if_pos hr]
  exact wpAny_pure (wpAny_pure (wpAny_pure h))
theorem entry_new {L e : Addr} {a0 tb head : Value} {b : Bool} {Q : Unit → Shared → Prop} (he : s.heap.get? e = some (excO a0 tb))
    (h : ∀ h' pl',PlOk pl' → h'.objs.size = s.heap.objs.size + 1 → h'.get? e = some (excO a0 (.ref s.heap.objs.size)) → h'.get? s.heap.objs.size = some (tbO head L (rawInt L) pl') → (∀ c o,c ≠ e → s.heap.get? c = some o → h'.get? c = some o) → Q () { s with heap := h' }) :
    wpAny M A (entryPlaceOf L b >>= fun pl => EntryCells.newEntry head (.ref L) .none (rawInt L) .none pl >>= fun t => setField (.ref e) 1 t) Q E s := by
  refine wpAny_bind (wpAny_entryPlaceOf fun pl hpl => ?_)
  unfold EntryCells.newEntry newFields
  refine wpAny_bind (wpAny_newObj_type ?_ (hpl.sizeOk5 _ _ _ _ _))
  have he' := Heap.get?_push_of_some (h := s.heap) { cls := .type "traceback", dict := none, data := .fields ([head, .ref L, .none, rawInt L, .none] ++ (if pl.isEmpty then List.replicate 6 Value.none else pl)).toArray } he
  have hne : s.heap.objs.size ≠ e := Nat.ne_of_gt (Heap.lt_size he)
  refine wpAny_setField he' rfl (by simp) ?_
  refine h _ (if pl.isEmpty then List.replicate 6 Value.none else pl) ⟨pl,hpl,rfl⟩ ?_ ?_ ?_ fun c o hc ho => ?_
  · rw [(Heap.SameBut.update _ e _).1,Heap.size_push]
  · exact Heap.get?_update_self _ he' rfl
  · rw [Heap.get?_update_other _ _ (Ne.symm hne),Heap.get?_push_size _ rfl]
    unfold tbO
    rw [← SL.e6853684981869738458x9]
    rfl
  · rw [Heap.get?_update_other _ _ (Ne.symm hc)]
    exact Heap.get?_push_of_some _ ho
theorem note_next {env : Env} {outer : List Env} {L e T f' : Addr} {oL : Obj} {a0 hdv : Value} {pl : List Value} {Q : Unit → Shared → Prop} (hfr : A.frames = some (env :: outer)) (hf : env.frame = some L) (hL : s.heap.get? L = some oL) (hr : (oL.slots.getD 3 none).isSome = true)
    (he : s.heap.get? e = some (excO a0 (.ref T))) (hT : s.heap.get? T = some (tbO hdv f' .none pl)) (hTe : T ≠ e) (hLT : L ≠ T)
    (h : ∀ h' pl',PlOk pl' → h'.objs.size = s.heap.objs.size + 1 → h'.get? e = some (excO a0 (.ref s.heap.objs.size)) → h'.get? s.heap.objs.size = some (tbO (.ref T) L (rawInt L) pl') → (∀ c o,c ≠ e → c ≠ T → s.heap.get? c = some o → h'.get? c = some o) → Q () { s with heap := h' }) :
    wpAny M A (noteFrame (.ref e) env) Q E s := by
  unfold noteFrame
  simp only [hf]
  refine wpAny_bind (wpAny_field he rfl (x := .ref T) rfl ?_)
  rw [if_pos (show (Value.ref T != Value.none) = true from by simp)]
  refine wpAny_bind (wpAny_field hT rfl (x := .none) rfl ?_)
  rw [if_neg (show ¬ ((Value.none == rawInt L) = true) from by simp [rawInt])]
  refine wpAny_bind (wpAny_setField hT rfl (by simp) ?_)
  have other : ∀ b,b ≠ T → (s.heap.update T (Obj.mapFields (·.setIfInBounds 3 Value.none))).get? b = s.heap.get? b := fun b hb => Heap.get?_update_other _ _ (Ne.symm hb)
  refine wpAny_bind (frameOf_ready hfr hf ((other L hLT).trans hL) hr ?_)
  have sz : (s.heap.update T (Obj.mapFields (·.setIfInBounds 3 Value.none))).objs.size = s.heap.objs.size := (Heap.SameBut.update _ T _).1
  refine entry_new (a0 := a0) (tb := .ref T) ((other e (Ne.symm hTe)).trans he) fun h' pl' k1 k2 k3 k4 k5 => ?_
  rw [sz] at k2 k3 k4
  exact h h' pl' k1 k2 k3 k4 fun c o c1 c2 ho => k5 c o c1 ((other c c2).trans ho)
theorem note_again {env : Env} {L e T f' : Addr} {a0 hdv : Value} {pl : List Value} {Q : Unit → Shared → Prop} (hf : env.frame = some L)
    (he : s.heap.get? e = some (excO a0 (.ref T))) (hT : s.heap.get? T = some (tbO hdv f' (rawInt L) pl)) (h : Q () s) : wpAny M A (noteFrame (.ref e) env) Q E s := by
  unfold noteFrame
  simp only [hf]
  refine wpAny_bind (wpAny_field he rfl (x := .ref T) rfl ?_)
  rw [if_pos (show (Value.ref T != Value.none) = true from by simp)]
  refine wpAny_bind (wpAny_field hT rfl (x := rawInt L) rfl ?_)
  rw [if_pos (show (rawInt L == rawInt L) = true from by simp)]
  exact wpAny_pure h
theorem lands {e T f' : Addr} {a0 hdv fl : Value} {pl : List Value} {Q : Unit → Shared → Prop} (he : s.heap.get? e = some (excO a0 (.ref T))) (hT : s.heap.get? T = some (tbO hdv f' fl pl))
    (h : ∀ h',h'.objs.size = s.heap.objs.size → h'.get? T = some (tbO hdv f' .none pl) → (∀ c,c ≠ T → h'.get? c = s.heap.get? c) → Q () { s with heap := h' }) : wpAny M A (setFlight (.ref e) none) Q E s := by
  unfold setFlight
  refine wpAny_bind (wpAny_field he rfl (x := .ref T) rfl ?_)
  rw [if_pos (show (Value.ref T != Value.none) = true from by simp)]
  refine wpAny_setField hT rfl (by simp) (h _ (Heap.SameBut.update _ T _).1 (Heap.get?_update_self _ hT rfl) fun c hc => Heap.get?_update_other _ _ (Ne.symm hc))
noncomputable def rdSl (code : Value) (back : Value) (fn : Option Value) (sl : Array (Option Value)) : Array (Option Value) :=
  #[some code,some (.ref 3),sl.getD 2 none,some back,sl.getD 4 none,fn,some (.ref 0)] ++ #[]
noncomputable def bk (i : Nat) : Value := match i with
  | 0 => .none
  | _ => .notImplemented
noncomputable def law0Sl (i : Nat) (code : Value) (fn : Option Value) (sl : Array (Option Value)) : Array (Option Value) := match sl.getD 3 none with
  | some _ => sl
  | none => rdSl code (bk i) fn sl
structure PlainEnv (env : Env) (L : Addr) : Prop where
  frame : env.frame = some L
  kind : env.scope.kind ≠ .module
  gen : env.scope.isGenerator = false
  cor : env.scope.isCoroutine = false
  glob : env.globals = 3
  bi : env.builtins = 0
  cells : env.cells = []
theorem ready_step {env caller : Env} {outer : List Env} {L Lc : Addr} {o : Obj} {Q : Unit → Shared → Prop} (P : PlainEnv env L) (hc : caller.frame = some Lc) (ho : s.heap.get? L = some o) (hf : o.isFreed = false) (hn : (o.slots.getD 3 none).isSome = false)
    (h : ∀ h',Heap.SameBut L s.heap h' → h'.get? L = some { o with slots := rdSl env.code (.ref Lc) (env.func.map Value.ref) o.slots } → wpAny M A (readyFrames (caller :: outer)) Q E { s with heap := h' }) : wpAny M A (readyFrames (env :: caller :: outer)) Q E s := by
  simp only [readyFrames,P.frame]
  refine wpAny_bind (wpAny_load ho ?_)
  rw [if_neg (by rw [hn]; exact Bool.false_ne_true)]
  refine wpAny_bind (wpAny_of_eq (a := false) (by simp [behindIsImport,P.kind]) ?_)
  refine wpAny_bind (wpAny_of_eq (a := Value.ref Lc) (by simp [keptBack,P.gen,P.cor,hc]) ?_)
  refine wpAny_bind (wpAny_update ho ?_)
  rw [P.glob,P.bi,P.cells]
  refine h _ (Heap.SameBut.update ..) ?_
  have hf2 : ({ o with slots := rdSl env.code (.ref Lc) (env.func.map Value.ref) o.slots } : Obj).isFreed = false := by
    obtain ⟨c,d,dt,sl⟩ := o; cases dt <;> first | rfl | exact hf
  exact Heap.get?_update_self _ ho hf2
theorem keptBack_last {env : Env} {L : Addr} {Q : Value → Shared → Prop} (P : PlainEnv env L) (h : ∀ i : Nat,Q (bk i) s) : wpAny M A (keptBack env false []) Q E s := by
  unfold keptBack
  rw [P.gen,P.cor,if_neg (by decide)]
  refine wpAny_bind (wpAny_underTheClaimsCaller fun b => wpAny_pure ?_)
  cases b
  · exact h 0
  · exact h 1
theorem ready_last {env : Env} {L : Addr} {o : Obj} {Q : Unit → Shared → Prop} (P : PlainEnv env L) (ho : s.heap.get? L = some o) (hf : o.isFreed = false)
    (h : ∀ h' i,Heap.SameBut L s.heap h' → h'.get? L = some { o with slots := law0Sl i env.code (env.func.map Value.ref) o.slots } → Q () { s with heap := h' }) : wpAny M A (readyFrames [env]) Q E s := by
  simp only [readyFrames,P.frame]
  refine wpAny_bind (wpAny_load ho ?_)
  cases hr : (o.slots.getD 3 none) with
  | some v =>
    rw [if_pos (show (some v).isSome = true from rfl)]
    refine wpAny_pure (h _ 0 (.refl ..) ?_)
    unfold law0Sl
    rw [hr]
    exact ho
  | none =>
    rw [if_neg (show ¬ ((none : Option Value).isSome = true) from Bool.false_ne_true)]
    refine wpAny_bind (wpAny_of_eq (a := false) (by simp [behindIsImport,P.kind]) ?_)
    refine wpAny_bind (keptBack_last P fun i => ?_)
    refine wpAny_bind (wpAny_update ho ?_)
    rw [P.glob,P.bi,P.cells]
    refine wpAny_pure (h _ i (Heap.SameBut.update ..) ?_)
    have e : law0Sl i env.code (env.func.map Value.ref) o.slots = rdSl env.code (bk i) (env.func.map Value.ref) o.slots := by
      unfold law0Sl; rw [hr]
    rw [e]
    have hf2 : ({ o with slots := rdSl env.code (bk i) (env.func.map Value.ref) o.slots } : Obj).isFreed = false := by
      obtain ⟨c,d,dt,sl⟩ := o; cases dt <;> first | rfl | exact hf
    exact Heap.get?_update_self _ ho hf2
end
end Mine
end
section
open PySem PySem.W PyProof.Rows
namespace Mine
noncomputable def gtEnv (fr : Nat) : Env := { scope := scAt [19,5],locals := fr,globals := 3,cells := [],qual := u [115,104,108,101,120,46,103,101,116,95,116,111,107,101,110,46,60,108,111,99,97,108,115,62,46],func := some 683,code := .ref 682,frame := some fr,builtins := 0 }
noncomputable def tkEnv (fr : Nat) : Env := { scope := scAt [31],locals := fr,globals := 3,cells := [],qual := u [95,108,97,119,95,116,111,107,101,110,46,60,108,111,99,97,108,115,62,46],func := some 782,code := .ref 781,frame := some fr,builtins := 0 }
noncomputable def lwEnv (fr : Nat) : Env := { scope := scAt [32],locals := fr,globals := 3,cells := [],qual := u [108,97,119,46,60,108,111,99,97,108,115,62,46],func := some 787,code := .ref 786,frame := some fr,builtins := 0 }
noncomputable def rtFn (fr : Nat) : Code := .func (bodyAt [19,6]) (rtEnv fr)
noncomputable def gtFn (fr : Nat) : Code := .func (bodyAt [19,5]) (gtEnv fr)
noncomputable def tkFn (fr : Nat) : Code := .func (bodyAt [31]) (tkEnv fr)
noncomputable def lwFn (fr : Nat) : Code := .func (bodyAt [32]) (lwEnv fr)
noncomputable def shY (f0 : Nat) : Bool → List Sk
  | true => [.frl,.frl,.code (lwFn f0),.blt SL.s11611643536802374852x12]
  | false => [.frl,.code (lwFn f0),.blt SL.s11611643536802374852x12]
noncomputable def sh1 (z : Bool) (f1 f0 : Nat) : List Sk := .code (tkFn f1) :: shY f0 z
noncomputable def sh2 (z : Bool) (f2 f1 f0 : Nat) : List Sk := .code (gtFn f2) :: sh1 z f1 f0
noncomputable def sh3 (z : Bool) (f3 f2 f1 f0 : Nat) : List Sk := .code (rtFn f3) :: sh2 z f2 f1 f0
theorem envs0 (z : Bool) (f0 : Nat) (hs : HL (shY f0 z)) : envsOf (fillAll (shY f0 z) hs) = [lwEnv f0] := by cases z <;> kernel_rfl
theorem envs1 (z : Bool) (f1 f0 : Nat) (hs : HL (sh1 z f1 f0)) : envsOf (fillAll (sh1 z f1 f0) hs) = [tkEnv f1,lwEnv f0] := by cases z <;> kernel_rfl
theorem envs2 (z : Bool) (f2 f1 f0 : Nat) (hs : HL (sh2 z f2 f1 f0)) : envsOf (fillAll (sh2 z f2 f1 f0) hs) = [gtEnv f2,tkEnv f1,lwEnv f0] := by cases z <;> kernel_rfl
theorem envs3 (z : Bool) (f3 f2 f1 f0 : Nat) (hs : HL (sh3 z f3 f2 f1 f0)) : envsOf (fillAll (sh3 z f3 f2 f1 f0) hs) = [rtEnv f3,gtEnv f2,tkEnv f1,lwEnv f0] := by cases z <;> kernel_rfl
theorem plainRt (f : Nat) : PlainEnv (rtEnv f) f := ⟨rfl,(by decide +kernel : (scAt [19,6]).kind ≠ .module),by kernel_rfl,by kernel_rfl,rfl,rfl,rfl⟩
theorem plainGt (f : Nat) : PlainEnv (gtEnv f) f := ⟨rfl,(by decide +kernel : (scAt [19,5]).kind ≠ .module),by kernel_rfl,by kernel_rfl,rfl,rfl,rfl⟩
theorem plainTk (f : Nat) : PlainEnv (tkEnv f) f := ⟨rfl,(by decide +kernel : (scAt [31]).kind ≠ .module),by kernel_rfl,by kernel_rfl,rfl,rfl,rfl⟩
theorem plainLw (f : Nat) : PlainEnv (lwEnv f) f := ⟨rfl,(by decide +kernel : (scAt [32]).kind ≠ .module),by kernel_rfl,by kernel_rfl,rfl,rfl,rfl⟩
theorem at_ctx {M : Model} {α : Type} {Γ : Ctx} {fs : List Env} (h0 : Γ.handled = none) (hf : Γ.code.envs ++ envsOf Γ.below = fs) {t : Sem α} {Q : α → Shared → Prop} {E : Value → Shared → Prop} {p : Pos} {s : Shared}
    (h : ∀ A : Around,A.frames = some fs → A.handled = none → wpAny M A t Q E s) : Sem.wp M Γ t (fun a _ s' => Q a s') (fun e _ s' => E e s') p s :=
  h ⟨Γ.handled,frameCount Γ.below + Γ.code.weight,some fs,none,Γ.units⟩ rfl h0 Γ p ⟨rfl,Nat.le_refl _,fun l hl => by cases hl; exact hf,nofun,Nat.le_refl _⟩
theorem wp_tree {V : HV} (O : V.Ok) {Q : Except Value PySem.Fin → Shared → Prop} {fuel : Nat} {Γ : Ctx} {p : Pos} {s : Shared} {S : Scr} {lT lR : List Ent} {t : Sem PySem.Fin}
    (run : SH V false fuel [] Γ p t S (tabOf lR 0 .nil) (tabOf lT 0 .nil) lT.length lR.length s.heap.objs.size 0 s.toks 0 [] [])
    (ok : (tabOk lT 0 .nil && tabOk lR 0 .nil) = true) (htop : ∀ i ob,V.top i = some ob → s.heap.get? i = some ob)
    (hT : ∀ x ∈ lT,s.heap.get? x.1 = some x.2) (hR : ∀ x ∈ lR,s.heap.get? x.1 = some x.2) (hnd : (lT.map (·.1)).Nodup) (hsep : ∀ x ∈ lT,∀ y ∈ lR,x.1 ≠ y.1) (ht : ∀ x ∈ lT,∀ ob,V.top x.1 ≠ some ob)
    (hF : FinOk V Q s (fun a => a ∈ lT.map (·.1)) lT.length S) : Sem.wp (VM V) Γ t (fun fin _ s' => Q (.ok fin) s') (fun e _ s' => Q (.error e) s') p s := by
  have D := Mt.start (V := V) (s := s) (A₀ := fun a => a ∈ lT.map (·.1)) lT lR ok htop hT hR hnd hsep ht fun x hx => List.mem_map_of_mem hx
  exact simH_sound O _ _ _ _ _ _ _ _ _ _ _ _ _ _ _ _ s (SH_simH run) D hF
noncomputable def plOf (β : Nat → Nat) : List Value := match β 0 with
  | 0 => List.replicate 6 .none
  | _ => [rawInt ((β 1 : Int) - (β 2 : Int)),rawInt ((β 3 : Int) - (β 4 : Int)),rawInt ((β 5 : Int) - (β 6 : Int)),rawInt ((β 7 : Int) - (β 8 : Int)),(match β 9 with | 0 => .none | _ => .str ⟨⟨(List.range (β 11)).map fun k => β (12 + k)⟩⟩ 0),.bool (Nat.beq (β 10) 1)]
noncomputable def plB (a b c d e f g h i j k : Nat) (l : List Nat) : Nat → Nat
  | 0 => 1 | 1 => a | 2 => b | 3 => c | 4 => d | 5 => e | 6 => f | 7 => g | 8 => h | 9 => i | 10 => j | 11 => k
  | n + 12 => l.getD n 0
theorem range_getD (l : List Nat) : ((List.range l.length).map fun k => l.getD k 0) = l := by
  apply List.ext_getElem
  · simp
  · intro i h1 h2
    simp at h1
    simp [h2]
theorem plOf_onto {l : List Value} (h : PlOk l) : ∃ β,l = plOf β := by
  obtain ⟨pl,hp,rfl⟩ := h
  rcases hp with rfl | ⟨a,b,c,d,c9,b10,h9,rfl⟩
  · exact ⟨fun _ => 0,rfl⟩
  · have z : ∀ x : Int,((x.toNat : Int) - ((-x).toNat : Int)) = x := fun x => by omega
    have hb : ∃ j,Nat.beq j 1 = b10 := by
      cases b10
      · exact ⟨0,rfl⟩
      · exact ⟨1,rfl⟩
    obtain ⟨j,hj⟩ := hb
    rcases h9 with rfl | ⟨x,rfl⟩
    · refine ⟨plB a.toNat (-a).toNat b.toNat (-b).toNat c.toNat (-c).toNat d.toNat (-d).toNat 0 j 0 [],?_⟩
      show _ = [rawInt _,rawInt _,rawInt _,rawInt _,_,Value.bool (Nat.beq j 1)]
      simp only [plB,z,hj]
      rfl
    · refine ⟨plB a.toNat (-a).toNat b.toNat (-b).toNat c.toNat (-c).toNat d.toNat (-d).toNat 1 j x.cps.toList.length x.cps.toList,?_⟩
      show _ = [rawInt _,rawInt _,rawInt _,rawInt _,Value.str ⟨⟨(List.range x.cps.toList.length).map fun k => plB a.toNat (-a).toNat b.toNat (-b).toNat c.toNat (-c).toNat d.toNat (-d).toNat 1 j x.cps.toList.length x.cps.toList (12 + k)⟩⟩ 0,Value.bool (Nat.beq j 1)]
      have e : (fun k => plB a.toNat (-a).toNat b.toNat (-b).toNat c.toNat (-c).toNat d.toNat (-d).toNat 1 j x.cps.toList.length x.cps.toList (12 + k)) = fun k => x.cps.toList.getD k 0 := by
        funext k
        rw [Nat.add_comm]
        rfl
      rw [e,range_getD]
      simp only [plB,z,hj]
      rfl
noncomputable def rtT : PySem.Expr := match ((bodyAt [19,6])[2]? : Option Stmt) with
  | some (Stmt.While t _ _ _) => t
  | _ => default
noncomputable def rtB : List Stmt := match ((bodyAt [19,6])[2]? : Option Stmt) with
  | some (Stmt.While _ b _ _) => b
  | _ => []
noncomputable def rtO : List Stmt := match ((bodyAt [19,6])[2]? : Option Stmt) with
  | some (Stmt.While _ _ o _) => o
  | _ => []
theorem rtWhile_eq (fr : Nat) : rtWhile fr = .whileLoop rtT rtB rtO (rtEnv fr) := by kernel_rfl
theorem rtTurn_eq (fr : Nat) : rtTurn fr = whileTurn rtT rtB rtO (rtEnv fr) := by kernel_rfl
end Mine
end
section
open PySem PySem.W PyProof.Rows
namespace Mine
section
variable {M : Model} {A : Around} {E : Value → Shared → Prop} {s : Shared}
theorem note_first {env3 env2 env1 env0 : Env} {f3 f2 f1 f0 e : Addr} {o3 o2 o1 o0 : Obj} {a0 : Value} {Q : Unit → Shared → Prop} (hfr : A.frames = some [env3,env2,env1,env0]) (P3 : PlainEnv env3 f3) (P2 : PlainEnv env2 f2) (P1 : PlainEnv env1 f1) (P0 : PlainEnv env0 f0)
    (g3 : s.heap.get? f3 = some o3) (g2 : s.heap.get? f2 = some o2) (g1 : s.heap.get? f1 = some o1) (g0 : s.heap.get? f0 = some o0) (ge : s.heap.get? e = some (excO a0 .none))
    (w3 : o3.isFreed = false) (w2 : o2.isFreed = false) (w1 : o1.isFreed = false) (w0 : o0.isFreed = false) (n3 : (o3.slots.getD 3 none).isSome = false) (n2 : (o2.slots.getD 3 none).isSome = false) (n1 : (o1.slots.getD 3 none).isSome = false)
    (d32 : f3 ≠ f2) (d31 : f3 ≠ f1) (d30 : f3 ≠ f0) (d21 : f2 ≠ f1) (d20 : f2 ≠ f0) (d10 : f1 ≠ f0) (e3 : e ≠ f3) (e2 : e ≠ f2) (e1 : e ≠ f1) (e0 : e ≠ f0)
    (h : ∀ h' pl i,PlOk pl → h'.objs.size = s.heap.objs.size + 1 → h'.get? e = some (excO a0 (.ref s.heap.objs.size)) → h'.get? s.heap.objs.size = some (tbO .none f3 (rawInt f3) pl) →
      h'.get? f3 = some { o3 with slots := rdSl env3.code (.ref f2) (env3.func.map Value.ref) o3.slots } → h'.get? f2 = some { o2 with slots := rdSl env2.code (.ref f1) (env2.func.map Value.ref) o2.slots } →
      h'.get? f1 = some { o1 with slots := rdSl env1.code (.ref f0) (env1.func.map Value.ref) o1.slots } → h'.get? f0 = some { o0 with slots := law0Sl i env0.code (env0.func.map Value.ref) o0.slots } →
      (∀ c o,c ≠ e → c ≠ f3 → c ≠ f2 → c ≠ f1 → c ≠ f0 → s.heap.get? c = some o → h'.get? c = some o) → Q () { s with heap := h' }) : wpAny M A (noteFrame (.ref e) env3) Q E s := by
  unfold noteFrame
  simp only [P3.frame]
  refine wpAny_bind (wpAny_field ge rfl (x := .none) rfl ?_)
  rw [if_neg (by decide)]
  unfold PySem.frameOf
  refine wpAny_bind (wpAny_bind (wpAny_frameEnvs hfr ?_))
  have hdw : ([env3,env2,env1,env0].dropWhile fun x => x.frame != env3.frame) = [env3,env2,env1,env0] := by simp [List.dropWhile]
  rw [hdw]
  unfold frameObject
  refine wpAny_bind (wpAny_bind ?_)
  refine ready_step P3 P2.frame g3 w3 n3 fun h₁ s₁ k3 => ?_
  refine ready_step (s := { s with heap := h₁ }) P2 P1.frame ((s₁.2 f2 d32.symm).trans g2) w2 n2 fun h₂ s₂ k2 => ?_
  refine ready_step (s := { s with heap := h₂ }) P1 P0.frame ((s₂.2 f1 d21.symm).trans ((s₁.2 f1 d31.symm).trans g1)) w1 n1 fun h₃ s₃ k1 => ?_
  refine ready_last (s := { s with heap := h₃ }) P0 ((s₃.2 f0 d10.symm).trans ((s₂.2 f0 d20.symm).trans ((s₁.2 f0 d30.symm).trans g0))) w0 fun h₄ i s₄ k0 => ?_
  refine wpAny_pure ?_
  rw [P3.frame]
  refine wpAny_pure ?_
  have sz : h₄.objs.size = s.heap.objs.size := by rw [s₄.1,s₃.1,s₂.1,s₁.1]
  have other : ∀ c,c ≠ f3 → c ≠ f2 → c ≠ f1 → c ≠ f0 → h₄.get? c = s.heap.get? c := fun c c3 c2 c1 c0 => (s₄.2 c c0).trans ((s₃.2 c c1).trans ((s₂.2 c c2).trans (s₁.2 c c3)))
  refine entry_new (s := { s with heap := h₄ }) (a0 := a0) (tb := .none) ((other e e3 e2 e1 e0).trans ge) fun h' pl' q1 q2 q3 q4 q5 => ?_
  dsimp only at q2 q3 q4 q5
  rw [sz] at q2 q3 q4
  exact h h' pl' i q1 q2 q3 q4 (q5 _ _ e3.symm ((s₄.2 _ d30).trans ((s₃.2 _ d31).trans ((s₂.2 _ d32).trans k3)))) (q5 _ _ e2.symm ((s₄.2 _ d20).trans ((s₃.2 _ d21).trans k2))) (q5 _ _ e1.symm ((s₄.2 _ d10).trans k1)) (q5 _ _ e0.symm k0)
    fun c o ce c3 c2 c1 c0 ho => q5 c o ce ((other c c3 c2 c1 c0).trans ho)
end
noncomputable def frmO (dat : Data) (sl : Array (Option Value)) : Obj := ⟨.type SL.s658472552662922059x5,none,dat,sl⟩
noncomputable def slG (f1 : Nat) : Array (Option Value) := rdSl (.ref 682) (.ref f1) (some (.ref 683)) #[]
noncomputable def slT (f0 : Nat) : Array (Option Value) := rdSl (.ref 781) (.ref f0) (some (.ref 782)) #[]
noncomputable def slL (i : Nat) (sl : Array (Option Value)) : Array (Option Value) := law0Sl i (.ref 786) (some (.ref 787)) sl
end Mine
end
section
open PySem PySem.W PyProof.Rows
namespace Mine
theorem not_freed {h : Heap} {a : Addr} {o : Obj} (g : h.get? a = some o) : o.isFreed = false := (Heap.get?_some_iff.mp g).2
structure Fx where
  f2 : Nat
  f1 : Nat
  f0 : Nat
  d2 : Data
  d1 : Data
  d0 : Data
  sl : Array (Option Value)
structure Fx.Ok (y : Fx) (x : Lx) : Prop where
  a2 : y.f2 ≠ x.fr
  b2 : y.f2 ≠ x.ld
  c2 : y.f2 ≠ x.sd
  a1 : y.f1 ≠ x.fr
  b1 : y.f1 ≠ x.ld
  c1 : y.f1 ≠ x.sd
  a0 : y.f0 ≠ x.fr
  b0 : y.f0 ≠ x.ld
  c0 : y.f0 ≠ x.sd
  d21 : y.f2 ≠ y.f1
  d20 : y.f2 ≠ y.f0
  d10 : y.f1 ≠ y.f0
structure Fx.At (y : Fx) (s : Shared) : Prop where
  g2 : s.heap.get? y.f2 = some (frmO y.d2 #[])
  g1 : s.heap.get? y.f1 = some (frmO y.d1 #[])
  g0 : s.heap.get? y.f0 = some (frmO y.d0 y.sl)
theorem Fx.At.next {y : Fx} {x : Lx} (O : y.Ok x) {s s' : Shared} (k : x.Kept s s') (g : y.At s) : y.At s' := ⟨k.keep _ _ g.g2 O.a2 O.b2 O.c2,k.keep _ _ g.g1 O.a1 O.b1 O.c1,k.keep _ _ g.g0 O.a0 O.b0 O.c0⟩
structure Raised0 (x : Lx) (y : Fx) (P : Params) (q : Nat) (W : Str) (s s' : Shared) (e T a0 kn nt stt wt pt i : Nat) (β : Nat → Nat) : Prop where
  fr : s'.heap.get? x.fr = some { rtFB P x.lex x.κ true (u []) kn nt with slots := rdSl (.ref 689) (.ref y.f2) (some (.ref 690)) #[] }
  ld : s'.heap.get? x.ld = some (lexO P x.sio x.dq1 x.dq2 x.κ (.str (u [q]) stt) W wt)
  sd : s'.heap.get? x.sd = some (sdO P x.T (x.T.length : Nat) x.tt pt x.k0 x.k1 x.k2)
  f2 : s'.heap.get? y.f2 = some (frmO y.d2 (slG y.f1))
  f1 : s'.heap.get? y.f1 = some (frmO y.d1 (slT y.f0))
  f0 : s'.heap.get? y.f0 = some (frmO y.d0 (slL i y.sl))
  he : s'.heap.get? e = some (excO (.ref a0) (.ref T))
  hT : s'.heap.get? T = some (tbO .none x.fr (rawInt x.fr) (plOf β))
  ne : s.heap.objs.size ≤ e
  nT : s.heap.objs.size ≤ T
  eT : e ≠ T
  keep : ∀ c o,s.heap.get? c = some o → c ≠ x.fr → c ≠ x.ld → c ≠ x.sd → c ≠ y.f2 → c ≠ y.f1 → c ≠ y.f0 → s'.heap.get? c = some o
  grow : s.heap.objs.size ≤ s'.heap.objs.size
  gens : s'.gens = s.gens
  drawn : s'.drawn = s.drawn
  os : s'.os = s.os
noncomputable def RunR (w : World) (b1 b2 b3 z : Bool) (q : Nat) : Prop := ∀ (x : Lx) (W : Str) (qd : Bool) (i ec : Nat) (pt kn nt stt wt : Tok) (hi : i = x.T.length) (hl : x.T.length ≤ 1000) (hs : HL (tr39_sh z)) (p : Pos) (s : Shared),
  (∀ a ob,topF w.params a = some ob → s.heap.get? a = some ob) → s.heap.get? x.fr = some (rtFB w.params x.lex x.κ qd (u [ec]) kn nt) → s.heap.get? x.ld = some (lexO w.params x.sio x.dq1 x.dq2 x.κ (.str (u [q]) stt) W wt) → s.heap.get? x.sd = some (sdO w.params x.T i x.tt pt x.k0 x.k1 x.k2) →
  s.heap.get? x.lex = some (insO 722 x.ld) → s.heap.get? x.sio = some (insO 587 x.sd) → x.Ok w.params →
  Sem.wp (VM (VX w b1 b2 b3)) ⟨rtWhile x.fr,none,none,fillAll (tr39_sh z) hs,none⟩ (rtTurn x.fr) (fun _ _ _ => False) (fun v _ s' => ∃ e a0 tk1,v = .ref e ∧ s.heap.objs.size ≤ e ∧
    s'.heap.get? e = some (excO (.ref a0) .none) ∧ s'.heap.get? x.ld = some (lexO w.params x.sio x.dq1 x.dq2 x.κ (.str (u [q]) stt) W wt) ∧ s'.heap.get? x.sd = some (sdO w.params x.T i x.tt pt x.k0 x.k1 x.k2) ∧ s'.heap.get? x.fr = some (rtFB w.params x.lex x.κ true (u []) kn tk1) ∧ x.Kept s s') p s
theorem runR39 (w : World) (b1 b2 b3 z : Bool) : RunR w b1 b2 b3 z 39 := by
  intro x W qd i ec pt kn nt stt wt hi hl hs p s htop g3 g1 g2 gx gs K
  have := wp_tree (VX_ok w b1 b2 b3) (Q := fun r s' => match r with
    | .ok _ => False
    | .error v => ∃ e a0 tk1,v = .ref e ∧ s.heap.objs.size ≤ e ∧ s'.heap.get? e = some (excO (.ref a0) .none) ∧ s'.heap.get? x.ld = some (lexO w.params x.sio x.dq1 x.dq2 x.κ (.str (u [39]) stt) W wt) ∧ s'.heap.get? x.sd = some (sdO w.params x.T i x.tt pt x.k0 x.k1 x.k2) ∧ s'.heap.get? x.fr = some (rtFB w.params x.lex x.κ true (u []) kn tk1) ∧ x.Kept s s')
    (lT := [(x.fr,rtFB w.params x.lex x.κ qd (u [ec]) kn nt),(x.ld,lexO w.params x.sio x.dq1 x.dq2 x.κ (.str (u [39]) stt) W wt),(x.sd,sdO w.params x.T i x.tt pt x.k0 x.k1 x.k2)]) (lR := [(x.lex,insO 722 x.ld),(x.sio,insO 587 x.sd)])
    (tr39_run w b1 b2 b3 z hs p s.heap.objs.size s.toks x.lex x.ld x.sio x.sd x.fr x.dq1 x.dq2 x.κ x.T W qd i ec x.tt pt x.k0 x.k1 x.k2 kn nt stt wt) rfl htop (fun y hy => ?_) (fun y hy => ?_) (by simp [K.d12,K.d13,K.d23]) (fun y hy v hv => ?_) (fun y hy => ?_)
    ⟨vReadE rfl hi hl,fun α1 tk1 n1 τ1 _ s' L => ⟨_,_,tk1,rfl,L.new _ (.tail _ (.tail _ (.tail _ (.head _)))) (show 3 ≤ 5 by decide),L.at_ _ (.tail _ (.tail _ (.tail _ (.head _)))),L.at_ _ (.head _),L.at_ _ (.tail _ (.head _)),L.at_ _ (.tail _ (.tail _ (.head _))),.of L⟩⟩
  · exact this
  · simp only [List.mem_cons,List.not_mem_nil,or_false] at hy
    rcases hy with rfl | rfl | rfl <;> assumption
  · simp only [List.mem_cons,List.not_mem_nil,or_false] at hy
    rcases hy with rfl | rfl <;> assumption
  · simp only [List.mem_cons,List.not_mem_nil,or_false] at hy hv
    rcases hy with rfl | rfl | rfl <;> rcases hv with rfl | rfl
    · exact K.e11
    · exact K.e12
    · exact K.e21
    · exact K.e22
    · exact K.e31
    · exact K.e32
  · simp only [List.mem_cons,List.not_mem_nil,or_false] at hy
    rcases hy with rfl | rfl | rfl
    · exact K.t1
    · exact K.t2
    · exact K.t3
theorem runR34 (w : World) (b1 b2 b3 z : Bool) : RunR w b1 b2 b3 z 34 := by
  intro x W qd i ec pt kn nt stt wt hi hl hs p s htop g3 g1 g2 gx gs K
  have := wp_tree (VX_ok w b1 b2 b3) (Q := fun r s' => match r with
    | .ok _ => False
    | .error v => ∃ e a0 tk1,v = .ref e ∧ s.heap.objs.size ≤ e ∧ s'.heap.get? e = some (excO (.ref a0) .none) ∧ s'.heap.get? x.ld = some (lexO w.params x.sio x.dq1 x.dq2 x.κ (.str (u [34]) stt) W wt) ∧ s'.heap.get? x.sd = some (sdO w.params x.T i x.tt pt x.k0 x.k1 x.k2) ∧ s'.heap.get? x.fr = some (rtFB w.params x.lex x.κ true (u []) kn tk1) ∧ x.Kept s s')
    (lT := [(x.fr,rtFB w.params x.lex x.κ qd (u [ec]) kn nt),(x.ld,lexO w.params x.sio x.dq1 x.dq2 x.κ (.str (u [34]) stt) W wt),(x.sd,sdO w.params x.T i x.tt pt x.k0 x.k1 x.k2)]) (lR := [(x.lex,insO 722 x.ld),(x.sio,insO 587 x.sd)])
    (tr34_run w b1 b2 b3 z hs p s.heap.objs.size s.toks x.lex x.ld x.sio x.sd x.fr x.dq1 x.dq2 x.κ x.T W qd i ec x.tt pt x.k0 x.k1 x.k2 kn nt stt wt) rfl htop (fun y hy => ?_) (fun y hy => ?_) (by simp [K.d12,K.d13,K.d23]) (fun y hy v hv => ?_) (fun y hy => ?_)
    ⟨vReadE rfl hi hl,fun α1 tk1 n1 τ1 _ s' L => ⟨_,_,tk1,rfl,L.new _ (.tail _ (.tail _ (.tail _ (.head _)))) (show 3 ≤ 5 by decide),L.at_ _ (.tail _ (.tail _ (.tail _ (.head _)))),L.at_ _ (.head _),L.at_ _ (.tail _ (.head _)),L.at_ _ (.tail _ (.tail _ (.head _))),.of L⟩⟩
  · exact this
  · simp only [List.mem_cons,List.not_mem_nil,or_false] at hy
    rcases hy with rfl | rfl | rfl <;> assumption
  · simp only [List.mem_cons,List.not_mem_nil,or_false] at hy
    rcases hy with rfl | rfl <;> assumption
  · simp only [List.mem_cons,List.not_mem_nil,or_false] at hy hv
    rcases hy with rfl | rfl | rfl <;> rcases hv with rfl | rfl
    · exact K.e11
    · exact K.e12
    · exact K.e21
    · exact K.e22
    · exact K.e31
    · exact K.e32
  · simp only [List.mem_cons,List.not_mem_nil,or_false] at hy
    rcases hy with rfl | rfl | rfl
    · exact K.t1
    · exact K.t2
    · exact K.t3
theorem runR96 (w : World) (b1 b2 b3 z : Bool) : RunR w b1 b2 b3 z 96 := by
  intro x W qd i ec pt kn nt stt wt hi hl hs p s htop g3 g1 g2 gx gs K
  have := wp_tree (VX_ok w b1 b2 b3) (Q := fun r s' => match r with
    | .ok _ => False
    | .error v => ∃ e a0 tk1,v = .ref e ∧ s.heap.objs.size ≤ e ∧ s'.heap.get? e = some (excO (.ref a0) .none) ∧ s'.heap.get? x.ld = some (lexO w.params x.sio x.dq1 x.dq2 x.κ (.str (u [96]) stt) W wt) ∧ s'.heap.get? x.sd = some (sdO w.params x.T i x.tt pt x.k0 x.k1 x.k2) ∧ s'.heap.get? x.fr = some (rtFB w.params x.lex x.κ true (u []) kn tk1) ∧ x.Kept s s')
    (lT := [(x.fr,rtFB w.params x.lex x.κ qd (u [ec]) kn nt),(x.ld,lexO w.params x.sio x.dq1 x.dq2 x.κ (.str (u [96]) stt) W wt),(x.sd,sdO w.params x.T i x.tt pt x.k0 x.k1 x.k2)]) (lR := [(x.lex,insO 722 x.ld),(x.sio,insO 587 x.sd)])
    (tr96_run w b1 b2 b3 z hs p s.heap.objs.size s.toks x.lex x.ld x.sio x.sd x.fr x.dq1 x.dq2 x.κ x.T W qd i ec x.tt pt x.k0 x.k1 x.k2 kn nt stt wt) rfl htop (fun y hy => ?_) (fun y hy => ?_) (by simp [K.d12,K.d13,K.d23]) (fun y hy v hv => ?_) (fun y hy => ?_)
    ⟨vReadE rfl hi hl,fun α1 tk1 n1 τ1 _ s' L => ⟨_,_,tk1,rfl,L.new _ (.tail _ (.tail _ (.tail _ (.head _)))) (show 3 ≤ 5 by decide),L.at_ _ (.tail _ (.tail _ (.tail _ (.head _)))),L.at_ _ (.head _),L.at_ _ (.tail _ (.head _)),L.at_ _ (.tail _ (.tail _ (.head _))),.of L⟩⟩
  · exact this
  · simp only [List.mem_cons,List.not_mem_nil,or_false] at hy
    rcases hy with rfl | rfl | rfl <;> assumption
  · simp only [List.mem_cons,List.not_mem_nil,or_false] at hy
    rcases hy with rfl | rfl <;> assumption
  · simp only [List.mem_cons,List.not_mem_nil,or_false] at hy hv
    rcases hy with rfl | rfl | rfl <;> rcases hv with rfl | rfl
    · exact K.e11
    · exact K.e12
    · exact K.e21
    · exact K.e22
    · exact K.e31
    · exact K.e32
  · simp only [List.mem_cons,List.not_mem_nil,or_false] at hy
    rcases hy with rfl | rfl | rfl
    · exact K.t1
    · exact K.t2
    · exact K.t3
theorem rt_raise {w : World} {b1 b2 b3 z : Bool} {x : Lx} {y : Fx} (K : x.Ok w.params) (O : y.Ok x) (hs : HL (sh3 z x.fr y.f2 y.f1 y.f0)) {Q : Result → Shared → Prop} {q : Nat} {W : Str} {qd : Bool} {i : Nat} {s : Shared} {p : Pos} (hq : q = 39 ∨ q = 34 ∨ q = 96) (hi : i = x.T.length) (hl : x.T.length ≤ 1000)
    (A : x.At w.params (q,W,qd) i s) (F : y.At s) (H : ∀ s' e T a0 kn nt stt wt pt i β,Raised0 x y w.params q W s s' e T a0 kn nt stt wt pt i β → Q (.error (.ref e)) s') :
    wpCode (VM (VX w b1 b2 b3)) ⟨rtWhile x.fr,none,none,fillAll (sh3 z x.fr y.f2 y.f1 y.f0) hs,none⟩ Q p s := by
  obtain ⟨ec,pt,kn,nt,stt,wt,g1,g2,g3⟩ := A.own
  dsimp only at g1 g3
  have R : RunR w b1 b2 b3 z q := by
    rcases hq with rfl | rfl | rfl
    · exact runR39 w b1 b2 b3 z
    · exact runR34 w b1 b2 b3 z
    · exact runR96 w b1 b2 b3 z
  rw [wpCode_iff_wp]
  have hd : (VM (VX w b1 b2 b3)).den (rtWhile x.fr) = (rtTurn x.fr).onRaise (fun v => do noteFrame v (rtEnv x.fr); theTreesLotGoes v) := by rw [rtWhile_eq,rtTurn_eq]; rfl
  show Sem.wp _ _ ((VM (VX w b1 b2 b3)).den (rtWhile x.fr)) _ _ p s
  rw [hd,Sem.wp_onRaise]
  obtain ⟨hs',hfl⟩ := fill_of (l := fillAll (sh3 z x.fr y.f2 y.f1 y.f0) hs) (ks := tr39_sh z) (by cases z <;> rfl)
  have r := R x W qd i ec pt kn nt stt wt hi hl hs' p s A.top g3 g1 g2 A.lex A.sio K
  rw [← hfl] at r
  refine Sem.wp_mono _ _ _ (fun _ _ _ h => h.elim) (fun v p' s' h => ?_) _ _ r
  obtain ⟨e,a0,tk1,rfl,hne,he,hld,hsd,hfr,k⟩ := h
  have F' := F.next O k
  have lt : ∀ {a o},s.heap.get? a = some o → e ≠ a := fun g z => absurd (Heap.lt_size g) (by rw [← z]; exact Nat.not_lt.mpr hne)
  refine at_ctx (Γ := ⟨rtWhile x.fr,none,none,fillAll (sh3 z x.fr y.f2 y.f1 y.f0) hs,none⟩) (fs := [rtEnv x.fr,gtEnv y.f2,tkEnv y.f1,lwEnv y.f0]) rfl (by rw [envs3]; kernel_rfl) (Q := fun _ s'' => Q (.error (.ref e)) s'') (E := fun v s'' => Q (.error v) s'') fun Ar hA hh => ?_
  refine wpAny_bind (note_first hA (plainRt _) (plainGt _) (plainTk _) (plainLw _) hfr F'.g2 F'.g1 F'.g0 he (not_freed hfr) (not_freed F'.g2) (not_freed F'.g1) (not_freed F'.g0) rfl rfl rfl
    O.a2.symm O.a1.symm O.a0.symm O.d21 O.d20 O.d10 (lt g3) (lt F.g2) (lt F.g1) (lt F.g0) fun h' pl i0 q1 q2 q3 q4 q5 q6 q7 q8 q9 => ?_)
  refine wpAny_theTreesLotGoes ?_
  obtain ⟨β,rfl⟩ := plOf_onto q1
  have lt' : s.heap.objs.size ≤ s'.heap.objs.size := k.grow
  have ee := Heap.lt_size he
  refine H _ e s'.heap.objs.size a0 kn tk1 stt wt pt i0 β ⟨q5,q9 _ _ (lt g1).symm K.d12.symm O.b2.symm O.b1.symm O.b0.symm hld,q9 _ _ (lt g2).symm K.d13.symm O.c2.symm O.c1.symm O.c0.symm (by rw [← hi]; exact hsd),q6,q7,q8,q3,q4,hne,lt',Nat.ne_of_lt ee,fun c o hc c1 c2 c3 c4 c5 c6 => q9 c o (lt hc).symm c1 c4 c5 c6 (k.keep c o hc c1 c2 c3),?_,k.gens,k.drawn,k.os⟩
  show s.heap.objs.size ≤ h'.objs.size
  omega
end Mine
end
section
open PySem PySem.W PyProof.Rows
namespace Mine
noncomputable def al9 (e T kn nt stt wt pt i a0 : Nat) (β : Nat → Nat) : Nat → Nat
  | 0 => e | 1 => T | 2 => kn | 3 => nt | 4 => stt | 5 => wt | 6 => pt | 7 => i | 8 => a0
  | k + 9 => β k
noncomputable def oLoopR (P : Params) (sh : List Sk) (kf kl ks kx ky k2 k1 k0 : Nat) (x : Lx) (y : Fx) (q : Nat) (W : Str) (stt wt pt : Tok) : Spec :=
  ⟨rtWhile x.fr,sh,[(3 * kf + 3,x.fr,rtFA P x.lex x.κ false),(3 * kl + 3,x.ld,lexO P x.sio x.dq1 x.dq2 x.κ (.str (u [32]) stt) (u []) wt),(3 * ks + 3,x.sd,sdO P x.T 0 x.tt pt x.k0 x.k1 x.k2),(3 * kx + 3,x.lex,insO 722 x.ld),(3 * ky + 3,x.sio,insO 587 x.sd),
      (3 * k2 + 3,y.f2,frmO y.d2 #[]),(3 * k1 + 3,y.f1,frmO y.d1 #[]),(3 * k0 + 3,y.f0,frmO y.d0 y.sl)],
    fun α _ => .error (.ref (α 0)),[(kf,x.fr,fun α _ => { rtFB P x.lex x.κ true (u []) (α 2) (α 3) with slots := rdSl (.ref 689) (.ref y.f2) (some (.ref 690)) #[] }),(kl,x.ld,fun α _ => lexO P x.sio x.dq1 x.dq2 x.κ (.str (u [q]) (α 4)) W (α 5)),(ks,x.sd,fun α _ => sdO P x.T (x.T.length : Nat) x.tt (α 6) x.k0 x.k1 x.k2),
      (k2,y.f2,fun _ _ => frmO y.d2 (slG y.f1)),(k1,y.f1,fun _ _ => frmO y.d1 (slT y.f0)),(k0,y.f0,fun α _ => frmO y.d0 (slL (α 7) y.sl))],[],
    [fun α _ => excO (.ref (α 8)) (.ref (α 1)),fun α _ => tbO .none x.fr (rawInt x.fr) (plOf fun i => α (i + 9))],true⟩
theorem mem_of_idx {α : Type} {l : List α} {x : α} (i : Nat) (h : l[i]? = some x) : x ∈ l := List.mem_of_getElem? h
theorem vLoopR {w : World} {b1 b2 b3 z : Bool} {kf kl ks kx ky k2 k1 k0 : Nat} {x : Lx} {y : Fx} {q : Nat} {W : Str} {qd : Bool} {stt wt pt : Tok} (nd : [kf,kl,ks,kx,ky,k2,k1,k0].Nodup) (hT : x.T.cps.toList ≠ []) (hsg : ∀ c ∈ x.T.cps.toList,isSg c) (h1 : x.T.length ≠ 1) (hl : x.T.length ≤ 1000) (hq : q = 39 ∨ q = 34 ∨ q = 96) (hr : lexT x.T.cps.toList = (q,W,qd)) :
    Valid (VX w b1 b2 b3) (oLoopR w.params (sh3 z x.fr y.f2 y.f1 y.f0) kf kl ks kx ky k2 k1 k0 x y q W stt wt pt) := by
  intro hs p s htop hpre ⟨hap,hpp⟩
  have m1 : (3 * kf + 3,x.fr,rtFA w.params x.lex x.κ false) ∈ (oLoopR w.params (sh3 z x.fr y.f2 y.f1 y.f0) kf kl ks kx ky k2 k1 k0 x y q W stt wt pt).pre := mem_of_idx 0 rfl
  have m2 : (3 * kl + 3,x.ld,lexO w.params x.sio x.dq1 x.dq2 x.κ (.str (u [32]) stt) (u []) wt) ∈ (oLoopR w.params (sh3 z x.fr y.f2 y.f1 y.f0) kf kl ks kx ky k2 k1 k0 x y q W stt wt pt).pre := mem_of_idx 1 rfl
  have m3 : (3 * ks + 3,x.sd,sdO w.params x.T 0 x.tt pt x.k0 x.k1 x.k2) ∈ (oLoopR w.params (sh3 z x.fr y.f2 y.f1 y.f0) kf kl ks kx ky k2 k1 k0 x y q W stt wt pt).pre := mem_of_idx 2 rfl
  have m4 : (3 * kx + 3,x.lex,insO 722 x.ld) ∈ (oLoopR w.params (sh3 z x.fr y.f2 y.f1 y.f0) kf kl ks kx ky k2 k1 k0 x y q W stt wt pt).pre := mem_of_idx 3 rfl
  have m5 : (3 * ky + 3,x.sio,insO 587 x.sd) ∈ (oLoopR w.params (sh3 z x.fr y.f2 y.f1 y.f0) kf kl ks kx ky k2 k1 k0 x y q W stt wt pt).pre := mem_of_idx 4 rfl
  have m6 : (3 * k2 + 3,y.f2,frmO y.d2 #[]) ∈ (oLoopR w.params (sh3 z x.fr y.f2 y.f1 y.f0) kf kl ks kx ky k2 k1 k0 x y q W stt wt pt).pre := mem_of_idx 5 rfl
  have m7 : (3 * k1 + 3,y.f1,frmO y.d1 #[]) ∈ (oLoopR w.params (sh3 z x.fr y.f2 y.f1 y.f0) kf kl ks kx ky k2 k1 k0 x y q W stt wt pt).pre := mem_of_idx 6 rfl
  have m8 : (3 * k0 + 3,y.f0,frmO y.d0 y.sl) ∈ (oLoopR w.params (sh3 z x.fr y.f2 y.f1 y.f0) kf kl ks kx ky k2 k1 k0 x y q W stt wt pt).pre := mem_of_idx 7 rfl
  simp only [List.nodup_cons,List.mem_cons,List.not_mem_nil,or_false,not_or,not_false_eq_true,List.nodup_nil,and_true] at nd
  obtain ⟨⟨n12,n13,n14,n15,n16,n17,n18⟩,⟨n23,n24,n25,n26,n27,n28⟩,⟨n34,n35,n36,n37,n38⟩,⟨n45,n46,n47,n48⟩,⟨n56,n57,n58⟩,⟨n67,n68⟩,n78⟩ := nd
  have K : x.Ok w.params := ⟨apart_own hap m1 m2 n12,apart_own hap m1 m3 n13,apart_own hap m2 m3 n23,apart_own hap m1 m4 n14,apart_own hap m1 m5 n15,apart_own hap m2 m4 n24,apart_own hap m2 m5 n25,apart_own hap m3 m4 n34,apart_own hap m3 m5 n35,apart_top hap m1,apart_top hap m2,apart_top hap m3⟩
  have O : y.Ok x := ⟨(apart_own hap m1 m6 n16).symm,(apart_own hap m2 m6 n26).symm,(apart_own hap m3 m6 n36).symm,(apart_own hap m1 m7 n17).symm,(apart_own hap m2 m7 n27).symm,(apart_own hap m3 m7 n37).symm,(apart_own hap m1 m8 n18).symm,(apart_own hap m2 m8 n28).symm,(apart_own hap m3 m8 n38).symm,apart_own hap m6 m7 n67,apart_own hap m6 m8 n68,apart_own hap m7 m8 n78⟩
  have A0 : x.At0 w.params stt wt pt s := ⟨htop,hpre _ m4,hpre _ m5,hpre _ m2,hpre _ m3,hpre _ m1⟩
  have F : y.At s := ⟨hpre _ m6,hpre _ m7,hpre _ m8⟩
  obtain ⟨hs',hfl⟩ := fill_of (l := fillAll (sh3 z x.fr y.f2 y.f1 y.f0) hs) (ks := tn97_120_sh z) (by cases z <;> rfl)
  have goal : ∀ s' p',x.At w.params (lexT x.T.cps.toList) x.T.length s' → x.Kept s s' → wpCode (VM (VX w b1 b2 b3)) ⟨rtWhile x.fr,none,none,fillAll (sh3 z x.fr y.f2 y.f1 y.f0) hs,none⟩ (fun r s' => ∃ α tk,Leaves (oLoopR w.params (sh3 z x.fr y.f2 y.f1 y.f0) kf kl ks kx ky k2 k1 k0 x y q W stt wt pt) s r s' α tk) p' s' := by
    intro s' p' A' k
    rw [hr] at A'
    refine rt_raise K O hs hq rfl hl A' (F.next O k) fun s'' e T a0 kn nt stt' wt' pt' i β R => ?_
    refine ⟨al9 e T kn nt stt' wt' pt' i a0 β,0,rfl,fun v hv => ?_,(fun _ _ h => nomatch h),fun a ob g hb => ?_,(fun _ _ h => nomatch h),fun j f h => ?_,fun j j' hj hj' h => ?_,Nat.le_trans k.grow R.grow,R.gens.trans k.gens,R.drawn.trans k.drawn,R.os.trans k.os⟩
    · rcases List.mem_cons.mp hv with rfl | hv
      · exact R.fr
      rcases List.mem_cons.mp hv with rfl | hv
      · exact R.ld
      rcases List.mem_cons.mp hv with rfl | hv
      · exact R.sd
      rcases List.mem_cons.mp hv with rfl | hv
      · exact R.f2
      rcases List.mem_cons.mp hv with rfl | hv
      · exact R.f1
      obtain rfl := List.mem_singleton.mp hv
      exact R.f0
    · have c1 : a ≠ x.fr := fun e => hb _ (mem_of_idx 0 rfl) e.symm
      have c2 : a ≠ x.ld := fun e => hb _ (mem_of_idx 1 rfl) e.symm
      have c3 : a ≠ x.sd := fun e => hb _ (mem_of_idx 2 rfl) e.symm
      exact R.keep a ob (k.keep a ob g c1 c2 c3) c1 c2 c3 (fun e => hb _ (mem_of_idx 3 rfl) e.symm) (fun e => hb _ (mem_of_idx 4 rfl) e.symm) (fun e => hb _ (mem_of_idx 5 rfl) e.symm)
    · match j with
      | 0 => cases h; exact ⟨R.he,Nat.le_trans k.grow R.ne⟩
      | 1 => cases h; exact ⟨R.hT,Nat.le_trans k.grow R.nT⟩
      | j + 2 => cases h
    · have l2 : (oLoopR w.params (sh3 z x.fr y.f2 y.f1 y.f0) kf kl ks kx ky k2 k1 k0 x y q W stt wt pt).newT.length = 2 := rfl
      have l0 : (oLoopR w.params (sh3 z x.fr y.f2 y.f1 y.f0) kf kl ks kx ky k2 k1 k0 x y q W stt wt pt).newR.length = 0 := rfl
      rw [l2] at hj hj'
      rw [l0] at hj' h ⊢
      have eT := R.eT
      have hj2 : j = 0 ∨ j = 1 := by omega
      have hj3 : j' = 0 ∨ j' = 1 := by omega
      rcases hj2 with rfl | rfl <;> rcases hj3 with rfl | rfl
      · rfl
      · exact absurd h eT
      · exact absurd h.symm eT
      · rfl
  show wpCode (VM (VX w b1 b2 b3)) ⟨rtWhile x.fr,none,none,fillAll (sh3 z x.fr y.f2 y.f1 y.f0) hs,none⟩ _ p s
  rw [hfl] at goal ⊢
  exact rt_all K hs' hT hsg h1 hl A0 goal
end Mine
end
section
open PySem PySem.W PyProof.Rows
namespace Mine
noncomputable def rtF1 (P : Params) (lex : Nat) (ks : Tok) : Obj := ⟨.type SL.s658472552662922059x5,none,.dict ⟨[d P (u [115,101,108,102]) ks (.ref lex)]⟩ 1,⟨[]⟩⟩
noncomputable def rtExec (fr : Nat) : Sem PySem.Fin := (execs (bodyAt [19,6]) (rtEnv fr)).bind fun f => .pure (.done f)
noncomputable def rtC_sh (z : Bool) (f2 f1 f0 : Nat) : List Sk := sh2 z f2 f1 f0
noncomputable def rtC_code (z : Bool) (lex ld : Nat) : Code := (.call (.ref 690) ⟨[.ref lex],[]⟩)
noncomputable def rtC_lT (P : Params) (z : Bool) (lex ld : Nat) : List Ent := []
noncomputable def rtC_lR (P : Params) (z : Bool) (lex ld : Nat) : List Ent := []
noncomputable def rtC_scr (P : Params) (n τ : Nat) (z : Bool) (lex ld : Nat) : Scr := (.fin [2071,2068,3,3,7] ⟨.ok (.again (rtFn (n + 0))),[(0,(n + 0),⟨(.type SL.s658472552662922059x5),none,(.dict ⟨[d P (u [115,101,108,102]) (τ + 0) (.ref lex)]⟩ 1),⟨[]⟩⟩)],[]⟩)
theorem rtC_run (w : World) (b1 b2 b3 z : Bool) (f2 f1 f0 : Nat) (hs : HL (rtC_sh z f2 f1 f0)) (p : Pos) (n τ : Nat) (lex ld : Nat) : SH (VX w b1 b2 b3) false 20000 [] ⟨rtC_code z lex ld ,none,none,fillAll (rtC_sh z f2 f1 f0) hs,none⟩ p ((VX w b1 b2 b3).den (rtC_code z lex ld )) (rtC_scr w.params n τ z lex ld ) (tabOf (rtC_lR w.params z lex ld ) 0 .nil) (tabOf (rtC_lT w.params z lex ld ) 0 .nil) 0 0 n 0 τ 0 [] [] := by
  cases z <;> exact runOf (adrs [] n) (adr1 []) (by kernel_rfl)
noncomputable def rtX_sh (z : Bool) (f2 f1 f0 : Nat) : List Sk := sh2 z f2 f1 f0
noncomputable def rtX_code (z : Bool) (lex ld sio sd fr dq1 dq2 f2 f1 f0 : Nat) (d2 d1 d0 : Data) (sl : Array (Option PySem.Value)) (κ : Nat → Tok) (T W : Str) (q : Nat) (tt pt ks k0 k1 k2 stt wt : Tok) : Code := (rtFn fr)
noncomputable def rtX_lT (P : Params) (z : Bool) (lex ld sio sd fr dq1 dq2 f2 f1 f0 : Nat) (d2 d1 d0 : Data) (sl : Array (Option PySem.Value)) (κ : Nat → Tok) (T W : Str) (q : Nat) (tt pt ks k0 k1 k2 stt wt : Tok) : List Ent := [(fr,(rtF1 P lex ks)),(ld,(lexO P sio dq1 dq2 κ (.str (u [32]) stt) (u []) wt)),(sd,(sdO P T 0 tt pt k0 k1 k2)),(lex,(insO 722 ld)),(sio,(insO 587 sd)),(f2,(frmO d2 #[])),(f1,(frmO d1 #[])),(f0,(frmO d0 sl))]
noncomputable def rtX_lR (P : Params) (z : Bool) (lex ld sio sd fr dq1 dq2 f2 f1 f0 : Nat) (d2 d1 d0 : Data) (sl : Array (Option PySem.Value)) (κ : Nat → Tok) (T W : Str) (q : Nat) (tt pt ks k0 k1 k2 stt wt : Tok) : List Ent := []
noncomputable def rtX_scr (P : Params) (n τ : Nat) (z : Bool) (lex ld sio sd fr dq1 dq2 f2 f1 f0 : Nat) (d2 d1 d0 : Data) (sl : Array (Option PySem.Value)) (κ : Nat → Tok) (T W : Str) (q : Nat) (tt pt ks k0 k1 k2 stt wt : Tok) : Scr := (.orc [3,3,3,3] (oLoopR P (sh3 z fr f2 f1 f0) 0 1 2 3 4 5 6 7 ⟨lex,ld,sio,sd,fr,dq1,dq2,kap [(κ 0),(κ 1),(κ 2),(κ 3),(κ 4),(κ 5),(κ 6),(κ 7),(κ 8),(κ 9),(κ 10),(κ 11),(κ 12),(κ 13),(κ 14),(κ 15),(κ 16),(κ 17),(κ 18),(κ 19),(κ 20),(κ 21),(κ 22),(κ 23),(κ 24),(κ 25),(κ 26),(κ 27),ks,(τ + 0),(τ + 2),(τ + 1)],T,tt,k0,k1,k2⟩ ⟨f2,f1,f0,d2,d1,d0,sl⟩ q W stt wt pt) 8 0 fun α1 tk1 n1 τ1 =>
  (.fin [27,27,30,30] ⟨.error (.ref (α1 0)),[(1,ld,(lexO P sio dq1 dq2 κ (.str (u [q]) (α1 4)) W (α1 5))),(2,sd,(sdO P T (T.length : Nat) tt (α1 6) k0 k1 k2)),(5,f2,(frmO d2 (slG f1))),(6,f1,(frmO d1 (slT f0))),(7,f0,(frmO d0 (slL (α1 7) sl))),(8,(α1 0),(excO (.ref (α1 8)) (.ref (α1 1)))),(9,(α1 1),(tbO .none fr (rawInt fr) (plOf fun i => α1 (i + 9)))),(3,lex,(insO 722 ld)),(4,sio,(insO 587 sd))],[]⟩))
theorem rtX_run (w : World) (b1 b2 b3 z : Bool) (f2 f1 f0 : Nat) (hs : HL (rtX_sh z f2 f1 f0)) (p : Pos) (n τ : Nat) (lex ld sio sd fr dq1 dq2 : Nat) (d2 d1 d0 : Data) (sl : Array (Option PySem.Value)) (κ : Nat → Tok) (T W : Str) (q : Nat) (tt pt ks k0 k1 k2 stt wt : Tok) : SH (VX w b1 b2 b3) false 20000 [] ⟨rtX_code z lex ld sio sd fr dq1 dq2 f2 f1 f0 d2 d1 d0 sl κ T W q tt pt ks k0 k1 k2 stt wt ,none,none,fillAll (rtX_sh z f2 f1 f0) hs,none⟩ p (rtExec fr) (rtX_scr w.params n τ z lex ld sio sd fr dq1 dq2 f2 f1 f0 d2 d1 d0 sl κ T W q tt pt ks k0 k1 k2 stt wt ) (tabOf (rtX_lR w.params z lex ld sio sd fr dq1 dq2 f2 f1 f0 d2 d1 d0 sl κ T W q tt pt ks k0 k1 k2 stt wt ) 0 .nil) (tabOf (rtX_lT w.params z lex ld sio sd fr dq1 dq2 f2 f1 f0 d2 d1 d0 sl κ T W q tt pt ks k0 k1 k2 stt wt ) 0 .nil) 8 0 n 0 τ 0 [] [] := by
  cases z <;> exact runOf (adrs [fr,ld,sd,lex,sio,f2,f1,f0] n) (adr1 []) (by kernel_rfl)
end Mine
end
section
open PySem PySem.W PyProof.Rows
namespace Mine
section
variable {M : Model} {A : Around} {E : Value → Shared → Prop} {s : Shared}
theorem leave_again {env : Env} {L e T f' : Addr} {a0 hdv : Value} {pl : List Value} {Q : Unit → Shared → Prop} (hf : env.frame = some L) (he : s.heap.get? e = some (excO a0 (.ref T))) (hT : s.heap.get? T = some (tbO hdv f' (rawInt L) pl))
    (h : ∀ h',h'.objs.size = s.heap.objs.size → h'.get? T = some (tbO hdv f' .none pl) → (∀ c,c ≠ T → h'.get? c = s.heap.get? c) → Q () { s with heap := h' }) : wpAny M A (leaving env (.ref e)) Q E s := by
  unfold leaving
  exact wpAny_bind (note_again hf he hT (lands he hT h))
theorem leave_next {env : Env} {outer : List Env} {L e T f' : Addr} {oL : Obj} {a0 hdv : Value} {pl : List Value} {Q : Unit → Shared → Prop} (hfr : A.frames = some (env :: outer)) (hf : env.frame = some L) (hL : s.heap.get? L = some oL) (hr : (oL.slots.getD 3 none).isSome = true)
    (he : s.heap.get? e = some (excO a0 (.ref T))) (hT : s.heap.get? T = some (tbO hdv f' .none pl)) (hTe : T ≠ e) (hLT : L ≠ T)
    (h : ∀ h' pl',PlOk pl' → h'.objs.size = s.heap.objs.size + 1 → h'.get? e = some (excO a0 (.ref s.heap.objs.size)) → h'.get? s.heap.objs.size = some (tbO (.ref T) L .none pl') → (∀ c o,c ≠ e → c ≠ T → s.heap.get? c = some o → h'.get? c = some o) → Q () { s with heap := h' }) :
    wpAny M A (leaving env (.ref e)) Q E s := by
  unfold leaving
  refine wpAny_bind (note_next hfr hf hL hr he hT hTe hLT fun h₁ pl' k1 k2 k3 k4 k5 => ?_)
  have ne : e ≠ s.heap.objs.size := Nat.ne_of_lt (Heap.lt_size he)
  refine lands (s := { s with heap := h₁ }) k3 k4 fun h₂ m1 m2 m3 => ?_
  exact h h₂ pl' k1 (m1.trans k2) ((m3 e ne).trans k3) m2 fun c o c1 c2 ho => (m3 c (Nat.ne_of_lt (Heap.lt_size ho))).trans (k5 c o c1 c2 ho)
end
theorem func_raise {V : HV} {Γ : Ctx} {body : List Stmt} {env : Env} {Q : Result → Shared → Prop} {p : Pos} {s : Shared} (hc : Γ.code = .func body env)
    (h : ∀ p,Sem.wp (VM V) Γ ((execs body env).bind fun f => .pure (PySem.Fin.done f)) (fun _ _ _ => False) (fun v p' s' => Sem.wp (VM V) Γ (leaving env v) (fun _ _ s'' => Q (.error v) s'') (fun v' _ s'' => Q (.error v') s'') p' s') p s) : wpCode (VM V) Γ Q p s := by
  rw [wpCode_iff_wp,hc]
  have hd : (VM V).den (.func body env) = (point >>= fun _ => ((execs body env).onRaise (leaving env)) >>= fun f => match f with | .ret v => ret v | _ => ret .none) := rfl
  rw [hd,Sem.wp_bind']
  show Sem.wp (VM V) Γ (((execs body env).onRaise (leaving env)) >>= fun f => match f with | .ret v => ret v | _ => ret .none) _ _ p s
  rw [Sem.wp_bind',Sem.wp_onRaise]
  have h := h p
  rw [Sem.wp_bind] at h
  exact Sem.wp_mono _ _ _ (fun a p' s' x => x.elim) (fun v p' s' x => x) _ _ h
theorem wp_own {V : HV} (O : V.Ok) {Q : Except Value PySem.Fin → Shared → Prop} {fuel : Nat} {Γ : Ctx} {p : Pos} {s : Shared} {S : Scr} {lT : List Ent} {t : Sem PySem.Fin}
    (run : SH V false fuel [] Γ p t S (tabOf [] 0 .nil) (tabOf lT 0 .nil) lT.length 0 s.heap.objs.size 0 s.toks 0 [] [])
    (ok : (tabOk lT 0 .nil && tabOk [] 0 .nil) = true) (htop : ∀ i ob,V.top i = some ob → s.heap.get? i = some ob)
    (hT : ∀ x ∈ lT,s.heap.get? x.1 = some x.2) (hnd : (lT.map (·.1)).Nodup) (ht : ∀ x ∈ lT,∀ ob,V.top x.1 ≠ some ob)
    (hF : FinOk V Q s (fun a => a ∈ lT.map (·.1)) lT.length S) : Sem.wp (VM V) Γ t (fun fin _ s' => Q (.ok fin) s') (fun e _ s' => Q (.error e) s') p s :=
  wp_tree O (lR := []) run ok htop hT (fun _ h => nomatch h) hnd (fun _ _ _ h => nomatch h) ht hF
noncomputable def oRtR (P : Params) (sh : List Sk) (kl ks kx ky k2 k1 k0 : Nat) (x : Lx) (y : Fx) (q : Nat) (W : Str) (stt wt pt : Tok) : Spec :=
  ⟨.call (.ref 690) ⟨[.ref x.lex],[]⟩,sh,[(3 * kl + 3,x.ld,lexO P x.sio x.dq1 x.dq2 x.κ (.str (u [32]) stt) (u []) wt),(3 * ks + 3,x.sd,sdO P x.T 0 x.tt pt x.k0 x.k1 x.k2),(3 * kx + 3,x.lex,insO 722 x.ld),(3 * ky + 3,x.sio,insO 587 x.sd),
      (3 * k2 + 3,y.f2,frmO y.d2 #[]),(3 * k1 + 3,y.f1,frmO y.d1 #[]),(3 * k0 + 3,y.f0,frmO y.d0 y.sl)],
    fun α _ => .error (.ref (α 0)),[(kl,x.ld,fun α _ => lexO P x.sio x.dq1 x.dq2 x.κ (.str (u [q]) (α 4)) W (α 5)),(ks,x.sd,fun α _ => sdO P x.T (x.T.length : Nat) x.tt (α 6) x.k0 x.k1 x.k2),
      (k2,y.f2,fun _ _ => frmO y.d2 (slG y.f1)),(k1,y.f1,fun _ _ => frmO y.d1 (slT y.f0)),(k0,y.f0,fun α _ => frmO y.d0 (slL (α 7) y.sl))],[],
    [fun α _ => excO (.ref (α 8)) (.ref (α 1)),fun α _ => tbO .none (α 2) .none (plOf fun i => α (i + 9))],true⟩
theorem rtFn_quiet (fr : Nat) : (rtFn fr).quiet = true := by kernel_rfl
theorem apart2 {α : Nat → Nat} (h : α 0 ≠ α 1) {r : Nat} (hr : r = 0) {n m : Nat} (hn : n = 2) (hm : m = 2) : ∀ i j,i < n → j < r + m → α (r + i) = α j → r + i = j := by
  subst hr hn hm
  intro i j hi hj e
  rw [Nat.zero_add] at e hj ⊢
  rcases (show i = 0 ∨ i = 1 by omega) with rfl | rfl <;> rcases (show j = 0 ∨ j = 1 by omega) with rfl | rfl
  · rfl
  · exact absurd e h
  · exact absurd e.symm h
  · rfl
end Mine
end
section
open PySem PySem.W PyProof.Rows
namespace Mine
structure PostX (own : List Nat) (objs : List Ent) (s s2 : Shared) (e T : Nat) (eo to : Obj) : Prop where
  at_ : ∀ o ∈ objs,s2.heap.get? o.1 = some o.2
  he : s2.heap.get? e = some eo
  hT : s2.heap.get? T = some to
  ne : s.heap.objs.size ≤ e
  nT : s.heap.objs.size ≤ T
  eT : e ≠ T
  keep : ∀ a ob,s.heap.get? a = some ob → ¬ a ∈ own → s2.heap.get? a = some ob
  grow : s.heap.objs.size ≤ s2.heap.objs.size
  gens : s2.gens = s.gens
  drawn : s2.drawn = s.drawn
  os : s2.os = s.os
theorem vRtR {w : World} {b1 b2 b3 z : Bool} {kl ks kx ky k2 k1 k0 : Nat} {x : Lx} {y : Fx} {q : Nat} {W : Str} {qd : Bool} {stt wt pt : Tok} (nd : [kl,ks,kx,ky,k2,k1,k0].Nodup) (hT : x.T.cps.toList ≠ []) (hsg : ∀ c ∈ x.T.cps.toList,isSg c) (h1 : x.T.length ≠ 1) (hl : x.T.length ≤ 1000) (hq : q = 39 ∨ q = 34 ∨ q = 96) (hr : lexT x.T.cps.toList = (q,W,qd)) :
    Valid (VX w b1 b2 b3) (oRtR w.params (sh2 z y.f2 y.f1 y.f0) kl ks kx ky k2 k1 k0 x y q W stt wt pt) := by
  intro hs p s htop hpre ⟨hap,hpp⟩
  have m_ld : (3 * kl + 3,x.ld,lexO w.params x.sio x.dq1 x.dq2 x.κ (.str (u [32]) stt) (u []) wt) ∈ (oRtR w.params (sh2 z y.f2 y.f1 y.f0) kl ks kx ky k2 k1 k0 x y q W stt wt pt).pre := mem_of_idx 0 rfl
  have m_sd : (3 * ks + 3,x.sd,sdO w.params x.T 0 x.tt pt x.k0 x.k1 x.k2) ∈ (oRtR w.params (sh2 z y.f2 y.f1 y.f0) kl ks kx ky k2 k1 k0 x y q W stt wt pt).pre := mem_of_idx 1 rfl
  have m_lex : (3 * kx + 3,x.lex,insO 722 x.ld) ∈ (oRtR w.params (sh2 z y.f2 y.f1 y.f0) kl ks kx ky k2 k1 k0 x y q W stt wt pt).pre := mem_of_idx 2 rfl
  have m_sio : (3 * ky + 3,x.sio,insO 587 x.sd) ∈ (oRtR w.params (sh2 z y.f2 y.f1 y.f0) kl ks kx ky k2 k1 k0 x y q W stt wt pt).pre := mem_of_idx 3 rfl
  have m_f2 : (3 * k2 + 3,y.f2,frmO y.d2 #[]) ∈ (oRtR w.params (sh2 z y.f2 y.f1 y.f0) kl ks kx ky k2 k1 k0 x y q W stt wt pt).pre := mem_of_idx 4 rfl
  have m_f1 : (3 * k1 + 3,y.f1,frmO y.d1 #[]) ∈ (oRtR w.params (sh2 z y.f2 y.f1 y.f0) kl ks kx ky k2 k1 k0 x y q W stt wt pt).pre := mem_of_idx 5 rfl
  have m_f0 : (3 * k0 + 3,y.f0,frmO y.d0 y.sl) ∈ (oRtR w.params (sh2 z y.f2 y.f1 y.f0) kl ks kx ky k2 k1 k0 x y q W stt wt pt).pre := mem_of_idx 6 rfl
  simp only [List.nodup_cons,List.mem_cons,List.not_mem_nil,or_false,not_or,not_false_eq_true,List.nodup_nil,and_true] at nd
  obtain ⟨⟨n12,n13,n14,n15,n16,n17⟩,⟨n23,n24,n25,n26,n27⟩,⟨n34,n35,n36,n37⟩,⟨n45,n46,n47⟩,⟨n56,n57⟩,n67⟩ := nd
  have d_ld_sd : x.ld ≠ x.sd := apart_own hap m_ld m_sd n12
  have d_ld_lex : x.ld ≠ x.lex := apart_own hap m_ld m_lex n13
  have d_ld_sio : x.ld ≠ x.sio := apart_own hap m_ld m_sio n14
  have d_ld_f2 : x.ld ≠ y.f2 := apart_own hap m_ld m_f2 n15
  have d_ld_f1 : x.ld ≠ y.f1 := apart_own hap m_ld m_f1 n16
  have d_ld_f0 : x.ld ≠ y.f0 := apart_own hap m_ld m_f0 n17
  have d_sd_lex : x.sd ≠ x.lex := apart_own hap m_sd m_lex n23
  have d_sd_sio : x.sd ≠ x.sio := apart_own hap m_sd m_sio n24
  have d_sd_f2 : x.sd ≠ y.f2 := apart_own hap m_sd m_f2 n25
  have d_sd_f1 : x.sd ≠ y.f1 := apart_own hap m_sd m_f1 n26
  have d_sd_f0 : x.sd ≠ y.f0 := apart_own hap m_sd m_f0 n27
  have d_lex_sio : x.lex ≠ x.sio := apart_own hap m_lex m_sio n34
  have d_lex_f2 : x.lex ≠ y.f2 := apart_own hap m_lex m_f2 n35
  have d_lex_f1 : x.lex ≠ y.f1 := apart_own hap m_lex m_f1 n36
  have d_lex_f0 : x.lex ≠ y.f0 := apart_own hap m_lex m_f0 n37
  have d_sio_f2 : x.sio ≠ y.f2 := apart_own hap m_sio m_f2 n45
  have d_sio_f1 : x.sio ≠ y.f1 := apart_own hap m_sio m_f1 n46
  have d_sio_f0 : x.sio ≠ y.f0 := apart_own hap m_sio m_f0 n47
  have d_f2_f1 : y.f2 ≠ y.f1 := apart_own hap m_f2 m_f1 n56
  have d_f2_f0 : y.f2 ≠ y.f0 := apart_own hap m_f2 m_f0 n57
  have d_f1_f0 : y.f1 ≠ y.f0 := apart_own hap m_f1 m_f0 n67
  have g_ld := hpre _ m_ld
  have lt_ld := Heap.lt_size g_ld
  have g_sd := hpre _ m_sd
  have lt_sd := Heap.lt_size g_sd
  have g_lex := hpre _ m_lex
  have lt_lex := Heap.lt_size g_lex
  have g_sio := hpre _ m_sio
  have lt_sio := Heap.lt_size g_sio
  have g_f2 := hpre _ m_f2
  have lt_f2 := Heap.lt_size g_f2
  have g_f1 := hpre _ m_f1
  have lt_f1 := Heap.lt_size g_f1
  have g_f0 := hpre _ m_f0
  have lt_f0 := Heap.lt_size g_f0
  dsimp only at g_ld lt_ld g_sd lt_sd g_lex lt_lex g_sio lt_sio g_f2 lt_f2 g_f1 lt_f1 g_f0 lt_f0
  refine enterT (VX_ok _ _ _ _) (lT := []) (lR := []) (rtC_run w b1 b2 b3 z y.f2 y.f1 y.f0 hs p s.heap.objs.size s.toks x.lex x.ld) rfl htop (fun _ h => nomatch h) (fun _ h => nomatch h) List.nodup_nil (fun _ h => nomatch h) (fun _ h => nomatch h) ?_
  intro s1 L1
  refine ⟨rtFn_quiet _,fun p' => ?_⟩
  have keep1 : ∀ a ob,s.heap.get? a = some ob → s1.heap.get? a = some ob := fun a ob h => L1.keep a ob h (fun h => nomatch h)
  have g_fr := L1.at_ _ (.head _)
  have fresh : s.heap.objs.size ≤ s.heap.objs.size + 0 := Nat.le_refl _
  replace g_fr : s1.heap.get? (s.heap.objs.size + 0) = some (rtF1 w.params x.lex (s.toks + 0)) := g_fr
  generalize hfr : s.heap.objs.size + 0 = fr at g_fr
  have nfr : ∀ {a : Nat},a < s.heap.objs.size → fr ≠ a := fun h e => by omega
  show wpCode (VM (VX w b1 b2 b3)) ⟨.func (bodyAt [19,6]) (rtEnv fr),none,none,fillAll (sh2 z y.f2 y.f1 y.f0) hs,none⟩ _ p' s1
  refine func_raise rfl fun p' => ?_
  have tfr : ∀ ob,topF w.params fr ≠ some ob := fun ob h => nfr (Heap.lt_size (htop fr ob h)) rfl
  refine Sem.wp_mono _ _ _ (fun _ _ _ h => h) (fun v p'' s' h => ?_) _ _ (wp_own (VX_ok w b1 b2 b3) (Q := fun r s2 => match r with
      | .ok _ => False
      | .error v => ∃ α1 : Nat → Nat,v = .ref (α1 0) ∧ PostX [fr,x.ld,x.sd,x.lex,x.sio,y.f2,y.f1,y.f0] [(x.ld,lexO w.params x.sio x.dq1 x.dq2 x.κ (.str (u [q]) (α1 4)) W (α1 5)),(x.sd,sdO w.params x.T (x.T.length : Nat) x.tt (α1 6) x.k0 x.k1 x.k2),(y.f2,frmO y.d2 (slG y.f1)),(y.f1,frmO y.d1 (slT y.f0)),(y.f0,frmO y.d0 (slL (α1 7) y.sl)),(x.lex,insO 722 x.ld),(x.sio,insO 587 x.sd)] s1 s2 (α1 0) (α1 1) (excO (.ref (α1 8)) (.ref (α1 1))) (tbO .none fr (rawInt fr) (plOf fun i => α1 (i + 9))))
    (lT := [(fr,rtF1 w.params x.lex (s.toks + 0)),(x.ld,_),(x.sd,_),(x.lex,_),(x.sio,_),(y.f2,_),(y.f1,_),(y.f0,_)])
    (rtX_run w b1 b2 b3 z y.f2 y.f1 y.f0 hs p' s1.heap.objs.size s1.toks x.lex x.ld x.sio x.sd fr x.dq1 x.dq2 y.d2 y.d1 y.d0 y.sl x.κ x.T W q x.tt pt (s.toks + 0) x.k0 x.k1 x.k2 stt wt) rfl (fun a ob h => keep1 a ob (htop a ob h)) (fun v hv => ?_) ?_ (fun v hv => ?_) ?_)
  · obtain ⟨α1,rfl,L⟩ := h
    have k_ld := L.at_ _ (mem_of_idx 0 rfl)
    have k_sd := L.at_ _ (mem_of_idx 1 rfl)
    have k_f2 := L.at_ _ (mem_of_idx 2 rfl)
    have k_f1 := L.at_ _ (mem_of_idx 3 rfl)
    have k_f0 := L.at_ _ (mem_of_idx 4 rfl)
    have k_e := L.he
    have k_T := L.hT
    have n_e := L.ne
    have n_T := L.nT
    have d_eT := L.eT
    dsimp only at k_ld k_sd k_f2 k_f1 k_f0
    have g1 : s.heap.objs.size ≤ s1.heap.objs.size := L1.grow
    refine at_ctx (Γ := ⟨.func (bodyAt [19,6]) (rtEnv fr),none,none,fillAll (sh2 z y.f2 y.f1 y.f0) hs,none⟩) (fs := [rtEnv fr,gtEnv y.f2,tkEnv y.f1,lwEnv y.f0]) rfl (show (Code.func (bodyAt [19,6]) (rtEnv fr)).envs ++ envsOf (fillAll (sh2 z y.f2 y.f1 y.f0) hs) = _ from by rw [envs2 z y.f2 y.f1 y.f0 hs]; kernel_rfl) fun Ar hA hh => ?_
    refine leave_again rfl k_e k_T fun h' z1 z2 z3 => ?_
    have neT : ∀ {a : Nat},a < s.heap.objs.size → a ≠ α1 1 := fun h e => by omega
    refine ⟨al9 (α1 0) (α1 1) fr 0 (α1 4) (α1 5) (α1 6) (α1 7) (α1 8) (fun i => α1 (i + 9)),0,rfl,fun v hv => ?_,(fun _ _ h => nomatch h),fun a ob g hb => ?_,(fun _ _ h => nomatch h),fun j f h => ?_,apart2 (α := al9 (α1 0) (α1 1) fr 0 (α1 4) (α1 5) (α1 6) (α1 7) (α1 8) (fun i => α1 (i + 9))) d_eT rfl rfl rfl,?_,L.gens.trans L1.gens,L.drawn.trans L1.drawn,L.os.trans L1.os⟩
    · rcases List.mem_cons.mp hv with rfl | hv
      · exact (z3 _ (neT lt_ld)).trans k_ld
      rcases List.mem_cons.mp hv with rfl | hv
      · exact (z3 _ (neT lt_sd)).trans k_sd
      rcases List.mem_cons.mp hv with rfl | hv
      · exact (z3 _ (neT lt_f2)).trans k_f2
      rcases List.mem_cons.mp hv with rfl | hv
      · exact (z3 _ (neT lt_f1)).trans k_f1
      obtain rfl := List.mem_singleton.mp hv
      exact (z3 _ (neT lt_f0)).trans k_f0
    · have la := Heap.lt_size g
      have c1 : a ≠ x.ld := fun e => hb _ (mem_of_idx 0 rfl) e.symm
      have c2 : a ≠ x.sd := fun e => hb _ (mem_of_idx 1 rfl) e.symm
      have c3 : a ≠ y.f2 := fun e => hb _ (mem_of_idx 2 rfl) e.symm
      have c4 : a ≠ y.f1 := fun e => hb _ (mem_of_idx 3 rfl) e.symm
      have c5 : a ≠ y.f0 := fun e => hb _ (mem_of_idx 4 rfl) e.symm
      refine (z3 a (neT la)).trans ?_
      by_cases e1 : a = x.lex
      · rw [e1] at g ⊢; rw [g_lex] at g; cases g; exact L.at_ _ (mem_of_idx 5 rfl)
      by_cases e2 : a = x.sio
      · rw [e2] at g ⊢; rw [g_sio] at g; cases g; exact L.at_ _ (mem_of_idx 6 rfl)
      exact L.keep a ob (keep1 a ob g) (by simp [(nfr la).symm,c1,c2,c3,c4,c5,e1,e2])
    · match j with
      | 0 => cases h; exact ⟨(z3 _ d_eT).trans k_e,Nat.le_trans g1 n_e⟩
      | 1 => cases h; exact ⟨z2,Nat.le_trans g1 n_T⟩
      | j + 2 => cases h
    · show s.heap.objs.size ≤ h'.objs.size
      have := L.grow
      omega
  · simp only [List.mem_cons,List.not_mem_nil,or_false] at hv
    rcases hv with rfl | rfl | rfl | rfl | rfl | rfl | rfl | rfl
    · exact g_fr
    · exact keep1 _ _ g_ld
    · exact keep1 _ _ g_sd
    · exact keep1 _ _ g_lex
    · exact keep1 _ _ g_sio
    · exact keep1 _ _ g_f2
    · exact keep1 _ _ g_f1
    · exact keep1 _ _ g_f0
  · simp [nfr lt_ld,nfr lt_sd,nfr lt_lex,nfr lt_sio,nfr lt_f2,nfr lt_f1,nfr lt_f0,d_ld_sd,d_ld_lex,d_ld_sio,d_ld_f2,d_ld_f1,d_ld_f0,d_sd_lex,d_sd_sio,d_sd_f2,d_sd_f1,d_sd_f0,d_lex_sio,d_lex_f2,d_lex_f1,d_lex_f0,d_sio_f2,d_sio_f1,d_sio_f0,d_f2_f1,d_f2_f0,d_f1_f0]
  · simp only [List.mem_cons,List.not_mem_nil,or_false] at hv
    rcases hv with rfl | rfl | rfl | rfl | rfl | rfl | rfl | rfl
    · exact tfr
    · exact apart_top hap m_ld
    · exact apart_top hap m_sd
    · exact apart_top hap m_lex
    · exact apart_top hap m_sio
    · exact apart_top hap m_f2
    · exact apart_top hap m_f1
    · exact apart_top hap m_f0
  · refine ⟨vLoopR (by decide) hT hsg h1 hl hq hr,fun α1 tk1 n1 τ1 _ s2 L => ⟨α1,rfl,fun o ho => ?_,L.at_ _ (mem_of_idx 5 rfl),L.at_ _ (mem_of_idx 6 rfl),L.new _ (mem_of_idx 5 rfl) (Nat.le_refl 8),L.new _ (mem_of_idx 6 rfl) (show 8 ≤ 9 by decide),fun e => absurd (L.inj _ (mem_of_idx 5 rfl) _ (mem_of_idx 6 rfl) e) (show ¬ (8 : Nat) = 9 by decide),fun a ob g ha => L.keep a ob g ha,L.grow,L.gens,L.drawn,L.os⟩⟩
    simp only [List.mem_cons,List.not_mem_nil,or_false] at ho
    rcases ho with rfl | rfl | rfl | rfl | rfl | rfl | rfl
    · exact L.at_ _ (mem_of_idx 0 rfl)
    · exact L.at_ _ (mem_of_idx 1 rfl)
    · exact L.at_ _ (mem_of_idx 2 rfl)
    · exact L.at_ _ (mem_of_idx 3 rfl)
    · exact L.at_ _ (mem_of_idx 4 rfl)
    · exact L.at_ _ (mem_of_idx 7 rfl)
    · exact L.at_ _ (mem_of_idx 8 rfl)
end Mine
end
section
open PySem PySem.W PyProof.Rows
namespace Mine
noncomputable def gtD (P : Params) (lex : Nat) (ks : Tok) : Data := .dict ⟨[d P (u [115,101,108,102]) ks (.ref lex)]⟩ 1
noncomputable def dqO : Obj := ⟨.type SL.s5314052453082223887x17,none,.fields ⟨[.none,.int 0 0]⟩,⟨[]⟩⟩
noncomputable def gtExec (fr : Nat) : Sem PySem.Fin := (execs (bodyAt [19,5]) (gtEnv fr)).bind fun f => .pure (.done f)
noncomputable def gtC_sh (z : Bool) (f1 f0 : Nat) : List Sk := sh1 z f1 f0
noncomputable def gtC_code (z : Bool) (lex ld : Nat) : Code := (.call (.ref 683) ⟨[.ref lex],[]⟩)
noncomputable def gtC_lT (P : Params) (z : Bool) (lex ld : Nat) : List Ent := []
noncomputable def gtC_lR (P : Params) (z : Bool) (lex ld : Nat) : List Ent := []
noncomputable def gtC_scr (P : Params) (n τ : Nat) (z : Bool) (lex ld : Nat) : Scr := (.fin [2050,2047,3,3,7] ⟨.ok (.again (gtFn (n + 0))),[(0,(n + 0),⟨(.type SL.s658472552662922059x5),none,(.dict ⟨[d P (u [115,101,108,102]) (τ + 0) (.ref lex)]⟩ 1),⟨[]⟩⟩)],[]⟩)
theorem gtC_run (w : World) (b1 b2 b3 z : Bool) (f1 f0 : Nat) (hs : HL (gtC_sh z f1 f0)) (p : Pos) (n τ : Nat) (lex ld : Nat) : SH (VX w b1 b2 b3) false 20000 [] ⟨gtC_code z lex ld ,none,none,fillAll (gtC_sh z f1 f0) hs,none⟩ p ((VX w b1 b2 b3).den (gtC_code z lex ld )) (gtC_scr w.params n τ z lex ld ) (tabOf (gtC_lR w.params z lex ld ) 0 .nil) (tabOf (gtC_lT w.params z lex ld ) 0 .nil) 0 0 n 0 τ 0 [] [] := by
  cases z <;> exact runOf (adrs [] n) (adr1 []) (by kernel_rfl)
noncomputable def gtX_sh (z : Bool) (f1 f0 : Nat) : List Sk := sh1 z f1 f0
noncomputable def gtX_code (z : Bool) (lex ld sio sd fr dq1 dq2 f1 f0 : Nat) (d1 d0 : Data) (sl : Array (Option PySem.Value)) (κ : Nat → Tok) (T W : Str) (q : Nat) (tt pt ks k0 k1 k2 stt wt : Tok) : Code := (gtFn fr)
noncomputable def gtX_lT (P : Params) (z : Bool) (lex ld sio sd fr dq1 dq2 f1 f0 : Nat) (d1 d0 : Data) (sl : Array (Option PySem.Value)) (κ : Nat → Tok) (T W : Str) (q : Nat) (tt pt ks k0 k1 k2 stt wt : Tok) : List Ent := [(fr,(frmO (gtD P lex ks) #[])),(lex,(insO 722 ld)),(ld,(lexO P sio dq1 dq2 κ (.str (u [32]) stt) (u []) wt)),(dq1,dqO),(sd,(sdO P T 0 tt pt k0 k1 k2)),(sio,(insO 587 sd)),(f1,(frmO d1 #[])),(f0,(frmO d0 sl))]
noncomputable def gtX_lR (P : Params) (z : Bool) (lex ld sio sd fr dq1 dq2 f1 f0 : Nat) (d1 d0 : Data) (sl : Array (Option PySem.Value)) (κ : Nat → Tok) (T W : Str) (q : Nat) (tt pt ks k0 k1 k2 stt wt : Tok) : List Ent := []
noncomputable def gtX_scr (P : Params) (n τ : Nat) (z : Bool) (lex ld sio sd fr dq1 dq2 f1 f0 : Nat) (d1 d0 : Data) (sl : Array (Option PySem.Value)) (κ : Nat → Tok) (T W : Str) (q : Nat) (tt pt ks k0 k1 k2 stt wt : Tok) : Scr := (.orc [3,6,2167,2167,2164,0,6,2167,2167,2164,6,6,2167,9,12,12,0,12,0,12,12,3,6,2167,2167,2164,6,2167,2167,2164,6,2167,2167,2164,2071,6,9,2071] (oRtR P (sh2 z fr f1 f0) 2 4 1 5 0 6 7 ⟨lex,ld,sio,sd,0,dq1,dq2,κ,T,tt,k0,k1,k2⟩ ⟨fr,f1,f0,gtD P lex ks,d1,d0,sl⟩ q W stt wt pt) 8 0 fun α1 tk1 n1 τ1 =>
  (.fin [] ⟨.error (.ref (α1 0)),[(2,ld,(lexO P sio dq1 dq2 κ (.str (u [q]) (α1 4)) W (α1 5))),(4,sd,(sdO P T (T.length : Nat) tt (α1 6) k0 k1 k2)),(0,fr,(frmO (gtD P lex ks) (slG f1))),(6,f1,(frmO d1 (slT f0))),(7,f0,(frmO d0 (slL (α1 7) sl))),(8,(α1 0),(excO (.ref (α1 8)) (.ref (α1 1)))),(9,(α1 1),(tbO .none (α1 2) .none (plOf fun i => α1 (i + 9)))),(1,lex,(insO 722 ld)),(5,sio,(insO 587 sd)),(3,dq1,dqO)],[]⟩))
theorem gtX_run (w : World) (b1 b2 b3 z : Bool) (f1 f0 : Nat) (hs : HL (gtX_sh z f1 f0)) (p : Pos) (n τ : Nat) (lex ld sio sd fr dq1 dq2 : Nat) (d1 d0 : Data) (sl : Array (Option PySem.Value)) (κ : Nat → Tok) (T W : Str) (q : Nat) (tt pt ks k0 k1 k2 stt wt : Tok) : SH (VX w b1 b2 b3) false 20000 [] ⟨gtX_code z lex ld sio sd fr dq1 dq2 f1 f0 d1 d0 sl κ T W q tt pt ks k0 k1 k2 stt wt ,none,none,fillAll (gtX_sh z f1 f0) hs,none⟩ p (gtExec fr) (gtX_scr w.params n τ z lex ld sio sd fr dq1 dq2 f1 f0 d1 d0 sl κ T W q tt pt ks k0 k1 k2 stt wt ) (tabOf (gtX_lR w.params z lex ld sio sd fr dq1 dq2 f1 f0 d1 d0 sl κ T W q tt pt ks k0 k1 k2 stt wt ) 0 .nil) (tabOf (gtX_lT w.params z lex ld sio sd fr dq1 dq2 f1 f0 d1 d0 sl κ T W q tt pt ks k0 k1 k2 stt wt ) 0 .nil) 8 0 n 0 τ 0 [] [] := by
  cases z <;> exact runOf (adrs [fr,lex,ld,dq1,sd,sio,f1,f0] n) (adr1 []) (by kernel_rfl)
end Mine
end
section
open PySem PySem.W PyProof.Rows
namespace Mine
noncomputable def oGtR (P : Params) (sh : List Sk) (kl ks kx ky kq k1 k0 : Nat) (x : Lx) (y : Fx) (q : Nat) (W : Str) (stt wt pt : Tok) : Spec :=
  ⟨.call (.ref 683) ⟨[.ref x.lex],[]⟩,sh,[(3 * kl + 3,x.ld,lexO P x.sio x.dq1 x.dq2 x.κ (.str (u [32]) stt) (u []) wt),(3 * ks + 3,x.sd,sdO P x.T 0 x.tt pt x.k0 x.k1 x.k2),(3 * kx + 3,x.lex,insO 722 x.ld),(3 * ky + 3,x.sio,insO 587 x.sd),
      (3 * kq + 3,x.dq1,dqO),(3 * k1 + 3,y.f1,frmO y.d1 #[]),(3 * k0 + 3,y.f0,frmO y.d0 y.sl)],
    fun α _ => .error (.ref (α 0)),[(kl,x.ld,fun α _ => lexO P x.sio x.dq1 x.dq2 x.κ (.str (u [q]) (α 4)) W (α 5)),(ks,x.sd,fun α _ => sdO P x.T (x.T.length : Nat) x.tt (α 6) x.k0 x.k1 x.k2),
      (k1,y.f1,fun _ _ => frmO y.d1 (slT y.f0)),(k0,y.f0,fun α _ => frmO y.d0 (slL (α 7) y.sl))],[],
    [fun α _ => excO (.ref (α 8)) (.ref (α 1)),fun α _ => tbO (.ref (α 2)) (α 3) .none (plOf fun i => α (i + 9))],true⟩
theorem gtFn_quiet (fr : Nat) : (gtFn fr).quiet = true := by kernel_rfl
theorem vGtR {w : World} {b1 b2 b3 z : Bool} {kl ks kx ky kq k1 k0 : Nat} {x : Lx} {y : Fx} {q : Nat} {W : Str} {qd : Bool} {stt wt pt : Tok} (nd : [kl,ks,kx,ky,kq,k1,k0].Nodup) (hT : x.T.cps.toList ≠ []) (hsg : ∀ c ∈ x.T.cps.toList,isSg c) (h1 : x.T.length ≠ 1) (hl : x.T.length ≤ 1000) (hq : q = 39 ∨ q = 34 ∨ q = 96) (hr : lexT x.T.cps.toList = (q,W,qd)) :
    Valid (VX w b1 b2 b3) (oGtR w.params (sh1 z y.f1 y.f0) kl ks kx ky kq k1 k0 x y q W stt wt pt) := by
  intro hs p s htop hpre ⟨hap,hpp⟩
  have m_ld : (3 * kl + 3,x.ld,lexO w.params x.sio x.dq1 x.dq2 x.κ (.str (u [32]) stt) (u []) wt) ∈ (oGtR w.params (sh1 z y.f1 y.f0) kl ks kx ky kq k1 k0 x y q W stt wt pt).pre := mem_of_idx 0 rfl
  have m_sd : (3 * ks + 3,x.sd,sdO w.params x.T 0 x.tt pt x.k0 x.k1 x.k2) ∈ (oGtR w.params (sh1 z y.f1 y.f0) kl ks kx ky kq k1 k0 x y q W stt wt pt).pre := mem_of_idx 1 rfl
  have m_lex : (3 * kx + 3,x.lex,insO 722 x.ld) ∈ (oGtR w.params (sh1 z y.f1 y.f0) kl ks kx ky kq k1 k0 x y q W stt wt pt).pre := mem_of_idx 2 rfl
  have m_sio : (3 * ky + 3,x.sio,insO 587 x.sd) ∈ (oGtR w.params (sh1 z y.f1 y.f0) kl ks kx ky kq k1 k0 x y q W stt wt pt).pre := mem_of_idx 3 rfl
  have m_dq : (3 * kq + 3,x.dq1,dqO) ∈ (oGtR w.params (sh1 z y.f1 y.f0) kl ks kx ky kq k1 k0 x y q W stt wt pt).pre := mem_of_idx 4 rfl
  have m_f1 : (3 * k1 + 3,y.f1,frmO y.d1 #[]) ∈ (oGtR w.params (sh1 z y.f1 y.f0) kl ks kx ky kq k1 k0 x y q W stt wt pt).pre := mem_of_idx 5 rfl
  have m_f0 : (3 * k0 + 3,y.f0,frmO y.d0 y.sl) ∈ (oGtR w.params (sh1 z y.f1 y.f0) kl ks kx ky kq k1 k0 x y q W stt wt pt).pre := mem_of_idx 6 rfl
  simp only [List.nodup_cons,List.mem_cons,List.not_mem_nil,or_false,not_or,not_false_eq_true,List.nodup_nil,and_true] at nd
  obtain ⟨⟨n12,n13,n14,n15,n16,n17⟩,⟨n23,n24,n25,n26,n27⟩,⟨n34,n35,n36,n37⟩,⟨n45,n46,n47⟩,⟨n56,n57⟩,n67⟩ := nd
  have d_ld_sd : x.ld ≠ x.sd := apart_own hap m_ld m_sd n12
  have d_ld_lex : x.ld ≠ x.lex := apart_own hap m_ld m_lex n13
  have d_ld_sio : x.ld ≠ x.sio := apart_own hap m_ld m_sio n14
  have d_ld_dq : x.ld ≠ x.dq1 := apart_own hap m_ld m_dq n15
  have d_ld_f1 : x.ld ≠ y.f1 := apart_own hap m_ld m_f1 n16
  have d_ld_f0 : x.ld ≠ y.f0 := apart_own hap m_ld m_f0 n17
  have d_sd_lex : x.sd ≠ x.lex := apart_own hap m_sd m_lex n23
  have d_sd_sio : x.sd ≠ x.sio := apart_own hap m_sd m_sio n24
  have d_sd_dq : x.sd ≠ x.dq1 := apart_own hap m_sd m_dq n25
  have d_sd_f1 : x.sd ≠ y.f1 := apart_own hap m_sd m_f1 n26
  have d_sd_f0 : x.sd ≠ y.f0 := apart_own hap m_sd m_f0 n27
  have d_lex_sio : x.lex ≠ x.sio := apart_own hap m_lex m_sio n34
  have d_lex_dq : x.lex ≠ x.dq1 := apart_own hap m_lex m_dq n35
  have d_lex_f1 : x.lex ≠ y.f1 := apart_own hap m_lex m_f1 n36
  have d_lex_f0 : x.lex ≠ y.f0 := apart_own hap m_lex m_f0 n37
  have d_sio_dq : x.sio ≠ x.dq1 := apart_own hap m_sio m_dq n45
  have d_sio_f1 : x.sio ≠ y.f1 := apart_own hap m_sio m_f1 n46
  have d_sio_f0 : x.sio ≠ y.f0 := apart_own hap m_sio m_f0 n47
  have d_dq_f1 : x.dq1 ≠ y.f1 := apart_own hap m_dq m_f1 n56
  have d_dq_f0 : x.dq1 ≠ y.f0 := apart_own hap m_dq m_f0 n57
  have d_f1_f0 : y.f1 ≠ y.f0 := apart_own hap m_f1 m_f0 n67
  have g_ld := hpre _ m_ld
  have lt_ld := Heap.lt_size g_ld
  have g_sd := hpre _ m_sd
  have lt_sd := Heap.lt_size g_sd
  have g_lex := hpre _ m_lex
  have lt_lex := Heap.lt_size g_lex
  have g_sio := hpre _ m_sio
  have lt_sio := Heap.lt_size g_sio
  have g_dq := hpre _ m_dq
  have lt_dq := Heap.lt_size g_dq
  have g_f1 := hpre _ m_f1
  have lt_f1 := Heap.lt_size g_f1
  have g_f0 := hpre _ m_f0
  have lt_f0 := Heap.lt_size g_f0
  dsimp only at g_ld lt_ld g_sd lt_sd g_lex lt_lex g_sio lt_sio g_dq lt_dq g_f1 lt_f1 g_f0 lt_f0
  refine enterT (VX_ok _ _ _ _) (lT := []) (lR := []) (gtC_run w b1 b2 b3 z y.f1 y.f0 hs p s.heap.objs.size s.toks x.lex x.ld) rfl htop (fun _ h => nomatch h) (fun _ h => nomatch h) List.nodup_nil (fun _ h => nomatch h) (fun _ h => nomatch h) ?_
  intro s1 L1
  refine ⟨gtFn_quiet _,fun p' => ?_⟩
  have keep1 : ∀ a ob,s.heap.get? a = some ob → s1.heap.get? a = some ob := fun a ob h => L1.keep a ob h (fun h => nomatch h)
  have g_fr := L1.at_ _ (.head _)
  replace g_fr : s1.heap.get? (s.heap.objs.size + 0) = some (frmO (gtD w.params x.lex (s.toks + 0)) #[]) := g_fr
  generalize hfr : s.heap.objs.size + 0 = fr at g_fr
  have nfr : ∀ {a : Nat},a < s.heap.objs.size → fr ≠ a := fun h e => by omega
  show wpCode (VM (VX w b1 b2 b3)) ⟨.func (bodyAt [19,5]) (gtEnv fr),none,none,fillAll (sh1 z y.f1 y.f0) hs,none⟩ _ p' s1
  refine func_raise rfl fun p' => ?_
  have tfr : ∀ ob,topF w.params fr ≠ some ob := fun ob h => nfr (Heap.lt_size (htop fr ob h)) rfl
  refine Sem.wp_mono _ _ _ (fun _ _ _ h => h) (fun v p'' s' h => ?_) _ _ (wp_own (VX_ok w b1 b2 b3) (Q := fun r s2 => match r with
      | .ok _ => False
      | .error v => ∃ α1 : Nat → Nat,v = .ref (α1 0) ∧ PostX [fr,x.lex,x.ld,x.dq1,x.sd,x.sio,y.f1,y.f0] [(x.ld,lexO w.params x.sio x.dq1 x.dq2 x.κ (.str (u [q]) (α1 4)) W (α1 5)),(x.sd,sdO w.params x.T (x.T.length : Nat) x.tt (α1 6) x.k0 x.k1 x.k2),(fr,frmO (gtD w.params x.lex (s.toks + 0)) (slG y.f1)),(y.f1,frmO y.d1 (slT y.f0)),(y.f0,frmO y.d0 (slL (α1 7) y.sl)),(x.lex,insO 722 x.ld),(x.sio,insO 587 x.sd),(x.dq1,dqO)] s1 s2 (α1 0) (α1 1) (excO (.ref (α1 8)) (.ref (α1 1))) (tbO .none (α1 2) .none (plOf fun i => α1 (i + 9))))
    (lT := [(fr,frmO (gtD w.params x.lex (s.toks + 0)) #[]),(x.lex,_),(x.ld,_),(x.dq1,_),(x.sd,_),(x.sio,_),(y.f1,_),(y.f0,_)])
    (gtX_run w b1 b2 b3 z y.f1 y.f0 hs p' s1.heap.objs.size s1.toks x.lex x.ld x.sio x.sd fr x.dq1 x.dq2 y.d1 y.d0 y.sl x.κ x.T W q x.tt pt (s.toks + 0) x.k0 x.k1 x.k2 stt wt) rfl (fun a ob h => keep1 a ob (htop a ob h)) (fun v hv => ?_) ?_ (fun v hv => ?_) ?_)
  · obtain ⟨α1,rfl,L⟩ := h
    have k_ld := L.at_ _ (mem_of_idx 0 rfl)
    have k_sd := L.at_ _ (mem_of_idx 1 rfl)
    have k_fr := L.at_ _ (mem_of_idx 2 rfl)
    have k_f1 := L.at_ _ (mem_of_idx 3 rfl)
    have k_f0 := L.at_ _ (mem_of_idx 4 rfl)
    have k_lex := L.at_ _ (mem_of_idx 5 rfl)
    have k_sio := L.at_ _ (mem_of_idx 6 rfl)
    have k_dq := L.at_ _ (mem_of_idx 7 rfl)
    have k_e := L.he
    have k_T := L.hT
    have n_e := L.ne
    have n_T := L.nT
    have d_eT := L.eT
    dsimp only at k_ld k_sd k_fr k_f1 k_f0 k_lex k_sio k_dq
    have g1 : s.heap.objs.size ≤ s1.heap.objs.size := L1.grow
    have g2 : s1.heap.objs.size ≤ s'.heap.objs.size := L.grow
    have hfr1 : fr < s1.heap.objs.size := Heap.lt_size g_fr
    refine at_ctx (Γ := ⟨.func (bodyAt [19,5]) (gtEnv fr),none,none,fillAll (sh1 z y.f1 y.f0) hs,none⟩) (fs := [gtEnv fr,tkEnv y.f1,lwEnv y.f0]) rfl (show (Code.func (bodyAt [19,5]) (gtEnv fr)).envs ++ envsOf (fillAll (sh1 z y.f1 y.f0) hs) = _ from by rw [envs1 z y.f1 y.f0 hs]; kernel_rfl) fun Ar hA hh => ?_
    refine leave_next hA rfl k_fr rfl k_e k_T d_eT.symm (Nat.ne_of_lt (Nat.lt_of_lt_of_le hfr1 n_T)) fun h' pl' z0 z1 z2 z3 z4 => ?_
    obtain ⟨β,rfl⟩ := plOf_onto z0
    have neT : ∀ {a : Nat},a < s.heap.objs.size → a ≠ α1 1 := fun h e => by omega
    have nee : ∀ {a : Nat},a < s.heap.objs.size → a ≠ α1 0 := fun h e => by omega
    have lt_e := Heap.lt_size k_e
    refine ⟨al9 (α1 0) s'.heap.objs.size (α1 1) fr (α1 4) (α1 5) (α1 6) (α1 7) (α1 8) β,0,rfl,fun v hv => ?_,(fun _ _ h => nomatch h),fun a ob g hb => ?_,(fun _ _ h => nomatch h),fun j f h => ?_,apart2 (α := al9 (α1 0) s'.heap.objs.size (α1 1) fr (α1 4) (α1 5) (α1 6) (α1 7) (α1 8) β) (Nat.ne_of_lt lt_e) rfl rfl rfl,?_,L.gens.trans L1.gens,L.drawn.trans L1.drawn,L.os.trans L1.os⟩
    · rcases List.mem_cons.mp hv with rfl | hv
      · exact z4 _ _ (nee lt_ld) (neT lt_ld) k_ld
      rcases List.mem_cons.mp hv with rfl | hv
      · exact z4 _ _ (nee lt_sd) (neT lt_sd) k_sd
      rcases List.mem_cons.mp hv with rfl | hv
      · exact z4 _ _ (nee lt_f1) (neT lt_f1) k_f1
      obtain rfl := List.mem_singleton.mp hv
      exact z4 _ _ (nee lt_f0) (neT lt_f0) k_f0
    · have la := Heap.lt_size g
      have c1 : a ≠ x.ld := fun e => hb _ (mem_of_idx 0 rfl) e.symm
      have c2 : a ≠ x.sd := fun e => hb _ (mem_of_idx 1 rfl) e.symm
      have c4 : a ≠ y.f1 := fun e => hb _ (mem_of_idx 2 rfl) e.symm
      have c5 : a ≠ y.f0 := fun e => hb _ (mem_of_idx 3 rfl) e.symm
      refine z4 a ob (nee la) (neT la) ?_
      by_cases e1 : a = x.lex
      · rw [e1] at g ⊢; rw [g_lex] at g; cases g; exact k_lex
      by_cases e2 : a = x.sio
      · rw [e2] at g ⊢; rw [g_sio] at g; cases g; exact k_sio
      by_cases e3 : a = x.dq1
      · rw [e3] at g ⊢; rw [g_dq] at g; cases g; exact k_dq
      exact L.keep a ob (keep1 a ob g) (by simp [(nfr la).symm,c1,c2,c4,c5,e1,e2,e3])
    · match j with
      | 0 => cases h; exact ⟨z2,Nat.le_trans g1 n_e⟩
      | 1 => cases h; exact ⟨z3,Nat.le_trans g1 g2⟩
      | j + 2 => cases h
    · show s.heap.objs.size ≤ h'.objs.size
      omega
  · simp only [List.mem_cons,List.not_mem_nil,or_false] at hv
    rcases hv with rfl | rfl | rfl | rfl | rfl | rfl | rfl | rfl
    · exact g_fr
    · exact keep1 _ _ g_lex
    · exact keep1 _ _ g_ld
    · exact keep1 _ _ g_dq
    · exact keep1 _ _ g_sd
    · exact keep1 _ _ g_sio
    · exact keep1 _ _ g_f1
    · exact keep1 _ _ g_f0
  · simp [nfr lt_ld,nfr lt_sd,nfr lt_lex,nfr lt_sio,nfr lt_dq,nfr lt_f1,nfr lt_f0,d_ld_sd,d_ld_lex,d_ld_sio,d_ld_dq,d_ld_f1,d_ld_f0,d_sd_lex,d_sd_sio,d_sd_dq,d_sd_f1,d_sd_f0,d_lex_sio,d_lex_dq,d_lex_f1,d_lex_f0,d_sio_dq,d_sio_f1,d_sio_f0,d_dq_f1,d_dq_f0,d_f1_f0,d_ld_sd.symm,d_ld_lex.symm,d_ld_sio.symm,d_ld_dq.symm,d_ld_f1.symm,d_ld_f0.symm,d_sd_lex.symm,d_sd_sio.symm,d_sd_dq.symm,d_sd_f1.symm,d_sd_f0.symm,d_lex_sio.symm,d_lex_dq.symm,d_lex_f1.symm,d_lex_f0.symm,d_sio_dq.symm,d_sio_f1.symm,d_sio_f0.symm,d_dq_f1.symm,d_dq_f0.symm,d_f1_f0.symm]
  · simp only [List.mem_cons,List.not_mem_nil,or_false] at hv
    rcases hv with rfl | rfl | rfl | rfl | rfl | rfl | rfl | rfl
    · exact tfr
    · exact apart_top hap m_lex
    · exact apart_top hap m_ld
    · exact apart_top hap m_dq
    · exact apart_top hap m_sd
    · exact apart_top hap m_sio
    · exact apart_top hap m_f1
    · exact apart_top hap m_f0
  · refine ⟨vRtR (x := ⟨x.lex,x.ld,x.sio,x.sd,0,x.dq1,x.dq2,x.κ,x.T,x.tt,x.k0,x.k1,x.k2⟩) (y := ⟨fr,y.f1,y.f0,gtD w.params x.lex (s.toks + 0),y.d1,y.d0,y.sl⟩) (kl := 2) (ks := 4) (kx := 1) (ky := 5) (k2 := 0) (k1 := 6) (k0 := 7) (by decide) hT hsg h1 hl hq hr,fun α1 tk1 n1 τ1 _ s2 L => ⟨α1,rfl,fun o ho => ?_,L.at_ _ (mem_of_idx 5 rfl),L.at_ _ (mem_of_idx 6 rfl),L.new _ (mem_of_idx 5 rfl) (Nat.le_refl 8),L.new _ (mem_of_idx 6 rfl) (show 8 ≤ 9 by decide),fun e => absurd (L.inj _ (mem_of_idx 5 rfl) _ (mem_of_idx 6 rfl) e) (show ¬ (8 : Nat) = 9 by decide),fun a ob g ha => L.keep a ob g ha,L.grow,L.gens,L.drawn,L.os⟩⟩
    simp only [List.mem_cons,List.not_mem_nil,or_false] at ho
    rcases ho with rfl | rfl | rfl | rfl | rfl | rfl | rfl | rfl
    · exact L.at_ _ (mem_of_idx 0 rfl)
    · exact L.at_ _ (mem_of_idx 1 rfl)
    · exact L.at_ _ (mem_of_idx 2 rfl)
    · exact L.at_ _ (mem_of_idx 3 rfl)
    · exact L.at_ _ (mem_of_idx 4 rfl)
    · exact L.at_ _ (mem_of_idx 7 rfl)
    · exact L.at_ _ (mem_of_idx 8 rfl)
    · exact L.at_ _ (mem_of_idx 9 rfl)
end Mine
end
section
open PySem PySem.W PyProof.Rows
namespace Mine
noncomputable def tk1D (P : Params) (T : Str) (tt kl : Tok) : Data := .dict ⟨[d P (u [108,105,110,101]) kl (.str T tt)]⟩ 1
noncomputable def tk2D (P : Params) (T : Str) (lex : Nat) (tt kl kx : Tok) : Data := .dict ⟨[d P (u [108,105,110,101]) kl (.str T tt),d P (u [108,101,120,101,114]) kx (.ref lex)]⟩ 2
noncomputable def tkTry : List Stmt := match ((bodyAt [31])[2]? : Option Stmt) with
  | some (Stmt.Try b _ _ _ _) => b
  | _ => []
noncomputable def tkHan : List ExceptHandler := match ((bodyAt [31])[2]? : Option Stmt) with
  | some (Stmt.Try _ h _ _ _) => h
  | _ => []
noncomputable def tkExA (fr : Nat) : Sem PySem.Fin := (execs ((bodyAt [31]).take 2) (tkEnv fr)).bind fun f => .pure (.done f)
noncomputable def tkExB (fr : Nat) : Sem PySem.Fin := (execs tkTry (tkEnv fr)).bind fun f => .pure (.done f)
noncomputable def tkExD (e fr : Nat) : Sem PySem.Fin := (handleBy (.ref e) (tkEnv fr) tkHan).bind fun f => .pure (.done f)
noncomputable def tkC_sh (z : Bool) (f0 : Nat) : List Sk := shY f0 z
noncomputable def tkC_code (z : Bool) (T : Str) (tt : Tok) : Code := (.call (.ref 782) ⟨[(.str T tt)],[]⟩)
noncomputable def tkC_lT (P : Params) (z : Bool) (T : Str) (tt : Tok) : List Ent := []
noncomputable def tkC_lR (P : Params) (z : Bool) (T : Str) (tt : Tok) : List Ent := []
noncomputable def tkC_scr (P : Params) (n τ : Nat) (z : Bool) (T : Str) (tt : Tok) : Scr := (.fin [2347,2344,3,3,7] ⟨.ok (.again (tkFn (n + 0))),[(0,(n + 0),⟨(.type SL.s658472552662922059x5),none,(.dict ⟨[d P (u [108,105,110,101]) (τ + 0) (.str T tt)]⟩ 1),⟨[]⟩⟩)],[]⟩)
theorem tkC_run (w : World) (b1 b2 b3 z : Bool) (f0 : Nat) (hs : HL (tkC_sh z f0)) (p : Pos) (n τ : Nat) (T : Str) (tt : Tok) : SH (VX w b1 b2 b3) false 20000 [] ⟨tkC_code z T tt ,none,none,fillAll (tkC_sh z f0) hs,none⟩ p ((VX w b1 b2 b3).den (tkC_code z T tt )) (tkC_scr w.params n τ z T tt ) (tabOf (tkC_lR w.params z T tt ) 0 .nil) (tabOf (tkC_lT w.params z T tt ) 0 .nil) 0 0 n 0 τ 0 [] [] := by
  cases z <;> exact runOf (adrs [] n) (adr1 []) (by kernel_rfl)
noncomputable def tkA_sh (z : Bool) (f0 : Nat) : List Sk := shY f0 z
noncomputable def tkA_code (z : Bool) (fr : Nat) (T : Str) (tt kl : Tok) : Code := (tkFn fr)
noncomputable def tkA_lT (P : Params) (z : Bool) (fr : Nat) (T : Str) (tt kl : Tok) : List Ent := [(fr,(frmO (tk1D P T tt kl) #[]))]
noncomputable def tkA_lR (P : Params) (z : Bool) (fr : Nat) (T : Str) (tt kl : Tok) : List Ent := []
noncomputable def tkA_scr (P : Params) (n τ : Nat) (z : Bool) (fr : Nat) (T : Str) (tt kl : Tok) : Scr := (.fin [10,3,2167,2167,0,2167,2167,2167,2167,2167,2167,0,2167,2167,2167,2167,2167,2167,2167,2167,2167,2167,2167,2167,2167,2167,2167,2167,2167,2164,2167,2167,9,2167,9,2167,2167,2164,1939,0,1939,1936,1918,12,12,12,12,12,12,12,12,12,12,7,10,1,12,10,1,0,10,12,1762,1762,0,1762,1762,1762,1762,1762,1762,1762,0,1762,7,1762,1762,1762,1759,331,328,250,247,253,253,0,253,253,0,241,238,21,21,21,21,21,21,7,21,10,1762,1021,21,10,10,1,0,21,0,1762,1762,1762,1762,1762,1762,331,331,250,250,331,331,331,250,250,250,250,250,1762,1762,1762,1762,1762,331,331,250,250,331,331,331,250,250,250,250,250,1762,1762,27,1762,27,1762,1762,1759,1072,0,1072,1069,1051,30,30,30,30,30,30,7,30,10,1,30,0,10,1,30,30,0,30,0,30,10,1,30,0,10,1,30,30,27,1762,1762,1759,331,328,250,247,0,27,1762,27,1762,27,1762,1762,1759,331,328,250,247,27,1762,24,24,24,30,27,1762,1762,1759,331,328,250,247,0,27,1762,27,1762,27,1762,1762,1759,331,328,250,247,27,1762,24,24,24,30,27,1762,1762,1759,331,328,250,247,0,27,1762,27,1762,27,1762,1762,1759,331,328,250,247,27,1762,24,24,24,30,30,27,1762,1762,1759,331,328,250,247,27,1762,1762,1759,331,328,250,247,27,1762,1762,1759,1093,27,24,30,1093,0,1093,1090,33,33,33,33,7,33,27,1762,1762,1759,331,328,250,247,0,27,1762,1762,1759,331,328,250,247,27,27,1762,24,33,33,33,33,0,33,0,33,30,27,1762,1762,1759,331,328,250,247,0,27,1762,27,1762,27,1762,1762,1759,331,328,250,247,27,1762,24,24,24,12,12,12,12,12,9,2167,2167,2164,0,9,2167,9,2167,9,2167,2167,2164,9,2167,6,6,6,12,12,9,2167,2167,2164,0,9,2167,9,2167,9,2167,2167,2164,9,2167,6,6,6,12,12,9,2167,2167,2164,0,9,2167,9,2167,9,2167,2167,2164,9,2167,6,6,6,12,12,9,2167,2167,2164,0,9,2167,9,2167,9,2167,2167,2164,9,2167,6,6,6,12,9,2167,2167,2164,0,9,2167,9,2167,9,2167,2167,2164,9,2167,6,6,6,12,9,2167,2167,2164,0,9,2167,9,2167,9,2167,2167,2164,9,2167,6,6,6,12,9,2167,2167,2164,0,9,2167,2167,2164,9,9,2167,6,12,9,2167,2167,2164,0,9,2167,2167,2164,9,9,2167,6,0,9,2167,2167,2164,0,9,2167,9,2167,9,2167,2167,2164,9,2167,6,6,6,12,9,2167,2167,2164,0,9,2167,9,2167,9,2167,2167,2164,9,2167,6,6,6,12,9,2167,2167,2164,0,9,2167,9,2167,9,2167,2167,2164,9,2167,6,6,6,12,9,2167,2167,2164,0,9,2167,9,2167,9,2167,2167,2164,9,2167,6,6,6,12,9,2167,2167,2164,0,9,2167,9,2167,9,2167,2167,2164,9,2167,6,6,6,12,9,2167,2167,2164,0,9,2167,9,2167,9,2167,2167,2164,9,2167,6,6,6,12,9,2167,2167,2164,0,9,2167,9,2167,9,2167,2167,2164,9,2167,6,6,6,10,0,0,36,36,0,36,36,36,36,12,9,2167,2167,2164,0,9,2167,9,2167,9,2167,2167,2164,9,2167,6,6,6,12,9,2167,2167,2164,0,9,2167,9,2167,9,2167,2167,2164,9,2167,6,6,6,12,9,2167,2167,2164,0,9,2167,9,2167,9,2167,2167,2164,9,2167,6,6,6,12,9,2167,2167,2164,0,9,2167,9,2167,9,2167,2167,2164,9,2167,6,6,6,10,0,0,39,39,0,39,39,39,39,12,9,2167,2167,2164,0,9,2167,9,2167,9,2167,2167,2164,9,2167,6,6,6,12,9,2167,2167,2164,0,9,2167,9,2167,9,2167,2167,2164,9,2167,6,6,6,12,12,12,12,12,9,2167,2167,2164,0,9,2167,9,2167,9,2167,2167,2164,9,2167,6,6,6,12,0,0,3,3,3,9,2167,2167,2164,0,9,2167,9,2167,9,2167,2167,2164,9,2167,6,6,6] ⟨.ok (.done .next),[(0,fr,(frmO (tk2D P T (n + 1) tt kl (τ + 90)) #[])),(1,(n + 0),(lexO P (n + 7) (n + 10) (n + 11) (kap [(τ + 33),(τ + 35),(τ + 37),(τ + 39),(τ + 42),(τ + 40),(τ + 45),(τ + 49),(τ + 54),(τ + 52),(τ + 56),(τ + 59),(τ + 91),(τ + 62),(τ + 60),(τ + 65),(τ + 63),(τ + 68),(τ + 70),(τ + 73),(τ + 71),(τ + 76),(τ + 74),(τ + 79),(τ + 81),(τ + 83),(τ + 87),(τ + 84)]) (.str (u [32]) (τ + 66)) (u []) (τ + 77))),(7,(n + 6),(sdO P T 0 tt (τ + 20) (τ + 16) (τ + 19) (τ + 22))),(2,(n + 1),(insO 722 (n + 0))),(8,(n + 7),(insO 587 (n + 6))),(11,(n + 10),dqO)],[]⟩)
theorem tkA_run (w : World) (b1 b2 b3 z : Bool) (f0 : Nat) (hs : HL (tkA_sh z f0)) (p : Pos) (n τ : Nat) (fr : Nat) (T : Str) (tt kl : Tok) : SH (VX w b1 b2 b3) false 20000 [] ⟨tkA_code z fr T tt kl ,none,none,fillAll (tkA_sh z f0) hs,none⟩ p (tkExA fr) (tkA_scr w.params n τ z fr T tt kl ) (tabOf (tkA_lR w.params z fr T tt kl ) 0 .nil) (tabOf (tkA_lT w.params z fr T tt kl ) 0 .nil) 1 0 n 0 τ 0 [] [] := by
  cases z <;> cases b1 <;> exact runOf (adrs [fr] n) (adr1 []) (by kernel_rfl)
noncomputable def tkB_sh (z : Bool) (f0 : Nat) : List Sk := shY f0 z
noncomputable def tkB_code (z : Bool) (fr lex ld sio sd dq1 dq2 f0 : Nat) (d0 : Data) (sl : Array (Option PySem.Value)) (κ : Nat → Tok) (T W : Str) (q : Nat) (tt kl kx pt k0 k1 k2 stt wt : Tok) : Code := (tkFn fr)
noncomputable def tkB_lT (P : Params) (z : Bool) (fr lex ld sio sd dq1 dq2 f0 : Nat) (d0 : Data) (sl : Array (Option PySem.Value)) (κ : Nat → Tok) (T W : Str) (q : Nat) (tt kl kx pt k0 k1 k2 stt wt : Tok) : List Ent := [(fr,(frmO (tk2D P T lex tt kl kx) #[])),(lex,(insO 722 ld)),(ld,(lexO P sio dq1 dq2 κ (.str (u [32]) stt) (u []) wt)),(sd,(sdO P T 0 tt pt k0 k1 k2)),(sio,(insO 587 sd)),(dq1,dqO),(f0,(frmO d0 sl))]
noncomputable def tkB_lR (P : Params) (z : Bool) (fr lex ld sio sd dq1 dq2 f0 : Nat) (d0 : Data) (sl : Array (Option PySem.Value)) (κ : Nat → Tok) (T W : Str) (q : Nat) (tt kl kx pt k0 k1 k2 stt wt : Tok) : List Ent := []
noncomputable def tkB_scr (P : Params) (n τ : Nat) (z : Bool) (fr lex ld sio sd dq1 dq2 f0 : Nat) (d0 : Data) (sl : Array (Option PySem.Value)) (κ : Nat → Tok) (T W : Str) (q : Nat) (tt kl kx pt k0 k1 k2 stt wt : Tok) : Scr := (.orc [3,6,2167,2167,2164,6,2167,2167,2164,6,2167,2167,2164,2050,6,9,2050] (oGtR P (sh1 z fr f0) 2 3 1 4 5 0 6 ⟨lex,ld,sio,sd,0,dq1,dq2,κ,T,tt,k0,k1,k2⟩ ⟨0,fr,f0,.plain,tk2D P T lex tt kl kx,d0,sl⟩ q W stt wt pt) 7 0 fun α1 tk1 n1 τ1 =>
  (.fin [] ⟨.error (.ref (α1 0)),[(0,fr,(frmO (tk2D P T lex tt kl kx) (slT f0))),(6,f0,(frmO d0 (slL (α1 7) sl))),(7,(α1 0),(excO (.ref (α1 8)) (.ref (α1 1)))),(8,(α1 1),(tbO (.ref (α1 2)) (α1 3) .none (plOf fun i => α1 (i + 9))))],[]⟩))
theorem tkB_run (w : World) (b1 b2 b3 z : Bool) (f0 : Nat) (hs : HL (tkB_sh z f0)) (p : Pos) (n τ : Nat) (fr lex ld sio sd dq1 dq2 : Nat) (d0 : Data) (sl : Array (Option PySem.Value)) (κ : Nat → Tok) (T W : Str) (q : Nat) (tt kl kx pt k0 k1 k2 stt wt : Tok) : SH (VX w b1 b2 b3) false 20000 [] ⟨tkB_code z fr lex ld sio sd dq1 dq2 f0 d0 sl κ T W q tt kl kx pt k0 k1 k2 stt wt ,none,none,fillAll (tkB_sh z f0) hs,none⟩ p (tkExB fr) (tkB_scr w.params n τ z fr lex ld sio sd dq1 dq2 f0 d0 sl κ T W q tt kl kx pt k0 k1 k2 stt wt ) (tabOf (tkB_lR w.params z fr lex ld sio sd dq1 dq2 f0 d0 sl κ T W q tt kl kx pt k0 k1 k2 stt wt ) 0 .nil) (tabOf (tkB_lT w.params z fr lex ld sio sd dq1 dq2 f0 d0 sl κ T W q tt kl kx pt k0 k1 k2 stt wt ) 0 .nil) 7 0 n 0 τ 0 [] [] := by
  cases z <;> exact runOf (adrs [fr,lex,ld,sd,sio,dq1,f0] n) (adr1 []) (by kernel_rfl)
noncomputable def tkD_sh (z : Bool) (f0 : Nat) : List Sk := shY f0 z
noncomputable def tkD_code (z : Bool) (fr ex Tb a0 : Nat) (hdv : PySem.Value) (pl : List PySem.Value) : Code := (tkFn fr)
noncomputable def tkD_lT (P : Params) (z : Bool) (fr ex Tb a0 : Nat) (hdv : PySem.Value) (pl : List PySem.Value) : List Ent := [(ex,(excO (.ref a0) (.ref Tb))),(Tb,(tbO hdv fr .none pl))]
noncomputable def tkD_lR (P : Params) (z : Bool) (fr ex Tb a0 : Nat) (hdv : PySem.Value) (pl : List PySem.Value) : List Ent := []
noncomputable def tkD_scr (P : Params) (n τ : Nat) (z : Bool) (fr ex Tb a0 : Nat) (hdv : PySem.Value) (pl : List PySem.Value) : Scr := (.fin [0,10,1,3,0,3,6,6] ⟨.ok (.done (.ret .none)),[],[]⟩)
theorem tkD_run (w : World) (b1 b2 b3 z : Bool) (f0 : Nat) (hs : HL (tkD_sh z f0)) (p : Pos) (n τ : Nat) (fr ex Tb a0 : Nat) (hdv : PySem.Value) (pl : List PySem.Value) : SH (VX w b1 b2 b3) false 20000 [] ⟨tkD_code z fr ex Tb a0 hdv pl ,none,none,fillAll (tkD_sh z f0) hs,none⟩ p (tkExD ex fr) (tkD_scr w.params n τ z fr ex Tb a0 hdv pl ) (tabOf (tkD_lR w.params z fr ex Tb a0 hdv pl ) 0 .nil) (tabOf (tkD_lT w.params z fr ex Tb a0 hdv pl ) 0 .nil) 2 0 n 0 τ 0 [] [] := by
  cases z <;> exact runOf (adrs [ex,Tb] n) (adr1 []) (by kernel_rfl)
end Mine
end
section
open PySem PySem.W PyProof.Rows
namespace Mine
theorem wp_execs_append {M : Model} {Γ : Ctx} {env : Env} {l2 : List Stmt} {Q : Flow → Pos → Shared → Prop} {E : Value → Pos → Shared → Prop} : ∀ (l1 : List Stmt) (p : Pos) (s : Shared),
    Sem.wp M Γ (execs l1 env) (fun f p s => match f with | .next => Sem.wp M Γ (execs l2 env) Q E p s | f => Q f p s) E p s → Sem.wp M Γ (execs (l1 ++ l2) env) Q E p s
  | [],p,s,h => by
    rw [execs_nil,Sem.wp_pure'] at h
    exact h
  | st :: l1,p,s,h => by
    rw [execs_cons,Sem.wp_bind'] at h
    rw [List.cons_append,execs_cons,Sem.wp_bind']
    refine Sem.wp_mono _ _ _ (fun f p' s' x => ?_) (fun _ _ _ x => x) _ _ h
    cases f with
    | next => exact wp_execs_append l1 p' s' x
    | _ => first | exact x | (rw [Sem.wp_pure'] at x ⊢; exact x)
theorem func_try {V : HV} {Γ : Ctx} {env : Env} {l1 tb orl : List Stmt} {h0 : ExceptHandler} {hs : List ExceptHandler} {pos : Pos} {Q : Result → Shared → Prop} {p : Pos} {s : Shared} (hc : Γ.code = .func (l1 ++ [.Try tb (h0 :: hs) orl [] pos]) env)
    (h : ∀ p,Sem.wp (VM V) Γ ((execs l1 env).bind fun f => .pure (PySem.Fin.done f)) (fun fin _ s1 => fin = .done .next ∧ ∀ p,Sem.wp (VM V) Γ ((execs tb env).bind fun f => .pure (PySem.Fin.done f)) (fun _ _ _ => False)
      (fun v p2 s2 => Sem.wp (VM V) Γ (noteFrame v env) (fun _ p3 s3 => Sem.wp (VM V) Γ (setFlight v none) (fun _ p4 s4 => Sem.wp (VM V) Γ ((handleBy v env (h0 :: hs)).bind fun f => .pure (PySem.Fin.done f)) (fun fin _ s5 => ∃ r,fin = .done (.ret r) ∧ Q (.ok (.ret r)) s5) (fun _ _ _ => False) p4 s4) (fun _ _ _ => False) p3 s3) (fun _ _ _ => False) p2 s2) p s1) (fun _ _ _ => False) p s) : wpCode (VM V) Γ Q p s := by
  rw [wpCode_iff_wp,hc]
  have hd : (VM V).den (.func (l1 ++ [.Try tb (h0 :: hs) orl [] pos]) env) = (point >>= fun _ => ((execs (l1 ++ [.Try tb (h0 :: hs) orl [] pos]) env).onRaise (leaving env)) >>= fun f => match f with | .ret v => ret v | _ => ret .none) := rfl
  rw [hd,Sem.wp_bind']
  show Sem.wp (VM V) Γ (((execs (l1 ++ [.Try tb (h0 :: hs) orl [] pos]) env).onRaise (leaving env)) >>= fun f => match f with | .ret v => ret v | _ => ret .none) _ _ p s
  rw [Sem.wp_bind',Sem.wp_onRaise]
  refine wp_execs_append l1 _ _ ?_
  have h := h p
  rw [Sem.wp_bind] at h
  refine Sem.wp_mono _ _ _ (fun f p1 s1 x => ?_) (fun _ _ _ x => x.elim) _ _ h
  rw [Sem.wp_pure] at x
  obtain ⟨e,x⟩ := x
  cases e
  have x := x pos
  rw [Sem.wp_bind] at x
  show Sem.wp (VM V) Γ (execs [.Try tb (h0 :: hs) orl [] pos] env) _ _ p1 s1
  rw [execs_cons,Sem.wp_bind',arm_exec_Try,Sem.wp_bind']
  show Sem.wp (VM V) Γ (tryStmt false (execs tb env) (h0 :: hs) (execs orl env) [] env) _ _ pos s1
  unfold tryStmt
  simp only [List.isEmpty_nil,if_true,List.isEmpty_cons,Bool.false_and,Bool.false_eq_true,if_false]
  rw [Sem.wp_bind',Sem.wp_attempt]
  refine Sem.wp_mono _ _ _ (fun f p2 s2 y => y.elim) (fun v p2 s2 y => ?_) _ _ x
  show Sem.wp (VM V) Γ (noteFrame v env >>= fun _ => _) _ _ p2 s2
  rw [Sem.wp_bind']
  refine Sem.wp_mono _ _ _ (fun _ p3 s3 y => ?_) (fun _ _ _ y => y.elim) _ _ y
  rw [Sem.wp_bind']
  refine Sem.wp_mono _ _ _ (fun _ p4 s4 y => ?_) (fun _ _ _ y => y.elim) _ _ y
  rw [Sem.wp_bind] at y
  refine Sem.wp_mono _ _ _ (fun f p5 s5 y => ?_) (fun _ _ _ y => y.elim) _ _ y
  rw [Sem.wp_pure] at y
  obtain ⟨r,e,y⟩ := y
  cases e
  exact y
end Mine
end
section
open PySem PySem.W PyProof.Rows
namespace Mine
noncomputable def oTokN (sh : List Sk) (k0 f0 : Nat) (d0 : Data) (sl : Array (Option Value)) (T : Str) (tt : Tok) : Spec :=
  ⟨.call (.ref 782) ⟨[.str T tt],[]⟩,sh,[(3 * k0 + 3,f0,frmO d0 sl)],fun _ _ => .ok (.ret .none),[(k0,f0,fun α _ => frmO d0 (slL (α 0) sl))],[],[],true⟩
theorem add_ne {n i j : Nat} (h : i ≠ j) : n + i ≠ n + j := by omega
theorem ne_lt {a b n : Nat} (h : a < n) (h' : n ≤ b) : a ≠ b := by omega
theorem tkFn_quiet (fr : Nat) : (tkFn fr).quiet = true := by kernel_rfl
noncomputable def tkHan0 : ExceptHandler := match tkHan with
  | h :: _ => h
  | [] => .ExceptHandler none none [] default
noncomputable def tkHanR : List ExceptHandler := match tkHan with
  | _ :: r => r
  | [] => []
noncomputable def tkOr : List Stmt := match ((bodyAt [31])[2]? : Option Stmt) with
  | some (Stmt.Try _ _ o _ _) => o
  | _ => []
noncomputable def tkPos : Pos := match ((bodyAt [31])[2]? : Option Stmt) with
  | some (Stmt.Try _ _ _ _ p) => p
  | _ => default
theorem tkBody_eq : bodyAt [31] = (bodyAt [31]).take 2 ++ [.Try tkTry (tkHan0 :: tkHanR) tkOr [] tkPos] := by kernel_rfl
theorem vTokN {w : World} {b1 b2 b3 z : Bool} {k0 f0 : Nat} {d0 : Data} {sl : Array (Option Value)} {T : Str} {tt : Tok} {q : Nat} {W : Str} {qd : Bool} (hT : T.cps.toList ≠ []) (hsg : ∀ c ∈ T.cps.toList,isSg c) (h1 : T.length ≠ 1) (hl : T.length ≤ 1000) (hq : q = 39 ∨ q = 34 ∨ q = 96) (hr : lexT T.cps.toList = (q,W,qd)) :
    Valid (VX w b1 b2 b3) (oTokN (shY f0 z) k0 f0 d0 sl T tt) := by
  intro hs p s htop hpre ⟨hap,hpp⟩
  have m0 : (3 * k0 + 3,f0,frmO d0 sl) ∈ (oTokN (shY f0 z) k0 f0 d0 sl T tt).pre := .head _
  have g0 := hpre _ m0
  have lt0 : (f0 : Nat) < s.heap.objs.size := Heap.lt_size g0
  have tf0 := apart_top hap m0
  dsimp only at g0 lt0
  refine enterT (VX_ok _ _ _ _) (lT := []) (lR := []) (tkC_run w b1 b2 b3 z f0 hs p s.heap.objs.size s.toks T tt) rfl htop (fun _ h => nomatch h) (fun _ h => nomatch h) List.nodup_nil (fun _ h => nomatch h) (fun _ h => nomatch h) ?_
  intro s1 L1
  refine ⟨tkFn_quiet _,fun p' => ?_⟩
  have keep1 : ∀ a ob,s.heap.get? a = some ob → s1.heap.get? a = some ob := fun a ob h => L1.keep a ob h (fun h => nomatch h)
  have g_fr := L1.at_ _ (.head _)
  replace g_fr : s1.heap.get? (s.heap.objs.size + 0) = some (frmO (tk1D w.params T tt (s.toks + 0)) #[]) := g_fr
  generalize hfr : s.heap.objs.size + 0 = fr at g_fr
  have nfr : ∀ {a : Nat},a < s.heap.objs.size → fr ≠ a := fun h e => by omega
  have tfr : ∀ ob,topF w.params fr ≠ some ob := fun ob h => nfr (Heap.lt_size (htop fr ob h)) rfl
  have g1 : s.heap.objs.size ≤ s1.heap.objs.size := L1.grow
  have lfr : fr < s1.heap.objs.size := Heap.lt_size g_fr
  show wpCode (VM (VX w b1 b2 b3)) ⟨.func (bodyAt [31]) (tkEnv fr),none,none,fillAll (shY f0 z) hs,none⟩ _ p' s1
  refine func_try (Γ := ⟨.func (bodyAt [31]) (tkEnv fr),none,none,fillAll (shY f0 z) hs,none⟩) (l1 := (bodyAt [31]).take 2) (by show Code.func (bodyAt [31]) (tkEnv fr) = _; rw [← tkBody_eq]) fun p1 => ?_
  refine Sem.wp_mono _ _ _ (fun fin p2 s2 h => ?_) (fun _ _ _ h => h) _ _ (wp_own (VX_ok w b1 b2 b3) (Q := fun r s2 => match r with
      | .ok fin => fin = .done .next ∧ Left s1 (fun a => a ∈ [fr]) 1 [(0,fr,(frmO (tk2D w.params T (s1.heap.objs.size + 1) tt (s.toks + 0) (s1.toks + 90)) #[])),(1,(s1.heap.objs.size + 0),(lexO w.params (s1.heap.objs.size + 7) (s1.heap.objs.size + 10) (s1.heap.objs.size + 11) (kap [(s1.toks + 33),(s1.toks + 35),(s1.toks + 37),(s1.toks + 39),(s1.toks + 42),(s1.toks + 40),(s1.toks + 45),(s1.toks + 49),(s1.toks + 54),(s1.toks + 52),(s1.toks + 56),(s1.toks + 59),(s1.toks + 91),(s1.toks + 62),(s1.toks + 60),(s1.toks + 65),(s1.toks + 63),(s1.toks + 68),(s1.toks + 70),(s1.toks + 73),(s1.toks + 71),(s1.toks + 76),(s1.toks + 74),(s1.toks + 79),(s1.toks + 81),(s1.toks + 83),(s1.toks + 87),(s1.toks + 84)]) (.str (u [32]) (s1.toks + 66)) (u []) (s1.toks + 77))),(7,(s1.heap.objs.size + 6),(sdO w.params T 0 tt (s1.toks + 20) (s1.toks + 16) (s1.toks + 19) (s1.toks + 22))),(2,(s1.heap.objs.size + 1),(insO 722 (s1.heap.objs.size + 0))),(8,(s1.heap.objs.size + 7),(insO 587 (s1.heap.objs.size + 6))),(11,(s1.heap.objs.size + 10),dqO)] [] s2
      | .error _ => False)
    (lT := [(fr,frmO (tk1D w.params T tt (s.toks + 0)) #[])]) (tkA_run w b1 b2 b3 z f0 hs p1 s1.heap.objs.size s1.toks fr T tt (s.toks + 0)) rfl (fun a ob h => keep1 a ob (htop a ob h)) (fun v hv => ?_) (by simp) (fun v hv => ?_) (fun s2 L => ⟨rfl,L⟩))
  · obtain ⟨rfl,L2⟩ := h
    refine ⟨rfl,fun p3 => ?_⟩
    have g2 : s1.heap.objs.size ≤ s2.heap.objs.size := L2.grow
    have k_fr := L2.at_ _ (mem_of_idx 0 rfl)
    have k_ld := L2.at_ _ (mem_of_idx 1 rfl)
    have k_sd := L2.at_ _ (mem_of_idx 2 rfl)
    have k_lex := L2.at_ _ (mem_of_idx 3 rfl)
    have k_sio := L2.at_ _ (mem_of_idx 4 rfl)
    have k_dq := L2.at_ _ (mem_of_idx 5 rfl)
    have k_f0 : s2.heap.get? f0 = some (frmO d0 sl) := L2.keep _ _ (keep1 _ _ g0) (by simp [(nfr lt0).symm])
    have keep2 : ∀ a ob,s.heap.get? a = some ob → s2.heap.get? a = some ob := fun a ob h => L2.keep a ob (keep1 a ob h) (by simp [(nfr (Heap.lt_size h)).symm])
    dsimp only at k_fr k_ld k_sd k_lex k_sio k_dq
    -- the suite raises
    have big : ∀ i ob,topF w.params (s1.heap.objs.size + i) ≠ some ob := fun i ob h => by
      have : (s1.heap.objs.size + i : Nat) < s.heap.objs.size := Heap.lt_size (htop _ ob h)
      omega
    refine Sem.wp_mono _ _ _ (fun _ _ _ h => h) (fun v p4 s3 h => ?_) _ _ (wp_own (VX_ok w b1 b2 b3) (Q := fun r s3 => match r with
      | .ok _ => False
      | .error v => ∃ α1 : Nat → Nat,v = .ref (α1 0) ∧ Left s2 (fun a => a ∈ [fr,s1.heap.objs.size + 1,s1.heap.objs.size + 0,s1.heap.objs.size + 6,s1.heap.objs.size + 7,s1.heap.objs.size + 10,f0]) 7 [(0,fr,frmO (tk2D w.params T (s1.heap.objs.size + 1) tt (s.toks + 0) (s1.toks + 90)) (slT f0)),(6,f0,frmO d0 (slL (α1 7) sl)),(7,α1 0,excO (.ref (α1 8)) (.ref (α1 1))),(8,α1 1,tbO (.ref (α1 2)) (α1 3) .none (plOf fun i => α1 (i + 9)))] [] s3)
      (lT := [(fr,_),(s1.heap.objs.size + 1,_),(s1.heap.objs.size + 0,_),(s1.heap.objs.size + 6,_),(s1.heap.objs.size + 7,_),(s1.heap.objs.size + 10,_),(f0,_)])
      (tkB_run w b1 b2 b3 z f0 hs p3 s2.heap.objs.size s2.toks fr (s1.heap.objs.size + 1) (s1.heap.objs.size + 0) (s1.heap.objs.size + 7) (s1.heap.objs.size + 6) (s1.heap.objs.size + 10) (s1.heap.objs.size + 11) d0 sl (kap [(s1.toks + 33),(s1.toks + 35),(s1.toks + 37),(s1.toks + 39),(s1.toks + 42),(s1.toks + 40),(s1.toks + 45),(s1.toks + 49),(s1.toks + 54),(s1.toks + 52),(s1.toks + 56),(s1.toks + 59),(s1.toks + 91),(s1.toks + 62),(s1.toks + 60),(s1.toks + 65),(s1.toks + 63),(s1.toks + 68),(s1.toks + 70),(s1.toks + 73),(s1.toks + 71),(s1.toks + 76),(s1.toks + 74),(s1.toks + 79),(s1.toks + 81),(s1.toks + 83),(s1.toks + 87),(s1.toks + 84)]) T W q tt (s.toks + 0) (s1.toks + 90) (s1.toks + 20) (s1.toks + 16) (s1.toks + 19) (s1.toks + 22) (s1.toks + 66) (s1.toks + 77)) rfl (fun a ob h => keep2 a ob (htop a ob h)) (fun v hv => ?_) ?_ (fun v hv => ?_) ?_)
    · obtain ⟨α1,rfl,L3⟩ := h
      have g3 : s2.heap.objs.size ≤ s3.heap.objs.size := L3.grow
      have j_fr := L3.at_ _ (mem_of_idx 0 rfl)
      have j_f0 := L3.at_ _ (mem_of_idx 1 rfl)
      have j_e := L3.at_ _ (mem_of_idx 2 rfl)
      have j_T := L3.at_ _ (mem_of_idx 3 rfl)
      have n_e := L3.new _ (mem_of_idx 2 rfl) (Nat.le_refl 7)
      have n_T := L3.new _ (mem_of_idx 3 rfl) (show 7 ≤ 8 by decide)
      have d_eT : α1 0 ≠ α1 1 := fun e => absurd (L3.inj _ (mem_of_idx 2 rfl) _ (mem_of_idx 3 rfl) e) (show ¬ (7 : Nat) = 8 by decide)
      dsimp only at j_fr j_f0 j_e j_T n_e n_T
      have hctx : (Code.func (bodyAt [31]) (tkEnv fr)).envs ++ envsOf (fillAll (shY f0 z) hs) = [tkEnv fr,lwEnv f0] := by rw [envs0 z f0 hs]; kernel_rfl
      refine at_ctx (Γ := ⟨.func (bodyAt [31]) (tkEnv fr),none,none,fillAll (shY f0 z) hs,none⟩) (fs := [tkEnv fr,lwEnv f0]) rfl hctx (E := fun _ _ => False) (Q := fun _ s' => ∀ p',Sem.wp (VM (VX w b1 b2 b3)) ⟨.func (bodyAt [31]) (tkEnv fr),none,none,fillAll (shY f0 z) hs,none⟩ (setFlight (.ref (α1 0)) none) _ (fun _ _ _ => False) p' s') (s := s3) (fun Ar hA hh => ?_) |> fun h => Sem.wp_mono _ _ _ (fun _ p5 s5 x => x p5) (fun _ _ _ x => x) _ _ h
      refine note_next hA rfl j_fr rfl j_e j_T d_eT.symm (Nat.ne_of_lt (Nat.lt_of_lt_of_le (Nat.lt_of_lt_of_le lfr g2) n_T)) fun h4 pl' z0 z1 z2 z3 z4 p' => ?_
      refine at_ctx (Γ := ⟨.func (bodyAt [31]) (tkEnv fr),none,none,fillAll (shY f0 z) hs,none⟩) (fs := [tkEnv fr,lwEnv f0]) rfl hctx (E := fun _ _ => False) (Q := fun _ s' => ∀ p',Sem.wp (VM (VX w b1 b2 b3)) ⟨.func (bodyAt [31]) (tkEnv fr),none,none,fillAll (shY f0 z) hs,none⟩ ((handleBy (.ref (α1 0)) (tkEnv fr) (tkHan0 :: tkHanR)).bind fun f => .pure (PySem.Fin.done f)) _ (fun _ _ _ => False) p' s') (s := { s3 with heap := h4 }) (fun Ar hA hh => ?_) |> fun h => Sem.wp_mono _ _ _ (fun _ p5 s5 x => x p5) (fun _ _ _ x => x) _ _ h
      have lt_e := Heap.lt_size j_e
      refine lands (s := { s3 with heap := h4 }) z2 z3 fun h5 y1 y2 y3 p' => ?_
      have ge5 : h5.get? (α1 0) = some (excO (.ref (α1 8)) (.ref s3.heap.objs.size)) := (y3 _ (Nat.ne_of_lt lt_e)).trans z2
      have keep5 : ∀ a ob,s.heap.get? a = some ob → a ≠ f0 → h5.get? a = some ob := fun a ob h hn => by
        have la : (a : Nat) < s.heap.objs.size := Heap.lt_size h
        have c1 := ne_lt la (Nat.le_trans g1 (Nat.le_trans g2 g3))
        have c2 := ne_lt la (Nat.le_trans g1 (Nat.le_trans g2 n_e))
        have c3 := ne_lt la (Nat.le_trans g1 (Nat.le_trans g2 n_T))
        refine (y3 a c1).trans (z4 a ob c2 c3 (L3.keep a ob (keep2 a ob h) ?_))
        have b0 : (a : Nat) ≠ fr := (nfr la).symm
        have b1 := ne_lt la (Nat.le_trans g1 (Nat.le_add_right s1.heap.objs.size 1))
        have b2 := ne_lt la (Nat.le_trans g1 (Nat.le_add_right s1.heap.objs.size 0))
        have b3 := ne_lt la (Nat.le_trans g1 (Nat.le_add_right s1.heap.objs.size 6))
        have b4 := ne_lt la (Nat.le_trans g1 (Nat.le_add_right s1.heap.objs.size 7))
        have b5 := ne_lt la (Nat.le_trans g1 (Nat.le_add_right s1.heap.objs.size 10))
        intro hm
        simp only [List.mem_cons,List.not_mem_nil,or_false] at hm
        rcases hm with h | h | h | h | h | h | h <;> contradiction
      have gf5 : h5.get? f0 = some (frmO d0 (slL (α1 7) sl)) := by
        have c1 : f0 ≠ s3.heap.objs.size := by omega
        have c2 : f0 ≠ α1 0 := fun e => by omega
        have c3 : f0 ≠ α1 1 := fun e => by omega
        exact (y3 f0 c1).trans (z4 f0 _ c2 c3 j_f0)
      have topE : ∀ {a : Nat},s2.heap.objs.size ≤ a → ∀ ob,topF w.params a ≠ some ob := fun {a} h ob ht => by
        have : (a : Nat) < s.heap.objs.size := Heap.lt_size (htop _ ob ht)
        omega
      refine Sem.wp_mono _ _ _ (fun fin p6 s6 h => ?_) (fun _ _ _ h => h) _ _ (wp_own (VX_ok w b1 b2 b3) (s := { s3 with heap := h5 }) (Q := fun r s6 => match r with
          | .ok fin => fin = .done (.ret .none) ∧ Left { s3 with heap := h5 } (fun a => a ∈ [α1 0,s3.heap.objs.size]) 2 [] [] s6
          | .error _ => False)
        (lT := [(α1 0,excO (.ref (α1 8)) (.ref s3.heap.objs.size)),(s3.heap.objs.size,tbO (.ref (α1 1)) fr .none pl')])
        (tkD_run w b1 b2 b3 z f0 hs p' h5.objs.size s3.toks fr (α1 0) s3.heap.objs.size (α1 8) (.ref (α1 1)) pl') rfl (fun a ob h => ?_) (fun v hv => ?_) ?_ (fun v hv => ?_) (fun s6 L => ⟨rfl,L⟩))
      · obtain ⟨rfl,L6⟩ := h
        refine ⟨.none,rfl,fun i => α1 7,0,rfl,fun v hv => ?_,(fun _ _ h => nomatch h),fun a ob g hb => ?_,(fun _ _ h => nomatch h),(fun _ _ h => nomatch h),(fun _ _ h => absurd h (Nat.not_lt_zero _)),?_,L6.gens.trans (L3.gens.trans (L2.gens.trans L1.gens)),L6.drawn.trans (L3.drawn.trans (L2.drawn.trans L1.drawn)),L6.os.trans (L3.os.trans (L2.os.trans L1.os))⟩
        · obtain rfl := List.mem_singleton.mp hv
          have c1 : f0 ≠ s3.heap.objs.size := by omega
          have c2 : f0 ≠ α1 0 := fun e => by omega
          exact L6.keep f0 _ gf5 (by simp [c1,c2])
        · have la : (a : Nat) < s.heap.objs.size := Heap.lt_size g
          have c1 := ne_lt la (Nat.le_trans g1 (Nat.le_trans g2 g3))
          have c2 := ne_lt la (Nat.le_trans g1 (Nat.le_trans g2 n_e))
          exact L6.keep a ob (keep5 a ob g fun e => hb _ (.head _) e.symm) (by simp [c1,c2])
        · have e6 : h5.objs.size ≤ s6.heap.objs.size := L6.grow
          show s.heap.objs.size ≤ s6.heap.objs.size
          have y1' : h5.objs.size = h4.objs.size := y1
          omega
      · by_cases e : a = f0
        · exact absurd (e ▸ h) (tf0 ob)
        · exact keep5 a ob (htop a ob h) e
      · simp only [List.mem_cons,List.not_mem_nil,or_false] at hv
        rcases hv with rfl | rfl
        · exact ge5
        · exact y2
      · simp [Nat.ne_of_lt lt_e]
      · simp only [List.mem_cons,List.not_mem_nil,or_false] at hv
        rcases hv with rfl | rfl
        · exact topE n_e
        · exact topE g3
    · simp only [List.mem_cons,List.not_mem_nil,or_false] at hv
      rcases hv with rfl | rfl | rfl | rfl | rfl | rfl | rfl
      · exact k_fr
      · exact k_lex
      · exact k_ld
      · exact k_sd
      · exact k_sio
      · exact k_dq
      · exact k_f0
    · have a1 : fr ≠ s1.heap.objs.size + 1 := by omega
      have a2 : fr ≠ s1.heap.objs.size + 0 := by omega
      have a3 : fr ≠ s1.heap.objs.size + 6 := by omega
      have a4 : fr ≠ s1.heap.objs.size + 7 := by omega
      have a5 : fr ≠ s1.heap.objs.size + 10 := by omega
      have a6 : fr ≠ f0 := nfr lt0
      have c1 : s1.heap.objs.size + 1 ≠ f0 := by omega
      have c2 : s1.heap.objs.size + 0 ≠ f0 := by omega
      have c3 : s1.heap.objs.size + 6 ≠ f0 := by omega
      have c4 : s1.heap.objs.size + 7 ≠ f0 := by omega
      have c5 : s1.heap.objs.size + 10 ≠ f0 := by omega
      simp only [List.map_cons,List.map_nil,List.nodup_cons,List.mem_cons,List.not_mem_nil,or_false,not_or,not_false_eq_true,List.nodup_nil,and_true]
      refine ⟨⟨a1,a2,a3,a4,a5,a6⟩,⟨add_ne (by decide),add_ne (by decide),add_ne (by decide),add_ne (by decide),c1⟩,⟨add_ne (by decide),add_ne (by decide),add_ne (by decide),c2⟩,⟨add_ne (by decide),add_ne (by decide),c3⟩,⟨add_ne (by decide),c4⟩,c5⟩
    · simp only [List.mem_cons,List.not_mem_nil,or_false] at hv
      rcases hv with rfl | rfl | rfl | rfl | rfl | rfl | rfl
      · exact tfr
      · exact big 1
      · exact big 0
      · exact big 6
      · exact big 7
      · exact big 10
      · exact tf0
    · exact ⟨vGtR (x := ⟨s1.heap.objs.size + 1,s1.heap.objs.size + 0,s1.heap.objs.size + 7,s1.heap.objs.size + 6,0,s1.heap.objs.size + 10,s1.heap.objs.size + 11,kap [(s1.toks + 33),(s1.toks + 35),(s1.toks + 37),(s1.toks + 39),(s1.toks + 42),(s1.toks + 40),(s1.toks + 45),(s1.toks + 49),(s1.toks + 54),(s1.toks + 52),(s1.toks + 56),(s1.toks + 59),(s1.toks + 91),(s1.toks + 62),(s1.toks + 60),(s1.toks + 65),(s1.toks + 63),(s1.toks + 68),(s1.toks + 70),(s1.toks + 73),(s1.toks + 71),(s1.toks + 76),(s1.toks + 74),(s1.toks + 79),(s1.toks + 81),(s1.toks + 83),(s1.toks + 87),(s1.toks + 84)],T,tt,s1.toks + 16,s1.toks + 19,s1.toks + 22⟩) (y := ⟨0,fr,f0,.plain,tk2D w.params T (s1.heap.objs.size + 1) tt (s.toks + 0) (s1.toks + 90),d0,sl⟩) (kl := 2) (ks := 3) (kx := 1) (ky := 4) (kq := 5) (k1 := 0) (k0 := 6) (by decide) hT hsg h1 hl hq hr,
        fun α1 tk1 n1 τ1 _ s3 L => ⟨α1,rfl,L⟩⟩
  · obtain rfl := List.mem_singleton.mp hv
    exact g_fr
  · obtain rfl := List.mem_singleton.mp hv
    exact tfr
end Mine
end
section
open PySem PySem.W PyProof.Rows
namespace Mine
noncomputable def oTokS (sh : List Sk) (T : Str) (tt : Tok) (W : Str) : Spec :=
  ⟨.call (.ref 782) ⟨[.str T tt],[]⟩,sh,[],fun _ tk => .ok (.ret (.str W tk)),[],[],[],true⟩
theorem vTokS {w : World} {b1 b2 b3 z : Bool} {T : Str} {tt : Tok} {W : Str} {qd : Bool} (hT : T.cps.toList ≠ []) (hsg : ∀ c ∈ T.cps.toList,isSg c) (h1 : T.length ≠ 1) (hl : T.length ≤ 1000) (hr : lexT T.cps.toList = (97,W,qd)) (hW : qd = false → (W == u []) = false) :
    Valid (VX w b1 b2 b3) (oTokS (shX z) T tt W) := by
  cases qd with
  | true =>
    refine valid_run (VX_ok _ _ _ _) [] [] (fun n τ => tkT_scr w.params n τ z T W tt) rfl List.nodup_nil (fun _ h => nomatch h) (fun hs p n τ => tkT_run w b1 b2 b3 z hs p n τ T W tt) rfl fun s => ?_
    exact ⟨vLoop (by decide) hT hsg h1 hl hr,fun α tk n τ _ s' L q e => leaves_end (S := oTokS (shX z) T tt W) (own := []) (α := fun _ => 0) (tk := α 0) [] L e rfl rfl rfl rfl (by simp) (by simp)⟩
  | false =>
    refine valid_run (VX_ok _ _ _ _) [] [] (fun n τ => tkF_scr w.params n τ z T W tt) rfl List.nodup_nil (fun _ h => nomatch h) (fun hs p n τ => tkF_run w b1 b2 b3 z hs p n τ T W tt) rfl fun s => ?_
    exact ⟨vLoop (by decide) hT hsg h1 hl hr,fun α tk n τ _ => ⟨vEq (hW rfl),fun α2 tk2 n2 τ2 _ s' L q e => leaves_end (S := oTokS (shX z) T tt W) (own := []) (α := fun _ => 0) (tk := α 0) [] L e rfl rfl rfl rfl (by simp) (by simp)⟩⟩
end Mine
end
section
open PySem PySem.W PyProof.Rows
namespace Mine
noncomputable def lsO (xs : List Value) (e : Nat) : Obj := ⟨.type SL.s9222952809800978799x4,none,.seq ⟨xs⟩ e,#[]⟩
theorem lget_body {prog : Program} {w : World} {A : Around} {s : Shared} {a : Addr} {items : Array Value} {n : Nat} {k : Int} {ti : Tok} {v : Value} {Q : PySem.Fin → Shared → Prop} {E : Value → Shared → Prop} (ho : s.heap.get? a = some ⟨.type "list", none, .seq items n, #[]⟩) (h0 : 0 ≤ k) (hfit : k < 2 ^ 63) (hx : items[k.toNat]? = some v)
    (h : Q (.done (.ret v)) s) : wpAny (model prog w) A (Builtin.«list.__getitem__» ⟨[.ref a,.int k ti],[]⟩) Q E s := by
  show wpAny _ _ (Builtin.List.listSubscript? (.int k ti) >>= _) _ _ s
  refine wpAny_bind (wpAny_listSubscript_int (fitsIndex_of h0 hfit) ?_)
  clear hfit
  obtain ⟨j,rfl⟩ := Int.eq_ofNat_of_zero_le h0
  have hx' : items[j]? = some v := hx
  show wpAny _ _ ((seqItemAt a j >>= fun r => pure (r.map (j,·))) >>= _) _ _ s
  refine wpAny_bind (wpAny_bind (wpAny_seqItemAt ho rfl (wpAny_pure ?_)))
  rw [hx']
  first
    | exact wpAny_bind (wpAny_pure (wpAny_pure h))
    | exact wpAny_pure h
noncomputable def oLGet (sh : List Sk) (hp a : Nat) (xs : List Value) (e : Nat) (i : Int) (ti : Tok) (v : Value) : Spec := spV (.call (.builtin SL.s8077881857196166566x16) ⟨[.ref a,.int i ti],[]⟩) sh [(hp,a,lsO xs e)] fun _ => v
theorem vLGet {V : HV} {sh : List Sk} {hp a : Nat} {xs : List Value} {e i : Nat} {ti : Tok} {v : Value} (hx : xs[i]? = some v) (hi : (i : Int) < 2 ^ 63) : Valid V (oLGet sh hp a xs e i ti v) := by
  unfold oLGet lsO
  rw [← SL.e8077881857196166566x16,← SL.e9222952809800978799x4]
  refine valid_builtin rfl F.slot_list_getitem F.entry_list_getitem (F.args_list_getitem_2 _ _) fun A s hA hpre hap => ?_
  have ho := hpre _ (List.mem_singleton.mpr rfl)
  dsimp only at ho
  refine ⟨⟨_,ho,rfl⟩,?_⟩
  have hx' : (⟨xs⟩ : Array Value)[((i : Int)).toNat]? = some v := by simpa using hx
  have h0 : (0 : Int) ≤ (i : Int) := by omega
  generalize hk : (i : Int) = k at hx' h0 hi
  refine lget_body ho h0 hi hx' ?_
  exact ⟨v,rfl,fun _ => 0,0,leaves_same rfl ⟨rfl,rfl,rfl,rfl⟩⟩
noncomputable def rngO (g : Nat) : Obj := ⟨.type SL.s15992201931430999065x14,none,.fields ⟨[.int (g : Int) 0,.int (4 - (g : Int)) 0,.int 1 0]⟩,#[]⟩
noncomputable def oRng (sh : List Sk) (k a g : Nat) : Spec :=
  ⟨.call (.builtin i_range_iterator___next__) ⟨[.ref a],[]⟩,sh,[(3 * k + 3,a,rngO g)],fun _ tk => .ok (.ret (.int (g : Int) tk)),[(k,a,fun _ _ => rngO (g + 1))],[],[],true⟩
theorem vRng {V : HV} {sh : List Sk} {k a g : Nat} (hg : g < 4) : Valid V (oRng sh k a g) := by
  unfold oRng rngO
  rw [← i_range_iterator___next___eq,← SL.e15992201931430999065x14]
  refine valid_meets rfl F.slot_range_iterator_next F.entry_range_iterator_next (F.args_range_iterator_next_1 _) (AutoRange.range_iterator___next___range_iterator_1 a g (4 - (g : Int)) 1 (by omega)) fun A s hA hpre hap => ?_
  have ho := hpre _ (List.mem_singleton.mpr rfl)
  dsimp only at ho
  refine ⟨⟨_,ho,rfl⟩,ho,fun _ => 0,s.toks,?_⟩
  have u1 := Heap.get?_update_self (h := s.heap) (Obj.mapFields fun x_1 => x_1.setIfInBounds 0 (rawInt ((g : Int) + 1))) ho rfl
  have s1 := Heap.SameBut.update s.heap a (Obj.mapFields fun x_1 => x_1.setIfInBounds 0 (rawInt ((g : Int) + 1)))
  have u2 := Heap.get?_update_self (h := s.heap.update a (Obj.mapFields fun x_1 => x_1.setIfInBounds 0 (rawInt ((g : Int) + 1)))) (Obj.mapFields fun x => x.setIfInBounds 1 (rawInt (4 - (g : Int) - 1))) u1 rfl
  have s2 := Heap.SameBut.update (s.heap.update a (Obj.mapFields fun x_1 => x_1.setIfInBounds 0 (rawInt ((g : Int) + 1)))) a (Obj.mapFields fun x => x.setIfInBounds 1 (rawInt (4 - (g : Int) - 1)))
  refine ⟨rfl,(fun x h => ?_),(fun _ _ h => nomatch h),(fun b ob gg hb => (s2.2 b fun z => hb _ (List.mem_singleton.mpr rfl) z.symm).trans ((s1.2 b fun z => hb _ (List.mem_singleton.mpr rfl) z.symm).trans gg)),(fun _ _ h => nomatch h),(fun _ _ h => nomatch h),(fun _ _ h => absurd h (Nat.not_lt_zero _)),Nat.le_of_eq (s2.1.trans s1.1).symm,rfl,rfl,rfl⟩
  obtain rfl := List.mem_singleton.mp h
  refine u2.trans ?_
  have e1 : ((g + 1 : Nat) : Int) = (g : Int) + 1 := rfl
  have e2 : 4 - ((g + 1 : Nat) : Int) = 4 - (g : Int) - 1 := by omega
  show _ = some (⟨.type "range_iterator", none, .fields ⟨[.int ((g + 1 : Nat) : Int) 0, .int (4 - ((g + 1 : Nat) : Int)) 0, .int 1 0]⟩, #[]⟩ : Obj)
  rw [e2,e1]
  rfl
end Mine
end
section
open PySem PySem.W PyProof.Rows
namespace Mine
noncomputable def mk01_sh : List Sk := [.frl,.func,.func,.blt SL.s11611643536802374852x12]
noncomputable def mk01_code (pt : Tok) : Code := (.call (.ref 756) ⟨[(.int (1) pt)],[]⟩)
noncomputable def mk01_lT (P : Params) (pt : Tok) : List Ent := []
noncomputable def mk01_lR (P : Params) (pt : Tok) : List Ent := []
noncomputable def mk01_scr (P : Params) (n τ : Nat) (pt : Tok) : Scr := (.fin [2269,2266,3,3,7,3,6,6,6,0,6,6,0] ⟨.ok (.done (.ret (.str (u [39]) (τ + 2)))),[],[]⟩)
theorem mk01_run (w : World) (b1 b2 b3 : Bool) (hs : HL mk01_sh) (p : Pos) (n τ : Nat) (pt : Tok) : SH (VX w b1 b2 b3) true 20000 [] ⟨mk01_code pt ,none,none,fillAll mk01_sh hs,none⟩ p ((VX w b1 b2 b3).den (mk01_code pt )) (mk01_scr w.params n τ pt ) (tabOf (mk01_lR w.params pt ) 0 .nil) (tabOf (mk01_lT w.params pt ) 0 .nil) 0 0 n 0 τ 0 [] [] := by
  exact runOf (adrs [] n) (adr1 []) (by kernel_rfl)
noncomputable def mk03_sh : List Sk := [.frl,.func,.func,.blt SL.s11611643536802374852x12]
noncomputable def mk03_code (pt : Tok) : Code := (.call (.ref 756) ⟨[(.int (3) pt)],[]⟩)
noncomputable def mk03_lT (P : Params) (pt : Tok) : List Ent := []
noncomputable def mk03_lR (P : Params) (pt : Tok) : List Ent := []
noncomputable def mk03_scr (P : Params) (n τ : Nat) (pt : Tok) : Scr := (.fin [2269,2266,3,3,7,3,6,6,6,0,6,6,0] ⟨.ok (.done (.ret (.str (u [96]) (τ + 4)))),[],[]⟩)
theorem mk03_run (w : World) (b1 b2 b3 : Bool) (hs : HL mk03_sh) (p : Pos) (n τ : Nat) (pt : Tok) : SH (VX w b1 b2 b3) true 20000 [] ⟨mk03_code pt ,none,none,fillAll mk03_sh hs,none⟩ p ((VX w b1 b2 b3).den (mk03_code pt )) (mk03_scr w.params n τ pt ) (tabOf (mk03_lR w.params pt ) 0 .nil) (tabOf (mk03_lT w.params pt ) 0 .nil) 0 0 n 0 τ 0 [] [] := by
  exact runOf (adrs [] n) (adr1 []) (by kernel_rfl)
noncomputable def mk02_sh : List Sk := [.frl,.func,.func,.blt SL.s11611643536802374852x12]
noncomputable def mk02_code (pt : Tok) : Code := (.call (.ref 756) ⟨[(.int (2) pt)],[]⟩)
noncomputable def mk02_lT (P : Params) (pt : Tok) : List Ent := []
noncomputable def mk02_lR (P : Params) (pt : Tok) : List Ent := []
noncomputable def mk02_scr (P : Params) (n τ : Nat) (pt : Tok) : Scr := (.fin [2269,2266,3,3,7,3,6,6,6,0,6,6,0] ⟨.ok (.done (.ret (.str (u [34]) (τ + 3)))),[],[]⟩)
theorem mk02_run (w : World) (b1 b2 b3 : Bool) (hs : HL mk02_sh) (p : Pos) (n τ : Nat) (pt : Tok) : SH (VX w b1 b2 b3) true 20000 [] ⟨mk02_code pt ,none,none,fillAll mk02_sh hs,none⟩ p ((VX w b1 b2 b3).den (mk02_code pt )) (mk02_scr w.params n τ pt ) (tabOf (mk02_lR w.params pt ) 0 .nil) (tabOf (mk02_lT w.params pt ) 0 .nil) 0 0 n 0 τ 0 [] [] := by
  exact runOf (adrs [] n) (adr1 []) (by kernel_rfl)
noncomputable def mk10_sh : List Sk := [.frl,.frl,.func,.blt SL.s11611643536802374852x12]
noncomputable def mk10_code (pt : Tok) : Code := (.call (.ref 756) ⟨[(.int (0) pt)],[]⟩)
noncomputable def mk10_lT (P : Params) (pt : Tok) : List Ent := []
noncomputable def mk10_lR (P : Params) (pt : Tok) : List Ent := []
noncomputable def mk10_scr (P : Params) (n τ : Nat) (pt : Tok) : Scr := (.fin [2269,2266,3,3,7,3,6,6,6,0,6,6,0] ⟨.ok (.done (.ret (.str (u []) (τ + 1)))),[],[]⟩)
theorem mk10_run (w : World) (b1 b2 b3 : Bool) (hs : HL mk10_sh) (p : Pos) (n τ : Nat) (pt : Tok) : SH (VX w b1 b2 b3) true 20000 [] ⟨mk10_code pt ,none,none,fillAll mk10_sh hs,none⟩ p ((VX w b1 b2 b3).den (mk10_code pt )) (mk10_scr w.params n τ pt ) (tabOf (mk10_lR w.params pt ) 0 .nil) (tabOf (mk10_lT w.params pt ) 0 .nil) 0 0 n 0 τ 0 [] [] := by
  exact runOf (adrs [] n) (adr1 []) (by kernel_rfl)
noncomputable def mk11_sh : List Sk := [.frl,.frl,.func,.blt SL.s11611643536802374852x12]
noncomputable def mk11_code (pt : Tok) : Code := (.call (.ref 756) ⟨[(.int (1) pt)],[]⟩)
noncomputable def mk11_lT (P : Params) (pt : Tok) : List Ent := []
noncomputable def mk11_lR (P : Params) (pt : Tok) : List Ent := []
noncomputable def mk11_scr (P : Params) (n τ : Nat) (pt : Tok) : Scr := (.fin [2269,2266,3,3,7,3,6,6,6,0,6,6,0] ⟨.ok (.done (.ret (.str (u [39]) (τ + 2)))),[],[]⟩)
theorem mk11_run (w : World) (b1 b2 b3 : Bool) (hs : HL mk11_sh) (p : Pos) (n τ : Nat) (pt : Tok) : SH (VX w b1 b2 b3) true 20000 [] ⟨mk11_code pt ,none,none,fillAll mk11_sh hs,none⟩ p ((VX w b1 b2 b3).den (mk11_code pt )) (mk11_scr w.params n τ pt ) (tabOf (mk11_lR w.params pt ) 0 .nil) (tabOf (mk11_lT w.params pt ) 0 .nil) 0 0 n 0 τ 0 [] [] := by
  exact runOf (adrs [] n) (adr1 []) (by kernel_rfl)
noncomputable def mk12_sh : List Sk := [.frl,.frl,.func,.blt SL.s11611643536802374852x12]
noncomputable def mk12_code (pt : Tok) : Code := (.call (.ref 756) ⟨[(.int (2) pt)],[]⟩)
noncomputable def mk12_lT (P : Params) (pt : Tok) : List Ent := []
noncomputable def mk12_lR (P : Params) (pt : Tok) : List Ent := []
noncomputable def mk12_scr (P : Params) (n τ : Nat) (pt : Tok) : Scr := (.fin [2269,2266,3,3,7,3,6,6,6,0,6,6,0] ⟨.ok (.done (.ret (.str (u [34]) (τ + 3)))),[],[]⟩)
theorem mk12_run (w : World) (b1 b2 b3 : Bool) (hs : HL mk12_sh) (p : Pos) (n τ : Nat) (pt : Tok) : SH (VX w b1 b2 b3) true 20000 [] ⟨mk12_code pt ,none,none,fillAll mk12_sh hs,none⟩ p ((VX w b1 b2 b3).den (mk12_code pt )) (mk12_scr w.params n τ pt ) (tabOf (mk12_lR w.params pt ) 0 .nil) (tabOf (mk12_lT w.params pt ) 0 .nil) 0 0 n 0 τ 0 [] [] := by
  exact runOf (adrs [] n) (adr1 []) (by kernel_rfl)
noncomputable def mk13_sh : List Sk := [.frl,.frl,.func,.blt SL.s11611643536802374852x12]
noncomputable def mk13_code (pt : Tok) : Code := (.call (.ref 756) ⟨[(.int (3) pt)],[]⟩)
noncomputable def mk13_lT (P : Params) (pt : Tok) : List Ent := []
noncomputable def mk13_lR (P : Params) (pt : Tok) : List Ent := []
noncomputable def mk13_scr (P : Params) (n τ : Nat) (pt : Tok) : Scr := (.fin [2269,2266,3,3,7,3,6,6,6,0,6,6,0] ⟨.ok (.done (.ret (.str (u [96]) (τ + 4)))),[],[]⟩)
theorem mk13_run (w : World) (b1 b2 b3 : Bool) (hs : HL mk13_sh) (p : Pos) (n τ : Nat) (pt : Tok) : SH (VX w b1 b2 b3) true 20000 [] ⟨mk13_code pt ,none,none,fillAll mk13_sh hs,none⟩ p ((VX w b1 b2 b3).den (mk13_code pt )) (mk13_scr w.params n τ pt ) (tabOf (mk13_lR w.params pt ) 0 .nil) (tabOf (mk13_lT w.params pt ) 0 .nil) 0 0 n 0 τ 0 [] [] := by
  exact runOf (adrs [] n) (adr1 []) (by kernel_rfl)
noncomputable def mk20_sh : List Sk := [.frl,.func,.blt SL.s11611643536802374852x12]
noncomputable def mk20_code (pt : Tok) : Code := (.call (.ref 756) ⟨[(.int (0) pt)],[]⟩)
noncomputable def mk20_lT (P : Params) (pt : Tok) : List Ent := []
noncomputable def mk20_lR (P : Params) (pt : Tok) : List Ent := []
noncomputable def mk20_scr (P : Params) (n τ : Nat) (pt : Tok) : Scr := (.fin [2269,2266,3,3,7,3,6,6,6,0,6,6,0] ⟨.ok (.done (.ret (.str (u []) (τ + 1)))),[],[]⟩)
theorem mk20_run (w : World) (b1 b2 b3 : Bool) (hs : HL mk20_sh) (p : Pos) (n τ : Nat) (pt : Tok) : SH (VX w b1 b2 b3) true 20000 [] ⟨mk20_code pt ,none,none,fillAll mk20_sh hs,none⟩ p ((VX w b1 b2 b3).den (mk20_code pt )) (mk20_scr w.params n τ pt ) (tabOf (mk20_lR w.params pt ) 0 .nil) (tabOf (mk20_lT w.params pt ) 0 .nil) 0 0 n 0 τ 0 [] [] := by
  exact runOf (adrs [] n) (adr1 []) (by kernel_rfl)
noncomputable def mk21_sh : List Sk := [.frl,.func,.blt SL.s11611643536802374852x12]
noncomputable def mk21_code (pt : Tok) : Code := (.call (.ref 756) ⟨[(.int (1) pt)],[]⟩)
noncomputable def mk21_lT (P : Params) (pt : Tok) : List Ent := []
noncomputable def mk21_lR (P : Params) (pt : Tok) : List Ent := []
noncomputable def mk21_scr (P : Params) (n τ : Nat) (pt : Tok) : Scr := (.fin [2269,2266,3,3,7,3,6,6,6,0,6,6,0] ⟨.ok (.done (.ret (.str (u [39]) (τ + 2)))),[],[]⟩)
theorem mk21_run (w : World) (b1 b2 b3 : Bool) (hs : HL mk21_sh) (p : Pos) (n τ : Nat) (pt : Tok) : SH (VX w b1 b2 b3) true 20000 [] ⟨mk21_code pt ,none,none,fillAll mk21_sh hs,none⟩ p ((VX w b1 b2 b3).den (mk21_code pt )) (mk21_scr w.params n τ pt ) (tabOf (mk21_lR w.params pt ) 0 .nil) (tabOf (mk21_lT w.params pt ) 0 .nil) 0 0 n 0 τ 0 [] [] := by
  exact runOf (adrs [] n) (adr1 []) (by kernel_rfl)
noncomputable def mk22_sh : List Sk := [.frl,.func,.blt SL.s11611643536802374852x12]
noncomputable def mk22_code (pt : Tok) : Code := (.call (.ref 756) ⟨[(.int (2) pt)],[]⟩)
noncomputable def mk22_lT (P : Params) (pt : Tok) : List Ent := []
noncomputable def mk22_lR (P : Params) (pt : Tok) : List Ent := []
noncomputable def mk22_scr (P : Params) (n τ : Nat) (pt : Tok) : Scr := (.fin [2269,2266,3,3,7,3,6,6,6,0,6,6,0] ⟨.ok (.done (.ret (.str (u [34]) (τ + 3)))),[],[]⟩)
theorem mk22_run (w : World) (b1 b2 b3 : Bool) (hs : HL mk22_sh) (p : Pos) (n τ : Nat) (pt : Tok) : SH (VX w b1 b2 b3) true 20000 [] ⟨mk22_code pt ,none,none,fillAll mk22_sh hs,none⟩ p ((VX w b1 b2 b3).den (mk22_code pt )) (mk22_scr w.params n τ pt ) (tabOf (mk22_lR w.params pt ) 0 .nil) (tabOf (mk22_lT w.params pt ) 0 .nil) 0 0 n 0 τ 0 [] [] := by
  exact runOf (adrs [] n) (adr1 []) (by kernel_rfl)
noncomputable def mk23_sh : List Sk := [.frl,.func,.blt SL.s11611643536802374852x12]
noncomputable def mk23_code (pt : Tok) : Code := (.call (.ref 756) ⟨[(.int (3) pt)],[]⟩)
noncomputable def mk23_lT (P : Params) (pt : Tok) : List Ent := []
noncomputable def mk23_lR (P : Params) (pt : Tok) : List Ent := []
noncomputable def mk23_scr (P : Params) (n τ : Nat) (pt : Tok) : Scr := (.fin [2269,2266,3,3,7,3,6,6,6,0,6,6,0] ⟨.ok (.done (.ret (.str (u [96]) (τ + 4)))),[],[]⟩)
theorem mk23_run (w : World) (b1 b2 b3 : Bool) (hs : HL mk23_sh) (p : Pos) (n τ : Nat) (pt : Tok) : SH (VX w b1 b2 b3) true 20000 [] ⟨mk23_code pt ,none,none,fillAll mk23_sh hs,none⟩ p ((VX w b1 b2 b3).den (mk23_code pt )) (mk23_scr w.params n τ pt ) (tabOf (mk23_lR w.params pt ) 0 .nil) (tabOf (mk23_lT w.params pt ) 0 .nil) 0 0 n 0 τ 0 [] [] := by
  exact runOf (adrs [] n) (adr1 []) (by kernel_rfl)
theorem left_same {c : Code} {sh : List Sk} {pre : List (Nat × Ent)} {v : Tok → Value} {s s' : Shared} {A₀ : Addr → Prop} {m₀ : Nat} {objs ros : List (Nat × Ent)} {q : Result} {tk : Tok}
    (L : Left s A₀ m₀ objs ros s') (hA : ∀ a,¬ A₀ a) (e : q = .ok (.ret (v tk))) : Leaves (spV c sh pre v) s q s' (fun _ => 0) tk :=
  ⟨e,(fun _ h => nomatch h),(fun _ _ h => nomatch h),(fun a ob g _ => L.keep a ob g (hA a)),(fun _ _ h => nomatch h),(fun _ _ h => nomatch h),(fun _ _ h => absurd h (Nat.not_lt_zero _)),L.grow,L.gens,L.drawn,L.os⟩
noncomputable def mark (p : Nat) : Str := match p with
  | 1 => u [39]
  | 2 => u [34]
  | 3 => u [96]
  | _ => u []
noncomputable def oMark (sh : List Sk) (p : Nat) (pt : Tok) : Spec := spV (.call (.ref 756) ⟨[.int p pt],[]⟩) sh [] fun tk => .str (mark p) tk
theorem vMark01 (w : World) (b1 b2 b3 : Bool) (pt : Tok) : Valid (VX w b1 b2 b3) (oMark mk01_sh 1 pt) := by
  intro hs p s htop hpre ⟨hap,hpp⟩
  refine enter (VX_ok _ _ _ _) (lT := []) (lR := []) (mk01_run w b1 b2 b3 hs p s.heap.objs.size s.toks pt) rfl htop (fun _ h => nomatch h) (fun _ h => nomatch h) List.nodup_nil (fun _ h => nomatch h) (fun _ h => nomatch h) ?_
  intro s' L q e
  exact ⟨fun _ => 0,s.toks + 2,left_same L (fun _ h => nomatch h) (resF_inj e)⟩
theorem vMark03 (w : World) (b1 b2 b3 : Bool) (pt : Tok) : Valid (VX w b1 b2 b3) (oMark mk03_sh 3 pt) := by
  intro hs p s htop hpre ⟨hap,hpp⟩
  refine enter (VX_ok _ _ _ _) (lT := []) (lR := []) (mk03_run w b1 b2 b3 hs p s.heap.objs.size s.toks pt) rfl htop (fun _ h => nomatch h) (fun _ h => nomatch h) List.nodup_nil (fun _ h => nomatch h) (fun _ h => nomatch h) ?_
  intro s' L q e
  exact ⟨fun _ => 0,s.toks + 4,left_same L (fun _ h => nomatch h) (resF_inj e)⟩
theorem vMark02 (w : World) (b1 b2 b3 : Bool) (pt : Tok) : Valid (VX w b1 b2 b3) (oMark mk02_sh 2 pt) := by
  intro hs p s htop hpre ⟨hap,hpp⟩
  refine enter (VX_ok _ _ _ _) (lT := []) (lR := []) (mk02_run w b1 b2 b3 hs p s.heap.objs.size s.toks pt) rfl htop (fun _ h => nomatch h) (fun _ h => nomatch h) List.nodup_nil (fun _ h => nomatch h) (fun _ h => nomatch h) ?_
  intro s' L q e
  exact ⟨fun _ => 0,s.toks + 3,left_same L (fun _ h => nomatch h) (resF_inj e)⟩
theorem vMark10 (w : World) (b1 b2 b3 : Bool) (pt : Tok) : Valid (VX w b1 b2 b3) (oMark mk10_sh 0 pt) := by
  intro hs p s htop hpre ⟨hap,hpp⟩
  refine enter (VX_ok _ _ _ _) (lT := []) (lR := []) (mk10_run w b1 b2 b3 hs p s.heap.objs.size s.toks pt) rfl htop (fun _ h => nomatch h) (fun _ h => nomatch h) List.nodup_nil (fun _ h => nomatch h) (fun _ h => nomatch h) ?_
  intro s' L q e
  exact ⟨fun _ => 0,s.toks + 1,left_same L (fun _ h => nomatch h) (resF_inj e)⟩
theorem vMark11 (w : World) (b1 b2 b3 : Bool) (pt : Tok) : Valid (VX w b1 b2 b3) (oMark mk11_sh 1 pt) := by
  intro hs p s htop hpre ⟨hap,hpp⟩
  refine enter (VX_ok _ _ _ _) (lT := []) (lR := []) (mk11_run w b1 b2 b3 hs p s.heap.objs.size s.toks pt) rfl htop (fun _ h => nomatch h) (fun _ h => nomatch h) List.nodup_nil (fun _ h => nomatch h) (fun _ h => nomatch h) ?_
  intro s' L q e
  exact ⟨fun _ => 0,s.toks + 2,left_same L (fun _ h => nomatch h) (resF_inj e)⟩
theorem vMark12 (w : World) (b1 b2 b3 : Bool) (pt : Tok) : Valid (VX w b1 b2 b3) (oMark mk12_sh 2 pt) := by
  intro hs p s htop hpre ⟨hap,hpp⟩
  refine enter (VX_ok _ _ _ _) (lT := []) (lR := []) (mk12_run w b1 b2 b3 hs p s.heap.objs.size s.toks pt) rfl htop (fun _ h => nomatch h) (fun _ h => nomatch h) List.nodup_nil (fun _ h => nomatch h) (fun _ h => nomatch h) ?_
  intro s' L q e
  exact ⟨fun _ => 0,s.toks + 3,left_same L (fun _ h => nomatch h) (resF_inj e)⟩
theorem vMark13 (w : World) (b1 b2 b3 : Bool) (pt : Tok) : Valid (VX w b1 b2 b3) (oMark mk13_sh 3 pt) := by
  intro hs p s htop hpre ⟨hap,hpp⟩
  refine enter (VX_ok _ _ _ _) (lT := []) (lR := []) (mk13_run w b1 b2 b3 hs p s.heap.objs.size s.toks pt) rfl htop (fun _ h => nomatch h) (fun _ h => nomatch h) List.nodup_nil (fun _ h => nomatch h) (fun _ h => nomatch h) ?_
  intro s' L q e
  exact ⟨fun _ => 0,s.toks + 4,left_same L (fun _ h => nomatch h) (resF_inj e)⟩
theorem vMark20 (w : World) (b1 b2 b3 : Bool) (pt : Tok) : Valid (VX w b1 b2 b3) (oMark mk20_sh 0 pt) := by
  intro hs p s htop hpre ⟨hap,hpp⟩
  refine enter (VX_ok _ _ _ _) (lT := []) (lR := []) (mk20_run w b1 b2 b3 hs p s.heap.objs.size s.toks pt) rfl htop (fun _ h => nomatch h) (fun _ h => nomatch h) List.nodup_nil (fun _ h => nomatch h) (fun _ h => nomatch h) ?_
  intro s' L q e
  exact ⟨fun _ => 0,s.toks + 1,left_same L (fun _ h => nomatch h) (resF_inj e)⟩
theorem vMark21 (w : World) (b1 b2 b3 : Bool) (pt : Tok) : Valid (VX w b1 b2 b3) (oMark mk21_sh 1 pt) := by
  intro hs p s htop hpre ⟨hap,hpp⟩
  refine enter (VX_ok _ _ _ _) (lT := []) (lR := []) (mk21_run w b1 b2 b3 hs p s.heap.objs.size s.toks pt) rfl htop (fun _ h => nomatch h) (fun _ h => nomatch h) List.nodup_nil (fun _ h => nomatch h) (fun _ h => nomatch h) ?_
  intro s' L q e
  exact ⟨fun _ => 0,s.toks + 2,left_same L (fun _ h => nomatch h) (resF_inj e)⟩
theorem vMark22 (w : World) (b1 b2 b3 : Bool) (pt : Tok) : Valid (VX w b1 b2 b3) (oMark mk22_sh 2 pt) := by
  intro hs p s htop hpre ⟨hap,hpp⟩
  refine enter (VX_ok _ _ _ _) (lT := []) (lR := []) (mk22_run w b1 b2 b3 hs p s.heap.objs.size s.toks pt) rfl htop (fun _ h => nomatch h) (fun _ h => nomatch h) List.nodup_nil (fun _ h => nomatch h) (fun _ h => nomatch h) ?_
  intro s' L q e
  exact ⟨fun _ => 0,s.toks + 3,left_same L (fun _ h => nomatch h) (resF_inj e)⟩
theorem vMark23 (w : World) (b1 b2 b3 : Bool) (pt : Tok) : Valid (VX w b1 b2 b3) (oMark mk23_sh 3 pt) := by
  intro hs p s htop hpre ⟨hap,hpp⟩
  refine enter (VX_ok _ _ _ _) (lT := []) (lR := []) (mk23_run w b1 b2 b3 hs p s.heap.objs.size s.toks pt) rfl htop (fun _ h => nomatch h) (fun _ h => nomatch h) List.nodup_nil (fun _ h => nomatch h) (fun _ h => nomatch h) ?_
  intro s' L q e
  exact ⟨fun _ => 0,s.toks + 4,left_same L (fun _ h => nomatch h) (resF_inj e)⟩
end Mine
end
section
open PySem PySem.W PyProof.Rows
namespace Mine
structure Lw where
  sc : Nat
  ce : Nat
  wo : Nat
  ro : Nat
  od : Nat
  T : Str
  tt : Tok
  Wy : Str
  wyt : Tok
  κ : Nat → Tok
noncomputable def lawE (P : Params) (x : Lw) : List DictEntry := [d P (u [115,99,114,105,112,116]) (x.κ 0) (.ref x.sc),d P (u [99,101,108,108,115]) (x.κ 1) (.ref x.ce),d P (u [116,101,120,116]) (x.κ 2) (.str x.T x.tt),d P (u [119,111,114,100,115]) (x.κ 3) (.ref x.wo),d P (u [114,111,119]) (x.κ 4) (.ref x.ro),d P (u [111,114,100,101,114]) (x.κ 5) (.ref x.od),d P (u [119,97,121]) (x.κ 6) (.str x.Wy x.wyt)]
noncomputable def outBody : List Stmt := match ((bodyAt [32])[7]? : Option Stmt) with
  | some (Stmt.For _ _ b _ _) => b
  | _ => []
noncomputable def inFor (fr it : Nat) : Code := match (outBody[1]? : Option Stmt) with
  | some (Stmt.For t _ b o _) => .forLoop t (.ref it) b o (lwEnv fr)
  | _ => default
noncomputable def shN (fr : Nat) : List Sk := [.frl,.code (lwFn fr),.blt SL.s11611643536802374852x12]
noncomputable abbrev shI : List Sk := [.frl,.frl,.func,.blt SL.s11611643536802374852x12]
noncomputable def inAS_sh (fr : Nat) : List Sk := shN fr
noncomputable def inAS_code (fr it : Nat) (x : Lw) (sl : Array (Option PySem.Value)) (st gl : Nat) (stt : Tok) (K : Str) (kt : Tok) (vg vt vw : PySem.Value) (xs ws : List PySem.Value) (ex ew : Nat) (rg wv : Str) (yg yw : Tok) : Code := (inFor fr it)
noncomputable def inAS_lT (P : Params) (fr it : Nat) (x : Lw) (sl : Array (Option PySem.Value)) (st gl : Nat) (stt : Tok) (K : Str) (kt : Tok) (vg vt vw : PySem.Value) (xs ws : List PySem.Value) (ex ew : Nat) (rg wv : Str) (yg yw : Tok) : List Ent := [(it,(rngO gl)),(fr,(frmO (.dict ⟨lawE P x ++ [d P (u [115,116,97,114,116]) (x.κ 7) (.int (st : Int) stt),d P (u [107,101,112,116]) (x.κ 8) (.str K kt)]⟩ 9) sl))]
noncomputable def inAS_lR (P : Params) (fr it : Nat) (x : Lw) (sl : Array (Option PySem.Value)) (st gl : Nat) (stt : Tok) (K : Str) (kt : Tok) (vg vt vw : PySem.Value) (xs ws : List PySem.Value) (ex ew : Nat) (rg wv : Str) (yg yw : Tok) : List Ent := [(x.ro,(lsO xs ex)),(x.wo,(lsO ws ew))]
noncomputable def inAS_scr (P : Params) (n τ : Nat) (fr it : Nat) (x : Lw) (sl : Array (Option PySem.Value)) (st gl : Nat) (stt : Tok) (K : Str) (kt : Tok) (vg vt vw : PySem.Value) (xs ws : List PySem.Value) (ex ew : Nat) (rg wv : Str) (yg yw : Tok) : Scr := (.orc [3] (oRng shI 0 it gl) 2 2 fun α1 tk1 n1 τ1 =>
  (.orc [6,6,10,10,6,2269] (oMark shI st stt) 2 2 fun α2 tk2 n2 τ2 =>
  (.orc [6] (oAdd shI (mark st) tk2 x.T x.tt) 2 2 fun α3 tk3 n3 τ3 =>
  (.orc [10,6,2269] (oMark shI gl tk1) 2 2 fun α4 tk4 n4 τ4 =>
  (.orc [] (oAdd shI ((mark st) ++ x.T) tk3 (mark gl) tk4) 2 2 fun α5 tk5 n5 τ5 =>
  (.orc [2347] (oTokS (shX true) (((mark st) ++ x.T) ++ (mark gl)) tk5 K) 2 2 fun α6 tk6 n6 τ6 =>
  (.orc [6,6,6,6,6,2,2,2] (oLGet shI 2 x.ro xs ex gl tk1 (.str rg yg)) 2 2 fun α7 tk7 n7 τ7 =>
  (.orc [6,6,5,5,5] (oLGet shI 5 x.wo ws ew st stt (.str wv yw)) 2 2 fun α8 tk8 n8 τ8 =>
  (.orc [] (oEq shI rg yg wv yw true) 2 2 fun α9 tk9 n9 τ9 =>
  (.orc [6] (oNe shI K tk6 K kt false) 2 2 fun α10 tk10 n10 τ10 =>
  (.fin [] ⟨.ok (.again (inFor fr it)),[(0,it,(rngO (gl + 1))),(1,fr,(frmO (.dict ⟨lawE P x ++ [d P (u [115,116,97,114,116]) (x.κ 7) (.int (st : Int) stt),d P (u [107,101,112,116]) (x.κ 8) (.str K kt),d P (u [103,111,97,108]) (τ1 + 0) (.int (gl : Int) tk1),d P (u [116,111,108,100]) (τ6 + 0) (.str K tk6)]⟩ 11) sl))],[]⟩)))))))))))
theorem inAS_run (w : World) (b1 b2 b3 : Bool) (fr : Nat) (hs : HL (inAS_sh fr)) (p : Pos) (n τ : Nat) (it : Nat) (x : Lw) (sl : Array (Option PySem.Value)) (st gl : Nat) (stt : Tok) (K : Str) (kt : Tok) (vg vt vw : PySem.Value) (xs ws : List PySem.Value) (ex ew : Nat) (rg wv : Str) (yg yw : Tok) : SH (VX w b1 b2 b3) false 20000 [] ⟨inAS_code fr it x sl st gl stt K kt vg vt vw xs ws ex ew rg wv yg yw ,none,none,fillAll (inAS_sh fr) hs,none⟩ p ((VX w b1 b2 b3).den (inAS_code fr it x sl st gl stt K kt vg vt vw xs ws ex ew rg wv yg yw )) (inAS_scr w.params n τ fr it x sl st gl stt K kt vg vt vw xs ws ex ew rg wv yg yw ) (tabOf (inAS_lR w.params fr it x sl st gl stt K kt vg vt vw xs ws ex ew rg wv yg yw ) 0 .nil) (tabOf (inAS_lT w.params fr it x sl st gl stt K kt vg vt vw xs ws ex ew rg wv yg yw ) 0 .nil) 2 2 n 0 τ 0 [] [] := by
  cases b1 <;> exact runOf (adrs [it,fr] n) (adr1 [x.ro,x.wo]) (by kernel_rfl)
noncomputable def inBN_sh (fr : Nat) : List Sk := shN fr
noncomputable def inBN_code (fr it : Nat) (x : Lw) (sl : Array (Option PySem.Value)) (st gl : Nat) (stt : Tok) (K : Str) (kt : Tok) (vg vt vw : PySem.Value) (xs ws : List PySem.Value) (ex ew : Nat) (rg wv : Str) (yg yw : Tok) : Code := (inFor fr it)
noncomputable def inBN_lT (P : Params) (fr it : Nat) (x : Lw) (sl : Array (Option PySem.Value)) (st gl : Nat) (stt : Tok) (K : Str) (kt : Tok) (vg vt vw : PySem.Value) (xs ws : List PySem.Value) (ex ew : Nat) (rg wv : Str) (yg yw : Tok) : List Ent := [(it,(rngO gl)),(fr,(frmO (.dict ⟨lawE P x ++ [d P (u [115,116,97,114,116]) (x.κ 7) (.int (st : Int) stt),d P (u [107,101,112,116]) (x.κ 8) (.str K kt),d P (u [103,111,97,108]) (x.κ 9) vg,d P (u [116,111,108,100]) (x.κ 10) vt]⟩ 11) sl))]
noncomputable def inBN_lR (P : Params) (fr it : Nat) (x : Lw) (sl : Array (Option PySem.Value)) (st gl : Nat) (stt : Tok) (K : Str) (kt : Tok) (vg vt vw : PySem.Value) (xs ws : List PySem.Value) (ex ew : Nat) (rg wv : Str) (yg yw : Tok) : List Ent := [(x.ro,(lsO xs ex)),(x.wo,(lsO ws ew))]
noncomputable def inBN_scr (P : Params) (n τ : Nat) (fr it : Nat) (x : Lw) (sl : Array (Option PySem.Value)) (st gl : Nat) (stt : Tok) (K : Str) (kt : Tok) (vg vt vw : PySem.Value) (xs ws : List PySem.Value) (ex ew : Nat) (rg wv : Str) (yg yw : Tok) : Scr := (.orc [3] (oRng shI 0 it gl) 2 2 fun α1 tk1 n1 τ1 =>
  (.orc [6,6,10,10,6,2269] (oMark shI st stt) 2 2 fun α2 tk2 n2 τ2 =>
  (.orc [6] (oAdd shI (mark st) tk2 x.T x.tt) 2 2 fun α3 tk3 n3 τ3 =>
  (.orc [10,6,2269] (oMark shI gl tk1) 2 2 fun α4 tk4 n4 τ4 =>
  (.orc [] (oAdd shI ((mark st) ++ x.T) tk3 (mark gl) tk4) 2 2 fun α5 tk5 n5 τ5 =>
  (.orc [2347] (oTokN (shY fr true) 1 fr (.dict ⟨lawE P x ++ [d P (u [115,116,97,114,116]) (x.κ 7) (.int (st : Int) stt),d P (u [107,101,112,116]) (x.κ 8) (.str K kt),d P (u [103,111,97,108]) (x.κ 9) (.int (gl : Int) tk1),d P (u [116,111,108,100]) (x.κ 10) vt]⟩ 11) sl (((mark st) ++ x.T) ++ (mark gl)) tk5) 2 2 fun α6 tk6 n6 τ6 =>
  (.orc [6,6,6,6,6,2,2,2] (oLGet shI 2 x.ro xs ex gl tk1 (.str rg yg)) 2 2 fun α7 tk7 n7 τ7 =>
  (.orc [6,6,5,5,5] (oLGet shI 5 x.wo ws ew st stt (.str wv yw)) 2 2 fun α8 tk8 n8 τ8 =>
  (.orc [] (oEq shI rg yg wv yw false) 2 2 fun α9 tk9 n9 τ9 =>
  (.fin [0] ⟨.ok (.again (inFor fr it)),[(0,it,(rngO (gl + 1))),(1,fr,(frmO (.dict ⟨lawE P x ++ [d P (u [115,116,97,114,116]) (x.κ 7) (.int (st : Int) stt),d P (u [107,101,112,116]) (x.κ 8) (.str K kt),d P (u [103,111,97,108]) (x.κ 9) (.int (gl : Int) tk1),d P (u [116,111,108,100]) (x.κ 10) .none]⟩ 11) (slL (α6 0) sl)))],[]⟩))))))))))
theorem inBN_run (w : World) (b1 b2 b3 : Bool) (fr : Nat) (hs : HL (inBN_sh fr)) (p : Pos) (n τ : Nat) (it : Nat) (x : Lw) (sl : Array (Option PySem.Value)) (st gl : Nat) (stt : Tok) (K : Str) (kt : Tok) (vg vt vw : PySem.Value) (xs ws : List PySem.Value) (ex ew : Nat) (rg wv : Str) (yg yw : Tok) : SH (VX w b1 b2 b3) false 20000 [] ⟨inBN_code fr it x sl st gl stt K kt vg vt vw xs ws ex ew rg wv yg yw ,none,none,fillAll (inBN_sh fr) hs,none⟩ p ((VX w b1 b2 b3).den (inBN_code fr it x sl st gl stt K kt vg vt vw xs ws ex ew rg wv yg yw )) (inBN_scr w.params n τ fr it x sl st gl stt K kt vg vt vw xs ws ex ew rg wv yg yw ) (tabOf (inBN_lR w.params fr it x sl st gl stt K kt vg vt vw xs ws ex ew rg wv yg yw ) 0 .nil) (tabOf (inBN_lT w.params fr it x sl st gl stt K kt vg vt vw xs ws ex ew rg wv yg yw ) 0 .nil) 2 2 n 0 τ 0 [] [] := by
  cases b1 <;> exact runOf (adrs [it,fr] n) (adr1 [x.ro,x.wo]) (by kernel_rfl)
noncomputable def inE_sh (fr : Nat) : List Sk := shN fr
noncomputable def inE_code (fr it : Nat) (t3195 : Tok) : Code := (inFor fr it)
noncomputable def inE_lT (P : Params) (fr it : Nat) (t3195 : Tok) : List Ent := [(it,(rngO 4))]
noncomputable def inE_lR (P : Params) (fr it : Nat) (t3195 : Tok) : List Ent := []
noncomputable def inE_scr (P : Params) (n τ : Nat) (fr it : Nat) (t3195 : Tok) : Scr := (.fin [3,0,3,3,3,3,9] ⟨.ok (.done .next),[(0,it,(rngO 4))],[]⟩)
theorem inE_run (w : World) (b1 b2 b3 : Bool) (fr : Nat) (hs : HL (inE_sh fr)) (p : Pos) (n τ : Nat) (it : Nat) (t3195 : Tok) : SH (VX w b1 b2 b3) true 20000 [] ⟨inE_code fr it t3195,none,none,fillAll (inE_sh fr) hs,none⟩ p ((VX w b1 b2 b3).den (inE_code fr it t3195)) (inE_scr w.params n τ fr it t3195) (tabOf (inE_lR w.params fr it t3195) 0 .nil) (tabOf (inE_lT w.params fr it t3195) 0 .nil) 1 0 n 0 τ 0 [] [] := by
  exact runOf (adrs [it] n) (adr1 []) (by kernel_rfl)
noncomputable def inCN_sh (fr : Nat) : List Sk := shN fr
noncomputable def inCN_code (fr it : Nat) (x : Lw) (sl : Array (Option PySem.Value)) (st gl : Nat) (stt : Tok) (K : Str) (kt : Tok) (vg vt vw : PySem.Value) (xs ws : List PySem.Value) (ex ew : Nat) (rg wv : Str) (yg yw : Tok) : Code := (inFor fr it)
noncomputable def inCN_lT (P : Params) (fr it : Nat) (x : Lw) (sl : Array (Option PySem.Value)) (st gl : Nat) (stt : Tok) (K : Str) (kt : Tok) (vg vt vw : PySem.Value) (xs ws : List PySem.Value) (ex ew : Nat) (rg wv : Str) (yg yw : Tok) : List Ent := [(it,(rngO gl)),(fr,(frmO (.dict ⟨lawE P x ++ [d P (u [115,116,97,114,116]) (x.κ 7) (.int (st : Int) stt),d P (u [107,101,112,116]) (x.κ 8) (.str K kt),d P (u [103,111,97,108]) (x.κ 9) vg,d P (u [116,111,108,100]) (x.κ 10) vt,d P (u [119,104,111,108,101]) (x.κ 11) vw]⟩ 12) sl))]
noncomputable def inCN_lR (P : Params) (fr it : Nat) (x : Lw) (sl : Array (Option PySem.Value)) (st gl : Nat) (stt : Tok) (K : Str) (kt : Tok) (vg vt vw : PySem.Value) (xs ws : List PySem.Value) (ex ew : Nat) (rg wv : Str) (yg yw : Tok) : List Ent := [(x.ro,(lsO xs ex)),(x.wo,(lsO ws ew))]
noncomputable def inCN_scr (P : Params) (n τ : Nat) (fr it : Nat) (x : Lw) (sl : Array (Option PySem.Value)) (st gl : Nat) (stt : Tok) (K : Str) (kt : Tok) (vg vt vw : PySem.Value) (xs ws : List PySem.Value) (ex ew : Nat) (rg wv : Str) (yg yw : Tok) : Scr := (.orc [3] (oRng shI 0 it gl) 2 2 fun α1 tk1 n1 τ1 =>
  (.orc [6,6,10,10,6,2269] (oMark shI st stt) 2 2 fun α2 tk2 n2 τ2 =>
  (.orc [6] (oAdd shI (mark st) tk2 x.T x.tt) 2 2 fun α3 tk3 n3 τ3 =>
  (.orc [10,6,2269] (oMark shI gl tk1) 2 2 fun α4 tk4 n4 τ4 =>
  (.orc [] (oAdd shI ((mark st) ++ x.T) tk3 (mark gl) tk4) 2 2 fun α5 tk5 n5 τ5 =>
  (.orc [2347] (oTokN (shY fr true) 1 fr (.dict ⟨lawE P x ++ [d P (u [115,116,97,114,116]) (x.κ 7) (.int (st : Int) stt),d P (u [107,101,112,116]) (x.κ 8) (.str K kt),d P (u [103,111,97,108]) (x.κ 9) (.int (gl : Int) tk1),d P (u [116,111,108,100]) (x.κ 10) vt,d P (u [119,104,111,108,101]) (x.κ 11) vw]⟩ 12) sl (((mark st) ++ x.T) ++ (mark gl)) tk5) 2 2 fun α6 tk6 n6 τ6 =>
  (.orc [6,6,6,6,6,2,2,2] (oLGet shI 2 x.ro xs ex gl tk1 (.str rg yg)) 2 2 fun α7 tk7 n7 τ7 =>
  (.orc [6,6,5,5,5] (oLGet shI 5 x.wo ws ew st stt (.str wv yw)) 2 2 fun α8 tk8 n8 τ8 =>
  (.orc [] (oEq shI rg yg wv yw false) 2 2 fun α9 tk9 n9 τ9 =>
  (.fin [0] ⟨.ok (.again (inFor fr it)),[(0,it,(rngO (gl + 1))),(1,fr,(frmO (.dict ⟨lawE P x ++ [d P (u [115,116,97,114,116]) (x.κ 7) (.int (st : Int) stt),d P (u [107,101,112,116]) (x.κ 8) (.str K kt),d P (u [103,111,97,108]) (x.κ 9) (.int (gl : Int) tk1),d P (u [116,111,108,100]) (x.κ 10) .none,d P (u [119,104,111,108,101]) (x.κ 11) vw]⟩ 12) (slL (α6 0) sl)))],[]⟩))))))))))
theorem inCN_run (w : World) (b1 b2 b3 : Bool) (fr : Nat) (hs : HL (inCN_sh fr)) (p : Pos) (n τ : Nat) (it : Nat) (x : Lw) (sl : Array (Option PySem.Value)) (st gl : Nat) (stt : Tok) (K : Str) (kt : Tok) (vg vt vw : PySem.Value) (xs ws : List PySem.Value) (ex ew : Nat) (rg wv : Str) (yg yw : Tok) : SH (VX w b1 b2 b3) false 20000 [] ⟨inCN_code fr it x sl st gl stt K kt vg vt vw xs ws ex ew rg wv yg yw ,none,none,fillAll (inCN_sh fr) hs,none⟩ p ((VX w b1 b2 b3).den (inCN_code fr it x sl st gl stt K kt vg vt vw xs ws ex ew rg wv yg yw )) (inCN_scr w.params n τ fr it x sl st gl stt K kt vg vt vw xs ws ex ew rg wv yg yw ) (tabOf (inCN_lR w.params fr it x sl st gl stt K kt vg vt vw xs ws ex ew rg wv yg yw ) 0 .nil) (tabOf (inCN_lT w.params fr it x sl st gl stt K kt vg vt vw xs ws ex ew rg wv yg yw ) 0 .nil) 2 2 n 0 τ 0 [] [] := by
  cases b1 <;> exact runOf (adrs [it,fr] n) (adr1 [x.ro,x.wo]) (by kernel_rfl)
noncomputable def inCS_sh (fr : Nat) : List Sk := shN fr
noncomputable def inCS_code (fr it : Nat) (x : Lw) (sl : Array (Option PySem.Value)) (st gl : Nat) (stt : Tok) (K : Str) (kt : Tok) (vg vt vw : PySem.Value) (xs ws : List PySem.Value) (ex ew : Nat) (rg wv : Str) (yg yw : Tok) : Code := (inFor fr it)
noncomputable def inCS_lT (P : Params) (fr it : Nat) (x : Lw) (sl : Array (Option PySem.Value)) (st gl : Nat) (stt : Tok) (K : Str) (kt : Tok) (vg vt vw : PySem.Value) (xs ws : List PySem.Value) (ex ew : Nat) (rg wv : Str) (yg yw : Tok) : List Ent := [(it,(rngO gl)),(fr,(frmO (.dict ⟨lawE P x ++ [d P (u [115,116,97,114,116]) (x.κ 7) (.int (st : Int) stt),d P (u [107,101,112,116]) (x.κ 8) (.str K kt),d P (u [103,111,97,108]) (x.κ 9) vg,d P (u [116,111,108,100]) (x.κ 10) vt,d P (u [119,104,111,108,101]) (x.κ 11) vw]⟩ 12) sl))]
noncomputable def inCS_lR (P : Params) (fr it : Nat) (x : Lw) (sl : Array (Option PySem.Value)) (st gl : Nat) (stt : Tok) (K : Str) (kt : Tok) (vg vt vw : PySem.Value) (xs ws : List PySem.Value) (ex ew : Nat) (rg wv : Str) (yg yw : Tok) : List Ent := [(x.ro,(lsO xs ex)),(x.wo,(lsO ws ew))]
noncomputable def inCS_scr (P : Params) (n τ : Nat) (fr it : Nat) (x : Lw) (sl : Array (Option PySem.Value)) (st gl : Nat) (stt : Tok) (K : Str) (kt : Tok) (vg vt vw : PySem.Value) (xs ws : List PySem.Value) (ex ew : Nat) (rg wv : Str) (yg yw : Tok) : Scr := (.orc [3] (oRng shI 0 it gl) 2 2 fun α1 tk1 n1 τ1 =>
  (.orc [6,6,10,10,6,2269] (oMark shI st stt) 2 2 fun α2 tk2 n2 τ2 =>
  (.orc [6] (oAdd shI (mark st) tk2 x.T x.tt) 2 2 fun α3 tk3 n3 τ3 =>
  (.orc [10,6,2269] (oMark shI gl tk1) 2 2 fun α4 tk4 n4 τ4 =>
  (.orc [] (oAdd shI ((mark st) ++ x.T) tk3 (mark gl) tk4) 2 2 fun α5 tk5 n5 τ5 =>
  (.orc [2347] (oTokS (shX true) (((mark st) ++ x.T) ++ (mark gl)) tk5 K) 2 2 fun α6 tk6 n6 τ6 =>
  (.orc [6,6,6,6,6,2,2,2] (oLGet shI 2 x.ro xs ex gl tk1 (.str rg yg)) 2 2 fun α7 tk7 n7 τ7 =>
  (.orc [6,6,5,5,5] (oLGet shI 5 x.wo ws ew st stt (.str wv yw)) 2 2 fun α8 tk8 n8 τ8 =>
  (.orc [] (oEq shI rg yg wv yw true) 2 2 fun α9 tk9 n9 τ9 =>
  (.orc [6] (oNe shI K tk6 K kt false) 2 2 fun α10 tk10 n10 τ10 =>
  (.fin [] ⟨.ok (.again (inFor fr it)),[(0,it,(rngO (gl + 1))),(1,fr,(frmO (.dict ⟨lawE P x ++ [d P (u [115,116,97,114,116]) (x.κ 7) (.int (st : Int) stt),d P (u [107,101,112,116]) (x.κ 8) (.str K kt),d P (u [103,111,97,108]) (x.κ 9) (.int (gl : Int) tk1),d P (u [116,111,108,100]) (x.κ 10) (.str K tk6),d P (u [119,104,111,108,101]) (x.κ 11) vw]⟩ 12) sl))],[]⟩)))))))))))
theorem inCS_run (w : World) (b1 b2 b3 : Bool) (fr : Nat) (hs : HL (inCS_sh fr)) (p : Pos) (n τ : Nat) (it : Nat) (x : Lw) (sl : Array (Option PySem.Value)) (st gl : Nat) (stt : Tok) (K : Str) (kt : Tok) (vg vt vw : PySem.Value) (xs ws : List PySem.Value) (ex ew : Nat) (rg wv : Str) (yg yw : Tok) : SH (VX w b1 b2 b3) false 20000 [] ⟨inCS_code fr it x sl st gl stt K kt vg vt vw xs ws ex ew rg wv yg yw ,none,none,fillAll (inCS_sh fr) hs,none⟩ p ((VX w b1 b2 b3).den (inCS_code fr it x sl st gl stt K kt vg vt vw xs ws ex ew rg wv yg yw )) (inCS_scr w.params n τ fr it x sl st gl stt K kt vg vt vw xs ws ex ew rg wv yg yw ) (tabOf (inCS_lR w.params fr it x sl st gl stt K kt vg vt vw xs ws ex ew rg wv yg yw ) 0 .nil) (tabOf (inCS_lT w.params fr it x sl st gl stt K kt vg vt vw xs ws ex ew rg wv yg yw ) 0 .nil) 2 2 n 0 τ 0 [] [] := by
  cases b1 <;> exact runOf (adrs [it,fr] n) (adr1 [x.ro,x.wo]) (by kernel_rfl)
noncomputable def inAN_sh (fr : Nat) : List Sk := shN fr
noncomputable def inAN_code (fr it : Nat) (x : Lw) (sl : Array (Option PySem.Value)) (st gl : Nat) (stt : Tok) (K : Str) (kt : Tok) (vg vt vw : PySem.Value) (xs ws : List PySem.Value) (ex ew : Nat) (rg wv : Str) (yg yw : Tok) : Code := (inFor fr it)
noncomputable def inAN_lT (P : Params) (fr it : Nat) (x : Lw) (sl : Array (Option PySem.Value)) (st gl : Nat) (stt : Tok) (K : Str) (kt : Tok) (vg vt vw : PySem.Value) (xs ws : List PySem.Value) (ex ew : Nat) (rg wv : Str) (yg yw : Tok) : List Ent := [(it,(rngO gl)),(fr,(frmO (.dict ⟨lawE P x ++ [d P (u [115,116,97,114,116]) (x.κ 7) (.int (st : Int) stt),d P (u [107,101,112,116]) (x.κ 8) (.str K kt)]⟩ 9) sl))]
noncomputable def inAN_lR (P : Params) (fr it : Nat) (x : Lw) (sl : Array (Option PySem.Value)) (st gl : Nat) (stt : Tok) (K : Str) (kt : Tok) (vg vt vw : PySem.Value) (xs ws : List PySem.Value) (ex ew : Nat) (rg wv : Str) (yg yw : Tok) : List Ent := [(x.ro,(lsO xs ex)),(x.wo,(lsO ws ew))]
noncomputable def inAN_scr (P : Params) (n τ : Nat) (fr it : Nat) (x : Lw) (sl : Array (Option PySem.Value)) (st gl : Nat) (stt : Tok) (K : Str) (kt : Tok) (vg vt vw : PySem.Value) (xs ws : List PySem.Value) (ex ew : Nat) (rg wv : Str) (yg yw : Tok) : Scr := (.orc [3] (oRng shI 0 it gl) 2 2 fun α1 tk1 n1 τ1 =>
  (.orc [6,6,10,10,6,2269] (oMark shI st stt) 2 2 fun α2 tk2 n2 τ2 =>
  (.orc [6] (oAdd shI (mark st) tk2 x.T x.tt) 2 2 fun α3 tk3 n3 τ3 =>
  (.orc [10,6,2269] (oMark shI gl tk1) 2 2 fun α4 tk4 n4 τ4 =>
  (.orc [] (oAdd shI ((mark st) ++ x.T) tk3 (mark gl) tk4) 2 2 fun α5 tk5 n5 τ5 =>
  (.orc [2347] (oTokN (shY fr true) 1 fr (.dict ⟨lawE P x ++ [d P (u [115,116,97,114,116]) (x.κ 7) (.int (st : Int) stt),d P (u [107,101,112,116]) (x.κ 8) (.str K kt),d P (u [103,111,97,108]) (τ1 + 0) (.int (gl : Int) tk1)]⟩ 10) sl (((mark st) ++ x.T) ++ (mark gl)) tk5) 2 2 fun α6 tk6 n6 τ6 =>
  (.orc [6,6,6,6,6,2,2,2] (oLGet shI 2 x.ro xs ex gl tk1 (.str rg yg)) 2 2 fun α7 tk7 n7 τ7 =>
  (.orc [6,6,5,5,5] (oLGet shI 5 x.wo ws ew st stt (.str wv yw)) 2 2 fun α8 tk8 n8 τ8 =>
  (.orc [] (oEq shI rg yg wv yw false) 2 2 fun α9 tk9 n9 τ9 =>
  (.fin [0] ⟨.ok (.again (inFor fr it)),[(0,it,(rngO (gl + 1))),(1,fr,(frmO (.dict ⟨lawE P x ++ [d P (u [115,116,97,114,116]) (x.κ 7) (.int (st : Int) stt),d P (u [107,101,112,116]) (x.κ 8) (.str K kt),d P (u [103,111,97,108]) (τ1 + 0) (.int (gl : Int) tk1),d P (u [116,111,108,100]) (τ6 + 0) .none]⟩ 11) (slL (α6 0) sl)))],[]⟩))))))))))
theorem inAN_run (w : World) (b1 b2 b3 : Bool) (fr : Nat) (hs : HL (inAN_sh fr)) (p : Pos) (n τ : Nat) (it : Nat) (x : Lw) (sl : Array (Option PySem.Value)) (st gl : Nat) (stt : Tok) (K : Str) (kt : Tok) (vg vt vw : PySem.Value) (xs ws : List PySem.Value) (ex ew : Nat) (rg wv : Str) (yg yw : Tok) : SH (VX w b1 b2 b3) false 20000 [] ⟨inAN_code fr it x sl st gl stt K kt vg vt vw xs ws ex ew rg wv yg yw ,none,none,fillAll (inAN_sh fr) hs,none⟩ p ((VX w b1 b2 b3).den (inAN_code fr it x sl st gl stt K kt vg vt vw xs ws ex ew rg wv yg yw )) (inAN_scr w.params n τ fr it x sl st gl stt K kt vg vt vw xs ws ex ew rg wv yg yw ) (tabOf (inAN_lR w.params fr it x sl st gl stt K kt vg vt vw xs ws ex ew rg wv yg yw ) 0 .nil) (tabOf (inAN_lT w.params fr it x sl st gl stt K kt vg vt vw xs ws ex ew rg wv yg yw ) 0 .nil) 2 2 n 0 τ 0 [] [] := by
  cases b1 <;> exact runOf (adrs [it,fr] n) (adr1 [x.ro,x.wo]) (by kernel_rfl)
noncomputable def inBS_sh (fr : Nat) : List Sk := shN fr
noncomputable def inBS_code (fr it : Nat) (x : Lw) (sl : Array (Option PySem.Value)) (st gl : Nat) (stt : Tok) (K : Str) (kt : Tok) (vg vt vw : PySem.Value) (xs ws : List PySem.Value) (ex ew : Nat) (rg wv : Str) (yg yw : Tok) : Code := (inFor fr it)
noncomputable def inBS_lT (P : Params) (fr it : Nat) (x : Lw) (sl : Array (Option PySem.Value)) (st gl : Nat) (stt : Tok) (K : Str) (kt : Tok) (vg vt vw : PySem.Value) (xs ws : List PySem.Value) (ex ew : Nat) (rg wv : Str) (yg yw : Tok) : List Ent := [(it,(rngO gl)),(fr,(frmO (.dict ⟨lawE P x ++ [d P (u [115,116,97,114,116]) (x.κ 7) (.int (st : Int) stt),d P (u [107,101,112,116]) (x.κ 8) (.str K kt),d P (u [103,111,97,108]) (x.κ 9) vg,d P (u [116,111,108,100]) (x.κ 10) vt]⟩ 11) sl))]
noncomputable def inBS_lR (P : Params) (fr it : Nat) (x : Lw) (sl : Array (Option PySem.Value)) (st gl : Nat) (stt : Tok) (K : Str) (kt : Tok) (vg vt vw : PySem.Value) (xs ws : List PySem.Value) (ex ew : Nat) (rg wv : Str) (yg yw : Tok) : List Ent := [(x.ro,(lsO xs ex)),(x.wo,(lsO ws ew))]
noncomputable def inBS_scr (P : Params) (n τ : Nat) (fr it : Nat) (x : Lw) (sl : Array (Option PySem.Value)) (st gl : Nat) (stt : Tok) (K : Str) (kt : Tok) (vg vt vw : PySem.Value) (xs ws : List PySem.Value) (ex ew : Nat) (rg wv : Str) (yg yw : Tok) : Scr := (.orc [3] (oRng shI 0 it gl) 2 2 fun α1 tk1 n1 τ1 =>
  (.orc [6,6,10,10,6,2269] (oMark shI st stt) 2 2 fun α2 tk2 n2 τ2 =>
  (.orc [6] (oAdd shI (mark st) tk2 x.T x.tt) 2 2 fun α3 tk3 n3 τ3 =>
  (.orc [10,6,2269] (oMark shI gl tk1) 2 2 fun α4 tk4 n4 τ4 =>
  (.orc [] (oAdd shI ((mark st) ++ x.T) tk3 (mark gl) tk4) 2 2 fun α5 tk5 n5 τ5 =>
  (.orc [2347] (oTokS (shX true) (((mark st) ++ x.T) ++ (mark gl)) tk5 K) 2 2 fun α6 tk6 n6 τ6 =>
  (.orc [6,6,6,6,6,2,2,2] (oLGet shI 2 x.ro xs ex gl tk1 (.str rg yg)) 2 2 fun α7 tk7 n7 τ7 =>
  (.orc [6,6,5,5,5] (oLGet shI 5 x.wo ws ew st stt (.str wv yw)) 2 2 fun α8 tk8 n8 τ8 =>
  (.orc [] (oEq shI rg yg wv yw true) 2 2 fun α9 tk9 n9 τ9 =>
  (.orc [6] (oNe shI K tk6 K kt false) 2 2 fun α10 tk10 n10 τ10 =>
  (.fin [] ⟨.ok (.again (inFor fr it)),[(0,it,(rngO (gl + 1))),(1,fr,(frmO (.dict ⟨lawE P x ++ [d P (u [115,116,97,114,116]) (x.κ 7) (.int (st : Int) stt),d P (u [107,101,112,116]) (x.κ 8) (.str K kt),d P (u [103,111,97,108]) (x.κ 9) (.int (gl : Int) tk1),d P (u [116,111,108,100]) (x.κ 10) (.str K tk6)]⟩ 11) sl))],[]⟩)))))))))))
theorem inBS_run (w : World) (b1 b2 b3 : Bool) (fr : Nat) (hs : HL (inBS_sh fr)) (p : Pos) (n τ : Nat) (it : Nat) (x : Lw) (sl : Array (Option PySem.Value)) (st gl : Nat) (stt : Tok) (K : Str) (kt : Tok) (vg vt vw : PySem.Value) (xs ws : List PySem.Value) (ex ew : Nat) (rg wv : Str) (yg yw : Tok) : SH (VX w b1 b2 b3) false 20000 [] ⟨inBS_code fr it x sl st gl stt K kt vg vt vw xs ws ex ew rg wv yg yw ,none,none,fillAll (inBS_sh fr) hs,none⟩ p ((VX w b1 b2 b3).den (inBS_code fr it x sl st gl stt K kt vg vt vw xs ws ex ew rg wv yg yw )) (inBS_scr w.params n τ fr it x sl st gl stt K kt vg vt vw xs ws ex ew rg wv yg yw ) (tabOf (inBS_lR w.params fr it x sl st gl stt K kt vg vt vw xs ws ex ew rg wv yg yw ) 0 .nil) (tabOf (inBS_lT w.params fr it x sl st gl stt K kt vg vt vw xs ws ex ew rg wv yg yw ) 0 .nil) 2 2 n 0 τ 0 [] [] := by
  cases b1 <;> exact runOf (adrs [it,fr] n) (adr1 [x.ro,x.wo]) (by kernel_rfl)
end Mine
end
section
open PySem PySem.W PyProof.Rows
namespace Mine
structure TokOk (T : Str) : Prop where
  ne : T.cps.toList ≠ []
  sg : ∀ c ∈ T.cps.toList,isSg c
  h1 : T.length ≠ 1
  hl : T.length ≤ 1000
noncomputable def TokS (T W : Str) : Prop := TokOk T ∧ ∃ qd,lexT T.cps.toList = (97,W,qd) ∧ (qd = false → (W == u []) = false)
noncomputable def TokN (T : Str) : Prop := TokOk T ∧ ∃ q W qd,lexT T.cps.toList = (q,W,qd) ∧ (q = 39 ∨ q = 34 ∨ q = 96)
theorem TokS.valid {w : World} {b1 b2 b3 z : Bool} {T W : Str} {tt : Tok} (h : TokS T W) : Valid (VX w b1 b2 b3) (oTokS (shX z) T tt W) :=
  let ⟨a,qd,b,c⟩ := h; vTokS a.ne a.sg a.h1 a.hl b c
theorem TokN.valid {w : World} {b1 b2 b3 z : Bool} {T : Str} {tt : Tok} {k0 f0 : Nat} {d0 : Data} {sl : Array (Option Value)} (h : TokN T) : Valid (VX w b1 b2 b3) (oTokN (shY f0 z) k0 f0 d0 sl T tt) :=
  let ⟨a,q,W,qd,b,c⟩ := h; vTokN a.ne a.sg a.h1 a.hl c b
theorem vMark1 {w : World} {b1 b2 b3 : Bool} {p : Nat} {pt : Tok} (h : p < 4) : Valid (VX w b1 b2 b3) (oMark shI p pt) := by
  rcases (show p = 0 ∨ p = 1 ∨ p = 2 ∨ p = 3 by omega) with rfl | rfl | rfl | rfl
  · exact vMark10 w b1 b2 b3 pt
  · exact vMark11 w b1 b2 b3 pt
  · exact vMark12 w b1 b2 b3 pt
  · exact vMark13 w b1 b2 b3 pt
theorem mark_len (p : Nat) : (mark p).length ≤ 1 := by
  unfold mark
  split <;> decide
theorem slL_idem (i j : Nat) (sl : Array (Option Value)) : slL i (slL j sl) = slL j sl := by
  unfold slL
  have h : ∃ v,(law0Sl j (.ref 786) (some (.ref 787)) sl).getD 3 none = some v := by
    unfold law0Sl
    cases h : sl.getD 3 none with
    | some v => exact ⟨v,h⟩
    | none => exact ⟨bk j,rfl⟩
  obtain ⟨v,hv⟩ := h
  generalize law0Sl j (.ref 786) (some (.ref 787)) sl = s2 at hv ⊢
  unfold law0Sl
  rw [hv]
noncomputable def slX (i : Nat) (sl : Array (Option Value)) : Array (Option Value) := match i with
  | 0 => sl
  | k + 1 => slL k sl
theorem slL_slX (i j : Nat) (sl : Array (Option Value)) : ∃ k,slL i (slX j sl) = slX k sl := by
  cases j with
  | zero => exact ⟨i + 1,rfl⟩
  | succ j => exact ⟨j + 1,slL_idem i j sl⟩
noncomputable def told (K : Str) (i t : Nat) : Value := match i with
  | 0 => .none
  | _ => .str K t
structure K2 (fr it : Nat) (s s' : Shared) : Prop where
  keep : ∀ a ob,s.heap.get? a = some ob → a ≠ it → a ≠ fr → s'.heap.get? a = some ob
  grow : s.heap.objs.size ≤ s'.heap.objs.size
  gens : s'.gens = s.gens
  drawn : s'.drawn = s.drawn
  os : s'.os = s.os
theorem K2.refl {fr it : Nat} {s : Shared} : K2 fr it s s := ⟨fun _ _ h _ _ => h,Nat.le_refl _,rfl,rfl,rfl⟩
theorem K2.trans {fr it : Nat} {s s' s'' : Shared} (a : K2 fr it s s') (b : K2 fr it s' s'') : K2 fr it s s'' :=
  ⟨fun x ob h h1 h2 => b.keep x ob (a.keep x ob h h1 h2) h1 h2,Nat.le_trans a.grow b.grow,b.gens.trans a.gens,b.drawn.trans a.drawn,b.os.trans a.os⟩
theorem K2.of {fr it : Nat} {s s' : Shared} {m₀ : Nat} {objs ros : List (Nat × Ent)} (L : Left s (fun a => a ∈ [it,fr]) m₀ objs ros s') : K2 fr it s s' :=
  ⟨fun a ob h h1 h2 => L.keep a ob h (by simp [h1,h2]),L.grow,L.gens,L.drawn,L.os⟩
structure Iv where
  x : Lw
  fr : Nat
  it : Nat
  sl : Array (Option Value)
  st : Nat
  stt : Tok
  K : Str
  kt : Tok
  xs : List Value
  ws : List Value
  ex : Nat
  ew : Nat
  wv : Str
  yw : Tok
noncomputable def kapX (κ : Nat → Tok) (a b : Nat) (i : Nat) : Tok := match i with
  | 9 => a
  | 10 => b
  | i => κ i
noncomputable def Iv.e2 (v : Iv) (P : Params) : List DictEntry := lawE P v.x ++ [d P (u [115,116,97,114,116]) (v.x.κ 7) (.int (v.st : Int) v.stt),d P (u [107,101,112,116]) (v.x.κ 8) (.str v.K v.kt)]
noncomputable def Iv.fA (v : Iv) (P : Params) (sl : Array (Option Value)) : Obj := frmO (.dict ⟨lawE P v.x ++ [d P (u [115,116,97,114,116]) (v.x.κ 7) (.int (v.st : Int) v.stt),d P (u [107,101,112,116]) (v.x.κ 8) (.str v.K v.kt)]⟩ 9) sl
noncomputable def Iv.fB (v : Iv) (P : Params) (a b : Tok) (vg vt : Value) (sl : Array (Option Value)) : Obj := frmO (.dict ⟨lawE P v.x ++ [d P (u [115,116,97,114,116]) (v.x.κ 7) (.int (v.st : Int) v.stt),d P (u [107,101,112,116]) (v.x.κ 8) (.str v.K v.kt),d P (u [103,111,97,108]) a vg,d P (u [116,111,108,100]) b vt]⟩ 11) sl
noncomputable def Iv.fC (v : Iv) (P : Params) (vg vt vw : Value) (sl : Array (Option Value)) : Obj := frmO (.dict ⟨lawE P v.x ++ [d P (u [115,116,97,114,116]) (v.x.κ 7) (.int (v.st : Int) v.stt),d P (u [107,101,112,116]) (v.x.κ 8) (.str v.K v.kt),d P (u [103,111,97,108]) (v.x.κ 9) vg,d P (u [116,111,108,100]) (v.x.κ 10) vt,d P (u [119,104,111,108,101]) (v.x.κ 11) vw]⟩ 12) sl
structure Iv.Ok (v : Iv) (P : Params) : Prop where
  d0 : v.it ≠ v.fr
  d1 : v.it ≠ v.x.ro
  d2 : v.it ≠ v.x.wo
  d3 : v.fr ≠ v.x.ro
  d4 : v.fr ≠ v.x.wo
  t1 : ∀ ob,topF P v.it ≠ some ob
  t2 : ∀ ob,topF P v.fr ≠ some ob
  h4 : v.st < 4
  hT : v.x.T.length ≤ 900
  hw : v.ws[v.st]? = some (.str v.wv v.yw)
noncomputable def Iv.line (v : Iv) (g : Nat) : Str := mark v.st ++ v.x.T ++ mark g
noncomputable def Iv.Hit (v : Iv) (g : Nat) : Prop := ∃ rg yg,v.xs[g]? = some (.str rg yg) ∧ ((rg == v.wv) = true ∧ TokS (v.line g) v.K ∨ (rg == v.wv) = false ∧ TokN (v.line g))
structure Iv.At (v : Iv) (P : Params) (g : Nat) (s : Shared) : Prop where
  top : ∀ a ob,topF P a = some ob → s.heap.get? a = some ob
  it : s.heap.get? v.it = some (rngO g)
  ro : s.heap.get? v.x.ro = some (lsO v.xs v.ex)
  wo : s.heap.get? v.x.wo = some (lsO v.ws v.ew)
theorem Iv.At.next {v : Iv} {P : Params} (O : v.Ok P) {g g' : Nat} {s s' : Shared} (A : v.At P g s) (k : K2 v.fr v.it s s') (h : s'.heap.get? v.it = some (rngO g')) : v.At P g' s' :=
  ⟨fun a ob e => k.keep a ob (A.top a ob e) (fun z => O.t1 ob (z ▸ e)) (fun z => O.t2 ob (z ▸ e)),h,k.keep _ _ A.ro O.d1.symm O.d3.symm,k.keep _ _ A.wo O.d2.symm O.d4.symm⟩
theorem inFor_quiet (fr it : Nat) : (inFor fr it).quiet = true := by kernel_rfl
theorem in_turnA {w : World} {b1 b2 b3 : Bool} {v : Iv} (O : v.Ok w.params) (hs : HL (shN v.fr)) {Q : Result → Shared → Prop} {g : Nat} {s : Shared} {p : Pos} {sl : Array (Option Value)} (hg : g < 4) (hh : v.Hit g) (A : v.At w.params g s) (hf : s.heap.get? v.fr = some (v.fA w.params sl))
    (H : ∀ s' p' a b t i t' j,s'.heap.get? v.it = some (rngO (g + 1)) → s'.heap.get? v.fr = some (v.fB w.params a b (.int (g : Int) t) (told v.K i t') (slX j sl)) → K2 v.fr v.it s s' → wpCode (VM (VX w b1 b2 b3)) ⟨inFor v.fr v.it,none,none,fillAll (shN v.fr) hs,none⟩ Q p' s') :
    wpCode (VM (VX w b1 b2 b3)) ⟨inFor v.fr v.it,none,none,fillAll (shN v.fr) hs,none⟩ Q p s := by
  obtain ⟨rg,yg,hx,hk⟩ := hh
  have m1 := mark_len v.st
  have m2 := mark_len g
  have s1000 : (1000 : Nat) ≤ sizeLine := by decide
  have hT := O.hT
  have a1 : (mark v.st).length + v.x.T.length ≤ sizeLine := by omega
  have a2 : (mark v.st ++ v.x.T).length + (mark g).length ≤ sizeLine := by rw [strLen_append]; omega
  have i4 : ∀ n : Nat,n < 4 → ((n : Nat) : Int) < 2 ^ 63 := fun n h => by omega
  rcases hk with ⟨he,hk⟩ | ⟨he,hk⟩
  · refine enterT (VX_ok w b1 b2 b3) (lT := [(v.it,rngO g),(v.fr,v.fA w.params sl)]) (lR := [(v.x.ro,lsO v.xs v.ex),(v.x.wo,lsO v.ws v.ew)]) (inAS_run w b1 b2 b3 v.fr hs p s.heap.objs.size s.toks v.it (v.x) sl v.st g v.stt v.K v.kt .none .none .none v.xs v.ws v.ex v.ew rg v.wv yg v.yw) rfl A.top (fun y hy => ?_) (fun y hy => ?_) (by simp [O.d0]) (fun y hy y' hy' => ?_) (fun y hy => ?_) (⟨vRng hg,fun α1 tk1 n1 τ1 _ => ⟨vMark1 O.h4,fun α2 tk2 n2 τ2 _ => ⟨vAdd a1,fun α3 tk3 n3 τ3 _ => ⟨vMark1 hg,fun α4 tk4 n4 τ4 _ => ⟨vAdd a2,fun α5 tk5 n5 τ5 _ => ⟨hk.valid,fun α6 tk6 n6 τ6 _ => ⟨vLGet hx (i4 g hg),fun α7 tk7 n7 τ7 _ => ⟨vLGet O.hw (i4 v.st O.h4),fun α8 tk8 n8 τ8 _ => ⟨vEq he,fun α9 tk9 n9 τ9 _ => ⟨vNe (by simp),fun α10 tk10 n10 τ10 _ => fun s' L => ⟨inFor_quiet _ _,fun p' => H s' p' _ _ tk1 1 tk6 0 (L.at_ _ (.head _)) (L.at_ _ (.tail _ (.head _))) (.of L)⟩⟩⟩⟩⟩⟩⟩⟩⟩⟩⟩)
    · simp only [List.mem_cons,List.not_mem_nil,or_false] at hy
      rcases hy with rfl | rfl
      · exact A.it
      · exact hf
    · simp only [List.mem_cons,List.not_mem_nil,or_false] at hy
      rcases hy with rfl | rfl
      · exact A.ro
      · exact A.wo
    · simp only [List.mem_cons,List.not_mem_nil,or_false] at hy hy'
      rcases hy with rfl | rfl <;> rcases hy' with rfl | rfl
      · exact O.d1
      · exact O.d2
      · exact O.d3
      · exact O.d4
    · simp only [List.mem_cons,List.not_mem_nil,or_false] at hy
      rcases hy with rfl | rfl
      · exact O.t1
      · exact O.t2
  · refine enterT (VX_ok w b1 b2 b3) (lT := [(v.it,rngO g),(v.fr,v.fA w.params sl)]) (lR := [(v.x.ro,lsO v.xs v.ex),(v.x.wo,lsO v.ws v.ew)]) (inAN_run w b1 b2 b3 v.fr hs p s.heap.objs.size s.toks v.it (v.x) sl v.st g v.stt v.K v.kt .none .none .none v.xs v.ws v.ex v.ew rg v.wv yg v.yw) rfl A.top (fun y hy => ?_) (fun y hy => ?_) (by simp [O.d0]) (fun y hy y' hy' => ?_) (fun y hy => ?_) (⟨vRng hg,fun α1 tk1 n1 τ1 _ => ⟨vMark1 O.h4,fun α2 tk2 n2 τ2 _ => ⟨vAdd a1,fun α3 tk3 n3 τ3 _ => ⟨vMark1 hg,fun α4 tk4 n4 τ4 _ => ⟨vAdd a2,fun α5 tk5 n5 τ5 _ => ⟨hk.valid,fun α6 tk6 n6 τ6 _ => ⟨vLGet hx (i4 g hg),fun α7 tk7 n7 τ7 _ => ⟨vLGet O.hw (i4 v.st O.h4),fun α8 tk8 n8 τ8 _ => ⟨vEq he,fun α9 tk9 n9 τ9 _ => fun s' L => ⟨inFor_quiet _ _,fun p' => H s' p' _ _ tk1 0 0 (α6 0 + 1) (L.at_ _ (.head _)) (L.at_ _ (.tail _ (.head _))) (.of L)⟩⟩⟩⟩⟩⟩⟩⟩⟩⟩)
    · simp only [List.mem_cons,List.not_mem_nil,or_false] at hy
      rcases hy with rfl | rfl
      · exact A.it
      · exact hf
    · simp only [List.mem_cons,List.not_mem_nil,or_false] at hy
      rcases hy with rfl | rfl
      · exact A.ro
      · exact A.wo
    · simp only [List.mem_cons,List.not_mem_nil,or_false] at hy hy'
      rcases hy with rfl | rfl <;> rcases hy' with rfl | rfl
      · exact O.d1
      · exact O.d2
      · exact O.d3
      · exact O.d4
    · simp only [List.mem_cons,List.not_mem_nil,or_false] at hy
      rcases hy with rfl | rfl
      · exact O.t1
      · exact O.t2
theorem in_turnB {w : World} {b1 b2 b3 : Bool} {v : Iv} (O : v.Ok w.params) (hs : HL (shN v.fr)) {Q : Result → Shared → Prop} {g : Nat} {s : Shared} {p : Pos} {sl : Array (Option Value)} {a b : Tok} {vg vt : Value} (hg : g < 4) (hh : v.Hit g) (A : v.At w.params g s) (hf : s.heap.get? v.fr = some (v.fB w.params a b vg vt sl))
    (H : ∀ s' p' t i t' j,s'.heap.get? v.it = some (rngO (g + 1)) → s'.heap.get? v.fr = some (v.fB w.params a b (.int (g : Int) t) (told v.K i t') (slX j sl)) → K2 v.fr v.it s s' → wpCode (VM (VX w b1 b2 b3)) ⟨inFor v.fr v.it,none,none,fillAll (shN v.fr) hs,none⟩ Q p' s') :
    wpCode (VM (VX w b1 b2 b3)) ⟨inFor v.fr v.it,none,none,fillAll (shN v.fr) hs,none⟩ Q p s := by
  obtain ⟨rg,yg,hx,hk⟩ := hh
  have m1 := mark_len v.st
  have m2 := mark_len g
  have s1000 : (1000 : Nat) ≤ sizeLine := by decide
  have hT := O.hT
  have a1 : (mark v.st).length + v.x.T.length ≤ sizeLine := by omega
  have a2 : (mark v.st ++ v.x.T).length + (mark g).length ≤ sizeLine := by rw [strLen_append]; omega
  have i4 : ∀ n : Nat,n < 4 → ((n : Nat) : Int) < 2 ^ 63 := fun n h => by omega
  rcases hk with ⟨he,hk⟩ | ⟨he,hk⟩
  · refine enterT (VX_ok w b1 b2 b3) (lT := [(v.it,rngO g),(v.fr,v.fB w.params a b vg vt sl)]) (lR := [(v.x.ro,lsO v.xs v.ex),(v.x.wo,lsO v.ws v.ew)]) (inBS_run w b1 b2 b3 v.fr hs p s.heap.objs.size s.toks v.it ({ v.x with κ := kapX v.x.κ a b }) sl v.st g v.stt v.K v.kt vg vt .none v.xs v.ws v.ex v.ew rg v.wv yg v.yw) rfl A.top (fun y hy => ?_) (fun y hy => ?_) (by simp [O.d0]) (fun y hy y' hy' => ?_) (fun y hy => ?_) (⟨vRng hg,fun α1 tk1 n1 τ1 _ => ⟨vMark1 O.h4,fun α2 tk2 n2 τ2 _ => ⟨vAdd a1,fun α3 tk3 n3 τ3 _ => ⟨vMark1 hg,fun α4 tk4 n4 τ4 _ => ⟨vAdd a2,fun α5 tk5 n5 τ5 _ => ⟨hk.valid,fun α6 tk6 n6 τ6 _ => ⟨vLGet hx (i4 g hg),fun α7 tk7 n7 τ7 _ => ⟨vLGet O.hw (i4 v.st O.h4),fun α8 tk8 n8 τ8 _ => ⟨vEq he,fun α9 tk9 n9 τ9 _ => ⟨vNe (by simp),fun α10 tk10 n10 τ10 _ => fun s' L => ⟨inFor_quiet _ _,fun p' => H s' p' tk1 1 tk6 0 (L.at_ _ (.head _)) (L.at_ _ (.tail _ (.head _))) (.of L)⟩⟩⟩⟩⟩⟩⟩⟩⟩⟩⟩)
    · simp only [List.mem_cons,List.not_mem_nil,or_false] at hy
      rcases hy with rfl | rfl
      · exact A.it
      · exact hf
    · simp only [List.mem_cons,List.not_mem_nil,or_false] at hy
      rcases hy with rfl | rfl
      · exact A.ro
      · exact A.wo
    · simp only [List.mem_cons,List.not_mem_nil,or_false] at hy hy'
      rcases hy with rfl | rfl <;> rcases hy' with rfl | rfl
      · exact O.d1
      · exact O.d2
      · exact O.d3
      · exact O.d4
    · simp only [List.mem_cons,List.not_mem_nil,or_false] at hy
      rcases hy with rfl | rfl
      · exact O.t1
      · exact O.t2
  · refine enterT (VX_ok w b1 b2 b3) (lT := [(v.it,rngO g),(v.fr,v.fB w.params a b vg vt sl)]) (lR := [(v.x.ro,lsO v.xs v.ex),(v.x.wo,lsO v.ws v.ew)]) (inBN_run w b1 b2 b3 v.fr hs p s.heap.objs.size s.toks v.it ({ v.x with κ := kapX v.x.κ a b }) sl v.st g v.stt v.K v.kt vg vt .none v.xs v.ws v.ex v.ew rg v.wv yg v.yw) rfl A.top (fun y hy => ?_) (fun y hy => ?_) (by simp [O.d0]) (fun y hy y' hy' => ?_) (fun y hy => ?_) (⟨vRng hg,fun α1 tk1 n1 τ1 _ => ⟨vMark1 O.h4,fun α2 tk2 n2 τ2 _ => ⟨vAdd a1,fun α3 tk3 n3 τ3 _ => ⟨vMark1 hg,fun α4 tk4 n4 τ4 _ => ⟨vAdd a2,fun α5 tk5 n5 τ5 _ => ⟨hk.valid,fun α6 tk6 n6 τ6 _ => ⟨vLGet hx (i4 g hg),fun α7 tk7 n7 τ7 _ => ⟨vLGet O.hw (i4 v.st O.h4),fun α8 tk8 n8 τ8 _ => ⟨vEq he,fun α9 tk9 n9 τ9 _ => fun s' L => ⟨inFor_quiet _ _,fun p' => H s' p' tk1 0 0 (α6 0 + 1) (L.at_ _ (.head _)) (L.at_ _ (.tail _ (.head _))) (.of L)⟩⟩⟩⟩⟩⟩⟩⟩⟩⟩)
    · simp only [List.mem_cons,List.not_mem_nil,or_false] at hy
      rcases hy with rfl | rfl
      · exact A.it
      · exact hf
    · simp only [List.mem_cons,List.not_mem_nil,or_false] at hy
      rcases hy with rfl | rfl
      · exact A.ro
      · exact A.wo
    · simp only [List.mem_cons,List.not_mem_nil,or_false] at hy hy'
      rcases hy with rfl | rfl <;> rcases hy' with rfl | rfl
      · exact O.d1
      · exact O.d2
      · exact O.d3
      · exact O.d4
    · simp only [List.mem_cons,List.not_mem_nil,or_false] at hy
      rcases hy with rfl | rfl
      · exact O.t1
      · exact O.t2
theorem in_turnC {w : World} {b1 b2 b3 : Bool} {v : Iv} (O : v.Ok w.params) (hs : HL (shN v.fr)) {Q : Result → Shared → Prop} {g : Nat} {s : Shared} {p : Pos} {sl : Array (Option Value)} {vg vt vw : Value} (hg : g < 4) (hh : v.Hit g) (A : v.At w.params g s) (hf : s.heap.get? v.fr = some (v.fC w.params vg vt vw sl))
    (H : ∀ s' p' t i t' j,s'.heap.get? v.it = some (rngO (g + 1)) → s'.heap.get? v.fr = some (v.fC w.params (.int (g : Int) t) (told v.K i t') vw (slX j sl)) → K2 v.fr v.it s s' → wpCode (VM (VX w b1 b2 b3)) ⟨inFor v.fr v.it,none,none,fillAll (shN v.fr) hs,none⟩ Q p' s') :
    wpCode (VM (VX w b1 b2 b3)) ⟨inFor v.fr v.it,none,none,fillAll (shN v.fr) hs,none⟩ Q p s := by
  obtain ⟨rg,yg,hx,hk⟩ := hh
  have m1 := mark_len v.st
  have m2 := mark_len g
  have s1000 : (1000 : Nat) ≤ sizeLine := by decide
  have hT := O.hT
  have a1 : (mark v.st).length + v.x.T.length ≤ sizeLine := by omega
  have a2 : (mark v.st ++ v.x.T).length + (mark g).length ≤ sizeLine := by rw [strLen_append]; omega
  have i4 : ∀ n : Nat,n < 4 → ((n : Nat) : Int) < 2 ^ 63 := fun n h => by omega
  rcases hk with ⟨he,hk⟩ | ⟨he,hk⟩
  · refine enterT (VX_ok w b1 b2 b3) (lT := [(v.it,rngO g),(v.fr,v.fC w.params vg vt vw sl)]) (lR := [(v.x.ro,lsO v.xs v.ex),(v.x.wo,lsO v.ws v.ew)]) (inCS_run w b1 b2 b3 v.fr hs p s.heap.objs.size s.toks v.it (v.x) sl v.st g v.stt v.K v.kt vg vt vw v.xs v.ws v.ex v.ew rg v.wv yg v.yw) rfl A.top (fun y hy => ?_) (fun y hy => ?_) (by simp [O.d0]) (fun y hy y' hy' => ?_) (fun y hy => ?_) (⟨vRng hg,fun α1 tk1 n1 τ1 _ => ⟨vMark1 O.h4,fun α2 tk2 n2 τ2 _ => ⟨vAdd a1,fun α3 tk3 n3 τ3 _ => ⟨vMark1 hg,fun α4 tk4 n4 τ4 _ => ⟨vAdd a2,fun α5 tk5 n5 τ5 _ => ⟨hk.valid,fun α6 tk6 n6 τ6 _ => ⟨vLGet hx (i4 g hg),fun α7 tk7 n7 τ7 _ => ⟨vLGet O.hw (i4 v.st O.h4),fun α8 tk8 n8 τ8 _ => ⟨vEq he,fun α9 tk9 n9 τ9 _ => ⟨vNe (by simp),fun α10 tk10 n10 τ10 _ => fun s' L => ⟨inFor_quiet _ _,fun p' => H s' p' tk1 1 tk6 0 (L.at_ _ (.head _)) (L.at_ _ (.tail _ (.head _))) (.of L)⟩⟩⟩⟩⟩⟩⟩⟩⟩⟩⟩)
    · simp only [List.mem_cons,List.not_mem_nil,or_false] at hy
      rcases hy with rfl | rfl
      · exact A.it
      · exact hf
    · simp only [List.mem_cons,List.not_mem_nil,or_false] at hy
      rcases hy with rfl | rfl
      · exact A.ro
      · exact A.wo
    · simp only [List.mem_cons,List.not_mem_nil,or_false] at hy hy'
      rcases hy with rfl | rfl <;> rcases hy' with rfl | rfl
      · exact O.d1
      · exact O.d2
      · exact O.d3
      · exact O.d4
    · simp only [List.mem_cons,List.not_mem_nil,or_false] at hy
      rcases hy with rfl | rfl
      · exact O.t1
      · exact O.t2
  · refine enterT (VX_ok w b1 b2 b3) (lT := [(v.it,rngO g),(v.fr,v.fC w.params vg vt vw sl)]) (lR := [(v.x.ro,lsO v.xs v.ex),(v.x.wo,lsO v.ws v.ew)]) (inCN_run w b1 b2 b3 v.fr hs p s.heap.objs.size s.toks v.it (v.x) sl v.st g v.stt v.K v.kt vg vt vw v.xs v.ws v.ex v.ew rg v.wv yg v.yw) rfl A.top (fun y hy => ?_) (fun y hy => ?_) (by simp [O.d0]) (fun y hy y' hy' => ?_) (fun y hy => ?_) (⟨vRng hg,fun α1 tk1 n1 τ1 _ => ⟨vMark1 O.h4,fun α2 tk2 n2 τ2 _ => ⟨vAdd a1,fun α3 tk3 n3 τ3 _ => ⟨vMark1 hg,fun α4 tk4 n4 τ4 _ => ⟨vAdd a2,fun α5 tk5 n5 τ5 _ => ⟨hk.valid,fun α6 tk6 n6 τ6 _ => ⟨vLGet hx (i4 g hg),fun α7 tk7 n7 τ7 _ => ⟨vLGet O.hw (i4 v.st O.h4),fun α8 tk8 n8 τ8 _ => ⟨vEq he,fun α9 tk9 n9 τ9 _ => fun s' L => ⟨inFor_quiet _ _,fun p' => H s' p' tk1 0 0 (α6 0 + 1) (L.at_ _ (.head _)) (L.at_ _ (.tail _ (.head _))) (.of L)⟩⟩⟩⟩⟩⟩⟩⟩⟩⟩)
    · simp only [List.mem_cons,List.not_mem_nil,or_false] at hy
      rcases hy with rfl | rfl
      · exact A.it
      · exact hf
    · simp only [List.mem_cons,List.not_mem_nil,or_false] at hy
      rcases hy with rfl | rfl
      · exact A.ro
      · exact A.wo
    · simp only [List.mem_cons,List.not_mem_nil,or_false] at hy hy'
      rcases hy with rfl | rfl <;> rcases hy' with rfl | rfl
      · exact O.d1
      · exact O.d2
      · exact O.d3
      · exact O.d4
    · simp only [List.mem_cons,List.not_mem_nil,or_false] at hy
      rcases hy with rfl | rfl
      · exact O.t1
      · exact O.t2
theorem in_end {w : World} {b1 b2 b3 : Bool} {v : Iv} (O : v.Ok w.params) (hs : HL (shN v.fr)) {Q : Result → Shared → Prop} {s : Shared} {p : Pos} (A : v.At w.params 4 s) {ob : Obj} (hf : s.heap.get? v.fr = some ob)
    (H : ∀ s',s'.heap.get? v.it = some (rngO 4) → s'.heap.get? v.fr = some ob → K2 v.fr v.it s s' → Q (.ok .next) s') :
    wpCode (VM (VX w b1 b2 b3)) ⟨inFor v.fr v.it,none,none,fillAll (shN v.fr) hs,none⟩ Q p s := by
  refine enter (VX_ok w b1 b2 b3) (lT := [(v.it,rngO 4)]) (lR := []) (inE_run w b1 b2 b3 v.fr hs p s.heap.objs.size s.toks v.it 0) rfl A.top (fun y hy => ?_) (fun _ h => nomatch h) (by simp) (fun _ _ _ h => nomatch h) (fun y hy => ?_) (fun s' L q e => ?_)
  · obtain rfl := List.mem_singleton.mp hy; exact A.it
  · obtain rfl := List.mem_singleton.mp hy; exact O.t1
  · rw [resF_next e]
    exact H s' (L.at_ _ (.head _)) (L.keep _ _ hf (by simp [O.d0.symm])) ⟨fun a ob h h1 _ => L.keep a ob h (by simp [h1]),L.grow,L.gens,L.drawn,L.os⟩
end Mine
end
section
open PySem PySem.W PyProof.Rows
namespace Mine
theorem slX_slX (i j : Nat) (sl : Array (Option Value)) : ∃ k,slX i (slX j sl) = slX k sl := by
  cases i with
  | zero => exact ⟨j,rfl⟩
  | succ i => exact slL_slX i j sl
noncomputable def oInA (P : Params) (sh : List Sk) (ki kf hr hw : Nat) (v : Iv) : Spec :=
  ⟨inFor v.fr v.it,sh,[(3 * ki + 3,v.it,rngO 0),(3 * kf + 3,v.fr,v.fA P v.sl),(hr,v.x.ro,lsO v.xs v.ex),(hw,v.x.wo,lsO v.ws v.ew)],fun _ _ => .ok .next,
    [(ki,v.it,fun _ _ => rngO 4),(kf,v.fr,fun α _ => v.fB P (α 0) (α 1) (.int ((3 : Nat) : Int) (α 2)) (told v.K (α 3) (α 4)) (slX (α 5) v.sl))],[],[],true⟩
noncomputable def oInC (P : Params) (sh : List Sk) (ki kf hr hw : Nat) (v : Iv) (vg vt vw : Value) : Spec :=
  ⟨inFor v.fr v.it,sh,[(3 * ki + 3,v.it,rngO 0),(3 * kf + 3,v.fr,v.fC P vg vt vw v.sl),(hr,v.x.ro,lsO v.xs v.ex),(hw,v.x.wo,lsO v.ws v.ew)],fun _ _ => .ok .next,
    [(ki,v.it,fun _ _ => rngO 4),(kf,v.fr,fun α _ => v.fC P (.int ((3 : Nat) : Int) (α 2)) (told v.K (α 3) (α 4)) vw (slX (α 5) v.sl))],[],[],true⟩
noncomputable def al6' (a b c e f g : Nat) (i : Nat) : Nat := match i with
  | 0 => a | 1 => b | 2 => c | 3 => e | 4 => f | _ => g
theorem apart_sep {V : HV} {pre : List (Nat × Ent)} (hap : Apart V pre) {k h a b : Nat} {o o' : Obj} (m : (3 * k + 3,a,o) ∈ pre) (m' : (h,b,o') ∈ pre) (hh : h % 3 = 2) : a ≠ b := hap.sep _ m (by dsimp only; omega) _ m' hh
structure Iv.In (v : Iv) : Prop where
  h4 : v.st < 4
  hT : v.x.T.length ≤ 900
  hw : v.ws[v.st]? = some (.str v.wv v.yw)
  hit : ∀ g,g < 4 → v.Hit g
theorem vInA {w : World} {b1 b2 b3 : Bool} {ki kf hr hw : Nat} {v : Iv} (hk : ki ≠ kf) (h1 : hr % 3 = 2) (h2 : hw % 3 = 2) (I : v.In) : Valid (VX w b1 b2 b3) (oInA w.params (shN v.fr) ki kf hr hw v) := by
  intro hs p s htop hpre ⟨hap,hpp⟩
  have m1 : (3 * ki + 3,v.it,rngO 0) ∈ (oInA w.params (shN v.fr) ki kf hr hw v).pre := mem_of_idx 0 rfl
  have m2 : (3 * kf + 3,v.fr,v.fA w.params v.sl) ∈ (oInA w.params (shN v.fr) ki kf hr hw v).pre := mem_of_idx 1 rfl
  have m3 : (hr,v.x.ro,lsO v.xs v.ex) ∈ (oInA w.params (shN v.fr) ki kf hr hw v).pre := mem_of_idx 2 rfl
  have m4 : (hw,v.x.wo,lsO v.ws v.ew) ∈ (oInA w.params (shN v.fr) ki kf hr hw v).pre := mem_of_idx 3 rfl
  have O : v.Ok w.params := ⟨apart_own hap m1 m2 hk,apart_sep hap m1 m3 h1,apart_sep hap m1 m4 h2,apart_sep hap m2 m3 h1,apart_sep hap m2 m4 h2,apart_top hap m1,apart_top hap m2,I.h4,I.hT,I.hw⟩
  have A : v.At w.params 0 s := ⟨htop,hpre _ m1,hpre _ m3,hpre _ m4⟩
  refine in_turnA O hs (by decide) (I.hit 0 (by decide)) A (hpre _ m2) fun s1 p1 a b t1 i1 t1' j1 e1 f1 k1 => ?_
  have A1 := A.next O k1 e1
  refine in_turnB O hs (by decide) (I.hit 1 (by decide)) A1 f1 fun s2 p2 t2 i2 t2' j2 e2 f2 k2 => ?_
  have A2 := A1.next O k2 e2
  refine in_turnB O hs (by decide) (I.hit 2 (by decide)) A2 f2 fun s3 p3 t3 i3 t3' j3 e3 f3 k3 => ?_
  have A3 := A2.next O k3 e3
  refine in_turnB O hs (by decide) (I.hit 3 (by decide)) A3 f3 fun s4 p4 t4 i4 t4' j4 e4 f4 k4 => ?_
  have A4 := A3.next O k4 e4
  refine in_end O hs A4 f4 fun s5 e5 f5 k5 => ?_
  have K := (((k1.trans k2).trans k3).trans k4).trans k5
  obtain ⟨j,hj⟩ := slX_slX j2 j1 v.sl
  obtain ⟨j',hj'⟩ := slX_slX j3 j v.sl
  obtain ⟨j'',hj''⟩ := slX_slX j4 j' v.sl
  rw [hj,hj',hj''] at f5
  refine ⟨al6' a b t4 i4 t4' j'',0,rfl,fun y hy => ?_,(fun _ _ h => nomatch h),fun c ob g hb => K.keep c ob g (fun z => hb _ (mem_of_idx 0 rfl) z.symm) (fun z => hb _ (mem_of_idx 1 rfl) z.symm),(fun _ _ h => nomatch h),(fun _ _ h => nomatch h),(fun _ _ h => absurd h (Nat.not_lt_zero _)),K.grow,K.gens,K.drawn,K.os⟩
  rcases List.mem_cons.mp hy with rfl | hy
  · exact e5
  · obtain rfl := List.mem_singleton.mp hy
    exact f5
theorem vInC {w : World} {b1 b2 b3 : Bool} {ki kf hr hw : Nat} {v : Iv} {vg vt vw : Value} (hk : ki ≠ kf) (h1 : hr % 3 = 2) (h2 : hw % 3 = 2) (I : v.In) : Valid (VX w b1 b2 b3) (oInC w.params (shN v.fr) ki kf hr hw v vg vt vw) := by
  intro hs p s htop hpre ⟨hap,hpp⟩
  have m1 : (3 * ki + 3,v.it,rngO 0) ∈ (oInC w.params (shN v.fr) ki kf hr hw v vg vt vw).pre := mem_of_idx 0 rfl
  have m2 : (3 * kf + 3,v.fr,v.fC w.params vg vt vw v.sl) ∈ (oInC w.params (shN v.fr) ki kf hr hw v vg vt vw).pre := mem_of_idx 1 rfl
  have m3 : (hr,v.x.ro,lsO v.xs v.ex) ∈ (oInC w.params (shN v.fr) ki kf hr hw v vg vt vw).pre := mem_of_idx 2 rfl
  have m4 : (hw,v.x.wo,lsO v.ws v.ew) ∈ (oInC w.params (shN v.fr) ki kf hr hw v vg vt vw).pre := mem_of_idx 3 rfl
  have O : v.Ok w.params := ⟨apart_own hap m1 m2 hk,apart_sep hap m1 m3 h1,apart_sep hap m1 m4 h2,apart_sep hap m2 m3 h1,apart_sep hap m2 m4 h2,apart_top hap m1,apart_top hap m2,I.h4,I.hT,I.hw⟩
  have A : v.At w.params 0 s := ⟨htop,hpre _ m1,hpre _ m3,hpre _ m4⟩
  refine in_turnC O hs (by decide) (I.hit 0 (by decide)) A (hpre _ m2) fun s1 p1 t1 i1 t1' j1 e1 f1 k1 => ?_
  have A1 := A.next O k1 e1
  refine in_turnC O hs (by decide) (I.hit 1 (by decide)) A1 f1 fun s2 p2 t2 i2 t2' j2 e2 f2 k2 => ?_
  have A2 := A1.next O k2 e2
  refine in_turnC O hs (by decide) (I.hit 2 (by decide)) A2 f2 fun s3 p3 t3 i3 t3' j3 e3 f3 k3 => ?_
  have A3 := A2.next O k3 e3
  refine in_turnC O hs (by decide) (I.hit 3 (by decide)) A3 f3 fun s4 p4 t4 i4 t4' j4 e4 f4 k4 => ?_
  have A4 := A3.next O k4 e4
  refine in_end O hs A4 f4 fun s5 e5 f5 k5 => ?_
  have K := (((k1.trans k2).trans k3).trans k4).trans k5
  obtain ⟨j,hj⟩ := slX_slX j2 j1 v.sl
  obtain ⟨j',hj'⟩ := slX_slX j3 j v.sl
  obtain ⟨j'',hj''⟩ := slX_slX j4 j' v.sl
  rw [hj,hj',hj''] at f5
  refine ⟨al6' 0 0 t4 i4 t4' j'',0,rfl,fun y hy => ?_,(fun _ _ h => nomatch h),fun c ob g hb => K.keep c ob g (fun z => hb _ (mem_of_idx 0 rfl) z.symm) (fun z => hb _ (mem_of_idx 1 rfl) z.symm),(fun _ _ h => nomatch h),(fun _ _ h => nomatch h),(fun _ _ h => absurd h (Nat.not_lt_zero _)),K.grow,K.gens,K.drawn,K.os⟩
  rcases List.mem_cons.mp hy with rfl | hy
  · exact e5
  · obtain rfl := List.mem_singleton.mp hy
    exact f5
end Mine
end
section
open PySem PySem.W PyProof.Rows
namespace Mine
noncomputable def outFor (fr it : Nat) : Code := match ((bodyAt [32])[7]? : Option Stmt) with
  | some (Stmt.For t _ b o _) => .forLoop t (.ref it) b o (lwEnv fr)
  | _ => default
noncomputable def shO (fr : Nat) : List Sk := [.code (lwFn fr),.blt SL.s11611643536802374852x12]
noncomputable def ouA_sh (fr : Nat) : List Sk := shO fr
noncomputable def ouA_code (fr it : Nat) (x : Lw) (sl : Array (Option PySem.Value)) (st : Nat) (pz pz2 : Int) (K K2 : Str) (vs vk vg vt vw : PySem.Value) (xs ws : List PySem.Value) (ex ew : Nat) (wv : Str) (yw : Tok) : Code := (outFor fr it)
noncomputable def ouA_lT (P : Params) (fr it : Nat) (x : Lw) (sl : Array (Option PySem.Value)) (st : Nat) (pz pz2 : Int) (K K2 : Str) (vs vk vg vt vw : PySem.Value) (xs ws : List PySem.Value) (ex ew : Nat) (wv : Str) (yw : Tok) : List Ent := [(it,(rngO st)),(fr,(frmO (.dict ⟨lawE P x⟩ 7) sl))]
noncomputable def ouA_lR (P : Params) (fr it : Nat) (x : Lw) (sl : Array (Option PySem.Value)) (st : Nat) (pz pz2 : Int) (K K2 : Str) (vs vk vg vt vw : PySem.Value) (xs ws : List PySem.Value) (ex ew : Nat) (wv : Str) (yw : Tok) : List Ent := [(x.ro,(lsO xs ex)),(x.wo,(lsO ws ew))]
noncomputable def ouA_scr (P : Params) (n τ : Nat) (fr it : Nat) (x : Lw) (sl : Array (Option PySem.Value)) (st : Nat) (pz pz2 : Int) (K K2 : Str) (vs vk vg vt vw : PySem.Value) (xs ws : List PySem.Value) (ex ew : Nat) (wv : Str) (yw : Tok) : Scr := (.orc [3] (oRng [.frl,.func,.blt SL.s11611643536802374852x12] 0 it st) 2 2 fun α1 tk1 n1 τ1 =>
  (.orc [6,6,10,10,6,6,2227] (oRd 770 [.frl,.func,.blt SL.s11611643536802374852x12] 9 (n1 + 0) x.T x.tt (tupO (st : Int) tk1 (u []) (τ1 + 1) 0) (fun α => tupO pz (α 0) K (α 1) 0) false) 3 2 fun α2 tk2 n2 τ2 =>
  (.orc [8,8,8,0,8,8,0,6,6,10,1,0,0,12,12,0,12,12,12,12,0,12,12,12,12,15] (oInA P (shN fr) 4 1 2 5 ⟨{ x with κ := kap [(x.κ 0),(x.κ 1),(x.κ 2),(x.κ 3),(x.κ 4),(x.κ 5),(x.κ 6),(τ1 + 0),(τ2 + 1)] },fr,(n2 + 1),sl,st,tk1,K,(α2 2),xs,ws,ex,ew,wv,yw⟩) 5 3 fun α3 tk3 n3 τ3 =>
  (.orc [10,10,6,6] (oAdd [.frl,.func,.blt SL.s11611643536802374852x12] x.T x.tt x.Wy x.wyt) 5 3 fun α4 tk4 n4 τ4 =>
  (.orc [6,2227] (oRd 770 [.frl,.func,.blt SL.s11611643536802374852x12] 18 (n4 + 0) (x.T ++ x.Wy) tk4 (tupO (st : Int) tk1 (u []) (τ4 + 0) 0) (fun α => tupO pz2 (α 0) K2 (α 1) 0) false) 6 3 fun α5 tk5 n5 τ5 =>
  (.orc [11,11,11,0,11,11,0,6,6,10,10,6,2269] (oMark [.frl,.func,.blt SL.s11611643536802374852x12] st tk1) 6 4 fun α6 tk6 n6 τ6 =>
  (.orc [6] (oAdd [.frl,.func,.blt SL.s11611643536802374852x12] (mark st) tk6 x.T x.tt) 6 4 fun α7 tk7 n7 τ7 =>
  (.orc [6] (oAdd [.frl,.func,.blt SL.s11611643536802374852x12] ((mark st) ++ x.T) tk7 x.Wy x.wyt) 6 4 fun α8 tk8 n8 τ8 =>
  (.orc [10,6,2269] (oMark [.frl,.func,.blt SL.s11611643536802374852x12] st tk1) 6 4 fun α9 tk9 n9 τ9 =>
  (.orc [] (oAdd [.frl,.func,.blt SL.s11611643536802374852x12] (((mark st) ++ x.T) ++ x.Wy) tk8 (mark st) tk9) 6 4 fun α10 tk10 n10 τ10 =>
  (.orc [2347] (oTokS (shX false) ((((mark st) ++ x.T) ++ x.Wy) ++ (mark st)) tk10 K2) 6 4 fun α11 tk11 n11 τ11 =>
  (.orc [6] (oNe [.frl,.func,.blt SL.s11611643536802374852x12] K2 tk11 K2 (α5 2) false) 6 4 fun α12 tk12 n12 τ12 =>
  (.fin [] ⟨.ok (.again (outFor fr it)),[(0,it,(rngO (st + 1))),(1,fr,(frmO (.dict ⟨lawE P x ++ [d P (u [115,116,97,114,116]) (τ1 + 0) (.int (st : Int) tk1),d P (u [107,101,112,116]) (τ2 + 1) (.str K (α2 2)),d P (u [103,111,97,108]) (α3 0) (.int ((3 : Nat) : Int) (α3 2)),d P (u [116,111,108,100]) (α3 1) (told K (α3 3) (α3 4)),d P (u [119,104,111,108,101]) (τ5 + 1) (.str K2 (α5 2))]⟩ 12) (slX (α3 5) sl)))],[]⟩)))))))))))))
theorem ouA_run (w : World) (b1 b2 b3 : Bool) (fr : Nat) (hs : HL (ouA_sh fr)) (p : Pos) (n τ : Nat) (it : Nat) (x : Lw) (sl : Array (Option PySem.Value)) (st : Nat) (pz pz2 : Int) (K K2 : Str) (vs vk vg vt vw : PySem.Value) (xs ws : List PySem.Value) (ex ew : Nat) (wv : Str) (yw : Tok) : SH (VX w b1 b2 b3) false 20000 [] ⟨ouA_code fr it x sl st pz pz2 K K2 vs vk vg vt vw xs ws ex ew wv yw ,none,none,fillAll (ouA_sh fr) hs,none⟩ p ((VX w b1 b2 b3).den (ouA_code fr it x sl st pz pz2 K K2 vs vk vg vt vw xs ws ex ew wv yw )) (ouA_scr w.params n τ fr it x sl st pz pz2 K K2 vs vk vg vt vw xs ws ex ew wv yw ) (tabOf (ouA_lR w.params fr it x sl st pz pz2 K K2 vs vk vg vt vw xs ws ex ew wv yw ) 0 .nil) (tabOf (ouA_lT w.params fr it x sl st pz pz2 K K2 vs vk vg vt vw xs ws ex ew wv yw ) 0 .nil) 2 2 n 0 τ 0 [] [] := by
  cases b1 <;> exact runOf (adrs [it,fr] n) (adr1 [x.ro,x.wo]) (by kernel_rfl)
noncomputable def ouC_sh (fr : Nat) : List Sk := shO fr
noncomputable def ouC_code (fr it : Nat) (x : Lw) (sl : Array (Option PySem.Value)) (st : Nat) (pz pz2 : Int) (K K2 : Str) (vs vk vg vt vw : PySem.Value) (xs ws : List PySem.Value) (ex ew : Nat) (wv : Str) (yw : Tok) : Code := (outFor fr it)
noncomputable def ouC_lT (P : Params) (fr it : Nat) (x : Lw) (sl : Array (Option PySem.Value)) (st : Nat) (pz pz2 : Int) (K K2 : Str) (vs vk vg vt vw : PySem.Value) (xs ws : List PySem.Value) (ex ew : Nat) (wv : Str) (yw : Tok) : List Ent := [(it,(rngO st)),(fr,(frmO (.dict ⟨lawE P x ++ [d P (u [115,116,97,114,116]) (x.κ 7) vs,d P (u [107,101,112,116]) (x.κ 8) vk,d P (u [103,111,97,108]) (x.κ 9) vg,d P (u [116,111,108,100]) (x.κ 10) vt,d P (u [119,104,111,108,101]) (x.κ 11) vw]⟩ 12) sl))]
noncomputable def ouC_lR (P : Params) (fr it : Nat) (x : Lw) (sl : Array (Option PySem.Value)) (st : Nat) (pz pz2 : Int) (K K2 : Str) (vs vk vg vt vw : PySem.Value) (xs ws : List PySem.Value) (ex ew : Nat) (wv : Str) (yw : Tok) : List Ent := [(x.ro,(lsO xs ex)),(x.wo,(lsO ws ew))]
noncomputable def ouC_scr (P : Params) (n τ : Nat) (fr it : Nat) (x : Lw) (sl : Array (Option PySem.Value)) (st : Nat) (pz pz2 : Int) (K K2 : Str) (vs vk vg vt vw : PySem.Value) (xs ws : List PySem.Value) (ex ew : Nat) (wv : Str) (yw : Tok) : Scr := (.orc [3] (oRng [.frl,.func,.blt SL.s11611643536802374852x12] 0 it st) 2 2 fun α1 tk1 n1 τ1 =>
  (.orc [6,6,10,10,6,6,2227] (oRd 770 [.frl,.func,.blt SL.s11611643536802374852x12] 9 (n1 + 0) x.T x.tt (tupO (st : Int) tk1 (u []) (τ1 + 1) 0) (fun α => tupO pz (α 0) K (α 1) 0) false) 3 2 fun α2 tk2 n2 τ2 =>
  (.orc [8,8,8,0,8,8,0,6,6,10,1,0,0,12,12,0,12,12,12,12,0,12,12,12,12,15] (oInC P (shN fr) 4 1 2 5 ⟨x,fr,(n2 + 1),sl,st,tk1,K,(α2 2),xs,ws,ex,ew,wv,yw⟩ vg vt vw) 5 3 fun α3 tk3 n3 τ3 =>
  (.orc [10,10,6,6] (oAdd [.frl,.func,.blt SL.s11611643536802374852x12] x.T x.tt x.Wy x.wyt) 5 3 fun α4 tk4 n4 τ4 =>
  (.orc [6,2227] (oRd 770 [.frl,.func,.blt SL.s11611643536802374852x12] 18 (n4 + 0) (x.T ++ x.Wy) tk4 (tupO (st : Int) tk1 (u []) (τ4 + 0) 0) (fun α => tupO pz2 (α 0) K2 (α 1) 0) false) 6 3 fun α5 tk5 n5 τ5 =>
  (.orc [11,11,11,0,11,11,0,6,6,10,10,6,2269] (oMark [.frl,.func,.blt SL.s11611643536802374852x12] st tk1) 6 4 fun α6 tk6 n6 τ6 =>
  (.orc [6] (oAdd [.frl,.func,.blt SL.s11611643536802374852x12] (mark st) tk6 x.T x.tt) 6 4 fun α7 tk7 n7 τ7 =>
  (.orc [6] (oAdd [.frl,.func,.blt SL.s11611643536802374852x12] ((mark st) ++ x.T) tk7 x.Wy x.wyt) 6 4 fun α8 tk8 n8 τ8 =>
  (.orc [10,6,2269] (oMark [.frl,.func,.blt SL.s11611643536802374852x12] st tk1) 6 4 fun α9 tk9 n9 τ9 =>
  (.orc [] (oAdd [.frl,.func,.blt SL.s11611643536802374852x12] (((mark st) ++ x.T) ++ x.Wy) tk8 (mark st) tk9) 6 4 fun α10 tk10 n10 τ10 =>
  (.orc [2347] (oTokS (shX false) ((((mark st) ++ x.T) ++ x.Wy) ++ (mark st)) tk10 K2) 6 4 fun α11 tk11 n11 τ11 =>
  (.orc [6] (oNe [.frl,.func,.blt SL.s11611643536802374852x12] K2 tk11 K2 (α5 2) false) 6 4 fun α12 tk12 n12 τ12 =>
  (.fin [] ⟨.ok (.again (outFor fr it)),[(0,it,(rngO (st + 1))),(1,fr,(frmO (.dict ⟨lawE P x ++ [d P (u [115,116,97,114,116]) (x.κ 7) (.int (st : Int) tk1),d P (u [107,101,112,116]) (x.κ 8) (.str K (α2 2)),d P (u [103,111,97,108]) (x.κ 9) (.int ((3 : Nat) : Int) (α3 2)),d P (u [116,111,108,100]) (x.κ 10) (told K (α3 3) (α3 4)),d P (u [119,104,111,108,101]) (x.κ 11) (.str K2 (α5 2))]⟩ 12) (slX (α3 5) sl)))],[]⟩)))))))))))))
theorem ouC_run (w : World) (b1 b2 b3 : Bool) (fr : Nat) (hs : HL (ouC_sh fr)) (p : Pos) (n τ : Nat) (it : Nat) (x : Lw) (sl : Array (Option PySem.Value)) (st : Nat) (pz pz2 : Int) (K K2 : Str) (vs vk vg vt vw : PySem.Value) (xs ws : List PySem.Value) (ex ew : Nat) (wv : Str) (yw : Tok) : SH (VX w b1 b2 b3) false 20000 [] ⟨ouC_code fr it x sl st pz pz2 K K2 vs vk vg vt vw xs ws ex ew wv yw ,none,none,fillAll (ouC_sh fr) hs,none⟩ p ((VX w b1 b2 b3).den (ouC_code fr it x sl st pz pz2 K K2 vs vk vg vt vw xs ws ex ew wv yw )) (ouC_scr w.params n τ fr it x sl st pz pz2 K K2 vs vk vg vt vw xs ws ex ew wv yw ) (tabOf (ouC_lR w.params fr it x sl st pz pz2 K K2 vs vk vg vt vw xs ws ex ew wv yw ) 0 .nil) (tabOf (ouC_lT w.params fr it x sl st pz pz2 K K2 vs vk vg vt vw xs ws ex ew wv yw ) 0 .nil) 2 2 n 0 τ 0 [] [] := by
  cases b1 <;> exact runOf (adrs [it,fr] n) (adr1 [x.ro,x.wo]) (by kernel_rfl)
noncomputable def ouE_sh (fr : Nat) : List Sk := shO fr
noncomputable def ouE_code (fr it : Nat) : Code := (outFor fr it)
noncomputable def ouE_lT (P : Params) (fr it : Nat) : List Ent := [(it,(rngO 4))]
noncomputable def ouE_lR (P : Params) (fr it : Nat) : List Ent := []
noncomputable def ouE_scr (P : Params) (n τ : Nat) (fr it : Nat) : Scr := (.fin [3,0,3,3,3,3,9] ⟨.ok (.done .next),[(0,it,(rngO 4))],[]⟩)
theorem ouE_run (w : World) (b1 b2 b3 : Bool) (fr : Nat) (hs : HL (ouE_sh fr)) (p : Pos) (n τ : Nat) (it : Nat) : SH (VX w b1 b2 b3) true 20000 [] ⟨ouE_code fr it ,none,none,fillAll (ouE_sh fr) hs,none⟩ p ((VX w b1 b2 b3).den (ouE_code fr it )) (ouE_scr w.params n τ fr it ) (tabOf (ouE_lR w.params fr it ) 0 .nil) (tabOf (ouE_lT w.params fr it ) 0 .nil) 1 0 n 0 τ 0 [] [] := by
  exact runOf (adrs [it] n) (adr1 []) (by kernel_rfl)
end Mine
end
section
open PySem PySem.W PyProof.Rows
namespace Mine
theorem vMark2 {w : World} {b1 b2 b3 : Bool} {p : Nat} {pt : Tok} (h : p < 4) : Valid (VX w b1 b2 b3) (oMark [.frl,.func,.blt SL.s11611643536802374852x12] p pt) := by
  rcases (show p = 0 ∨ p = 1 ∨ p = 2 ∨ p = 3 by omega) with rfl | rfl | rfl | rfl
  · exact vMark20 w b1 b2 b3 pt
  · exact vMark21 w b1 b2 b3 pt
  · exact vMark22 w b1 b2 b3 pt
  · exact vMark23 w b1 b2 b3 pt
structure Ov where
  x : Lw
  fr : Nat
  it : Nat
  sl : Array (Option Value)
  xs : List Value
  ws : List Value
  ex : Nat
  ew : Nat
noncomputable def Ov.kept (v : Ov) (st : Nat) : Nat × Str := v.x.T.cps.toList.foldl passed (st,u [])
noncomputable def Ov.whole (v : Ov) (st : Nat) : Nat × Str := (v.x.T ++ v.x.Wy).cps.toList.foldl passed (st,u [])
structure Ov.Fact (v : Ov) (st : Nat) : Prop where
  hit : ∃ wv yw,v.ws[st]? = some (.str wv yw) ∧ ∀ g,g < 4 → ∃ rg yg,v.xs[g]? = some (.str rg yg) ∧ ((rg == wv) = true ∧ TokS (mark st ++ v.x.T ++ mark g) (v.kept st).2 ∨ (rg == wv) = false ∧ TokN (mark st ++ v.x.T ++ mark g))
  tok : TokS (mark st ++ v.x.T ++ v.x.Wy ++ mark st) (v.whole st).2
structure Ov.In (v : Ov) : Prop where
  ne : v.x.T.cps.toList ≠ []
  sg : ∀ c ∈ v.x.T.cps.toList,isSg c
  sgW : ∀ c ∈ v.x.Wy.cps.toList,isSg c
  hT : v.x.T.length ≤ 500
  hW : v.x.Wy.length ≤ 300
  fact : ∀ st,st < 4 → v.Fact st
structure Ov.Ok (v : Ov) (P : Params) : Prop where
  d0 : v.it ≠ v.fr
  d1 : v.it ≠ v.x.ro
  d2 : v.it ≠ v.x.wo
  d3 : v.fr ≠ v.x.ro
  d4 : v.fr ≠ v.x.wo
  t1 : ∀ ob,topF P v.it ≠ some ob
  t2 : ∀ ob,topF P v.fr ≠ some ob
structure Ov.At (v : Ov) (P : Params) (g : Nat) (s : Shared) : Prop where
  top : ∀ a ob,topF P a = some ob → s.heap.get? a = some ob
  it : s.heap.get? v.it = some (rngO g)
  ro : s.heap.get? v.x.ro = some (lsO v.xs v.ex)
  wo : s.heap.get? v.x.wo = some (lsO v.ws v.ew)
theorem Ov.At.next {v : Ov} {P : Params} (O : v.Ok P) {g g' : Nat} {s s' : Shared} (A : v.At P g s) (k : K2 v.fr v.it s s') (h : s'.heap.get? v.it = some (rngO g')) : v.At P g' s' :=
  ⟨fun a ob e => k.keep a ob (A.top a ob e) (fun z => O.t1 ob (z ▸ e)) (fun z => O.t2 ob (z ▸ e)),h,k.keep _ _ A.ro O.d1.symm O.d3.symm,k.keep _ _ A.wo O.d2.symm O.d4.symm⟩
noncomputable def kapO (κ : Nat → Tok) (k7 k8 k9 k10 k11 : Nat) (i : Nat) : Tok := match i with
  | 7 => k7 | 8 => k8 | 9 => k9 | 10 => k10 | 11 => k11
  | i => κ i
noncomputable def Ov.fO (v : Ov) (P : Params) (k7 k8 k9 k10 k11 : Tok) (v7 v8 v9 v10 v11 : Value) (sl : Array (Option Value)) : Obj := frmO (.dict ⟨lawE P v.x ++ [d P (u [115,116,97,114,116]) k7 v7,d P (u [107,101,112,116]) k8 v8,d P (u [103,111,97,108]) k9 v9,d P (u [116,111,108,100]) k10 v10,d P (u [119,104,111,108,101]) k11 v11]⟩ 12) sl
noncomputable def Ov.f7 (v : Ov) (P : Params) (sl : Array (Option Value)) : Obj := frmO (.dict ⟨lawE P v.x⟩ 7) sl
theorem outFor_quiet (fr it : Nat) : (outFor fr it).quiet = true := by kernel_rfl
theorem size_top {P : Params} {s : Shared} (h : ∀ a ob,topF P a = some ob → s.heap.get? a = some ob) : 788 ≤ s.heap.objs.size := by
  obtain ⟨ob,hob⟩ : ∃ ob,topF P 787 = some ob := by
    cases e : topF P 787 with
    | some ob => exact ⟨ob,rfl⟩
    | none =>
      exfalso
      have : (topF P 787).isSome = true := by kernel_rfl
      rw [e] at this
      cases this
  have := Heap.lt_size (h 787 ob hob)
  exact this
theorem ou_turnA {w : World} {b1 b2 b3 : Bool} {v : Ov} (O : v.Ok w.params) (I : v.In) (hs : HL (shO v.fr)) {Q : Result → Shared → Prop} {st : Nat} {s : Shared} {p : Pos} {sl : Array (Option Value)} (hg : st < 4) (A : v.At w.params st s) (hf : s.heap.get? v.fr = some (v.f7 w.params sl))
    (H : ∀ s' p' k7 k8 k9 k10 k11 t7 t8 t9 i10 t10 t11 j,s'.heap.get? v.it = some (rngO (st + 1)) → s'.heap.get? v.fr = some (v.fO w.params k7 k8 k9 k10 k11 (.int (st : Int) t7) (.str (v.kept st).2 t8) (.int ((3 : Nat) : Int) t9) (told (v.kept st).2 i10 t10) (.str (v.whole st).2 t11) (slX j sl)) → K2 v.fr v.it s s' → wpCode (VM (VX w b1 b2 b3)) ⟨outFor v.fr v.it,none,none,fillAll (shO v.fr) hs,none⟩ Q p' s') :
    wpCode (VM (VX w b1 b2 b3)) ⟨outFor v.fr v.it,none,none,fillAll (shO v.fr) hs,none⟩ Q p s := by
  have F := I.fact st hg
  obtain ⟨wv,yw,hw,hit⟩ := F.hit
  have m1 := mark_len st
  have s1000 : (1000 : Nat) ≤ sizeLine := by decide
  have hT := I.hT
  have hW := I.hW
  have eW : (v.x.T ++ v.x.Wy).cps.toList = v.x.T.cps.toList ++ v.x.Wy.cps.toList := by
    show (v.x.T.cps ++ v.x.Wy.cps).toList = _
    rw [Array.toList_append]
  have neW : (v.x.T ++ v.x.Wy).cps.toList ≠ [] := by rw [eW]; exact fun h => I.ne (List.append_eq_nil_iff.mp h).1
  have sgW : ∀ c ∈ (v.x.T ++ v.x.Wy).cps.toList,isSg c := fun c hc => by
    rw [eW] at hc
    rcases List.mem_append.mp hc with h | h
    · exact I.sg c h
    · exact I.sgW c h
  have b1' : v.x.T.length ≤ 1000 := by omega
  have b2' : v.x.T.length + v.x.Wy.length ≤ sizeLine := by omega
  have b3' : (v.x.T ++ v.x.Wy).length ≤ 1000 := by rw [strLen_append]; omega
  have b4' : (mark st).length + v.x.T.length ≤ sizeLine := by omega
  have b5' : (mark st ++ v.x.T).length + v.x.Wy.length ≤ sizeLine := by rw [strLen_append]; omega
  have b6' : (mark st ++ v.x.T ++ v.x.Wy).length + (mark st).length ≤ sizeLine := by rw [strLen_append,strLen_append]; omega
  have b7' : v.x.T.length ≤ 900 := by omega
  refine enterT (VX_ok w b1 b2 b3) (lT := [(v.it,rngO st),(v.fr,v.f7 w.params sl)]) (lR := [(v.x.ro,lsO v.xs v.ex),(v.x.wo,lsO v.ws v.ew)]) (ouA_run w b1 b2 b3 v.fr hs p s.heap.objs.size s.toks v.it (v.x) sl st ((v.kept st).1 : Int) ((v.whole st).1 : Int) (v.kept st).2 (v.whole st).2 .none .none .none .none .none v.xs v.ws v.ex v.ew wv yw) rfl A.top (fun y hy => ?_) (fun y hy => ?_) (by simp [O.d0]) (fun y hy y' hy' => ?_) (fun y hy => ?_) (⟨vRng hg,fun α1 tk1 n1 τ1 h1 => ⟨redP _ (Nat.le_trans (size_top A.top) (Nat.le_trans h1.2 (Nat.le_add_right _ _))) st hg _ _ I.ne I.sg b1',fun α2 tk2 n2 τ2 h2 => ⟨vInA (by decide) rfl rfl ⟨hg,b7',hw,hit⟩,fun α3 tk3 n3 τ3 h3 => ⟨vAdd b2',fun α4 tk4 n4 τ4 h4 => ⟨redP _ (Nat.le_trans (size_top A.top) (Nat.le_trans h4.2 (Nat.le_add_right _ _))) st hg _ _ neW sgW b3',fun α5 tk5 n5 τ5 h5 => ⟨vMark2 hg,fun α6 tk6 n6 τ6 h6 => ⟨vAdd b4',fun α7 tk7 n7 τ7 h7 => ⟨vAdd b5',fun α8 tk8 n8 τ8 h8 => ⟨vMark2 hg,fun α9 tk9 n9 τ9 h9 => ⟨vAdd b6',fun α10 tk10 n10 τ10 h10 => ⟨(F.tok).valid,fun α11 tk11 n11 τ11 h11 => ⟨vNe (by simp),fun α12 tk12 n12 τ12 h12 => fun s' L => ⟨outFor_quiet _ _,fun p' => H s' p' _ _ _ _ _ _ _ _ _ _ _ _ (L.at_ _ (.head _)) (L.at_ _ (.tail _ (.head _))) (.of L)⟩⟩⟩⟩⟩⟩⟩⟩⟩⟩⟩⟩⟩)
  · simp only [List.mem_cons,List.not_mem_nil,or_false] at hy
    rcases hy with rfl | rfl
    · exact A.it
    · exact hf
  · simp only [List.mem_cons,List.not_mem_nil,or_false] at hy
    rcases hy with rfl | rfl
    · exact A.ro
    · exact A.wo
  · simp only [List.mem_cons,List.not_mem_nil,or_false] at hy hy'
    rcases hy with rfl | rfl <;> rcases hy' with rfl | rfl
    · exact O.d1
    · exact O.d2
    · exact O.d3
    · exact O.d4
  · simp only [List.mem_cons,List.not_mem_nil,or_false] at hy
    rcases hy with rfl | rfl
    · exact O.t1
    · exact O.t2
theorem ou_turnC {w : World} {b1 b2 b3 : Bool} {v : Ov} (O : v.Ok w.params) (I : v.In) (hs : HL (shO v.fr)) {Q : Result → Shared → Prop} {st : Nat} {s : Shared} {p : Pos} {sl : Array (Option Value)} {k7 k8 k9 k10 k11 : Tok} {v7 v8 v9 v10 v11 : Value} (hg : st < 4) (A : v.At w.params st s) (hf : s.heap.get? v.fr = some (v.fO w.params k7 k8 k9 k10 k11 v7 v8 v9 v10 v11 sl))
    (H : ∀ s' p' k7 k8 k9 k10 k11 t7 t8 t9 i10 t10 t11 j,s'.heap.get? v.it = some (rngO (st + 1)) → s'.heap.get? v.fr = some (v.fO w.params k7 k8 k9 k10 k11 (.int (st : Int) t7) (.str (v.kept st).2 t8) (.int ((3 : Nat) : Int) t9) (told (v.kept st).2 i10 t10) (.str (v.whole st).2 t11) (slX j sl)) → K2 v.fr v.it s s' → wpCode (VM (VX w b1 b2 b3)) ⟨outFor v.fr v.it,none,none,fillAll (shO v.fr) hs,none⟩ Q p' s') :
    wpCode (VM (VX w b1 b2 b3)) ⟨outFor v.fr v.it,none,none,fillAll (shO v.fr) hs,none⟩ Q p s := by
  have F := I.fact st hg
  obtain ⟨wv,yw,hw,hit⟩ := F.hit
  have m1 := mark_len st
  have s1000 : (1000 : Nat) ≤ sizeLine := by decide
  have hT := I.hT
  have hW := I.hW
  have eW : (v.x.T ++ v.x.Wy).cps.toList = v.x.T.cps.toList ++ v.x.Wy.cps.toList := by
    show (v.x.T.cps ++ v.x.Wy.cps).toList = _
    rw [Array.toList_append]
  have neW : (v.x.T ++ v.x.Wy).cps.toList ≠ [] := by rw [eW]; exact fun h => I.ne (List.append_eq_nil_iff.mp h).1
  have sgW : ∀ c ∈ (v.x.T ++ v.x.Wy).cps.toList,isSg c := fun c hc => by
    rw [eW] at hc
    rcases List.mem_append.mp hc with h | h
    · exact I.sg c h
    · exact I.sgW c h
  have b1' : v.x.T.length ≤ 1000 := by omega
  have b2' : v.x.T.length + v.x.Wy.length ≤ sizeLine := by omega
  have b3' : (v.x.T ++ v.x.Wy).length ≤ 1000 := by rw [strLen_append]; omega
  have b4' : (mark st).length + v.x.T.length ≤ sizeLine := by omega
  have b5' : (mark st ++ v.x.T).length + v.x.Wy.length ≤ sizeLine := by rw [strLen_append]; omega
  have b6' : (mark st ++ v.x.T ++ v.x.Wy).length + (mark st).length ≤ sizeLine := by rw [strLen_append,strLen_append]; omega
  have b7' : v.x.T.length ≤ 900 := by omega
  refine enterT (VX_ok w b1 b2 b3) (lT := [(v.it,rngO st),(v.fr,v.fO w.params k7 k8 k9 k10 k11 v7 v8 v9 v10 v11 sl)]) (lR := [(v.x.ro,lsO v.xs v.ex),(v.x.wo,lsO v.ws v.ew)]) (ouC_run w b1 b2 b3 v.fr hs p s.heap.objs.size s.toks v.it ({ v.x with κ := kapO v.x.κ k7 k8 k9 k10 k11 }) sl st ((v.kept st).1 : Int) ((v.whole st).1 : Int) (v.kept st).2 (v.whole st).2 v7 v8 v9 v10 v11 v.xs v.ws v.ex v.ew wv yw) rfl A.top (fun y hy => ?_) (fun y hy => ?_) (by simp [O.d0]) (fun y hy y' hy' => ?_) (fun y hy => ?_) (⟨vRng hg,fun α1 tk1 n1 τ1 h1 => ⟨redP _ (Nat.le_trans (size_top A.top) (Nat.le_trans h1.2 (Nat.le_add_right _ _))) st hg _ _ I.ne I.sg b1',fun α2 tk2 n2 τ2 h2 => ⟨vInC (by decide) rfl rfl ⟨hg,b7',hw,hit⟩,fun α3 tk3 n3 τ3 h3 => ⟨vAdd b2',fun α4 tk4 n4 τ4 h4 => ⟨redP _ (Nat.le_trans (size_top A.top) (Nat.le_trans h4.2 (Nat.le_add_right _ _))) st hg _ _ neW sgW b3',fun α5 tk5 n5 τ5 h5 => ⟨vMark2 hg,fun α6 tk6 n6 τ6 h6 => ⟨vAdd b4',fun α7 tk7 n7 τ7 h7 => ⟨vAdd b5',fun α8 tk8 n8 τ8 h8 => ⟨vMark2 hg,fun α9 tk9 n9 τ9 h9 => ⟨vAdd b6',fun α10 tk10 n10 τ10 h10 => ⟨(F.tok).valid,fun α11 tk11 n11 τ11 h11 => ⟨vNe (by simp),fun α12 tk12 n12 τ12 h12 => fun s' L => ⟨outFor_quiet _ _,fun p' => H s' p' _ _ _ _ _ _ _ _ _ _ _ _ (L.at_ _ (.head _)) (L.at_ _ (.tail _ (.head _))) (.of L)⟩⟩⟩⟩⟩⟩⟩⟩⟩⟩⟩⟩⟩)
  · simp only [List.mem_cons,List.not_mem_nil,or_false] at hy
    rcases hy with rfl | rfl
    · exact A.it
    · exact hf
  · simp only [List.mem_cons,List.not_mem_nil,or_false] at hy
    rcases hy with rfl | rfl
    · exact A.ro
    · exact A.wo
  · simp only [List.mem_cons,List.not_mem_nil,or_false] at hy hy'
    rcases hy with rfl | rfl <;> rcases hy' with rfl | rfl
    · exact O.d1
    · exact O.d2
    · exact O.d3
    · exact O.d4
  · simp only [List.mem_cons,List.not_mem_nil,or_false] at hy
    rcases hy with rfl | rfl
    · exact O.t1
    · exact O.t2
noncomputable def oOut (P : Params) (sh : List Sk) (ki kf hr hw : Nat) (v : Ov) : Spec :=
  ⟨outFor v.fr v.it,sh,[(3 * ki + 3,v.it,rngO 0),(3 * kf + 3,v.fr,v.f7 P v.sl),(hr,v.x.ro,lsO v.xs v.ex),(hw,v.x.wo,lsO v.ws v.ew)],fun _ _ => .ok .next,
    [(ki,v.it,fun _ _ => rngO 4),(kf,v.fr,fun α _ => v.fO P (α 0) (α 1) (α 2) (α 3) (α 4) (.int ((3 : Nat) : Int) (α 5)) (.str (v.kept 3).2 (α 6)) (.int ((3 : Nat) : Int) (α 7)) (told (v.kept 3).2 (α 8) (α 9)) (.str (v.whole 3).2 (α 10)) (slX (α 11) v.sl))],[],[],true⟩
noncomputable def al12 (a b c e f g h i j k l m : Nat) (n : Nat) : Nat := match n with
  | 0 => a | 1 => b | 2 => c | 3 => e | 4 => f | 5 => g | 6 => h | 7 => i | 8 => j | 9 => k | 10 => l | _ => m
theorem vOut {w : World} {b1 b2 b3 : Bool} {ki kf hr hw : Nat} {v : Ov} (hk : ki ≠ kf) (h1 : (hr % 3 ≠ 1 ∧ hr ≠ 0) ∧ (hr % 3 = 0 → hr ≠ 3 * ki + 3 ∧ hr ≠ 3 * kf + 3)) (h2 : (hw % 3 ≠ 1 ∧ hw ≠ 0) ∧ (hw % 3 = 0 → hw ≠ 3 * ki + 3 ∧ hw ≠ 3 * kf + 3)) (I : v.In) : Valid (VX w b1 b2 b3) (oOut w.params (shO v.fr) ki kf hr hw v) := by
  intro hs p s htop hpre ⟨hap,hpp⟩
  have m1 : (3 * ki + 3,v.it,rngO 0) ∈ (oOut w.params (shO v.fr) ki kf hr hw v).pre := mem_of_idx 0 rfl
  have m2 : (3 * kf + 3,v.fr,v.f7 w.params v.sl) ∈ (oOut w.params (shO v.fr) ki kf hr hw v).pre := mem_of_idx 1 rfl
  have m3 : (hr,v.x.ro,lsO v.xs v.ex) ∈ (oOut w.params (shO v.fr) ki kf hr hw v).pre := mem_of_idx 2 rfl
  have m4 : (hw,v.x.wo,lsO v.ws v.ew) ∈ (oOut w.params (shO v.fr) ki kf hr hw v).pre := mem_of_idx 3 rfl
  have sep : ∀ {k a h b : Nat} {o o' : Obj},(3 * k + 3,a,o) ∈ (oOut w.params (shO v.fr) ki kf hr hw v).pre → (h,b,o') ∈ (oOut w.params (shO v.fr) ki kf hr hw v).pre → (h % 3 ≠ 1 ∧ h ≠ 0) → (h % 3 = 0 → h ≠ 3 * k + 3) → a ≠ b := by
    intro k a h b o o' m m' n1 n2
    by_cases hh : h % 3 = 2
    · exact apart_sep hap m m' hh
    · have h0 : h % 3 = 0 := by have := n1.1; omega
      intro e
      have h3 := n1.2
      have := hap.inj _ m (by dsimp only; omega) _ m' (by dsimp only; omega) e
      dsimp only at this
      have := n2 h0
      omega
  have O : v.Ok w.params := ⟨apart_own hap m1 m2 hk,sep m1 m3 h1.1 fun z => (h1.2 z).1,sep m1 m4 h2.1 fun z => (h2.2 z).1,sep m2 m3 h1.1 fun z => (h1.2 z).2,sep m2 m4 h2.1 fun z => (h2.2 z).2,apart_top hap m1,apart_top hap m2⟩
  have A : v.At w.params 0 s := ⟨htop,hpre _ m1,hpre _ m3,hpre _ m4⟩
  refine ou_turnA O I hs (by decide) A (hpre _ m2) fun s1 p1 k7 k8 k9 k10 k11 t7 t8 t9 i10 t10 t11 j1 e1 f1 q1 => ?_
  have A1 := A.next O q1 e1
  refine ou_turnC O I hs (by decide) A1 f1 fun s2 p2 k7 k8 k9 k10 k11 t7 t8 t9 i10 t10 t11 j2 e2 f2 q2 => ?_
  have A2 := A1.next O q2 e2
  refine ou_turnC O I hs (by decide) A2 f2 fun s3 p3 k7 k8 k9 k10 k11 t7 t8 t9 i10 t10 t11 j3 e3 f3 q3 => ?_
  have A3 := A2.next O q3 e3
  refine ou_turnC O I hs (by decide) A3 f3 fun s4 p4 k7 k8 k9 k10 k11 t7 t8 t9 i10 t10 t11 j4 e4 f4 q4 => ?_
  have A4 := A3.next O q4 e4
  obtain ⟨j,hj⟩ := slX_slX j2 j1 v.sl
  obtain ⟨j',hj'⟩ := slX_slX j3 j v.sl
  obtain ⟨j'',hj''⟩ := slX_slX j4 j' v.sl
  rw [hj,hj',hj''] at f4
  refine enter (VX_ok w b1 b2 b3) (lT := [(v.it,rngO 4)]) (lR := []) (ouE_run w b1 b2 b3 v.fr hs p4 s4.heap.objs.size s4.toks v.it) rfl A4.top (fun y hy => ?_) (fun _ h => nomatch h) (by simp) (fun _ _ _ h => nomatch h) (fun y hy => ?_) (fun s5 L q e => ?_)
  · obtain rfl := List.mem_singleton.mp hy; exact A4.it
  · obtain rfl := List.mem_singleton.mp hy; exact O.t1
  · have K : K2 v.fr v.it s s5 := (((q1.trans q2).trans q3).trans q4).trans ⟨fun a ob h h1 _ => L.keep a ob h (by simp [h1]),L.grow,L.gens,L.drawn,L.os⟩
    refine ⟨al12 k7 k8 k9 k10 k11 t7 t8 t9 i10 t10 t11 j'',0,resF_next e,fun y hy => ?_,(fun _ _ h => nomatch h),fun c ob g hb => K.keep c ob g (fun z => hb _ (mem_of_idx 0 rfl) z.symm) (fun z => hb _ (mem_of_idx 1 rfl) z.symm),(fun _ _ h => nomatch h),(fun _ _ h => nomatch h),(fun _ _ h => absurd h (Nat.not_lt_zero _)),K.grow,K.gens,K.drawn,K.os⟩
    rcases List.mem_cons.mp hy with rfl | hy
    · exact L.at_ _ (.head _)
    · obtain rfl := List.mem_singleton.mp hy
      exact L.keep _ _ f4 (by simp [O.d0.symm])
end Mine
end
section
open PySem PySem.W PyProof.Rows
namespace Mine
noncomputable def oCol (sh : List Sk) (h a : Nat) (xs : List Value) (e : Nat) : Spec :=
  ⟨.builtin SL.s14938210572253517480x13 ⟨[.ref a],[]⟩,sh,[(h,a,lsO xs e)],fun α _ => .ok (.ret (.ref (α 0))),[],[],[fun α _ => lsO xs 1],true⟩
theorem vCol {V : HV} {sh : List Sk} {h a : Nat} {xs : List Value} {e : Nat} (hne : xs ≠ []) (hsz : xs.length ≤ 1000) : Valid V (oCol sh h a xs e) := by
  unfold oCol lsO
  rw [← SL.e14938210572253517480x13,← SL.e9222952809800978799x4]
  intro hs p s htop hpre ⟨hap,hpp⟩
  have ho := hpre _ (List.mem_singleton.mpr rfl)
  dsimp only at ho
  have hsz' : (⟨xs⟩ : Array Value).size ≤ sizeLine := Nat.le_trans (show xs.length ≤ 1000 from hsz) (by decide)
  have : codeAny (model V.prog V.w) (aBelow (fillAll sh hs)) (.builtin "proto.collect" ⟨[.ref a], []⟩) (fun q s' => ∃ α tk, Leaves ⟨.builtin "proto.collect" ⟨[.ref a], []⟩, sh, [(h, a, ⟨.type "list", none, .seq ⟨xs⟩ e, #[]⟩)], fun α _ => .ok (.ret (.ref (α 0))), [], [], [fun α _ => ⟨.type "list", none, .seq ⟨xs⟩ 1, #[]⟩], true⟩ s q s' α tk) s := by
    refine codeAny_builtin F.entry_proto_collect ?_
    rw [Around.under_plainId F.plain_proto_collect _]
    show wpAny _ (aBelow (fillAll sh hs)).in1 (newList [] >>= fun l => again (.builtin "list.__iadd__" ⟨[l, .ref a], []⟩)) _ _ s
    refine wpAny_bind (wpAny_newObj_type ?_)
    refine wpAny_pure ⟨plainId_quiet F.plain_list_iadd _,codeAny_builtin F.entry_list_iadd ?_⟩
    rw [Around.under_plainId F.plain_list_iadd _]
    show wpAny _ (aBelow (fillAll sh hs)).in1 (Builtin.List.listExtendWith (.ref s.heap.objs.size) (.ref a) (.ref s.heap.objs.size)) _ _ _
    have hS : (s.heap.push { cls := .type "list", data := .seq ([] : List Value).toArray }).get? s.heap.objs.size = some { cls := .type "list", data := .seq #[] 0 } := Heap.get?_push_size _ rfl
    have hS₂ := Heap.get?_update_self (Obj.mapSeq (· ++ (⟨xs⟩ : Array Value))) hS rfl
    refine wpAny_extend_seq (R := fun q s' => ∃ α tk, Leaves ⟨.builtin "proto.collect" ⟨[.ref a], []⟩, sh, [(h, a, ⟨.type "list", none, .seq ⟨xs⟩ e, #[]⟩)], fun α _ => .ok (.ret (.ref (α 0))), [], [], [fun α _ => ⟨.type "list", none, .seq ⟨xs⟩ 1, #[]⟩], true⟩ s q s' α tk) (hsz := hsz') (A := aBelow (fillAll sh hs)) (s := { s with heap := s.heap.push { cls := .type "list", data := .seq ([] : List Value).toArray } }) _ a _ 0 (.inl rfl) hS (Heap.get?_push_of_some _ ho) rfl rfl ?_
    have sb := Heap.SameBut.update (s.heap.push { cls := .type "list", data := .seq ([] : List Value).toArray }) s.heap.objs.size (Obj.mapSeq (· ++ (⟨xs⟩ : Array Value)))
    have hsize : ((s.heap.push { cls := .type "list", data := .seq ([] : List Value).toArray }).update s.heap.objs.size (Obj.mapSeq (· ++ (⟨xs⟩ : Array Value)))).objs.size = s.heap.objs.size + 1 := by rw [sb.1, Heap.size_push]
    refine ⟨fun _ => s.heap.objs.size,0,rfl,(fun _ h => nomatch h),(fun _ _ h => nomatch h),fun b ob g _ => ?_,(fun _ _ h => nomatch h),fun i f hf => ?_,fun i j hi hj _ => ?_,?_,rfl,rfl,rfl⟩
    · exact (sb.2 b (Nat.ne_of_lt (Heap.lt_size g))).trans (Heap.get?_push_of_some _ g)
    · cases i with
      | zero =>
        cases hf
        refine ⟨hS₂.trans ?_,Nat.le_refl _⟩
        simp [Obj.mapSeq,hne]
      | succ i => cases hf
    · simp only [List.length_nil,List.length_singleton] at hi hj ⊢
      omega
    · show s.heap.objs.size ≤ _
      rw [hsize]
      exact Nat.le_succ _
  exact this _ p rfl (below_any _ _)
end Mine
end
section
open PySem PySem.W PyProof.Rows
namespace Mine
noncomputable def rx_sh : List Sk := [.func,.blt SL.s11611643536802374852x12]
noncomputable def rx_code (ini : Nat) (tt : Tok) (dat : Data) : Code := (.call (.ref 742) ⟨[(.ref 763),(.str (u [120,120,120,120,120]) tt),(.ref (ini + 788))],[]⟩)
noncomputable def rx_lT (P : Params) (ini : Nat) (tt : Tok) (dat : Data) : List Ent := []
noncomputable def rx_lR (P : Params) (ini : Nat) (tt : Tok) (dat : Data) : List Ent := [((ini + 788),⟨.type SL.s9222952809800978799x4,none,dat,#[]⟩)]
noncomputable def rx_scr (P : Params) (n τ : Nat) (ini : Nat) (tt : Tok) (dat : Data) : Scr := (.fin [2227,2224,2206,3,3,3,3,3,3,7,10,1,3,0,0,6,3,3,3,10,2,2203,3,3,3,3,6,6,0,6,6,0,6,0,6,6,6,6,6,3,3,3,3,3,2290,0,2290,2287,9,9,9,9,7,9,0,9,9,9,0,9,3,3,6,0,6,6,6,6,6,3,3,3,3,3,2290,0,2290,2287,12,12,12,12,7,12,0,12,12,12,0,12,3,3,6,0,6,6,6,6,6,3,3,3,3,3,2290,0,2290,2287,15,15,15,15,7,15,0,15,15,15,0,15,3,3,6,0,6,6,6,6,6,3,3,3,3,3,2290,0,2290,2287,18,18,18,18,7,18,0,18,18,18,0,18,3,3,6,0,6,6,6,6,6,3,3,3,3,3,2290,0,2290,2287,21,21,21,21,7,21,0,21,21,21,0,21,3,3,6,0,6,6,6,6,6,27,3] ⟨.ok (.done (.ret (.ref (ini + 788)))),[],[]⟩)
end Mine
end
section
open PySem PySem.W PyProof.Rows
namespace Mine
noncomputable def lawVal (k : Nat) : PySem.Expr := match ((bodyAt [32])[k]? : Option Stmt) with
  | some (Stmt.Assign _ v _) => v
  | _ => default
noncomputable def lcCells : PySem.Expr := match lawVal 0 with
  | .Subscript (.BinOp l _ _ _) _ _ => l
  | e => e
noncomputable def lcText : PySem.Expr := match lawVal 1 with
  | .Call _ (l :: _) _ _ => l
  | e => e
noncomputable def lcWords : PySem.Expr := lawVal 2
noncomputable def lcSc (e : PySem.Expr) : Scope := match e with
  | .ListComp _ _ sc _ => sc
  | _ => default
noncomputable def lawEnv (sc : Scope) (loc fr : Nat) : Env := { scope := sc,locals := loc,globals := 3,cells := [],qual := u [108,97,119,46,60,108,111,99,97,108,115,62,46],func := none,code := .ref 786,frame := some fr,builtins := 0 }
noncomputable def lcCode (e : PySem.Expr) (it acc loc fr : Nat) : Code := .compStart e 0 (.ref it) (.ref acc) (lawEnv (lcSc e) loc fr)
noncomputable def cxt_sh : List Sk := [.func,.blt SL.s11611643536802374852x12]
noncomputable def liO (l : Value) (i : Int) : Obj := ⟨.type SL.s3492446563574874994x13,none,.fields ⟨[l,.int i 0]⟩,#[]⟩
noncomputable def lstO (xs : List Value) (e : Nat) : Obj := ⟨.type SL.s9222952809800978799x4,none,.seq ⟨xs⟩ e,#[]⟩
noncomputable def dicO (es : List DictEntry) (e : Nat) : Obj := ⟨.type SL.s14018661285674007319x4,none,.dict ⟨es⟩ e,#[]⟩
noncomputable def al6 (a b c e f g i : Nat) : Nat := match i with
  | 0 => a
  | 1 => b
  | 2 => c
  | 3 => e
  | 4 => f
  | _ => g
end Mine
end
section
open PySem PySem.W PySem.Calls PyProof.Rows
namespace Mine
noncomputable abbrev pw : Program := PySem.Challenge.pw_ik0198_01
noncomputable abbrev rL : OpenRow := PySem.Challenge.rw_ik0198_01.row
noncomputable abbrev G0 : Ctx := ⟨.builtin "claim.caller" {}, none, none, [], none⟩
noncomputable abbrev Xf : Shared → List (Option Obj) × Nat := fun s => (asK.map s.heap.get?,s.heap.objs.size)
noncomputable abbrev Xa : World → List (Option Obj) × Nat := fun w => ((K w.params).map fun p => some p.2,788)
theorem mods_eq : mods = importedModules pw.main.body := by
  unfold mods
  rw [← PySem.W.Fast.te5923862056798008813,← pg_eq]
theorem left : LeftO pw qv loose (fun _ => true) Xf Xa 10144 := fun w => by
  have h := leftT w
  obtain ⟨s,h1,h2⟩ := Option.map_eq_some_iff.mp h
  rw [← twF_eq] at h1
  rw [endsT_ok h1,← mods_eq,PySem.W.Fast.te4187177175401517315]
  exact congrArg some h2
structure Grown (s s' : Shared) : Prop where
  keep : ∀ a o,s.heap.get? a = some o → a ≠ 728 → s'.heap.get? a = some o
  table : ∃ more,s'.heap.get? 728 = some ⟨.none,none,.fields more,#[]⟩
  gens : s'.gens = s.gens
  os : s'.os = s.os
noncomputable def Calls : Prop := ∀ (w : World) (s : Shared) (xs : List Value), (∀ a o, (kT w.params).get a = some o → s.heap.get? a = some o) → s.heap.get? 788 = some ⟨.type "list", none, .seq ⟨xs⟩ 0, #[]⟩ → s.heap.objs.size = 789 →
  (∀ v ∈ xs, ∃ i t, v = .int i t) → xs.length ≤ 63 → s.gens = #[] → Sem.wp (model pw w) G0 (callStub (Str.ofString "law") [.ref 788]).cur (fun fin _ s' => fin = .done (.ret (.bool true)) ∧ Grown s s') (fun _ _ _ => False) default s
theorem lay_ints {R : WRecords} {cl : Str → Option Addr} {P : Params} {ord : List DictEntry → List DictEntry} : ∀ {ds : List WData} {s : Shared} {r : List Value × Shared},WShape.hasItems R ds .int = true → layAllW R cl P ord ds s = some r → r.2.heap = s.heap ∧ (∀ v ∈ r.1,∃ i t,v = .int i t) ∧ r.1.length = ds.length
  | [],s,r,_,h => by
    unfold layAllW at h
    cases h
    exact ⟨rfl,(fun _ h => nomatch h),rfl⟩
  | d :: ds,s,r,hs,h => by
    have hs' : (WShape.has R d .int && WShape.hasItems R ds .int) = true := hs
    obtain ⟨h1,h2⟩ := Bool.and_eq_true_iff.mp hs'
    obtain ⟨i,rfl⟩ := hasW_int h1
    unfold layAllW layW at h
    dsimp only at h
    split at h
    · rename_i q hq
      cases h
      obtain ⟨a,b,c⟩ := lay_ints h2 hq
      refine ⟨a,fun v hv => ?_,congrArg (· + 1) c⟩
      rcases List.mem_cons.mp hv with rfl | hv
      · exact ⟨_,_,rfl⟩
      · exact b v hv
    · cases h
theorem lay_one {R : WRecords} {cl : Str → Option Addr} {P : Params} {ord : List DictEntry → List DictEntry} {ds : List WData} {s s₁ : Shared} {vs : List Value} (hs : WShape.hasItems R ds .int = true) (h : layAllW R cl P ord [.list ds] s = some (vs,s₁)) :
    ∃ xs : List Value, vs = [.ref s.heap.objs.size] ∧ s₁.heap = s.heap.push { cls := .type "list", data := .seq xs.toArray } ∧ (∀ v ∈ xs, ∃ i t, v = .int i t) ∧ xs.length = ds.length := by
  unfold layAllW layW at h
  cases e : layAllW R cl P ord ds s with
  | none => rw [e] at h; cases h
  | some r =>
    obtain ⟨a,b,c⟩ := lay_ints hs e
    rw [e] at h
    unfold layAllW at h
    cases h
    exact ⟨r.1,by rw [a],by rw [a],b,c⟩
theorem k_all {P : Params} {s : Shared} (y : asK.map s.heap.get? = (K P).map fun p => some p.2) (a : Nat) (o : Obj) (e : (kT P).get a = some o) : s.heap.get? a = some o := by
  have m : (a,o) ∈ K P := TT.mem e
  rw [asK_eq P,List.map_map] at y
  exact List.map_inj_left.mp y _ m
theorem Grown.oldK {w : World} {s s' : Shared} (X : ∀ a o,(kT w.params).get a = some o → s.heap.get? a = some o) (g : Grown s s') : OldK s.heap s'.heap := by
  have h728 := X 728 ⟨.none,none,.fields #[],#[]⟩ rfl
  obtain ⟨more,ht⟩ := g.table
  refine ⟨fun b o e => ?_,fun b o e => ?_⟩
  · by_cases hb : b = 728
    · subst hb
      rw [h728] at e
      cases e
      refine .inr (.inl ⟨?_,rfl,#[],more,rfl,?_⟩)
      · exact ⟨732,_,_,X 732 _ rfl,rfl,rfl,rfl⟩
      · rw [ht]; simp
    · exact .inl (g.keep b o e hb)
  · by_cases hb : b = 728
    · subst hb; exact ⟨_,ht⟩
    · exact ⟨o,g.keep b o e hb⟩
theorem post_true (ds : List WData) : (WShape.has [] (.bool true) .bool && WTm.holds [] (.eq .res (.lit (.bool true))) { args := [.list ds],res := some (.bool true),after := [.list ds] }) = true := by
  unfold WTm.holds
  simp only [WTm.value]
  decide +kernel
theorem pre_len (ds : List WData) (h : WTm.holds [] (.and (.not (.lt (.lit (.int 63)) (.len (.arg 0)))) (.lit (.bool true))) { args := [.list ds] } = true) : ds.length ≤ 63 := by
  unfold WTm.holds at h
  simp only [WTm.value] at h
  by_cases q : ds.length ≤ 63
  · exact q
  · have q' : (63 : Int) < ds.length := by omega
    have : less? (WData.int 63) (WData.int ↑ds.length) = some true := by
      simp only [less?,Num.less?]
      rw [decide_eq_true q']
    simp [this] at h
theorem main (H : Calls) : PySem.Challenge.rw_ik0198_01.Holds := by
  refine from_row fun k1 => ?_
  have hw : rL.toRowW.promised := ⟨[.list []],by decide +kernel,by decide +kernel⟩
  have hb : rL.prog.bare := ⟨rfl,rfl,rfl,rfl,rfl,by decide +kernel⟩
  have ok : (chainsOk qv && opensWell rL.prog && (frees rL.toRowW && rL.within.isEmpty)) = true := by decide +kernel
  obtain ⟨ok,k5⟩ := Bool.and_eq_true_iff.mp ok
  obtain ⟨hch,o1⟩ := Bool.and_eq_true_iff.mp ok
  obtain ⟨k5,k6⟩ := Bool.and_eq_true_iff.mp k5
  obtain ⟨hsame,hu,ha,hap,hm⟩ := frees_parts k5
  refine ⟨k1,hw,⟨hb,o1,rfl⟩,hw.witness,fun w => ⟨(left.behind (XP := fun _ _ => True) (fun _ _ => trivial) hch w).1,fun s' hs' => ?_⟩⟩
  obtain ⟨s₀,hf,hg0,s,hT,hz,hgens,hg,G,y⟩ := (left.behind (XP := fun _ _ => True) (fun _ _ => trivial) hch w).2 s' hs'
  refine ⟨s₀,hf,hg0,s,hT,fun n hn => ?_,fun x hx => (List.not_mem_nil (show x ∈ [] from hx)).elim,fun x hx => (List.not_mem_nil (show x ∈ [] from hx)).elim,?_⟩
  · obtain rfl : n = rL.name := List.mem_singleton.mp hn
    obtain ⟨⟨d,kwd⟩,hdef⟩ := Option.isSome_iff_exists.mp (by decide +kernel : (defOf qv rL.name).isSome = true)
    have hx : (defOf qv rL.name).map (fun x => (pw.theDef rL.name,kwWritten? x.1.params.kwonlyargs x.1.params.kw_defaults)) = (defOf qv rL.name).map (fun x => (some (x.1.params,x.1.body,x.1.scope),some x.2)) := by kernel_rfl
    rw [hdef] at hx
    obtain ⟨hp,hk⟩ := Prod.mk.inj (Option.some.inj hx)
    exact pinned_of_view hg G hdef hp hk
  · have hgens : s.gens = #[] := Array.eq_empty_of_size_eq_zero (beq_iff_eq.mp hgens)
    intro args hpre hlay ord hord
    obtain ⟨⟨vs,s₁⟩,hlaid⟩ := Option.isSome_iff_exists.mp (layAllW_isSome (P := w.params) (ord := ord) G.has args rL.args s (pre_splitW hpre).1)
    have keeps := layAllW_keeps _ _ _ hlaid
    have hal := layAllW_rest _ _ _ hlaid
    obtain ⟨as,hrd,hin,hold⟩ := reads_layAllW hord _ _ _ hlaid hlay s₁.heap (fun _ _ e => e)
    have L : Laid rL.records w s s₁ args vs as := ⟨⟨ord,hord,hlaid⟩,hrd,hin,hold,keeps,hal.1.trans hgens,hal.2.2.1⟩
    have X : ∀ a o,(kT w.params).get a = some o → s₁.heap.get? a = some o := fun a o e => keeps a o (k_all (Prod.mk.inj y).1 a o e)
    have g1 : s₁.gens = #[] := L.gens
    obtain ⟨hsh,hpr⟩ := pre_splitW hpre
    obtain ⟨d,r,rfl,hd,hr⟩ := hasAllW_cons (show WShape.hasAll _ _ [.list .int] = true from hsh)
    obtain rfl := hasAllW_nil hr
    obtain ⟨ds,rfl,hds⟩ := hasW_list hd
    cases hrd with
    | cons r1 r2 =>
      cases r2
      cases r1 with
      | list h1 h2 h3 h4 =>
        rename_i l o vs n as
        obtain ⟨xs,e1,e2,i1,i2⟩ := lay_one hds hlaid
        have hs8 : s.heap.objs.size = 788 := (Prod.mk.inj y).2
        rw [hs8] at e1
        cases e1
        have hc := H w s₁ xs X (by rw [e2,← hs8]; exact Heap.get?_push_size _ rfl) (by rw [e2,Heap.size_push,hs8]) i1 (by rw [i2]; exact pre_len ds hpr) g1
        obtain ⟨k,r,s₂,s₃,hrun,hsched,hfo,hR⟩ := wp_halts_full (M := model pw w) (R := fun r s' => r = .ok (.ret (.bool true)) ∧ Grown s₁ s') (Shared.asleep_of_life hal.2.2.2 hz) (Sem.wp_mono _ _ _ (fun fin p s' x => by
          obtain ⟨rfl,g⟩ := x
          exact ⟨⟨rfl,g⟩,by rw [g.gens,g1]; exact leftWithCleanup_false_of_bare AllBare.empty⟩) (fun _ _ _ x => x.elim) _ _ hc)
        obtain ⟨hr,g⟩ := hR
        subst hr
        obtain ⟨eh,eg,_,eo,_⟩ := Shared.forget_eq hfo
        have gw : GoodWG rL.claim (classAt s.heap) (ExcName.means s.heap) [.list ds] s₁ (.ok (.ret (.bool true))) s₂ :=
          ⟨.inl ⟨.bool true,.bool true,[],rfl,fun _ => rfl,.bool _,post_true ds,fun _ => ⟨List.nodup_nil,fun _ h => nomatch h⟩⟩,g.oldK X,g.os,.of_eq (g.gens.trans g1)⟩
        obtain ⟨z1,z2,z3⟩ := gw.laid hsame (List.isEmpty_iff.mp k6) (ident_freeW hu ha hap) L
        have z1 := z1.congr (s' := s₃) eh
        refine ⟨[.ref 788],s₁,hlaid,k,_,s₃,hrun,?_,(fun _ i x hx => by rw [hgens] at hx; simp at hx),?_,?_,Shared.rest_eq ?_⟩
        · rcases z1 with ⟨v,e,d1,d2,d3,d4,d5⟩ | ⟨e,ob,cls,e',_⟩
          · cases e
            exact .inl ⟨_,rfl,d1,d2,d3,fun b o y _ => d4 b o y,d5⟩
          · cases e'
        · intro q; cases q
        · rw [(runN_life _ _ _ hsched).trans hal.2.2.2]
        · rw [eo]; exact z2
end Mine
end
section
open PySem PySem.W PyProof.Rows
namespace Mine
theorem ValidB.all {V : HV} {S : Spec} {c : Nat} (h : ∀ z,ValidB V S z c) : Valid V S := fun hs p s htop hpre hh => wpCode_mono (fun q s' x => x.1) (h _ hs p s rfl htop hpre hh)
noncomputable def Scr.atZ (z : Nat) : Scr → Scr
  | .fin hs out => .finB hs out z
  | S => S
theorem valid_runB {V : HV} (O : V.Ok) {S : Spec} {fuel : Nat} {z c : Nat} (own ro : List (Nat × Ent)) (scr : Nat → Scr) (hpre : S.pre = own.map (fun x => (3 * x.1 + 3,x.2)) ++ ro) (hnd : (own.map (·.1)).Nodup) (hro : ∀ x ∈ ro,x.1 % 3 = 2)
    (run : ∀ (hs : HL S.shape) (p : Pos) (τ : Nat),SH V true fuel [] ⟨S.code,none,none,fillAll S.shape hs,none⟩ p (V.den S.code) (scr τ) (tabOf (ro.map (·.2)) 0 .nil) (tabOf (own.map (·.2)) 0 .nil) own.length ro.length z 0 τ 0 [] [])
    (ok : (tabOk (own.map (·.2)) 0 .nil && tabOk (ro.map (·.2)) 0 .nil) = true)
    (fin : ∀ s : Shared,s.heap.objs.size = z → (∀ i ob,V.top i = some ob → s.heap.get? i = some ob) → (∀ x ∈ S.pre,s.heap.get? x.2.1 = some x.2.2) → FinOk V (fun r s' => ∀ q,r = resF q → (∃ α tk,Leaves S s q s' α tk) ∧ s'.heap.objs.size = z + c) s (fun a => a ∈ own.map (·.2.1)) own.length (scr s.toks)) : ValidB V S z c := by
  intro hs p s hz htop hp ⟨hap,hpp⟩
  have mo : ∀ x ∈ own,(3 * x.1 + 3,x.2) ∈ S.pre := fun x hx => by rw [hpre]; exact List.mem_append_left _ (List.mem_map_of_mem hx)
  have mr : ∀ x ∈ ro,x ∈ S.pre := fun x hx => by rw [hpre]; exact List.mem_append_right _ hx
  have zz : ∀ k : Nat,(3 * k + 3) % 3 = 0 := fun k => by omega
  have r := run hs p s.toks
  have l1 : own.length = (own.map (·.2)).length := by rw [List.length_map]
  have l2 : ro.length = (ro.map (·.2)).length := by rw [List.length_map]
  rw [l1,l2,← hz] at r
  refine enter O (lT := own.map (·.2)) (lR := ro.map (·.2)) r ok htop (fun x hx => ?_) (fun x hx => ?_) ?_ (fun x hx y hy => ?_) (fun x hx => ?_) ?_
  · obtain ⟨y,hy,rfl⟩ := List.mem_map.mp hx
    exact hp (3 * y.1 + 3,y.2) (mo y hy)
  · obtain ⟨y,hy,rfl⟩ := List.mem_map.mp hx
    exact hp _ (mr y hy)
  · rw [List.map_map]
    rw [List.nodup_iff_pairwise_ne,List.pairwise_map] at hnd ⊢
    refine List.Pairwise.imp_of_mem (fun {x y} hx hy hne he => ?_) hnd
    have := hap.inj _ (mo x hx) (zz _) _ (mo y hy) (zz _) he
    dsimp only at this
    omega
  · obtain ⟨x',hx',rfl⟩ := List.mem_map.mp hx
    obtain ⟨y',hy',rfl⟩ := List.mem_map.mp hy
    exact hap.sep _ (mo x' hx') (zz _) _ (mr y' hy') (hro y' hy')
  · obtain ⟨x',hx',rfl⟩ := List.mem_map.mp hx
    exact hap.top (3 * x'.1 + 3,x'.2) (mo x' hx') (zz _)
  · have := fin s hz htop hp
    rw [l1] at this
    have e : (fun a => a ∈ (own.map (·.2)).map (·.1)) = fun a => a ∈ own.map (·.2.1) := by
      funext a; rw [List.map_map]; rfl
    rw [e]
    exact this
theorem valid_builtinB {V : HV} {S : Spec} {z c : Nat} {T : String} {name : Str} {id : String} {B : Builtin} {self : Value} {rest : List Value} (hc : S.code = .call (.builtin id) ⟨self :: rest,[]⟩)
    (slot : Slot T name id) (entry : entryFor table id = some B) (args : argsOk id ⟨self :: rest,[]⟩)
    (h : ∀ (A : Around) (s : Shared),A.handled = none → (∀ x ∈ S.pre,s.heap.get? x.2.1 = some x.2.2) → Apart V S.pre → s.TypeIs self T ∧
      wpAny (model V.prog V.w) A.in1 (B ⟨self :: rest,[]⟩) (fun fin s' => ∃ v,fin = .done (.ret v) ∧ (∃ α tk,Leaves S s (.ok (.ret v)) s' α tk) ∧ s'.heap.objs.size = s.heap.objs.size + c) (fun e s' => (∃ α tk,Leaves S s (.error e) s' α tk) ∧ s'.heap.objs.size = s.heap.objs.size + c) s) : ValidB V S z c := by
  intro hs p s hz htop hpre ⟨hap,hpp⟩
  obtain ⟨hT,hb⟩ := h (aBelow (fillAll S.shape hs)) s rfl hpre hap
  have : codeAny (model V.prog V.w) (aBelow (fillAll S.shape hs)) (.call (.builtin id) ⟨self :: rest,[]⟩) (fun q s' => (∃ α tk,Leaves S s q s' α tk) ∧ s'.heap.objs.size = s.heap.objs.size + c) s :=
    codeAny_call_builtin slot.plain entry (slot.check _ _ _ _ _ _ _ _ hT args (wpAny_mono hb (fun fin s' x => by obtain ⟨v,rfl,y⟩ := x; exact y) fun _ _ x => x))
  rw [hc,← hz]
  exact this _ p rfl (below_any _ _)
theorem vStrIterB {V : HV} {sh : List Sk} {z : Nat} {T : Str} {tt : Tok} (hT : T.cps.all (· < 128) = true) : ValidB V (oStrIter sh T tt) z 1 := by
  unfold oStrIter ascO
  rw [← SL.e8232228318002612845x12,← SL.e13500813778147066322x18]
  refine valid_builtinB rfl F.slot_str_iter F.entry_str_iter (F.args_str_iter_1 _) fun A s hA hpre hap => ⟨typeIs_str s T tt,?_⟩
  show wpAny _ _ (newFields (if (true && T.cps.all (· < 128)) = true then "str_ascii_iterator" else "str_iterator") [.str T tt, rawInt 0] >>= _) _ _ s
  rw [hT]
  refine wpAny_bind ?_
  unfold newFields
  refine wpAny_newObj_type (wpAny_pure ⟨_,rfl,⟨fun _ => s.heap.objs.size,0,?_⟩,(by show (s.heap.push _).objs.size = _; rw [Heap.size_push])⟩) (by size_fits)
  have hg : (s.heap.push { cls := .type "str_ascii_iterator", data := .fields #[.str T tt, rawInt 0] }).get? s.heap.objs.size = some { cls := .type "str_ascii_iterator", data := .fields #[.str T tt, rawInt 0] } := Heap.get?_push_size _ rfl
  refine ⟨rfl,(fun _ h => nomatch h),(fun _ _ h => nomatch h),(fun a ob g _ => Heap.get?_push_of_some _ g),(fun _ _ h => nomatch h),(fun i f h => ?_),(fun i j hi hj _ => ?_),?_,rfl,rfl,rfl⟩
  · cases i with
    | zero => cases h; exact ⟨hg,Nat.le_refl _⟩
    | succ i => cases h
  · simp only [List.length_nil,List.length_singleton] at hi hj ⊢
    omega
  · show s.heap.objs.size ≤ (s.heap.push _).objs.size
    rw [Heap.size_push]; exact Nat.le_succ _
theorem vAscNextB {V : HV} {sh : List Sk} {k a : Nat} {z : Nat} {T : Str} {tt : Tok} {i c : Nat} (hx : T.cps[i]? = some c) : ValidB V (oAscNext sh k a T tt i c) z 0 := by
  unfold oAscNext ascO
  rw [← i_str_ascii_iterator___next___eq,← SL.e13500813778147066322x18]
  refine valid_builtinB rfl F.slot_str_ascii_iterator_next F.entry_str_ascii_iterator_next (F.args_str_ascii_iterator_next_1 _) fun A s hA hpre hap => ?_
  have ho := hpre _ (List.mem_singleton.mpr rfl)
  have hit : s.heap.IsStrIter a "str_ascii_iterator" T tt i := ⟨_, ho, rfl, rfl⟩
  refine ⟨hit.typeIs,?_⟩
  show wpAny _ _ (field (.ref a) 0 >>= _) _ _ s
  refine wpAny_bind (wpAny_field ho rfl (x := .str T tt) rfl ?_)
  show wpAny _ _ (field (.ref a) 1 >>= _) _ _ s
  refine wpAny_bind (wpAny_field ho rfl (x := .int i 0) rfl ?_)
  simp only [Int.toNat_natCast,hx]
  refine wpAny_bind (wpAny_setField ho rfl (by simp) (wpAny_bind (wpAny_mkStr (wpAny_pure ⟨_,rfl,⟨fun _ => 0,s.toks,?_⟩,(Heap.SameBut.update s.heap a (Obj.mapFields (·.setIfInBounds 1 (rawInt (↑i + 1))))).1⟩))))
  have sb := Heap.SameBut.update s.heap a (Obj.mapFields (·.setIfInBounds 1 (rawInt (↑i + 1))))
  refine ⟨rfl,(fun x h => ?_),(fun _ _ h => nomatch h),(fun b ob g hb => (sb.2 b fun z => hb _ (List.mem_singleton.mpr rfl) z.symm).trans g),(fun _ _ h => nomatch h),(fun _ _ h => nomatch h),(fun _ _ h => absurd h (Nat.not_lt_zero _)),Nat.le_of_eq sb.1.symm,rfl,rfl,rfl⟩
  obtain rfl := List.mem_singleton.mp h
  exact Heap.get?_update_self _ ho rfl
theorem vAscEndB {V : HV} {sh : List Sk} {k a : Nat} {z : Nat} {T : Str} {tt : Tok} {i : Nat} (hx : T.cps[i]? = none) : ValidB V (oAscEnd sh k a T tt i) z 2 := by
  unfold oAscEnd ascO ascE stopO
  rw [← i_str_ascii_iterator___next___eq,← SL.e13500813778147066322x18,← SL.e5991306692159431302x13]
  refine valid_builtinB rfl F.slot_str_ascii_iterator_next F.entry_str_ascii_iterator_next (F.args_str_ascii_iterator_next_1 _) fun A s hA hpre hap => ?_
  have ho := hpre _ (List.mem_singleton.mpr rfl)
  have hit : s.heap.IsStrIter a "str_ascii_iterator" T tt i := ⟨_, ho, rfl, rfl⟩
  refine ⟨hit.typeIs,?_⟩
  show wpAny _ _ (field (.ref a) 0 >>= _) _ _ s
  refine wpAny_bind (wpAny_field ho rfl (x := .str T tt) rfl ?_)
  show wpAny _ _ (field (.ref a) 1 >>= _) _ _ s
  refine wpAny_bind (wpAny_field ho rfl (x := .int i 0) rfl ?_)
  simp only [Int.toNat_natCast,hx]
  refine wpAny_bind (wpAny_rule (wpAny_bind (wpAny_setField ho rfl (by simp) (wpAny_bind (wpAny_letGo ?_)))))
  show wpAny _ _ (newExc (.type "StopIteration") [] >>= _) _ _ _
  refine wpAny_bind ?_
  simp only [newExc,newTuple]
  refine wpAny_bind (wpAny_newObj_type ?_ (by size_fits))
  refine wpAny_bind (m := firstArgMember _ _) (wpAny_of_eq (a := Value.none) (by first | rfl | (simp only [firstArgMember]; rfl)) ?_)
  refine wpAny_newObj_type ?_ (by size_fits)
  simp only [raiseNew]
  refine wpAny_bind (wpAny_handled ?_)
  rw [show A.in1.handled = none from hA]
  refine wpAny_bind (wpAny_pure (wpAny_throw ?_))
  have sb := Heap.SameBut.update s.heap a (Obj.mapFields (·.setIfInBounds 0 .none))
  have up : (s.heap.update a (Obj.mapFields (·.setIfInBounds 0 .none))).get? a = some { cls := .type "str_ascii_iterator", data := .fields #[.none, .int i 0] } := Heap.get?_update_self _ ho rfl
  have e0 : ∀ (y : Obj) b ob, (s.heap.update a (Obj.mapFields (·.setIfInBounds 0 .none))).get? b = some ob → (((s.heap.update a (Obj.mapFields (·.setIfInBounds 0 .none))).push { cls := .type "tuple", data := .seq #[] }).push y).get? b = some ob := fun y b ob g => Heap.get?_push_of_some _ (Heap.get?_push_of_some _ g)
  refine ⟨⟨al2 ((s.heap.update a (Obj.mapFields (·.setIfInBounds 0 .none))).push { cls := .type "tuple", data := .seq #[] }).objs.size (s.heap.update a (Obj.mapFields (·.setIfInBounds 0 .none))).objs.size, 0, rfl, fun x h => ?_, fun j f h => ?_, fun b ob g hb => ?_, fun j f h => ?_, (fun _ _ h => nomatch h), (fun _ _ h => absurd h (Nat.not_lt_zero _)), ?_, rfl, rfl, rfl⟩, ?_⟩
  · obtain rfl := List.mem_singleton.mp h
    exact e0 _ _ _ up
  · cases j with
    | zero => cases h; exact Heap.get?_push_size _ rfl
    | succ j => cases h
  · exact e0 _ _ _ ((sb.2 b fun z => hb _ (List.mem_singleton.mpr rfl) z.symm).trans g)
  · cases j with
    | zero =>
      refine .inl ?_
      show s.heap.objs.size ≤ (Heap.push _ _).objs.size
      rw [Heap.size_push,sb.1]; exact Nat.le_succ _
    | succ j => cases h
  · show s.heap.objs.size ≤ (Heap.push (Heap.push _ _) _).objs.size
    rw [Heap.size_push,Heap.size_push,sb.1]; omega
  · show (Heap.push (Heap.push _ _) _).objs.size = _
    rw [Heap.size_push,Heap.size_push,sb.1]
theorem sw0_runB (w : World) (b1 b2 b3 : Bool) (hs : HL sw0_sh) (p : Pos) (n τ : Nat) (row : Nat) (x0 x1 x2 x3 : Str) (y0 y1 y2 y3 : Tok) (st : Tok) (e : Nat) : SH (VX w b1 b2 b3) true 20000 [] ⟨sw0_code row x0 x1 x2 x3 y0 y1 y2 y3 st e ,none,none,fillAll sw0_sh hs,none⟩ p ((VX w b1 b2 b3).den (sw0_code row x0 x1 x2 x3 y0 y1 y2 y3 st e )) (Scr.atZ (n + 1) (sw0_scr w.params n τ row x0 x1 x2 x3 y0 y1 y2 y3 st e)) (tabOf (sw0_lR w.params row x0 x1 x2 x3 y0 y1 y2 y3 st e ) 0 .nil) (tabOf (sw0_lT w.params row x0 x1 x2 x3 y0 y1 y2 y3 st e ) 0 .nil) 0 0 n 0 τ 0 [] [] := by
  cases b1 <;> exact runOf (adrs [] n) (adr1 []) (by kernel_rfl)
theorem sw1_runB (w : World) (b1 b2 b3 : Bool) (hs : HL sw1_sh) (p : Pos) (n τ : Nat) (row : Nat) (x0 x1 x2 x3 : Str) (y0 y1 y2 y3 : Tok) (st : Tok) (e : Nat) : SH (VX w b1 b2 b3) true 20000 [] ⟨sw1_code row x0 x1 x2 x3 y0 y1 y2 y3 st e ,none,none,fillAll sw1_sh hs,none⟩ p ((VX w b1 b2 b3).den (sw1_code row x0 x1 x2 x3 y0 y1 y2 y3 st e )) (Scr.atZ (n + 10) (sw1_scr w.params n τ row x0 x1 x2 x3 y0 y1 y2 y3 st e)) (tabOf (sw1_lR w.params row x0 x1 x2 x3 y0 y1 y2 y3 st e ) 0 .nil) (tabOf (sw1_lT w.params row x0 x1 x2 x3 y0 y1 y2 y3 st e ) 0 .nil) 0 1 n 0 τ 0 [] [] := by
  cases b1 <;> exact runOf (adrs [] n) (adr1 [row]) (by kernel_rfl)
theorem sw2_runB (w : World) (b1 b2 b3 : Bool) (hs : HL sw2_sh) (p : Pos) (n τ : Nat) (row : Nat) (x0 x1 x2 x3 : Str) (y0 y1 y2 y3 : Tok) (st : Tok) (e : Nat) : SH (VX w b1 b2 b3) true 20000 [] ⟨sw2_code row x0 x1 x2 x3 y0 y1 y2 y3 st e ,none,none,fillAll sw2_sh hs,none⟩ p ((VX w b1 b2 b3).den (sw2_code row x0 x1 x2 x3 y0 y1 y2 y3 st e )) (Scr.atZ (n + 10) (sw2_scr w.params n τ row x0 x1 x2 x3 y0 y1 y2 y3 st e)) (tabOf (sw2_lR w.params row x0 x1 x2 x3 y0 y1 y2 y3 st e ) 0 .nil) (tabOf (sw2_lT w.params row x0 x1 x2 x3 y0 y1 y2 y3 st e ) 0 .nil) 0 1 n 0 τ 0 [] [] := by
  cases b1 <;> exact runOf (adrs [] n) (adr1 [row]) (by kernel_rfl)
theorem sw3_runB (w : World) (b1 b2 b3 : Bool) (hs : HL sw3_sh) (p : Pos) (n τ : Nat) (row : Nat) (x0 x1 x2 x3 : Str) (y0 y1 y2 y3 : Tok) (st : Tok) (e : Nat) : SH (VX w b1 b2 b3) true 20000 [] ⟨sw3_code row x0 x1 x2 x3 y0 y1 y2 y3 st e ,none,none,fillAll sw3_sh hs,none⟩ p ((VX w b1 b2 b3).den (sw3_code row x0 x1 x2 x3 y0 y1 y2 y3 st e )) (Scr.atZ (n + 10) (sw3_scr w.params n τ row x0 x1 x2 x3 y0 y1 y2 y3 st e)) (tabOf (sw3_lR w.params row x0 x1 x2 x3 y0 y1 y2 y3 st e ) 0 .nil) (tabOf (sw3_lT w.params row x0 x1 x2 x3 y0 y1 y2 y3 st e ) 0 .nil) 0 1 n 0 τ 0 [] [] := by
  cases b1 <;> exact runOf (adrs [] n) (adr1 [row]) (by kernel_rfl)
noncomputable def swC (g : Nat) : Nat := match Nat.beq g 120 with
  | true => 1
  | false => 10
theorem vSwB1 (w : World) (b1 b2 b3 : Bool) (z hp row : Nat) (x0 x1 x2 x3 : Str) (y0 y1 y2 y3 ct : Tok) (e : Nat) : ValidB (VX w b1 b2 b3) (oCallee 763 sw1_sh hp row (rowO x0 x1 x2 x3 y0 y1 y2 y3 e) (u [39]) ct (fun _ _ => rowO x1 x0 x2 x3 y1 y0 y2 y3 0) false) z 10 := by
  intro hs p s hz htop hpre ⟨hap,hpp⟩
  subst hz
  refine enter (VX_ok _ _ _ _) (lT := []) (lR := [(row,rowO x0 x1 x2 x3 y0 y1 y2 y3 e)]) (sw1_runB w b1 b2 b3 hs p s.heap.objs.size s.toks row x0 x1 x2 x3 y0 y1 y2 y3 ct e) rfl htop (fun _ h => nomatch h) (fun x hx => ?_) List.nodup_nil (fun _ h => nomatch h) (fun _ h => nomatch h) ?_
  · obtain rfl := List.mem_singleton.mp hx
    exact hpre _ (List.mem_singleton.mpr rfl)
  · intro s' L hs' q e
    exact ⟨⟨fun _ => s.heap.objs.size + 9,0,callee_leaves L (fun _ h => nomatch h) (resF_inj e) rfl (L.at_ _ (List.mem_singleton.mpr rfl)) (.inl (L.new _ (List.mem_singleton.mpr rfl) (Nat.zero_le _)))⟩,hs'⟩
theorem vSwB2 (w : World) (b1 b2 b3 : Bool) (z hp row : Nat) (x0 x1 x2 x3 : Str) (y0 y1 y2 y3 ct : Tok) (e : Nat) : ValidB (VX w b1 b2 b3) (oCallee 763 sw2_sh hp row (rowO x0 x1 x2 x3 y0 y1 y2 y3 e) (u [34]) ct (fun _ _ => rowO x2 x1 x0 x3 y2 y1 y0 y3 0) false) z 10 := by
  intro hs p s hz htop hpre ⟨hap,hpp⟩
  subst hz
  refine enter (VX_ok _ _ _ _) (lT := []) (lR := [(row,rowO x0 x1 x2 x3 y0 y1 y2 y3 e)]) (sw2_runB w b1 b2 b3 hs p s.heap.objs.size s.toks row x0 x1 x2 x3 y0 y1 y2 y3 ct e) rfl htop (fun _ h => nomatch h) (fun x hx => ?_) List.nodup_nil (fun _ h => nomatch h) (fun _ h => nomatch h) ?_
  · obtain rfl := List.mem_singleton.mp hx
    exact hpre _ (List.mem_singleton.mpr rfl)
  · intro s' L hs' q e
    exact ⟨⟨fun _ => s.heap.objs.size + 9,0,callee_leaves L (fun _ h => nomatch h) (resF_inj e) rfl (L.at_ _ (List.mem_singleton.mpr rfl)) (.inl (L.new _ (List.mem_singleton.mpr rfl) (Nat.zero_le _)))⟩,hs'⟩
theorem vSwB3 (w : World) (b1 b2 b3 : Bool) (z hp row : Nat) (x0 x1 x2 x3 : Str) (y0 y1 y2 y3 ct : Tok) (e : Nat) : ValidB (VX w b1 b2 b3) (oCallee 763 sw3_sh hp row (rowO x0 x1 x2 x3 y0 y1 y2 y3 e) (u [96]) ct (fun _ _ => rowO x3 x1 x2 x0 y3 y1 y2 y0 0) false) z 10 := by
  intro hs p s hz htop hpre ⟨hap,hpp⟩
  subst hz
  refine enter (VX_ok _ _ _ _) (lT := []) (lR := [(row,rowO x0 x1 x2 x3 y0 y1 y2 y3 e)]) (sw3_runB w b1 b2 b3 hs p s.heap.objs.size s.toks row x0 x1 x2 x3 y0 y1 y2 y3 ct e) rfl htop (fun _ h => nomatch h) (fun x hx => ?_) List.nodup_nil (fun _ h => nomatch h) (fun _ h => nomatch h) ?_
  · obtain rfl := List.mem_singleton.mp hx
    exact hpre _ (List.mem_singleton.mpr rfl)
  · intro s' L hs' q e
    exact ⟨⟨fun _ => s.heap.objs.size + 9,0,callee_leaves L (fun _ h => nomatch h) (resF_inj e) rfl (L.at_ _ (List.mem_singleton.mpr rfl)) (.inl (L.new _ (List.mem_singleton.mpr rfl) (Nat.zero_le _)))⟩,hs'⟩
theorem vSwB0 (w : World) (b1 b2 b3 : Bool) (z hp row : Nat) (hhp : hp % 3 = 2) (x0 x1 x2 x3 : Str) (y0 y1 y2 y3 ct : Tok) (e : Nat) : ValidB (VX w b1 b2 b3) (oCallee 763 sw0_sh hp row (rowO x0 x1 x2 x3 y0 y1 y2 y3 e) (u [120]) ct (fun _ _ => rowO x0 x1 x2 x3 y0 y1 y2 y3 e) true) z 1 := by
  intro hs p s hz htop hpre ⟨hap,hpp⟩
  subst hz
  refine enter (VX_ok _ _ _ _) (lT := []) (lR := []) (sw0_runB w b1 b2 b3 hs p s.heap.objs.size s.toks row x0 x1 x2 x3 y0 y1 y2 y3 ct e) rfl htop (fun _ h => nomatch h) (fun _ h => nomatch h) List.nodup_nil (fun _ h => nomatch h) (fun _ h => nomatch h) ?_
  intro s' L hs' q e'
  have h := hpre _ (List.mem_singleton.mpr rfl)
  exact ⟨⟨fun _ => row,0,callee_leaves L (fun _ h => nomatch h) (resF_inj e') rfl (L.keep _ _ h (fun h => nomatch h)) (.inr ⟨rfl,hhp,rfl⟩)⟩,hs'⟩
theorem vSwB {w : World} {b1 b2 b3 : Bool} {z hp a : Nat} {r : R4} {g : Nat} {ct : Tok} (hhp : hp % 3 = 2) (hg : isSg g) :
    ValidB (VX w b1 b2 b3) (oCallee 763 sw0_sh hp a r.obj (u [g]) ct (fun _ _ => (r.swap g).obj) (Nat.beq g 120)) z (swC g) := by
  rcases hg with rfl | rfl | rfl | rfl
  · exact vSwB0 w b1 b2 b3 z hp a hhp r.x0 r.x1 r.x2 r.x3 r.y0 r.y1 r.y2 r.y3 ct r.e
  · exact vSwB1 w b1 b2 b3 z hp a r.x0 r.x1 r.x2 r.x3 r.y0 r.y1 r.y2 r.y3 ct r.e
  · exact vSwB2 w b1 b2 b3 z hp a r.x0 r.x1 r.x2 r.x3 r.y0 r.y1 r.y2 r.y3 ct r.e
  · exact vSwB3 w b1 b2 b3 z hp a r.x0 r.x1 r.x2 r.x3 r.y0 r.y1 r.y2 r.y3 ct r.e
noncomputable def rF (r : R4) (l : List Nat) : R4 := l.foldl R4.swap r
noncomputable def rb_sh : List Sk := [.func,.blt SL.s11611643536802374852x12]
noncomputable def rb_code (ini : Nat) (T : Str) (tt : Tok) (r : R4) (g0 g1 g2 g3 g4 : Nat) : Code := (.call (.ref 742) ⟨[(.ref 763),(.str T tt),(.ref (ini + 788))],[]⟩)
noncomputable def rb_lT (P : Params) (ini : Nat) (T : Str) (tt : Tok) (r : R4) (g0 g1 g2 g3 g4 : Nat) : List Ent := []
noncomputable def rb_lR (P : Params) (ini : Nat) (T : Str) (tt : Tok) (r : R4) (g0 g1 g2 g3 g4 : Nat) : List Ent := [((ini + 788),r.obj)]
noncomputable def rb_scr (P : Params) (n τ : Nat) (ini : Nat) (T : Str) (tt : Tok) (r : R4) (g0 g1 g2 g3 g4 : Nat) : Scr := (.orcB [2227,2224,2206,3,3,3,3,3,3,7,10,1,3,0] (oStrIter [.blt SL.s13761710972054866084x4,.func,.func,.blt SL.s11611643536802374852x12] T tt) (n + 1) 1 [] 1 1 fun α1 tk1 τ1 =>
  (.orcB [6,3,3,3,10,2,2203,3,3,3,3,6,6,0,6,6,0,6] (oAscNext [.frl,.func,.func,.blt SL.s11611643536802374852x12] 1 (α1 0) T tt 0 g0) (((n + 1) + 1) + 0) 0 [] 2 1 fun α2 tk2 τ2 =>
  (.orcB [3,3,3,3,3,2290] (oCallee 763 [.frl,.func,.func,.blt SL.s11611643536802374852x12] 2 (ini + 788) (rF r []).obj (u [g0]) tk2 (fun _ _ => (rF r [g0]).obj) (Nat.beq g0 120)) (((((n + 1) + 1) + 0) + 0) + 0) (swC g0) [] 2 1 fun α3 tk3 τ3 =>
  (.orcB [3,3,6] (oAscNext [.frl,.func,.func,.blt SL.s11611643536802374852x12] 1 (α1 0) T tt 1 g1) (((((((n + 1) + 1) + 0) + 0) + 0) + (swC g0)) + 0) 0 [] 2 2 fun α4 tk4 τ4 =>
  (.orcB [3,3,3,3,3,2290] (oCallee 763 [.frl,.func,.func,.blt SL.s11611643536802374852x12] 5 (α3 0) (rF r [g0]).obj (u [g1]) tk4 (fun _ _ => (rF r [g0,g1]).obj) (Nat.beq g1 120)) (((((((((n + 1) + 1) + 0) + 0) + 0) + (swC g0)) + 0) + 0) + 0) (swC g1) [] 2 2 fun α5 tk5 τ5 =>
  (.orcB [3,3,6] (oAscNext [.frl,.func,.func,.blt SL.s11611643536802374852x12] 1 (α1 0) T tt 2 g2) (((((((((((n + 1) + 1) + 0) + 0) + 0) + (swC g0)) + 0) + 0) + 0) + (swC g1)) + 0) 0 [] 2 3 fun α6 tk6 τ6 =>
  (.orcB [3,3,3,3,3,2290] (oCallee 763 [.frl,.func,.func,.blt SL.s11611643536802374852x12] 8 (α5 0) (rF r [g0,g1]).obj (u [g2]) tk6 (fun _ _ => (rF r [g0,g1,g2]).obj) (Nat.beq g2 120)) (((((((((((((n + 1) + 1) + 0) + 0) + 0) + (swC g0)) + 0) + 0) + 0) + (swC g1)) + 0) + 0) + 0) (swC g2) [] 2 3 fun α7 tk7 τ7 =>
  (.orcB [3,3,6] (oAscNext [.frl,.func,.func,.blt SL.s11611643536802374852x12] 1 (α1 0) T tt 3 g3) (((((((((((((((n + 1) + 1) + 0) + 0) + 0) + (swC g0)) + 0) + 0) + 0) + (swC g1)) + 0) + 0) + 0) + (swC g2)) + 0) 0 [] 2 4 fun α8 tk8 τ8 =>
  (.orcB [3,3,3,3,3,2290] (oCallee 763 [.frl,.func,.func,.blt SL.s11611643536802374852x12] 11 (α7 0) (rF r [g0,g1,g2]).obj (u [g3]) tk8 (fun _ _ => (rF r [g0,g1,g2,g3]).obj) (Nat.beq g3 120)) (((((((((((((((((n + 1) + 1) + 0) + 0) + 0) + (swC g0)) + 0) + 0) + 0) + (swC g1)) + 0) + 0) + 0) + (swC g2)) + 0) + 0) + 0) (swC g3) [] 2 4 fun α9 tk9 τ9 =>
  (.orcB [3,3,6] (oAscNext [.frl,.func,.func,.blt SL.s11611643536802374852x12] 1 (α1 0) T tt 4 g4) (((((((((((((((((((n + 1) + 1) + 0) + 0) + 0) + (swC g0)) + 0) + 0) + 0) + (swC g1)) + 0) + 0) + 0) + (swC g2)) + 0) + 0) + 0) + (swC g3)) + 0) 0 [] 2 5 fun α10 tk10 τ10 =>
  (.orcB [3,3,3,3,3,2290] (oCallee 763 [.frl,.func,.func,.blt SL.s11611643536802374852x12] 14 (α9 0) (rF r [g0,g1,g2,g3]).obj (u [g4]) tk10 (fun _ _ => (rF r [g0,g1,g2,g3,g4]).obj) (Nat.beq g4 120)) (((((((((((((((((((((n + 1) + 1) + 0) + 0) + 0) + (swC g0)) + 0) + 0) + 0) + (swC g1)) + 0) + 0) + 0) + (swC g2)) + 0) + 0) + 0) + (swC g3)) + 0) + 0) + 0) (swC g4) [] 2 5 fun α11 tk11 τ11 =>
  (.orcB [3,3,6] (oAscEnd [.frl,.func,.func,.blt SL.s11611643536802374852x12] 1 (α1 0) T tt 5) (((((((((((((((((((((((n + 1) + 1) + 0) + 0) + 0) + (swC g0)) + 0) + 0) + 0) + (swC g1)) + 0) + 0) + 0) + (swC g2)) + 0) + 0) + 0) + (swC g3)) + 0) + 0) + 0) + (swC g4)) + 0) 2 [] 2 6 fun α12 tk12 τ12 =>
  (.finB [20,3] ⟨.ok (.done (.ret (.ref (α11 0)))),[],[(5,(α11 0),(rF r [g0,g1,g2,g3,g4]).obj)]⟩ (((((((((((((((((((((((((n + 1) + 1) + 0) + 0) + 0) + (swC g0)) + 0) + 0) + 0) + (swC g1)) + 0) + 0) + 0) + (swC g2)) + 0) + 0) + 0) + (swC g3)) + 0) + 0) + 0) + (swC g4)) + 0) + 2) + 0))))))))))))))
theorem rb_run (w : World) (b1 b2 b3 : Bool) (hs : HL rb_sh) (p : Pos) (n τ : Nat) (ini : Nat) (T : Str) (tt : Tok) (r : R4) (g0 g1 g2 g3 g4 : Nat) : SH (VX w b1 b2 b3) true 20000 [] ⟨rb_code ini T tt r g0 g1 g2 g3 g4 ,none,none,fillAll rb_sh hs,none⟩ p ((VX w b1 b2 b3).den (rb_code ini T tt r g0 g1 g2 g3 g4 )) (rb_scr w.params n τ ini T tt r g0 g1 g2 g3 g4 ) (tabOf (rb_lR w.params ini T tt r g0 g1 g2 g3 g4 ) 0 .nil) (tabOf (rb_lT w.params ini T tt r g0 g1 g2 g3 g4 ) 0 .nil) 0 1 n 0 τ 0 [] [] := by
  cases b1 <;> exact runOf (adrs [] n) (adr1 [(ini + 788)]) (by kernel_rfl)
end Mine
end
section
open PySem PySem.W PyProof.Rows
namespace Mine
theorem valid_spVB {V : HV} {z : Nat} {c : Code} {sh : List Sk} {pre : List (Nat × Ent)} {v : Tok → Value}
    (h : ∀ (A : Around) (s : Shared),A.handled = none → (∀ x ∈ pre,s.heap.get? x.2.1 = some x.2.2) → codeAny (model V.prog V.w) A c (fun q s' => ∃ tk,q = .ok (.ret (v tk)) ∧ Same s s') s) : ValidB V (spV c sh pre v) z 0 := fun hs p s hz _ hpre _ =>
  wpCode_mono (fun q s' x => let ⟨tk,a,b⟩ := x; ⟨⟨fun _ => 0,tk,leaves_same a b⟩,by rw [b.1]; exact hz⟩) (h (aBelow (fillAll sh hs)) s rfl hpre _ p rfl (below_any _ _))
theorem valid_givesB {V : HV} {z : Nat} {T : String} {name : Str} {id : String} {B : Builtin} {self : Value} {rest : List Value} {m : Made} {sh : List Sk} {pre : List (Nat × Ent)} {v : Tok → Value}
    (slot : Slot T name id) (hT : ∀ s : Shared,s.TypeIs self T) (entry : entryFor table id = some B) (args : argsOk id ⟨self :: rest,[]⟩) (g : Gives (B ⟨self :: rest,[]⟩) m)
    (hp : ∀ (s : Shared) (R : Value → Shared → Prop),(∀ tk s',Same s s' → R (v tk) s') → m.post R s) : ValidB V (spV (.call (.builtin id) ⟨self :: rest,[]⟩) sh pre v) z 0 :=
  valid_spVB fun A s _ _ => codeAny_call_builtin slot.plain entry (slot.check _ _ _ _ _ _ _ _ (hT s) args (g V.prog V.w A (fun q s' => ∃ tk,q = .ok (.ret (v tk)) ∧ Same s s') s (hp s (fun x s' => ∃ tk,(.ok (.ret x) : Result) = .ok (.ret (v tk)) ∧ Same s s') fun tk s' h => ⟨tk,rfl,h⟩)))
theorem vModB {V : HV} {z : Nat} {sh : List Sk} {x y : Int} {t u : Tok} (h : ¬ (y == 0) = true) : ValidB V (oMod sh x t y u) z 0 := by
  unfold oMod
  rw [← i_int___mod___eq]
  exact valid_givesB F.slot_int_mod (fun s => typeIs_int s x t) F.entry_int_mod (F.args_int_mod_2 _ _) (AutoIntG6.int___mod___int_int_1 x t y u h) fun s R hR => hR _ _ ⟨rfl,rfl,rfl,rfl⟩
theorem vFdivB {V : HV} {z : Nat} {sh : List Sk} {x y : Int} {t u : Tok} (h : ¬ (y == 0) = true) (h2 : ¬ Builtin.divisionGoesByPylong x y = true) : ValidB V (oFdiv sh x t y u) z 0 := by
  unfold oFdiv
  rw [← i_int___floordiv___eq]
  exact valid_givesB F.slot_int_floordiv (fun s => typeIs_int s x t) F.entry_int_floordiv (F.args_int_floordiv_2 _ _) (AutoIntG4.int___floordiv___int_int_1 x t y u h h2) fun s R hR => hR _ _ ⟨rfl,rfl,rfl,rfl⟩
theorem vGetB {V : HV} {z : Nat} {sh : List Sk} {x : Str} {i : Int} {t u : Tok} {c : Nat} (hr : (decide (i < -(2 ^ 63 : Int)) || decide (i ≥ 2 ^ 63)) = false) (h : (seqIndex? i x.length).bind (x.cps[·]?) = some c) : ValidB V (oGet sh x t i u c) z 0 := by
  unfold oGet
  rw [← SL.e9290617385737656809x15]
  exact valid_givesB F.slot_str_getitem (fun s => typeIs_str s x t) F.entry_str_getitem (F.args_str_getitem_2 _ _) (gives_str_getitem x i t u c hr h) fun s R hR => ⟨(by show 1 ≤ sizeLine; decide),hR _ _ ⟨rfl,rfl,rfl,rfl⟩⟩
theorem vSgnB {V : HV} {z : Nat} {sh : List Sk} {t v : Tok} {c : Int} : ValidB V (oGet sh (u [120,39,34,96]) t (c.fmod 4) v (sgn (c.fmod 4))) z 0 := by
  rcases fmod4 c with h | h | h | h <;> rw [h] <;> exact vGetB (by decide) (by decide)
noncomputable def tln (i : Int) : Nat := if i = 0 then 39 else if i = 1 then 34 else if i = 2 then 96 else 120
theorem vTlnB {V : HV} {z : Nat} {sh : List Sk} {t v : Tok} {c : Int} : ValidB V (oGet sh (u [39,34,96,120]) t (c.fmod 4) v (tln (c.fmod 4))) z 0 := by
  rcases fmod4 c with h | h | h | h <;> rw [h] <;> exact vGetB (by decide) (by decide)
theorem vAddB {V : HV} {z : Nat} {sh : List Sk} {x y : Str} {t u : Tok} (h : x.length + y.length ≤ sizeLine) : ValidB V (oAdd sh x t y u) z 0 := by
  unfold oAdd
  rw [← i_str___add___eq]
  refine valid_givesB F.slot_str_add (fun s => typeIs_str s x t) F.entry_str_add (F.args_str_add_2 _ _) (gives_str_add x y t u) fun s R hR => ?_
  cases hx : x.length == 0
  · cases hy : y.length == 0
    · exact ⟨by rw [strLen_append]; exact h,hR _ _ ⟨rfl,rfl,rfl,rfl⟩⟩
    · have := hR t s ⟨rfl,rfl,rfl,rfl⟩
      rw [append_nil_str x y hy] at this
      exact this
  · have := hR u s ⟨rfl,rfl,rfl,rfl⟩
    rw [nil_append_str x y hx] at this
    exact this
end Mine
end
section
open PySem PySem.W PyProof.Rows
namespace Mine
noncomputable def ccV (cs : List (Int × Tok)) (α : Nat → Tok) : List Value := cs.zipIdx.map fun x => .int (x.1.1.fmod 1000000) (α x.2)
noncomputable def ccI (cs : List (Int × Tok)) : List Value := cs.map fun c => .int c.1 c.2
noncomputable def ccE (P : Params) (t : Tok) : List (Int × Tok) → List DictEntry
  | [] => []
  | c :: cs => [d P (u [99,101,108,108]) t (.int ((c :: cs).getLast (by simp)).1 ((c :: cs).getLast (by simp)).2)]
noncomputable def ccN : List (Int × Tok) → Nat
  | [] => 0
  | _ :: _ => 1
noncomputable def ccD (P : Params) (t : Tok) (cs : List (Int × Tok)) : Obj := dicO (ccE P t cs) (ccN cs)
noncomputable def ccScr (b2 : Bool) (P : Params) (z : Nat) (it acc loc : Nat) (cs : List (Int × Tok)) (τ0 : Tok) : List (Int × Tok) → List Value → Bool → Tok → Scr
  | [],vs,f,_ => .finB (match f,b2 with
    | true,true => [3,0,3,3,3,2,3,3,15]
    | true,false => [3,3,0,3,3,3,0,3,3,3,2,3,3,15]
    | false,_ => [0,9,9,9,9,3,0,3,3,3,2,3,3,15]) ⟨.ok (.done .next),[(0,it,liO .none cs.length),(1,loc,ccD P τ0 cs),(2,acc,lstO vs cs.length)],[]⟩ (z + 2)
  | c :: r,vs,f,τ => .orcB (match f,b2 with
    | true,true => [3,0,3,3,3,2,3,3,6,6,10,1,6,0,0,0,0]
    | true,false => [3,3,0,3,3,3,0,3,3,3,2,3,3,6,6,10,1,6,0,0,0,0]
    | false,_ => [0,9,9,9,9,3,0,3,3,3,2,3,3,6,6,10,1,6,0,0,0,0]) (oMod [.lcl,.func,.blt SL.s11611643536802374852x12] c.1 c.2 1000000 (τ + 3)) (z + 0) 0 [] 3 1 fun α tk τ' =>
    ccScr b2 P z it acc loc cs τ0 r (vs ++ [.int (c.1.fmod 1000000) tk]) false τ'
theorem cc_run (w : World) (b1 b2 b3 : Bool) (hs : HL cxt_sh) (p : Pos) (n τ : Nat) (it acc loc l fr : Nat) : ∀ cs : List (Int × Tok),cs.length ≤ 5 →
    SH (VX w b1 b2 b3) true 20000 [] ⟨lcCode lcCells it acc loc fr,none,none,fillAll cxt_sh hs,none⟩ p ((VX w b1 b2 b3).den (lcCode lcCells it acc loc fr)) (ccScr b2 w.params n it acc loc cs τ cs [] true τ)
      (tabOf [(l,lstO (ccI cs) 0)] 0 .nil) (tabOf [(it,liO (.ref l) 0),(loc,dicO [] 0),(acc,lstO [] 0)] 0 .nil) 3 1 n 0 τ 0 [] []
  | [],_ => by cases b1 <;> cases b2 <;> exact runOf (adrs [it,loc,acc] n) (adr1 [l]) (by kernel_rfl)
  | [c0],_ => by cases b1 <;> cases b2 <;> exact runOf (adrs [it,loc,acc] n) (adr1 [l]) (by kernel_rfl)
  | [c0,c1],_ => by cases b1 <;> cases b2 <;> exact runOf (adrs [it,loc,acc] n) (adr1 [l]) (by kernel_rfl)
  | [c0,c1,c2],_ => by cases b1 <;> cases b2 <;> exact runOf (adrs [it,loc,acc] n) (adr1 [l]) (by kernel_rfl)
  | [c0,c1,c2,c3],_ => by cases b1 <;> cases b2 <;> exact runOf (adrs [it,loc,acc] n) (adr1 [l]) (by kernel_rfl)
  | [c0,c1,c2,c3,c4],_ => by cases b1 <;> cases b2 <;> exact runOf (adrs [it,loc,acc] n) (adr1 [l]) (by kernel_rfl)
  | _ :: _ :: _ :: _ :: _ :: _ :: _,h => absurd h (by simp)
theorem ccV_snoc (pre : List (Int × Tok)) (c : Int × Tok) (α : Nat → Tok) (tk : Tok) : ccV pre α ++ [.int (c.1.fmod 1000000) tk] = ccV (pre ++ [c]) (fun i => if i < pre.length then α i else tk) := by
  unfold ccV
  rw [List.zipIdx_append,List.map_append]
  congr 1
  · refine List.map_congr_left fun x hx => ?_
    have := List.snd_lt_of_mem_zipIdx hx
    rw [Nat.add_zero] at this
    show Value.int _ (α x.2) = Value.int _ (if x.2 < pre.length then α x.2 else tk)
    rw [if_pos this]
  · simp
theorem cc_fin {V : HV} {b2 : Bool} {P : Params} {z it acc loc : Nat} {cs : List (Int × Tok)} {s : Shared} {A : Addr → Prop} {m : Nat} {τ0 : Tok} {Q : Except Value PySem.Fin → Shared → Prop}
    (H : ∀ α s',Left s A m [(0,it,liO .none cs.length),(1,loc,ccD P τ0 cs),(2,acc,lstO (ccV cs α) cs.length)] [] s' → s'.heap.objs.size = z + 2 → Q (.ok (.done .next)) s') :
    ∀ (todo pre : List (Int × Tok)) (α : Nat → Tok) (f : Bool) (τ : Tok),cs = pre ++ todo → FinOk V Q s A m (ccScr b2 P z it acc loc cs τ0 todo (ccV pre α) f τ)
  | [],pre,α,f,τ,e => by
    have e : cs = pre := by rw [e,List.append_nil]
    subst e
    exact fun s' L hz => H α s' L hz
  | c :: r,pre,α,f,τ,e => ⟨vModB (by decide),fun αo tk τ' _ => by
    show FinOk V Q s A m (ccScr b2 P z it acc loc cs τ0 r (ccV pre α ++ [.int (c.1.fmod 1000000) tk]) false τ')
    rw [ccV_snoc]
    exact cc_fin H r (pre ++ [c]) _ false τ' (by rw [e,List.append_assoc]; rfl)⟩
noncomputable def oCells (P : Params) (sh : List Sk) (ki kl ka hl it acc loc l fr : Nat) (cs : List (Int × Tok)) : Spec :=
  ⟨lcCode lcCells it acc loc fr,sh,[(3 * ki + 3,it,liO (.ref l) 0),(3 * kl + 3,loc,dicO [] 0),(3 * ka + 3,acc,lstO [] 0),(hl,l,lstO (ccI cs) 0)],
    fun _ _ => .ok .next,[(ki,it,fun _ _ => liO .none cs.length),(kl,loc,fun _ tk => ccD P tk cs),(ka,acc,fun α _ => lstO (ccV cs α) cs.length)],[],[],true⟩
theorem vCells {w : World} {b1 b2 b3 : Bool} {z ki kl ka hl it acc loc l fr : Nat} {cs : List (Int × Tok)} (h1 : ki ≠ kl) (h2 : ki ≠ ka) (h3 : kl ≠ ka) (hh : hl % 3 = 2) (hl5 : cs.length ≤ 5) :
    ValidB (VX w b1 b2 b3) (oCells w.params cxt_sh ki kl ka hl it acc loc l fr cs) z 2 := by
  refine valid_runB (VX_ok _ _ _ _) (fuel := 20000) [(ki,it,liO (.ref l) 0),(kl,loc,dicO [] 0),(ka,acc,lstO [] 0)] [(hl,l,lstO (ccI cs) 0)] (fun τ => ccScr b2 w.params z it acc loc cs τ cs [] true τ) rfl (by simp [h1,h2,h3]) (fun x hx => by obtain rfl := List.mem_singleton.mp hx; exact hh)
    (fun hs p τ => cc_run w b1 b2 b3 hs p z τ it acc loc l fr cs hl5) rfl (fun s _ _ _ => ?_)
  refine cc_fin (b2 := b2) (fun α s' L hz q e => ?_) cs [] (fun _ => 0) true s.toks rfl
  exact ⟨leaves_end (S := oCells w.params cxt_sh ki kl ka hl it acc loc l fr cs) (out := ⟨.ok (.done .next),_,[]⟩) (α := α) (tk := s.toks) [] L e rfl rfl rfl rfl (fun _ h => nomatch h) List.nodup_nil,hz⟩
noncomputable def txV (cs : List (Int × Tok)) (α : Nat → Tok) : List Value := cs.zipIdx.map fun x => .str (u [sgn (x.1.1.fmod 4)]) (α x.2)
noncomputable def txScr (b2 : Bool) (P : Params) (z : Nat) (it acc loc : Nat) (cs : List (Int × Tok)) (τ0 : Tok) : List (Int × Tok) → List Value → Bool → Tok → Scr
  | [],vs,f,_ => .finB [0,9,9,9,9,3,0,3,3,3,2,3,3,15] ⟨.ok (.done .next),[(0,it,liO .none cs.length),(1,loc,ccD P τ0 cs),(2,acc,lstO vs cs.length)],[]⟩ (z + 2)
  | c :: r,vs,f,τ => .orcB (match f,b2 with
    | true,true => [3,0,3,3,3,2,3,3,6,6,6]
    | true,false => [3,3,0,3,3,3,0,3,3,3,2,3,3,6,6,6]
    | false,_ => [0,9,9,9,9,3,0,3,3,3,2,3,3,6,6,6]) (oMod [.lcl,.func,.blt SL.s11611643536802374852x12] c.1 c.2 4 (τ + 2)) (z + 0) 0 [] 3 1 fun α tk τ' =>
    .orcB [] (oGet [.lcl,.func,.blt SL.s11611643536802374852x12] (u [120,39,34,96]) (τ + 1) (c.1.fmod 4) tk (sgn (c.1.fmod 4))) (z + 0) 0 [] 3 1 fun α2 tk2 τ2 =>
    txScr b2 P z it acc loc cs τ0 r (vs ++ [.str (u [sgn (c.1.fmod 4)]) tk2]) false τ2
theorem tx_run (w : World) (b1 b2 b3 : Bool) (hs : HL cxt_sh) (p : Pos) (n τ : Nat) (it acc loc l fr : Nat) (c0 c1 c2 c3 c4 : Int × Tok) :
    SH (VX w b1 b2 b3) true 20000 [] ⟨lcCode lcText it acc loc fr,none,none,fillAll cxt_sh hs,none⟩ p ((VX w b1 b2 b3).den (lcCode lcText it acc loc fr)) (txScr b2 w.params n it acc loc [c0,c1,c2,c3,c4] τ [c0,c1,c2,c3,c4] [] true τ)
      (tabOf [(l,lstO (ccI [c0,c1,c2,c3,c4]) 0)] 0 .nil) (tabOf [(it,liO (.ref l) 0),(loc,dicO [] 0),(acc,lstO [] 0)] 0 .nil) 3 1 n 0 τ 0 [] [] := by
  cases b1 <;> cases b2 <;> exact runOf (adrs [it,loc,acc] n) (adr1 [l]) (by kernel_rfl)
theorem txV_snoc (pre : List (Int × Tok)) (c : Int × Tok) (α : Nat → Tok) (tk : Tok) : txV pre α ++ [.str (u [sgn (c.1.fmod 4)]) tk] = txV (pre ++ [c]) (fun i => if i < pre.length then α i else tk) := by
  unfold txV
  rw [List.zipIdx_append,List.map_append]
  congr 1
  · refine List.map_congr_left fun x hx => ?_
    have := List.snd_lt_of_mem_zipIdx hx
    rw [Nat.add_zero] at this
    show Value.str _ (α x.2) = Value.str _ (if x.2 < pre.length then α x.2 else tk)
    rw [if_pos this]
  · simp
theorem tx_fin {V : HV} {b2 : Bool} {P : Params} {z it acc loc : Nat} {cs : List (Int × Tok)} {s : Shared} {A : Addr → Prop} {m : Nat} {τ0 : Tok} {Q : Except Value PySem.Fin → Shared → Prop}
    (H : ∀ α s',Left s A m [(0,it,liO .none cs.length),(1,loc,ccD P τ0 cs),(2,acc,lstO (txV cs α) cs.length)] [] s' → s'.heap.objs.size = z + 2 → Q (.ok (.done .next)) s') :
    ∀ (todo pre : List (Int × Tok)) (α : Nat → Tok) (f : Bool) (τ : Tok),cs = pre ++ todo → FinOk V Q s A m (txScr b2 P z it acc loc cs τ0 todo (txV pre α) f τ)
  | [],pre,α,f,τ,e => by
    have e : cs = pre := by rw [e,List.append_nil]
    subst e
    exact fun s' L hz => H α s' L hz
  | c :: r,pre,α,f,τ,e => ⟨vModB (by decide),fun αo tk τ' _ => ⟨vSgnB,fun αo2 tk2 τ2 _ => by
    show FinOk V Q s A m (txScr b2 P z it acc loc cs τ0 r (txV pre α ++ [.str (u [sgn (c.1.fmod 4)]) tk2]) false τ2)
    rw [txV_snoc]
    exact tx_fin H r (pre ++ [c]) _ false τ2 (by rw [e,List.append_assoc]; rfl)⟩⟩
noncomputable def oText (P : Params) (sh : List Sk) (ki kl ka hl it acc loc l fr : Nat) (cs : List (Int × Tok)) : Spec :=
  ⟨lcCode lcText it acc loc fr,sh,[(3 * ki + 3,it,liO (.ref l) 0),(3 * kl + 3,loc,dicO [] 0),(3 * ka + 3,acc,lstO [] 0),(hl,l,lstO (ccI cs) 0)],
    fun _ _ => .ok .next,[(ki,it,fun _ _ => liO .none cs.length),(kl,loc,fun _ tk => ccD P tk cs),(ka,acc,fun α _ => lstO (txV cs α) cs.length)],[],[],true⟩
theorem vText {w : World} {b1 b2 b3 : Bool} {z ki kl ka hl it acc loc l fr : Nat} {c0 c1 c2 c3 c4 : Int × Tok} (h1 : ki ≠ kl) (h2 : ki ≠ ka) (h3 : kl ≠ ka) (hh : hl % 3 = 2) :
    ValidB (VX w b1 b2 b3) (oText w.params cxt_sh ki kl ka hl it acc loc l fr [c0,c1,c2,c3,c4]) z 2 := by
  refine valid_runB (VX_ok _ _ _ _) (fuel := 20000) [(ki,it,liO (.ref l) 0),(kl,loc,dicO [] 0),(ka,acc,lstO [] 0)] [(hl,l,lstO (ccI [c0,c1,c2,c3,c4]) 0)] (fun τ => txScr b2 w.params z it acc loc [c0,c1,c2,c3,c4] τ [c0,c1,c2,c3,c4] [] true τ) rfl (by simp [h1,h2,h3]) (fun x hx => by obtain rfl := List.mem_singleton.mp hx; exact hh)
    (fun hs p τ => tx_run w b1 b2 b3 hs p z τ it acc loc l fr c0 c1 c2 c3 c4) rfl (fun s _ _ _ => ?_)
  refine tx_fin (b2 := b2) (fun α s' L hz q e => ?_) [c0,c1,c2,c3,c4] [] (fun _ => 0) true s.toks rfl
  exact ⟨leaves_end (S := oText w.params cxt_sh ki kl ka hl it acc loc l fr [c0,c1,c2,c3,c4]) (out := ⟨.ok (.done .next),_,[]⟩) (α := α) (tk := s.toks) [] L e rfl rfl rfl rfl (fun _ h => nomatch h) List.nodup_nil,hz⟩
end Mine
end
section
open PySem PySem.W PyProof.Rows
namespace Mine
theorem valid_runC {V : HV} (O : V.Ok) {S : Spec} {fuel : Nat} {z c : Nat} (own ro : List (Nat × Ent)) (scr : Nat → Scr) (hpre : S.pre = own.map (fun x => (3 * x.1 + 3,x.2)) ++ ro) (hnd : (own.map (·.1)).Nodup) (hro : ∀ y ∈ ro,y.1 % 3 = 2 ∨ (y.1 % 3 = 0 ∧ 3 ≤ y.1) ∧ ∀ x ∈ own,3 * x.1 + 3 ≠ y.1)
    (run : ∀ (hs : HL S.shape) (p : Pos) (τ : Nat),SH V true fuel [] ⟨S.code,none,none,fillAll S.shape hs,none⟩ p (V.den S.code) (scr τ) (tabOf (ro.map (·.2)) 0 .nil) (tabOf (own.map (·.2)) 0 .nil) own.length ro.length z 0 τ 0 [] [])
    (ok : (tabOk (own.map (·.2)) 0 .nil && tabOk (ro.map (·.2)) 0 .nil) = true)
    (fin : ∀ s : Shared,s.heap.objs.size = z → (∀ i ob,V.top i = some ob → s.heap.get? i = some ob) → (∀ x ∈ S.pre,s.heap.get? x.2.1 = some x.2.2) → FinOk V (fun r s' => ∀ q,r = resF q → (∃ α tk,Leaves S s q s' α tk) ∧ s'.heap.objs.size = z + c) s (fun a => a ∈ own.map (·.2.1)) own.length (scr s.toks)) : ValidB V S z c := by
  intro hs p s hz htop hp ⟨hap,hpp⟩
  have mo : ∀ x ∈ own,(3 * x.1 + 3,x.2) ∈ S.pre := fun x hx => by rw [hpre]; exact List.mem_append_left _ (List.mem_map_of_mem hx)
  have mr : ∀ x ∈ ro,x ∈ S.pre := fun x hx => by rw [hpre]; exact List.mem_append_right _ hx
  have zz : ∀ k : Nat,(3 * k + 3) % 3 = 0 := fun k => by omega
  have r := run hs p s.toks
  have l1 : own.length = (own.map (·.2)).length := by rw [List.length_map]
  have l2 : ro.length = (ro.map (·.2)).length := by rw [List.length_map]
  rw [l1,l2,← hz] at r
  refine enter O (lT := own.map (·.2)) (lR := ro.map (·.2)) r ok htop (fun x hx => ?_) (fun x hx => ?_) ?_ (fun x hx y hy => ?_) (fun x hx => ?_) ?_
  · obtain ⟨y,hy,rfl⟩ := List.mem_map.mp hx
    exact hp (3 * y.1 + 3,y.2) (mo y hy)
  · obtain ⟨y,hy,rfl⟩ := List.mem_map.mp hx
    exact hp _ (mr y hy)
  · rw [List.map_map]
    rw [List.nodup_iff_pairwise_ne,List.pairwise_map] at hnd ⊢
    refine List.Pairwise.imp_of_mem (fun {x y} hx hy hne he => ?_) hnd
    have := hap.inj _ (mo x hx) (zz _) _ (mo y hy) (zz _) he
    dsimp only at this
    omega
  · obtain ⟨x',hx',rfl⟩ := List.mem_map.mp hx
    obtain ⟨y',hy',rfl⟩ := List.mem_map.mp hy
    rcases hro y' hy' with h2 | ⟨⟨h0,h3⟩,h1⟩
    · exact hap.sep _ (mo x' hx') (zz _) _ (mr y' hy') h2
    · intro e
      have := hap.inj _ (mo x' hx') (zz _) _ (mr y' hy') h0 e
      have := h1 x' hx'
      dsimp only at *
      omega
  · obtain ⟨x',hx',rfl⟩ := List.mem_map.mp hx
    exact hap.top (3 * x'.1 + 3,x'.2) (mo x' hx') (zz _)
  · have := fin s hz htop hp
    rw [l1] at this
    have e : (fun a => a ∈ (own.map (·.2)).map (·.1)) = fun a => a ∈ own.map (·.2.1) := by
      funext a; rw [List.map_map]; rfl
    rw [e]
    exact this
noncomputable def cwt_sh : List Sk := [.func,.blt SL.s11611643536802374852x12]
noncomputable def cwt_code (c0 c1 c2 c3 c4 : Int) (t0 t1 t2 t3 t4 h0 h1 h2 h3 : Tok) : Code := (lcCode lcWords 811 812 813 789)
noncomputable def cwt_lT (P : Params) (c0 c1 c2 c3 c4 : Int) (t0 t1 t2 t3 t4 h0 h1 h2 h3 : Tok) : List Ent := [(811,⟨(.type SL.s14339709457334898076x3),none,(.fields ⟨[.none,(.bool false),(.bool false),(.ref 809),(.ref 810)]⟩),⟨[]⟩⟩),(807,⟨(.type SL.s3492446563574874994x13),none,(.fields ⟨[(.ref 806),(.int (0) 0)]⟩),⟨[]⟩⟩),(810,⟨(.type SL.s2766695959194262286x5),none,(.seq ⟨[.none,.none]⟩ 0),⟨[]⟩⟩),(808,⟨(.type SL.s3492446563574874994x13),none,(.fields ⟨[(.ref 800),(.int (0) 0)]⟩),⟨[]⟩⟩),(813,⟨(.type SL.s14018661285674007319x4),none,(.dict ⟨[]⟩ 0),⟨[]⟩⟩),(812,⟨(.type SL.s9222952809800978799x4),none,(.seq ⟨[]⟩ 0),⟨[]⟩⟩)]
noncomputable def cwt_lR (P : Params) (c0 c1 c2 c3 c4 : Int) (t0 t1 t2 t3 t4 h0 h1 h2 h3 : Tok) : List Ent := [(809,⟨(.type SL.s2766695959194262286x5),none,(.seq ⟨[(.ref 807),(.ref 808)]⟩ 0),⟨[]⟩⟩),(806,⟨(.type SL.s9222952809800978799x4),none,(.seq ⟨[(.str (u [105,116,32]) h0),(.str (u [105,116,39,115]) h1),(.str (u [105,116,115]) h2),(.str (u [122]) h3)]⟩ 0),⟨[]⟩⟩),(800,⟨(.type SL.s9222952809800978799x4),none,(.seq ⟨[(.int c0 t0),(.int c1 t1),(.int c2 t2),(.int c3 t3),(.int c4 t4)]⟩ 0),⟨[]⟩⟩)]
noncomputable def cwt_scr (P : Params) (τ : Nat) (c0 c1 c2 c3 c4 : Int) (t0 t1 t2 t3 t4 h0 h1 h2 h3 : Tok) : Scr := (.orcB [3,0,3,3,3,2,3,3,3,3,6,0,6,6,6,5,6,6,9,9,9,9,12,0,12,12,12,8,12,12,9,9,9,9,9,3,3,3,3,3,3,3,21,21,21,0,21,24,24,0,24,24,24,21,24,24,24,0,24,24,24,21,24,24,24,0,24,24,24,21,24,24,30,15,15,15,15,15,15] (oFdiv [.lcl,.func,.blt SL.s11611643536802374852x12] c0 t0 (4) (τ + 3)) 818 0 [] 10 3 fun α1 tk1 τ1 =>
  (.orcB [] (oMod [.lcl,.func,.blt SL.s11611643536802374852x12] (c0.fdiv (4)) tk1 (4) (τ1 + 0)) 818 0 [] 10 3 fun α2 tk2 τ2 =>
  (.orcB [] (oGet [.lcl,.func,.blt SL.s11611643536802374852x12] (u [39,34,96,120]) (τ + 2) ((c0.fdiv (4)).fmod (4)) tk2 (tln ((c0.fdiv (4)).fmod (4)))) 818 0 [] 10 3 fun α3 tk3 τ3 =>
  (.orcB [] (oAdd [.lcl,.func,.blt SL.s11611643536802374852x12] (u [105,116,32]) h0 (u [tln ((c0.fdiv (4)).fmod (4))]) tk3) 818 0 [] 10 3 fun α4 tk4 τ4 =>
  (.orcB [0,18,18,18,18,3,0,3,3,3,2,3,3,3,3,6,0,6,6,6,5,6,6,9,9,9,9,12,0,12,12,12,8,12,12,9,9,9,9,9,3,3,3,3,3,3,3,33,33,33,0,33,36,36,0,36,36,36,33,36,36,36,0,36,36,36,33,36,36,36,0,36,36,36,33,36,36,42,15,15,15,15,15,15] (oFdiv [.lcl,.func,.blt SL.s11611643536802374852x12] c1 t1 (4) (τ4 + 3)) 822 0 [] 14 3 fun α5 tk5 τ5 =>
  (.orcB [] (oMod [.lcl,.func,.blt SL.s11611643536802374852x12] (c1.fdiv (4)) tk5 (4) (τ5 + 0)) 822 0 [] 14 3 fun α6 tk6 τ6 =>
  (.orcB [] (oGet [.lcl,.func,.blt SL.s11611643536802374852x12] (u [39,34,96,120]) (τ4 + 2) ((c1.fdiv (4)).fmod (4)) tk6 (tln ((c1.fdiv (4)).fmod (4)))) 822 0 [] 14 3 fun α7 tk7 τ7 =>
  (.orcB [] (oAdd [.lcl,.func,.blt SL.s11611643536802374852x12] (u [105,116,39,115]) h1 (u [tln ((c1.fdiv (4)).fmod (4))]) tk7) 822 0 [] 14 3 fun α8 tk8 τ8 =>
  (.orcB [0,18,18,18,18,3,0,3,3,3,2,3,3,3,3,6,0,6,6,6,5,6,6,9,9,9,9,12,0,12,12,12,8,12,12,9,9,9,9,9,3,3,3,3,3,3,3,45,45,45,0,45,48,48,0,48,48,48,45,48,48,48,0,48,48,48,45,48,48,48,0,48,48,48,45,48,48,54,15,15,15,15,15,15] (oFdiv [.lcl,.func,.blt SL.s11611643536802374852x12] c2 t2 (4) (τ8 + 3)) 826 0 [] 18 3 fun α9 tk9 τ9 =>
  (.orcB [] (oMod [.lcl,.func,.blt SL.s11611643536802374852x12] (c2.fdiv (4)) tk9 (4) (τ9 + 0)) 826 0 [] 18 3 fun α10 tk10 τ10 =>
  (.orcB [] (oGet [.lcl,.func,.blt SL.s11611643536802374852x12] (u [39,34,96,120]) (τ8 + 2) ((c2.fdiv (4)).fmod (4)) tk10 (tln ((c2.fdiv (4)).fmod (4)))) 826 0 [] 18 3 fun α11 tk11 τ11 =>
  (.orcB [] (oAdd [.lcl,.func,.blt SL.s11611643536802374852x12] (u [105,116,115]) h2 (u [tln ((c2.fdiv (4)).fmod (4))]) tk11) 826 0 [] 18 3 fun α12 tk12 τ12 =>
  (.orcB [0,18,18,18,18,3,0,3,3,3,2,3,3,3,3,6,0,6,6,6,5,6,6,9,9,9,9,12,0,12,12,12,8,12,12,9,9,9,9,9,3,3,3,3,3,3,3,57,57,57,0,57,60,60,0,60,60,60,57,60,60,60,0,60,60,60,57,60,60,60,0,60,60,60,57,60,60,66,15,15,15,15,15,15] (oFdiv [.lcl,.func,.blt SL.s11611643536802374852x12] c3 t3 (4) (τ12 + 3)) 830 0 [] 22 3 fun α13 tk13 τ13 =>
  (.orcB [] (oMod [.lcl,.func,.blt SL.s11611643536802374852x12] (c3.fdiv (4)) tk13 (4) (τ13 + 0)) 830 0 [] 22 3 fun α14 tk14 τ14 =>
  (.orcB [] (oGet [.lcl,.func,.blt SL.s11611643536802374852x12] (u [39,34,96,120]) (τ12 + 2) ((c3.fdiv (4)).fmod (4)) tk14 (tln ((c3.fdiv (4)).fmod (4)))) 830 0 [] 22 3 fun α15 tk15 τ15 =>
  (.orcB [] (oAdd [.lcl,.func,.blt SL.s11611643536802374852x12] (u [122]) h3 (u [tln ((c3.fdiv (4)).fmod (4))]) tk15) 830 0 [] 22 3 fun α16 tk16 τ16 =>
  (.finB [0,18,18,18,18,3,0,3,3,3,2,3,3,3,3,6,0,6,6,6,5,6,6,3,3,72] ⟨.ok (.done .next),[(0,811,⟨(.type SL.s14339709457334898076x3),none,(.fields ⟨[.none,(.bool false),(.bool false),(.ref 809),(.ref 810)]⟩),⟨[]⟩⟩),(1,807,⟨(.type SL.s3492446563574874994x13),none,(.fields ⟨[.none,(.int (4) 0)]⟩),⟨[]⟩⟩),(2,810,⟨(.type SL.s2766695959194262286x5),none,(.seq ⟨[(.str (u [122]) h3),(.int c3 t3)]⟩ 0),⟨[]⟩⟩),(3,808,⟨(.type SL.s3492446563574874994x13),none,(.fields ⟨[(.ref 800),(.int (4) 0)]⟩),⟨[]⟩⟩),(4,813,⟨(.type SL.s14018661285674007319x4),none,(.dict ⟨[d P (u [104,101,97,100]) (τ + 0) (.str (u [122]) h3),d P (u [99,101,108,108]) (τ + 1) (.int c3 t3)]⟩ 2),⟨[]⟩⟩),(5,812,⟨(.type SL.s9222952809800978799x4),none,(.seq ⟨[(.str ((u [105,116,32]) ++ (u [tln ((c0.fdiv (4)).fmod (4))])) tk4),(.str ((u [105,116,39,115]) ++ (u [tln ((c1.fdiv (4)).fmod (4))])) tk8),(.str ((u [105,116,115]) ++ (u [tln ((c2.fdiv (4)).fmod (4))])) tk12),(.str ((u [122]) ++ (u [tln ((c3.fdiv (4)).fmod (4))])) tk16)]⟩ 4),⟨[]⟩⟩)],[]⟩ 832)))))))))))))))))
theorem cwt_run (w : World) (b1 b3 : Bool) (hs : HL cwt_sh) (p : Pos) (τ : Nat) (c0 c1 c2 c3 c4 : Int) (t0 t1 t2 t3 t4 h0 h1 h2 h3 : Tok) : SH (VX w b1 true b3) true 20000 [] ⟨cwt_code c0 c1 c2 c3 c4 t0 t1 t2 t3 t4 h0 h1 h2 h3 ,none,none,fillAll cwt_sh hs,none⟩ p ((VX w b1 true b3).den (cwt_code c0 c1 c2 c3 c4 t0 t1 t2 t3 t4 h0 h1 h2 h3 )) (cwt_scr w.params τ c0 c1 c2 c3 c4 t0 t1 t2 t3 t4 h0 h1 h2 h3 ) (tabOf (cwt_lR w.params c0 c1 c2 c3 c4 t0 t1 t2 t3 t4 h0 h1 h2 h3 ) 0 .nil) (tabOf (cwt_lT w.params c0 c1 c2 c3 c4 t0 t1 t2 t3 t4 h0 h1 h2 h3 ) 0 .nil) 6 3 814 0 τ 0 [] [] := by
  cases b1 <;> exact runOf (adrs [811,807,810,808,813,812] 814) (adr1 [809,806,800]) (by kernel_rfl)
noncomputable def cwf_scr (P : Params) (τ : Nat) (c0 c1 c2 c3 c4 : Int) (t0 t1 t2 t3 t4 h0 h1 h2 h3 : Tok) : Scr := (.orcB [3,3,0,3,3,3,0,3,3,3,2,3,3,3,3,6,0,6,6,6,5,6,6,9,9,9,9,12,0,12,12,12,8,12,12,9,9,9,9,9,3,3,3,3,3,3,3,21,21,21,0,21,24,24,0,24,24,24,21,24,24,24,0,24,24,24,21,24,24,24,0,24,24,24,21,24,24,30,15,15,15,15,15,15] (oFdiv [.lcl,.func,.blt SL.s11611643536802374852x12] c0 t0 (4) (τ + 3)) 818 0 [] 10 3 fun α1 tk1 τ1 =>
  (.orcB [] (oMod [.lcl,.func,.blt SL.s11611643536802374852x12] (c0.fdiv (4)) tk1 (4) (τ1 + 0)) 818 0 [] 10 3 fun α2 tk2 τ2 =>
  (.orcB [] (oGet [.lcl,.func,.blt SL.s11611643536802374852x12] (u [39,34,96,120]) (τ + 2) ((c0.fdiv (4)).fmod (4)) tk2 (tln ((c0.fdiv (4)).fmod (4)))) 818 0 [] 10 3 fun α3 tk3 τ3 =>
  (.orcB [] (oAdd [.lcl,.func,.blt SL.s11611643536802374852x12] (u [105,116,32]) h0 (u [tln ((c0.fdiv (4)).fmod (4))]) tk3) 818 0 [] 10 3 fun α4 tk4 τ4 =>
  (.orcB [0,18,18,18,18,3,0,3,3,3,2,3,3,3,3,6,0,6,6,6,5,6,6,9,9,9,9,12,0,12,12,12,8,12,12,9,9,9,9,9,3,3,3,3,3,3,3,33,33,33,0,33,36,36,0,36,36,36,33,36,36,36,0,36,36,36,33,36,36,36,0,36,36,36,33,36,36,42,15,15,15,15,15,15] (oFdiv [.lcl,.func,.blt SL.s11611643536802374852x12] c1 t1 (4) (τ4 + 3)) 822 0 [] 14 3 fun α5 tk5 τ5 =>
  (.orcB [] (oMod [.lcl,.func,.blt SL.s11611643536802374852x12] (c1.fdiv (4)) tk5 (4) (τ5 + 0)) 822 0 [] 14 3 fun α6 tk6 τ6 =>
  (.orcB [] (oGet [.lcl,.func,.blt SL.s11611643536802374852x12] (u [39,34,96,120]) (τ4 + 2) ((c1.fdiv (4)).fmod (4)) tk6 (tln ((c1.fdiv (4)).fmod (4)))) 822 0 [] 14 3 fun α7 tk7 τ7 =>
  (.orcB [] (oAdd [.lcl,.func,.blt SL.s11611643536802374852x12] (u [105,116,39,115]) h1 (u [tln ((c1.fdiv (4)).fmod (4))]) tk7) 822 0 [] 14 3 fun α8 tk8 τ8 =>
  (.orcB [0,18,18,18,18,3,0,3,3,3,2,3,3,3,3,6,0,6,6,6,5,6,6,9,9,9,9,12,0,12,12,12,8,12,12,9,9,9,9,9,3,3,3,3,3,3,3,45,45,45,0,45,48,48,0,48,48,48,45,48,48,48,0,48,48,48,45,48,48,48,0,48,48,48,45,48,48,54,15,15,15,15,15,15] (oFdiv [.lcl,.func,.blt SL.s11611643536802374852x12] c2 t2 (4) (τ8 + 3)) 826 0 [] 18 3 fun α9 tk9 τ9 =>
  (.orcB [] (oMod [.lcl,.func,.blt SL.s11611643536802374852x12] (c2.fdiv (4)) tk9 (4) (τ9 + 0)) 826 0 [] 18 3 fun α10 tk10 τ10 =>
  (.orcB [] (oGet [.lcl,.func,.blt SL.s11611643536802374852x12] (u [39,34,96,120]) (τ8 + 2) ((c2.fdiv (4)).fmod (4)) tk10 (tln ((c2.fdiv (4)).fmod (4)))) 826 0 [] 18 3 fun α11 tk11 τ11 =>
  (.orcB [] (oAdd [.lcl,.func,.blt SL.s11611643536802374852x12] (u [105,116,115]) h2 (u [tln ((c2.fdiv (4)).fmod (4))]) tk11) 826 0 [] 18 3 fun α12 tk12 τ12 =>
  (.orcB [0,18,18,18,18,3,0,3,3,3,2,3,3,3,3,6,0,6,6,6,5,6,6,9,9,9,9,12,0,12,12,12,8,12,12,9,9,9,9,9,3,3,3,3,3,3,3,57,57,57,0,57,60,60,0,60,60,60,57,60,60,60,0,60,60,60,57,60,60,60,0,60,60,60,57,60,60,66,15,15,15,15,15,15] (oFdiv [.lcl,.func,.blt SL.s11611643536802374852x12] c3 t3 (4) (τ12 + 3)) 830 0 [] 22 3 fun α13 tk13 τ13 =>
  (.orcB [] (oMod [.lcl,.func,.blt SL.s11611643536802374852x12] (c3.fdiv (4)) tk13 (4) (τ13 + 0)) 830 0 [] 22 3 fun α14 tk14 τ14 =>
  (.orcB [] (oGet [.lcl,.func,.blt SL.s11611643536802374852x12] (u [39,34,96,120]) (τ12 + 2) ((c3.fdiv (4)).fmod (4)) tk14 (tln ((c3.fdiv (4)).fmod (4)))) 830 0 [] 22 3 fun α15 tk15 τ15 =>
  (.orcB [] (oAdd [.lcl,.func,.blt SL.s11611643536802374852x12] (u [122]) h3 (u [tln ((c3.fdiv (4)).fmod (4))]) tk15) 830 0 [] 22 3 fun α16 tk16 τ16 =>
  (.finB [0,18,18,18,18,3,0,3,3,3,2,3,3,3,3,6,0,6,6,6,5,6,6,3,3,72] ⟨.ok (.done .next),[(0,811,⟨(.type SL.s14339709457334898076x3),none,(.fields ⟨[.none,(.bool false),(.bool false),(.ref 809),(.ref 810)]⟩),⟨[]⟩⟩),(1,807,⟨(.type SL.s3492446563574874994x13),none,(.fields ⟨[.none,(.int (4) 0)]⟩),⟨[]⟩⟩),(2,810,⟨(.type SL.s2766695959194262286x5),none,(.seq ⟨[(.str (u [122]) h3),(.int c3 t3)]⟩ 0),⟨[]⟩⟩),(3,808,⟨(.type SL.s3492446563574874994x13),none,(.fields ⟨[(.ref 800),(.int (4) 0)]⟩),⟨[]⟩⟩),(4,813,⟨(.type SL.s14018661285674007319x4),none,(.dict ⟨[d P (u [104,101,97,100]) (τ + 0) (.str (u [122]) h3),d P (u [99,101,108,108]) (τ + 1) (.int c3 t3)]⟩ 2),⟨[]⟩⟩),(5,812,⟨(.type SL.s9222952809800978799x4),none,(.seq ⟨[(.str ((u [105,116,32]) ++ (u [tln ((c0.fdiv (4)).fmod (4))])) tk4),(.str ((u [105,116,39,115]) ++ (u [tln ((c1.fdiv (4)).fmod (4))])) tk8),(.str ((u [105,116,115]) ++ (u [tln ((c2.fdiv (4)).fmod (4))])) tk12),(.str ((u [122]) ++ (u [tln ((c3.fdiv (4)).fmod (4))])) tk16)]⟩ 4),⟨[]⟩⟩)],[]⟩ 832)))))))))))))))))
theorem cwf_run (w : World) (b1 b3 : Bool) (hs : HL cwt_sh) (p : Pos) (τ : Nat) (c0 c1 c2 c3 c4 : Int) (t0 t1 t2 t3 t4 h0 h1 h2 h3 : Tok) : SH (VX w b1 false b3) true 20000 [] ⟨cwt_code c0 c1 c2 c3 c4 t0 t1 t2 t3 t4 h0 h1 h2 h3 ,none,none,fillAll cwt_sh hs,none⟩ p ((VX w b1 false b3).den (cwt_code c0 c1 c2 c3 c4 t0 t1 t2 t3 t4 h0 h1 h2 h3 )) (cwf_scr w.params τ c0 c1 c2 c3 c4 t0 t1 t2 t3 t4 h0 h1 h2 h3 ) (tabOf (cwt_lR w.params c0 c1 c2 c3 c4 t0 t1 t2 t3 t4 h0 h1 h2 h3 ) 0 .nil) (tabOf (cwt_lT w.params c0 c1 c2 c3 c4 t0 t1 t2 t3 t4 h0 h1 h2 h3 ) 0 .nil) 6 3 814 0 τ 0 [] [] := by
  cases b1 <;> exact runOf (adrs [811,807,810,808,813,812] 814) (adr1 [809,806,800]) (by kernel_rfl)
noncomputable def oWords (P : Params) (k0 k1 k2 k3 k4 k5 j0 j1 j2 : Nat) (c0 c1 c2 c3 c4 : Int) (t0 t1 t2 t3 t4 h0 h1 h2 h3 : Tok) : Spec :=
  ⟨lcCode lcWords 811 812 813 789,cwt_sh,[(3 * k0 + 3,811,⟨(.type SL.s14339709457334898076x3),none,(.fields ⟨[.none,(.bool false),(.bool false),(.ref 809),(.ref 810)]⟩),⟨[]⟩⟩),(3 * k1 + 3,807,⟨(.type SL.s3492446563574874994x13),none,(.fields ⟨[(.ref 806),(.int (0) 0)]⟩),⟨[]⟩⟩),(3 * k2 + 3,810,⟨(.type SL.s2766695959194262286x5),none,(.seq ⟨[.none,.none]⟩ 0),⟨[]⟩⟩),(3 * k3 + 3,808,⟨(.type SL.s3492446563574874994x13),none,(.fields ⟨[(.ref 800),(.int (0) 0)]⟩),⟨[]⟩⟩),(3 * k4 + 3,813,⟨(.type SL.s14018661285674007319x4),none,(.dict ⟨[]⟩ 0),⟨[]⟩⟩),(3 * k5 + 3,812,⟨(.type SL.s9222952809800978799x4),none,(.seq ⟨[]⟩ 0),⟨[]⟩⟩),(j0,809,⟨(.type SL.s2766695959194262286x5),none,(.seq ⟨[(.ref 807),(.ref 808)]⟩ 0),⟨[]⟩⟩),(j1,806,⟨(.type SL.s9222952809800978799x4),none,(.seq ⟨[(.str (u [105,116,32]) h0),(.str (u [105,116,39,115]) h1),(.str (u [105,116,115]) h2),(.str (u [122]) h3)]⟩ 0),⟨[]⟩⟩),(j2,800,⟨(.type SL.s9222952809800978799x4),none,(.seq ⟨[(.int c0 t0),(.int c1 t1),(.int c2 t2),(.int c3 t3),(.int c4 t4)]⟩ 0),⟨[]⟩⟩)],
    fun _ _ => .ok .next,[(k0,811,fun _ _ => ⟨(.type SL.s14339709457334898076x3),none,(.fields ⟨[.none,(.bool false),(.bool false),(.ref 809),(.ref 810)]⟩),⟨[]⟩⟩),(k1,807,fun _ _ => ⟨(.type SL.s3492446563574874994x13),none,(.fields ⟨[.none,(.int (4) 0)]⟩),⟨[]⟩⟩),(k2,810,fun _ _ => ⟨(.type SL.s2766695959194262286x5),none,(.seq ⟨[(.str (u [122]) h3),(.int c3 t3)]⟩ 0),⟨[]⟩⟩),(k3,808,fun _ _ => ⟨(.type SL.s3492446563574874994x13),none,(.fields ⟨[(.ref 800),(.int (4) 0)]⟩),⟨[]⟩⟩),(k4,813,fun α _ => ⟨(.type SL.s14018661285674007319x4),none,(.dict ⟨[d P (u [104,101,97,100]) (α 4) (.str (u [122]) h3),d P (u [99,101,108,108]) (α 5) (.int c3 t3)]⟩ 2),⟨[]⟩⟩),(k5,812,fun α _ => ⟨(.type SL.s9222952809800978799x4),none,(.seq ⟨[(.str ((u [105,116,32]) ++ (u [tln ((c0.fdiv (4)).fmod (4))])) (α 0)),(.str ((u [105,116,39,115]) ++ (u [tln ((c1.fdiv (4)).fmod (4))])) (α 1)),(.str ((u [105,116,115]) ++ (u [tln ((c2.fdiv (4)).fmod (4))])) (α 2)),(.str ((u [122]) ++ (u [tln ((c3.fdiv (4)).fmod (4))])) (α 3))]⟩ 4),⟨[]⟩⟩)],[],[],true⟩
theorem vFd4B {V : HV} {z : Nat} {sh : List Sk} {x : Int} {t v : Tok} : ValidB V (oFdiv sh x t 4 v) z 0 := vFdivB (by decide) (by
  unfold Builtin.divisionGoesByPylong
  rw [Bool.and_eq_true]
  rintro ⟨h,_⟩
  revert h
  decide)
theorem vWords {w : World} {b1 b2 b3 : Bool} {k0 k1 k2 k3 k4 k5 j0 j1 j2 : Nat} {c0 c1 c2 c3 c4 : Int} {t0 t1 t2 t3 t4 h0 h1 h2 h3 : Tok} (hnd : [k0,k1,k2,k3,k4,k5].Nodup)
    (hj : ∀ j ∈ [j0,j1,j2],j % 3 = 2 ∨ (j % 3 = 0 ∧ 3 ≤ j) ∧ ∀ k ∈ [k0,k1,k2,k3,k4,k5],3 * k + 3 ≠ j) :
    ValidB (VX w b1 b2 b3) (oWords w.params k0 k1 k2 k3 k4 k5 j0 j1 j2 c0 c1 c2 c3 c4 t0 t1 t2 t3 t4 h0 h1 h2 h3) 814 18 := by
  refine valid_runC (VX_ok _ _ _ _) (fuel := 20000) [(k0,811,⟨(.type SL.s14339709457334898076x3),none,(.fields ⟨[.none,(.bool false),(.bool false),(.ref 809),(.ref 810)]⟩),⟨[]⟩⟩),(k1,807,⟨(.type SL.s3492446563574874994x13),none,(.fields ⟨[(.ref 806),(.int (0) 0)]⟩),⟨[]⟩⟩),(k2,810,⟨(.type SL.s2766695959194262286x5),none,(.seq ⟨[.none,.none]⟩ 0),⟨[]⟩⟩),(k3,808,⟨(.type SL.s3492446563574874994x13),none,(.fields ⟨[(.ref 800),(.int (0) 0)]⟩),⟨[]⟩⟩),(k4,813,⟨(.type SL.s14018661285674007319x4),none,(.dict ⟨[]⟩ 0),⟨[]⟩⟩),(k5,812,⟨(.type SL.s9222952809800978799x4),none,(.seq ⟨[]⟩ 0),⟨[]⟩⟩)] [(j0,809,⟨(.type SL.s2766695959194262286x5),none,(.seq ⟨[(.ref 807),(.ref 808)]⟩ 0),⟨[]⟩⟩),(j1,806,⟨(.type SL.s9222952809800978799x4),none,(.seq ⟨[(.str (u [105,116,32]) h0),(.str (u [105,116,39,115]) h1),(.str (u [105,116,115]) h2),(.str (u [122]) h3)]⟩ 0),⟨[]⟩⟩),(j2,800,⟨(.type SL.s9222952809800978799x4),none,(.seq ⟨[(.int c0 t0),(.int c1 t1),(.int c2 t2),(.int c3 t3),(.int c4 t4)]⟩ 0),⟨[]⟩⟩)] (fun τ => match b2 with | true => cwt_scr w.params τ c0 c1 c2 c3 c4 t0 t1 t2 t3 t4 h0 h1 h2 h3 | false => cwf_scr w.params τ c0 c1 c2 c3 c4 t0 t1 t2 t3 t4 h0 h1 h2 h3) rfl hnd (fun y hy => ?_)
    (fun hs p τ => by cases b2; exact cwf_run w b1 b3 hs p τ c0 c1 c2 c3 c4 t0 t1 t2 t3 t4 h0 h1 h2 h3; exact cwt_run w b1 b3 hs p τ c0 c1 c2 c3 c4 t0 t1 t2 t3 t4 h0 h1 h2 h3) rfl (fun s hz _ _ => ?_)
  · have e : ∀ x ∈ ([(k0,811,⟨(.type SL.s14339709457334898076x3),none,(.fields ⟨[.none,(.bool false),(.bool false),(.ref 809),(.ref 810)]⟩),⟨[]⟩⟩),(k1,807,⟨(.type SL.s3492446563574874994x13),none,(.fields ⟨[(.ref 806),(.int (0) 0)]⟩),⟨[]⟩⟩),(k2,810,⟨(.type SL.s2766695959194262286x5),none,(.seq ⟨[.none,.none]⟩ 0),⟨[]⟩⟩),(k3,808,⟨(.type SL.s3492446563574874994x13),none,(.fields ⟨[(.ref 800),(.int (0) 0)]⟩),⟨[]⟩⟩),(k4,813,⟨(.type SL.s14018661285674007319x4),none,(.dict ⟨[]⟩ 0),⟨[]⟩⟩),(k5,812,⟨(.type SL.s9222952809800978799x4),none,(.seq ⟨[]⟩ 0),⟨[]⟩⟩)] : List (Nat × Ent)),x.1 ∈ [k0,k1,k2,k3,k4,k5] := fun x hx => List.mem_map_of_mem (f := (·.1)) hx
    have := hj y.1 (by simp only [List.mem_cons,List.not_mem_nil,or_false] at hy ⊢; rcases hy with rfl | rfl | rfl <;> simp)
    exact this.imp id fun ⟨a,b⟩ => ⟨a,fun x hx => b _ (e x hx)⟩
  · cases b2
    all_goals
      refine ⟨vFd4B,fun α1 tk1 τ1 _ => ⟨vModB (by decide),fun α2 tk2 τ2 _ => ⟨vTlnB,fun α3 tk3 τ3 _ => ⟨vAddB (by show 3 + 1 ≤ sizeLine; decide),fun α4 tk4 τ4 _ => ⟨vFd4B,fun α5 tk5 τ5 _ => ⟨vModB (by decide),fun α6 tk6 τ6 _ => ⟨vTlnB,fun α7 tk7 τ7 _ => ⟨vAddB (by show 4 + 1 ≤ sizeLine; decide),fun α8 tk8 τ8 _ => ⟨vFd4B,fun α9 tk9 τ9 _ => ⟨vModB (by decide),fun α10 tk10 τ10 _ => ⟨vTlnB,fun α11 tk11 τ11 _ => ⟨vAddB (by show 3 + 1 ≤ sizeLine; decide),fun α12 tk12 τ12 _ => ⟨vFd4B,fun α13 tk13 τ13 _ => ⟨vModB (by decide),fun α14 tk14 τ14 _ => ⟨vTlnB,fun α15 tk15 τ15 _ => ⟨vAddB (by show 1 + 1 ≤ sizeLine; decide),fun α16 tk16 τ16 _ => fun s' L hz' q e => ?_⟩⟩⟩⟩⟩⟩⟩⟩⟩⟩⟩⟩⟩⟩⟩⟩
      exact ⟨leaves_end (S := oWords w.params k0 k1 k2 k3 k4 k5 j0 j1 j2 c0 c1 c2 c3 c4 t0 t1 t2 t3 t4 h0 h1 h2 h3) (out := ⟨.ok (.done .next),_,[]⟩) (α := al6 tk4 tk8 tk12 tk16 (s.toks + 0) (s.toks + 1)) (tk := 0) [] L e rfl rfl rfl rfl (fun _ h => nomatch h) List.nodup_nil,hz'⟩
end Mine
end
section
open PySem PySem.W PyProof.Rows
namespace Mine
theorem pick5 (xs : List Value) : slicePick ⟨xs⟩ none (some 5) none = ⟨xs.take 5⟩ := by
  rw [slicePick_plain]
  simp only [Option.elim_none,Option.elim_some,List.drop_zero,Nat.sub_zero]
  congr 1
  have : clipAt (⟨xs⟩ : Array Value).size 5 = min 5 xs.length := by
    have h := clipAt_cast (⟨xs⟩ : Array Value).size 5
    have e : (⟨xs⟩ : Array Value).size = xs.length := rfl
    rw [e] at h ⊢
    rw [if_neg (by decide)] at h
    omega
  rw [this,List.take_eq_take_iff]
  omega
noncomputable def slcO (t : Tok) : Obj := ⟨.type SL.s4674234679698826739x5,none,.fields ⟨[.none,.int 5 t,.none]⟩,#[]⟩
noncomputable def oSl5 (sh : List Sk) (hl l : Nat) (xs : List Value) (e : Nat) (hs sl : Nat) (t : Tok) (ys : List Value) : Spec :=
  ⟨.call (.builtin SL.s8077881857196166566x16) ⟨[.ref l,.ref sl],[]⟩,sh,[(hl,l,⟨.type SL.s9222952809800978799x4,none,.seq ⟨xs⟩ e,#[]⟩),(hs,sl,slcO t)],fun α _ => .ok (.ret (.ref (α 0))),[],[fun _ _ => ⟨.type SL.s9222952809800978799x4,none,.seq ⟨ys⟩ 0,#[]⟩],[],true⟩
theorem new1_leaves {S : Spec} {s s' : Shared} {o : Obj} (hres : S.res = fun α _ => .ok (.ret (.ref (α 0)))) (hu : S.upd = []) (hR : S.newR = [fun _ _ => o]) (hT : S.newT = []) (hs : s' = { s with heap := s.heap.push o }) (ho : o.isFreed = false) :
    Leaves S s (.ok (.ret (.ref s.heap.objs.size))) s' (fun _ => s.heap.objs.size) 0 := by
  subst hs
  refine ⟨by rw [hres],(by rw [hu]; exact fun _ h => nomatch h),fun i f h => ?_,fun a ob g _ => Heap.get?_push_of_some _ g,fun i f h => .inl (Nat.le_refl _),(by rw [hT]; exact fun _ _ h => nomatch h),(by rw [hT]; exact fun _ _ h => absurd h (Nat.not_lt_zero _)),?_,rfl,rfl,rfl⟩
  · rw [hR] at h
    cases i with
    | zero => cases h; exact Heap.get?_push_size _ ho
    | succ i => cases h
  · show s.heap.objs.size ≤ (s.heap.push _).objs.size
    rw [Heap.size_push]; exact Nat.le_succ _
theorem valid_builtinP {V : HV} {S : Spec} {z c : Nat} {al : List Nat} {T : String} {name : Str} {id : String} {B : Builtin} {self : Value} {rest : List Value} (hc : S.code = .call (.builtin id) ⟨self :: rest,[]⟩)
    (slot : Slot T name id) (entry : entryFor table id = some B) (args : argsOk id ⟨self :: rest,[]⟩)
    (h : ∀ (A : Around) (s : Shared),A.handled = none → s.heap.objs.size = z → (∀ x ∈ S.pre,s.heap.get? x.2.1 = some x.2.2) → Apart V S.pre → s.TypeIs self T ∧
      wpAny (model V.prog V.w) A.in1 (B ⟨self :: rest,[]⟩) (fun fin s' => ∃ v,fin = .done (.ret v) ∧ (∃ α tk,Leaves S s (.ok (.ret v)) s' α tk ∧ ∀ i x,al[i]? = some x → α i = x) ∧ s'.heap.objs.size = z + c) (fun e s' => False) s) : ValidP V S z c al := by
  intro hs p s hz htop hpre ⟨hap,hpp⟩
  obtain ⟨hT,hb⟩ := h (aBelow (fillAll S.shape hs)) s rfl hz hpre hap
  have : codeAny (model V.prog V.w) (aBelow (fillAll S.shape hs)) (.call (.builtin id) ⟨self :: rest,[]⟩) (fun q s' => (∃ α tk,Leaves S s q s' α tk ∧ ∀ i x,al[i]? = some x → α i = x) ∧ s'.heap.objs.size = z + c) s :=
    codeAny_call_builtin slot.plain entry (slot.check _ _ _ _ _ _ _ _ hT args (wpAny_mono hb (fun fin s' x => by obtain ⟨v,rfl,y⟩ := x; exact y) fun _ _ x => x.elim))
  rw [hc]
  exact this _ p rfl (below_any _ _)
theorem vSl5P {V : HV} {z : Nat} {sh : List Sk} {hl l : Nat} {xs : List Value} {e hs sl : Nat} {t : Tok} {ys : List Value} (hy : xs.take 5 = ys) (hz : xs.length ≤ 1000) : ValidP V (oSl5 sh hl l xs e hs sl t ys) z 1 [z] := by
  subst hy
  unfold oSl5 slcO
  rw [← SL.e8077881857196166566x16,← SL.e9222952809800978799x4,← SL.e4674234679698826739x5]
  refine valid_builtinP rfl F.slot_list_getitem F.entry_list_getitem (F.args_list_getitem_2 _ _) fun A s hA hz' hpre hap => ?_
  have h1 := hpre _ (List.Mem.head _)
  have h2 := hpre _ (List.Mem.tail _ (List.Mem.head _))
  dsimp only at h1 h2
  have hL : s.heap.IsList l ⟨xs⟩ := ⟨_,h1,rfl,_,rfl⟩
  have hTs : s.TypeIs (.ref sl) "slice" := ⟨_, h2, rfl⟩
  refine ⟨hL.typeIs,?_⟩
  show wpAny _ _ (Builtin.List.listSubscript? (.ref sl) >>= _) _ _ s
  refine wpAny_bind ?_
  unfold Builtin.List.listSubscript?
  refine wpAny_bind (wpAny_specialOf hTs slice_no_index ?_)
  simp only [Option.isNone_none,if_true]
  refine wpAny_pure ?_
  show wpAny _ _ (typeOf (.ref sl) >>= _) _ _ s
  refine wpAny_bind (wpAny_typeOf hTs ?_)
  rw [if_neg (by decide),listSliceParts_eq]
  refine wpAny_bind (wpAny_bind (wpAny_field h2 rfl (x := .none) rfl (wpAny_bind (wpAny_listPart .none ?_))))
  rw [if_neg (show ¬ ((rawPart none == rawInt 0) = true) from Bool.false_ne_true)]
  refine wpAny_bind (wpAny_field h2 rfl (x := .none) rfl (wpAny_bind (wpAny_listPart .none ?_)))
  refine wpAny_bind (wpAny_field h2 rfl (x := .int 5 t) rfl (wpAny_bind (wpAny_listPart (.int 5 t) (wpAny_pure ?_))))
  refine wpAny_bind (m := Builtin.List.listItems (.ref l)) ?_
  unfold Builtin.List.listItems
  refine wpAny_bind (wpAny_seqItems h1 rfl (wpAny_pure ?_))
  refine wpAny_bind (wpAny_of_eq (sliceIndices_raw none (some 5) none (⟨xs⟩ : Array Value).size (by simp)) ?_)
  have hsz : (⟨xs⟩ : Array Value).size ≤ sizeLine := Nat.le_trans (show xs.length ≤ 1000 from hz) (by decide)
  refine wpAny_bind (wpAny_newObj_type ?_ (Nat.le_trans (slicePick_size_le ⟨xs⟩ none (some 5) none) hsz))
  refine wpAny_pure ⟨_, rfl, ⟨_, _, new1_leaves rfl rfl rfl rfl (by rw [show ({ cls := .type "list", data := Data.seq ⟨xs.take 5⟩ 0 } : Obj) = { cls := .type "list", data := .seq (slicePick ⟨xs⟩ none (some 5) none) } from by rw [pick5]]; rfl) rfl, fun i x hx => ?_⟩, ?_⟩
  · cases i with
    | zero => cases hx; exact hz'
    | succ i => cases hx
  · show (s.heap.push _).objs.size = _
    rw [Heap.size_push,hz']
theorem vSl5B {V : HV} {z : Nat} {sh : List Sk} {hl l : Nat} {xs : List Value} {e hs sl : Nat} {t : Tok} {ys : List Value} (hy : xs.take 5 = ys) (hz : xs.length ≤ 1000) : ValidB V (oSl5 sh hl l xs e hs sl t ys) z 1 :=
  fun hs' p s a1 a2 a3 a4 => wpCode_mono (fun q s' x => let ⟨⟨α,tk,L,_⟩,h⟩ := x; ⟨⟨α,tk,L⟩,h⟩) (vSl5P hy hz hs' p s a1 a2 a3 a4)
theorem valid_meetsB {V : HV} {S : Spec} {z c : Nat} {T : String} {name : Str} {id : String} {B : Builtin} {self : Value} {rest : List Value} {Sp : PySem.Spec} (hc : S.code = .call (.builtin id) ⟨self :: rest,[]⟩)
    (slot : Slot T name id) (entry : entryFor table id = some B) (args : argsOk id ⟨self :: rest,[]⟩) (g : Meets (B ⟨self :: rest,[]⟩) Sp)
    (h : ∀ (A : Around) (s : Shared),A.handled = none → (∀ x ∈ S.pre,s.heap.get? x.2.1 = some x.2.2) → Apart V S.pre → s.TypeIs self T ∧
      Sp A (fun q s' => (∃ α tk,Leaves S s q s' α tk) ∧ s'.heap.objs.size = s.heap.objs.size + c) s) : ValidB V S z c := by
  intro hs p s hz htop hpre ⟨hap,hpp⟩
  obtain ⟨hT,hb⟩ := h (aBelow (fillAll S.shape hs)) s rfl hpre hap
  have : codeAny (model V.prog V.w) (aBelow (fillAll S.shape hs)) (.call (.builtin id) ⟨self :: rest,[]⟩) (fun q s' => (∃ α tk,Leaves S s q s' α tk) ∧ s'.heap.objs.size = s.heap.objs.size + c) s :=
    codeAny_call_builtin slot.plain entry (slot.check _ _ _ _ _ _ _ _ hT args (g V.prog V.w _ _ s hb))
  rw [hc,← hz]
  exact this _ p rfl (below_any _ _)
noncomputable def oLAdd (sh : List Sk) (ha a : Nat) (xs : List Value) (ea : Nat) (hb b : Nat) (ys : List Value) (eb : Nat) : Spec :=
  ⟨.call (.builtin i_list___add__) ⟨[.ref a,.ref b],[]⟩,sh,[(ha,a,⟨.type SL.s9222952809800978799x4,none,.seq ⟨xs⟩ ea,#[]⟩),(hb,b,⟨.type SL.s9222952809800978799x4,none,.seq ⟨ys⟩ eb,#[]⟩)],fun α _ => .ok (.ret (.ref (α 0))),[],[fun _ _ => ⟨.type SL.s9222952809800978799x4,none,.seq ⟨xs ++ ys⟩ 0,#[]⟩],[],true⟩
theorem vLAddB {V : HV} {z : Nat} {sh : List Sk} {ha a : Nat} {xs : List Value} {ea hb b : Nat} {ys : List Value} {eb : Nat} (hx : xs.length ≤ 1000) (hy : ys.length ≤ 1000) : ValidB V (oLAdd sh ha a xs ea hb b ys eb) z 1 := by
  unfold oLAdd
  rw [← i_list___add___eq,← SL.e9222952809800978799x4]
  have hsz : (⟨xs⟩ : Array Value).size + (⟨ys⟩ : Array Value).size ≤ sizeLine := Nat.le_trans (Nat.add_le_add (show xs.length ≤ 1000 from hx) (show ys.length ≤ 1000 from hy)) (by decide)
  refine valid_meetsB rfl F.slot_list_add F.entry_list_add (F.args_list_add_2 _ _) (AutoSeq1.list___add___list_list_0 a ⟨xs⟩ ea b ⟨ys⟩ eb hsz) fun A s hA hpre hap => ?_
  have h1 := hpre _ (List.Mem.head _)
  have h2 := hpre _ (List.Mem.tail _ (List.Mem.head _))
  dsimp only at h1 h2
  have hL : s.heap.IsList a ⟨xs⟩ := ⟨_,h1,rfl,_,rfl⟩
  refine ⟨hL.typeIs,h1,h2,⟨_,_,new1_leaves rfl rfl rfl rfl (by simp) rfl⟩,?_⟩
  show (s.heap.push _).objs.size = _
  rw [Heap.size_push]
end Mine
end
section
open PySem PySem.W PyProof.Rows
namespace Mine
structure KE where
  bt : Nat
  sl : Nat
  fi : Nat
  fl : Nat
  fg : Nat
  fe : Nat
  fle : Nat
  fge : Nat
  sa : Nat
  tK : Tok
  tq : Tok
  tm : Tok
  tf : Tok
  n0 : Tok
  n1 : Tok
  n2 : Tok
  n3 : Tok
  n4 : Tok
  n5 : Tok
  n6 : Tok
  n7 : Tok
  n8 : Tok
  n9 : Tok
  n10 : Tok
  nq : Tok
noncomputable def kClsO (E : KE) (K ns : Nat) : Obj := ⟨.type SL.s17162191345867700912x4,none,.cls ⟨(u [75]),[.type SL.s2742458400755230247x6],[.ref K,.type SL.s2742458400755230247x6],ns,(u [99,109,112,95,116,111,95,107,101,121,46,60,108,111,99,97,108,115,62,46,75]),false,[(u [111,98,106])],[],false,none,false⟩,#[some (.ref E.bt),none,some (.str (u [75]) E.tK),some (.str (u [99,109,112,95,116,111,95,107,101,121,46,60,108,111,99,97,108,115,62,46,75]) E.tq),some (.builtin SL.s11443829558043349243x14),some (.bool false)]⟩
noncomputable def kNsO (P : Params) (E : KE) (md : Nat) (to td : Tok) : Obj := ⟨.type SL.s14018661285674007319x4,none,.dict ⟨[d P (u [95,95,109,111,100,117,108,101,95,95]) E.n0 (.str (u [99,112,121,51,49,51,46,102,117,110,99,116,111,111,108,115]) E.tm),d P (u [95,95,102,105,114,115,116,108,105,110,101,110,111,95,95]) E.n1 (.int 725 E.tf),d P (u [95,95,115,108,111,116,115,95,95]) E.n2 (.ref E.sl),d P (u [95,95,105,110,105,116,95,95]) E.n3 (.ref E.fi),d P (u [95,95,108,116,95,95]) E.n4 (.ref E.fl),d P (u [95,95,103,116,95,95]) E.n5 (.ref E.fg),d P (u [95,95,101,113,95,95]) E.n6 (.ref E.fe),d P (u [95,95,108,101,95,95]) E.n7 (.ref E.fle),d P (u [95,95,103,101,95,95]) E.n8 (.ref E.fge),d P (u [95,95,104,97,115,104,95,95]) E.n9 .none,d P (u [95,95,115,116,97,116,105,99,95,97,116,116,114,105,98,117,116,101,115,95,95]) E.n10 (.ref E.sa),d P (u [111,98,106]) to (.ref md),d P (u [95,95,100,111,99,95,95]) td .none]⟩ 3,#[]⟩
noncomputable def kMdO (K : Nat) (t : Tok) : Obj := ⟨.type SL.s5699418376593618685x17,none,.fields #[.str (u [111,98,106]) t,.ref K,.builtin SL.s6779124196712981104x10,.builtin SL.s2924395122027826103x14,.int 0 0],#[]⟩
noncomputable def kFnO (f : FuncData) : Obj := ⟨.type SL.s7174869446012820540x8,none,.func f,#[]⟩
noncomputable def kCeO (f : Nat) : Obj := ⟨.type SL.s15660640913423913556x4,none,.cell (some (.ref f)),#[]⟩
noncomputable def kEdO : Obj := ⟨.type SL.s14018661285674007319x4,none,.dict ⟨[]⟩ 0,#[]⟩
noncomputable def kCdO (xs : List Value) : Obj := ⟨.type SL.s5856160107412720595x4,none,.fields ⟨xs⟩,#[]⟩
noncomputable def kIns (K d : Nat) (x : Str) (t : Tok) : Obj := ⟨.ref K,some d,.plain,#[some (.str x t)]⟩
noncomputable def kcd (nm : List Nat) (qn : List Nat) (l1 : Int) (y : Nat → Nat) : List Value := [.str (u nm) (y 5),.str (u qn) (y 6),.str (u [47,99,108,97,105,109,47,99,117,116,46,112,121]) (y 7),.int l1 0,.int 2 0,.int 0 0,.int 0 0,.int 19 0,.ref (y 0),.bool true,.int 273 0,.ref (y 1),.none,.ref (y 2),.ref (y 3),.ref (y 4),.int (Int.ofNat (y 9)) 0,.int l1 0,.str (u [47,99,108,97,105,109,47,99,117,116,46,112,121]) (y 8)]
noncomputable def kDef (i : Nat) : Option Stmt := match ((bodyAt [21])[0]? : Option Stmt) with
  | some (.ClassDef _ _ _ b _ _ _ _ _ _ _) => b[i]?
  | _ => none
noncomputable def fdK (i : Nat) (name qualname : Str) (cl : List (Str × Addr)) (code : Value) (mo : Value) (ct : Value) : FuncData := match kDef i with
  | some (.FunctionDef _ ps b _ _ _ sc _ _ _) => ⟨name,qualname,ps,.stmts b,sc,3,cl,.none,.none,.none,mo,none,code,ct,0⟩
  | _ => ⟨name,qualname,default,.stmts [],default,3,cl,.none,.none,.none,.none,none,code,ct,0⟩
noncomputable def fdI (ci : Nat) : FuncData := fdK 2 (u [95,95,105,110,105,116,95,95]) (u [99,109,112,95,116,111,95,107,101,121,46,60,108,111,99,97,108,115,62,46,75,46,95,95,105,110,105,116,95,95]) [] (.ref ci) (.str (u [108,97,119,95,105,107,48,49,57,56,95,48,49]) 1176) .none
noncomputable def fdL (cl c ct : Nat) : FuncData := fdK 3 (u [95,95,108,116,95,95]) (u [99,109,112,95,116,111,95,107,101,121,46,60,108,111,99,97,108,115,62,46,75,46,95,95,108,116,95,95]) [((u [109,121,99,109,112]),c)] (.ref cl) (.str (u [108,97,119,95,105,107,48,49,57,56,95,48,49]) 1176) (.ref ct)
noncomputable def cdI (y : Nat → Nat) : Obj := kCdO (kcd [95,95,105,110,105,116,95,95] [99,109,112,95,116,111,95,107,101,121,46,60,108,111,99,97,108,115,62,46,75,46,95,95,105,110,105,116,95,95] 729 y)
noncomputable def cdL (y : Nat → Nat) : Obj := kCdO (kcd [95,95,108,116,95,95] [99,109,112,95,116,111,95,107,101,121,46,60,108,111,99,97,108,115,62,46,75,46,95,95,108,116,95,95] 732 y)
noncomputable def oKnew (P : Params) (sh : List Sk) (h1 h2 h3 h4 h5 : Nat) (E : KE) (K ns md ci : Nat) (to td tm : Tok) (y : Nat → Nat) (x : Str) (t : Tok) : Spec :=
  ⟨.call (.ref K) ⟨[.str x t],[]⟩,sh,[(h1,K,kClsO E K ns),(h2,ns,kNsO P E md to td),(h3,E.fi,kFnO (fdI ci)),(h4,ci,cdI y),(h5,md,kMdO K tm)],fun α _ => .ok (.ret (.ref (α 0))),[],[fun α _ => kIns K (α 1) x t,fun _ _ => kEdO],[],true⟩
noncomputable def oKlt (P : Params) (sh : List Sk) (h1 h2 h3 h4 h5 h6 h7 h8 : Nat) (E : KE) (K ns md cl ct c : Nat) (to td tm : Tok) (yc : Nat → Nat) (ia da ib db : Nat) (x : Str) (tx : Tok) (y : Str) (ty : Tok) (b : Bool) : Spec :=
  ⟨.call (.ref E.fl) ⟨[.ref ia,.ref ib],[]⟩,sh,[(h1,K,kClsO E K ns),(h2,ns,kNsO P E md to td),(h3,E.fl,kFnO (fdL cl c ct)),(h4,cl,cdL yc),(h5,md,kMdO K tm),(h6,c,kCeO 749),(h7,ia,kIns K da x tx),(h8,ib,kIns K db y ty)],fun _ _ => .ok (.ret (.bool b)),[],[],[],true⟩
noncomputable def kLt (x y : Str) : Bool := !decide (y.cps.toList < x.cps.toList) && decide (x.cps.toList < y.cps.toList)
end Mine
end
section
open PySem PySem.W PyProof.Rows
namespace Mine
theorem valid_runP {V : HV} (O : V.Ok) {S : Spec} {fuel : Nat} {z c : Nat} {al : List Nat} (own ro : List (Nat × Ent)) (scr : Nat → Scr) (hpre : S.pre = own.map (fun x => (3 * x.1 + 3,x.2)) ++ ro) (hnd : (own.map (·.1)).Nodup) (hro : ∀ x ∈ ro,x.1 % 3 = 2)
    (run : ∀ (hs : HL S.shape) (p : Pos) (τ : Nat),SH V true fuel [] ⟨S.code,none,none,fillAll S.shape hs,none⟩ p (V.den S.code) (scr τ) (tabOf (ro.map (·.2)) 0 .nil) (tabOf (own.map (·.2)) 0 .nil) own.length ro.length z 0 τ 0 [] [])
    (ok : (tabOk (own.map (·.2)) 0 .nil && tabOk (ro.map (·.2)) 0 .nil) = true)
    (fin : ∀ s : Shared,s.heap.objs.size = z → (∀ i ob,V.top i = some ob → s.heap.get? i = some ob) → (∀ x ∈ S.pre,s.heap.get? x.2.1 = some x.2.2) → FinOk V (fun r s' => ∀ q,r = resF q → (∃ α tk,Leaves S s q s' α tk ∧ ∀ i x,al[i]? = some x → α i = x) ∧ s'.heap.objs.size = z + c) s (fun a => a ∈ own.map (·.2.1)) own.length (scr s.toks)) : ValidP V S z c al := by
  intro hs p s hz htop hp ⟨hap,hpp⟩
  have mo : ∀ x ∈ own,(3 * x.1 + 3,x.2) ∈ S.pre := fun x hx => by rw [hpre]; exact List.mem_append_left _ (List.mem_map_of_mem hx)
  have mr : ∀ x ∈ ro,x ∈ S.pre := fun x hx => by rw [hpre]; exact List.mem_append_right _ hx
  have zz : ∀ k : Nat,(3 * k + 3) % 3 = 0 := fun k => by omega
  have r := run hs p s.toks
  have l1 : own.length = (own.map (·.2)).length := by rw [List.length_map]
  have l2 : ro.length = (ro.map (·.2)).length := by rw [List.length_map]
  rw [l1,l2,← hz] at r
  refine enter O (lT := own.map (·.2)) (lR := ro.map (·.2)) r ok htop (fun x hx => ?_) (fun x hx => ?_) ?_ (fun x hx y hy => ?_) (fun x hx => ?_) ?_
  · obtain ⟨y,hy,rfl⟩ := List.mem_map.mp hx
    exact hp (3 * y.1 + 3,y.2) (mo y hy)
  · obtain ⟨y,hy,rfl⟩ := List.mem_map.mp hx
    exact hp _ (mr y hy)
  · rw [List.map_map]
    rw [List.nodup_iff_pairwise_ne,List.pairwise_map] at hnd ⊢
    refine List.Pairwise.imp_of_mem (fun {x y} hx hy hne he => ?_) hnd
    have := hap.inj _ (mo x hx) (zz _) _ (mo y hy) (zz _) he
    dsimp only at this
    omega
  · obtain ⟨x',hx',rfl⟩ := List.mem_map.mp hx
    obtain ⟨y',hy',rfl⟩ := List.mem_map.mp hy
    exact hap.sep _ (mo x' hx') (zz _) _ (mr y' hy') (hro y' hy')
  · obtain ⟨x',hx',rfl⟩ := List.mem_map.mp hx
    exact hap.top (3 * x'.1 + 3,x'.2) (mo x' hx') (zz _)
  · have := fin s hz htop hp
    rw [l1] at this
    have e : (fun a => a ∈ (own.map (·.2)).map (·.1)) = fun a => a ∈ own.map (·.2.1) := by
      funext a; rw [List.map_map]; rfl
    rw [e]
    exact this
noncomputable def keOf (α : Nat → Nat) : KE := ⟨α 8,α 9,α 2,α 5,α 10,α 11,α 12,α 13,α 14,α 16,α 17,α 18,α 19,α 20,α 21,α 22,α 23,α 24,α 25,α 26,α 27,α 28,α 29,α 30,0⟩
noncomputable def ckL (n τ : Nat) : List (Nat × Nat) := [(0,(n + 60)),(1,(n + 59)),(2,(n + 16)),(3,(n + 15)),(4,(n + 61)),(5,(n + 24)),(6,(n + 23)),(7,(n + 1)),(8,(n + 2)),(9,(n + 9)),(10,(n + 32)),(11,(n + 40)),(12,(n + 48)),(13,(n + 56)),(14,(n + 57)),(15,(n + 17)),(16,(τ + 0)),(17,(τ + 9)),(18,(τ + 13)),(19,(τ + 11)),(20,(τ + 8)),(21,(τ + 12)),(22,(τ + 16)),(23,(τ + 24)),(24,(τ + 33)),(25,(τ + 42)),(26,(τ + 51)),(27,(τ + 60)),(28,(τ + 69)),(29,(τ + 70)),(30,(τ + 72)),(32,(τ + 74)),(33,(τ + 75)),(34,(τ + 73)),(40,(n + 10)),(41,(n + 11)),(42,(n + 12)),(43,(n + 13)),(44,(n + 14)),(45,(τ + 17)),(46,(τ + 18)),(47,(τ + 19)),(48,(τ + 23)),(49,(τ + 22)),(50,(n + 18)),(51,(n + 19)),(52,(n + 20)),(53,(n + 21)),(54,(n + 22)),(55,(τ + 25)),(56,(τ + 26)),(57,(τ + 27)),(58,(τ + 32)),(59,(τ + 31)),(60,(n + 7))]
noncomputable def ckA (n τ i : Nat) : Nat := match (ckL n τ).lookup i with
  | some x => x
  | none => 0
noncomputable def ckT (A : Nat → Nat) : Obj := ⟨.none,none,.fields ⟨[.int 725 0,.int 4 0,.ref (A 60)]⟩,#[]⟩
noncomputable def ckScr (P : Params) (n z : Nat) (A : Nat → Nat) : Scr := .finB [2200,2197,9,9,7,1,10,1,0,0,0,15,18,2197,3,3,3,3,10,13,10,7,18,18,10,18,18,18,18,18,18,18,18,18,0,18,18,18,18,18,18,27,24,24,24,24,10,13,10,18,18,18,27,24,24,24,24,10,13,10,18,18,18,27,24,24,24,24,10,13,10,18,18,18,27,24,24,24,24,10,13,10,18,18,18,27,24,24,24,24,10,13,10,18,18,18,27,24,24,24,24,10,13,10,18,18,18,18,18,18,18,18,18,0,0,12,18,12,18,18,33,0,33,33,180,180,180,180,180,183,183,183,186,186,186,183,183,183,183,183,183,183,186,186,186,186,186,186,186,183,183,183,183,183,186,186,186,186,183,183,183,183,183,183,183,33,54,78,102,126,150,174,177,189,0,186,0,192,192,0,192,186,186,186,192,192,192,192,192,192,192,0,192,192,192,192,7,186,0,186,186,0,195,186,186,186,186,186,186,0,186,6,6,6] ⟨.ok (.done (.ret (.ref (A 0)))),[(0,728,ckT A),(61,A 0,(kClsO (keOf A) (A 0) (A 1))),(60,A 1,(kNsO P (keOf A) (A 4) (A 32) (A 33))),(17,A 2,(kFnO (fdI (A 3)))),(16,A 3,(cdI fun i => A (40 + i))),(62,A 4,(kMdO (A 0) (A 34))),(25,A 5,(kFnO (fdL (A 6) (A 7) (A 15)))),(24,A 6,(cdL fun i => A (50 + i))),(2,A 7,(kCeO 749))],[]⟩ z
noncomputable def oCk (P : Params) (k : Nat) : Spec :=
  ⟨.call (.ref 733) ⟨[.ref 749],[]⟩,cxt_sh,[(3 * k + 3,728,k728 P)],fun α _ => .ok (.ret (.ref (α 0))),[(k,728,fun α _ => ckT α)],
    [fun A _ => (kClsO (keOf A) (A 0) (A 1)),fun A _ => (kNsO P (keOf A) (A 4) (A 32) (A 33)),fun A _ => (kFnO (fdI (A 3))),fun A _ => (cdI fun i => A (40 + i)),fun A _ => (kMdO (A 0) (A 34)),fun A _ => (kFnO (fdL (A 6) (A 7) (A 15))),fun A _ => (cdL fun i => A (50 + i)),fun A _ => (kCeO 749)],[],true⟩
theorem ck_run841 (w : World) (b1 b2 b3 : Bool) (hs : HL cxt_sh) (p : Pos) (τ : Nat) : SH (VX w b1 b2 b3) true 20000 [] ⟨.call (.ref 733) ⟨[.ref 749],[]⟩,none,none,fillAll cxt_sh hs,none⟩ p ((VX w b1 b2 b3).den (.call (.ref 733) ⟨[.ref 749],[]⟩)) (ckScr w.params 841 905 (ckA 841 τ)) (tabOf [] 0 .nil) (tabOf [(728,k728 w.params)] 0 .nil) 1 0 841 0 τ 0 [] [] := by
  exact runOf (adrs [728] 841) (adr1 []) (by kernel_rfl)
theorem vCk841 {w : World} {b1 b2 b3 : Bool} {k : Nat} : ValidP (VX w b1 b2 b3) (oCk w.params k) 841 64 [901] := by
  refine valid_runP (VX_ok _ _ _ _) (fuel := 20000) [(k,728,k728 w.params)] [] (fun τ => ckScr w.params 841 905 (ckA 841 τ)) rfl (by simp) (fun x hx => nomatch hx)
    (fun hs p τ => ck_run841 w b1 b2 b3 hs p τ) rfl (fun s hz _ _ => ?_)
  intro s' L hz' q e
  exact ⟨⟨_,0,leaves_at (S := oCk w.params k) (out := ⟨.ok (.done (.ret (.ref (ckA 841 s.toks 0)))),_,[]⟩) (α := ckA 841 s.toks) (tk := 0) [61,60,17,16,62,25,24,2] L e rfl rfl rfl rfl (fun p hp => by simp only [List.mem_cons,List.not_mem_nil,or_false] at hp; show 1 ≤ p; omega) (by decide),fun i x hx => by
    cases i with
    | zero => cases hx; rfl
    | succ i => cases hx⟩,hz'⟩
theorem ck_run850 (w : World) (b1 b2 b3 : Bool) (hs : HL cxt_sh) (p : Pos) (τ : Nat) : SH (VX w b1 b2 b3) true 20000 [] ⟨.call (.ref 733) ⟨[.ref 749],[]⟩,none,none,fillAll cxt_sh hs,none⟩ p ((VX w b1 b2 b3).den (.call (.ref 733) ⟨[.ref 749],[]⟩)) (ckScr w.params 850 914 (ckA 850 τ)) (tabOf [] 0 .nil) (tabOf [(728,k728 w.params)] 0 .nil) 1 0 850 0 τ 0 [] [] := by
  exact runOf (adrs [728] 850) (adr1 []) (by kernel_rfl)
theorem vCk850 {w : World} {b1 b2 b3 : Bool} {k : Nat} : ValidP (VX w b1 b2 b3) (oCk w.params k) 850 64 [910] := by
  refine valid_runP (VX_ok _ _ _ _) (fuel := 20000) [(k,728,k728 w.params)] [] (fun τ => ckScr w.params 850 914 (ckA 850 τ)) rfl (by simp) (fun x hx => nomatch hx)
    (fun hs p τ => ck_run850 w b1 b2 b3 hs p τ) rfl (fun s hz _ _ => ?_)
  intro s' L hz' q e
  exact ⟨⟨_,0,leaves_at (S := oCk w.params k) (out := ⟨.ok (.done (.ret (.ref (ckA 850 s.toks 0)))),_,[]⟩) (α := ckA 850 s.toks) (tk := 0) [61,60,17,16,62,25,24,2] L e rfl rfl rfl rfl (fun p hp => by simp only [List.mem_cons,List.not_mem_nil,or_false] at hp; show 1 ≤ p; omega) (by decide),fun i x hx => by
    cases i with
    | zero => cases hx; rfl
    | succ i => cases hx⟩,hz'⟩
theorem ck_run859 (w : World) (b1 b2 b3 : Bool) (hs : HL cxt_sh) (p : Pos) (τ : Nat) : SH (VX w b1 b2 b3) true 20000 [] ⟨.call (.ref 733) ⟨[.ref 749],[]⟩,none,none,fillAll cxt_sh hs,none⟩ p ((VX w b1 b2 b3).den (.call (.ref 733) ⟨[.ref 749],[]⟩)) (ckScr w.params 859 923 (ckA 859 τ)) (tabOf [] 0 .nil) (tabOf [(728,k728 w.params)] 0 .nil) 1 0 859 0 τ 0 [] [] := by
  exact runOf (adrs [728] 859) (adr1 []) (by kernel_rfl)
theorem vCk859 {w : World} {b1 b2 b3 : Bool} {k : Nat} : ValidP (VX w b1 b2 b3) (oCk w.params k) 859 64 [919] := by
  refine valid_runP (VX_ok _ _ _ _) (fuel := 20000) [(k,728,k728 w.params)] [] (fun τ => ckScr w.params 859 923 (ckA 859 τ)) rfl (by simp) (fun x hx => nomatch hx)
    (fun hs p τ => ck_run859 w b1 b2 b3 hs p τ) rfl (fun s hz _ _ => ?_)
  intro s' L hz' q e
  exact ⟨⟨_,0,leaves_at (S := oCk w.params k) (out := ⟨.ok (.done (.ret (.ref (ckA 859 s.toks 0)))),_,[]⟩) (α := ckA 859 s.toks) (tk := 0) [61,60,17,16,62,25,24,2] L e rfl rfl rfl rfl (fun p hp => by simp only [List.mem_cons,List.not_mem_nil,or_false] at hp; show 1 ≤ p; omega) (by decide),fun i x hx => by
    cases i with
    | zero => cases hx; rfl
    | succ i => cases hx⟩,hz'⟩
theorem ck_run868 (w : World) (b1 b2 b3 : Bool) (hs : HL cxt_sh) (p : Pos) (τ : Nat) : SH (VX w b1 b2 b3) true 20000 [] ⟨.call (.ref 733) ⟨[.ref 749],[]⟩,none,none,fillAll cxt_sh hs,none⟩ p ((VX w b1 b2 b3).den (.call (.ref 733) ⟨[.ref 749],[]⟩)) (ckScr w.params 868 932 (ckA 868 τ)) (tabOf [] 0 .nil) (tabOf [(728,k728 w.params)] 0 .nil) 1 0 868 0 τ 0 [] [] := by
  exact runOf (adrs [728] 868) (adr1 []) (by kernel_rfl)
theorem vCk868 {w : World} {b1 b2 b3 : Bool} {k : Nat} : ValidP (VX w b1 b2 b3) (oCk w.params k) 868 64 [928] := by
  refine valid_runP (VX_ok _ _ _ _) (fuel := 20000) [(k,728,k728 w.params)] [] (fun τ => ckScr w.params 868 932 (ckA 868 τ)) rfl (by simp) (fun x hx => nomatch hx)
    (fun hs p τ => ck_run868 w b1 b2 b3 hs p τ) rfl (fun s hz _ _ => ?_)
  intro s' L hz' q e
  exact ⟨⟨_,0,leaves_at (S := oCk w.params k) (out := ⟨.ok (.done (.ret (.ref (ckA 868 s.toks 0)))),_,[]⟩) (α := ckA 868 s.toks) (tk := 0) [61,60,17,16,62,25,24,2] L e rfl rfl rfl rfl (fun p hp => by simp only [List.mem_cons,List.not_mem_nil,or_false] at hp; show 1 ≤ p; omega) (by decide),fun i x hx => by
    cases i with
    | zero => cases hx; rfl
    | succ i => cases hx⟩,hz'⟩
theorem ck_run877 (w : World) (b1 b2 b3 : Bool) (hs : HL cxt_sh) (p : Pos) (τ : Nat) : SH (VX w b1 b2 b3) true 20000 [] ⟨.call (.ref 733) ⟨[.ref 749],[]⟩,none,none,fillAll cxt_sh hs,none⟩ p ((VX w b1 b2 b3).den (.call (.ref 733) ⟨[.ref 749],[]⟩)) (ckScr w.params 877 941 (ckA 877 τ)) (tabOf [] 0 .nil) (tabOf [(728,k728 w.params)] 0 .nil) 1 0 877 0 τ 0 [] [] := by
  exact runOf (adrs [728] 877) (adr1 []) (by kernel_rfl)
theorem vCk877 {w : World} {b1 b2 b3 : Bool} {k : Nat} : ValidP (VX w b1 b2 b3) (oCk w.params k) 877 64 [937] := by
  refine valid_runP (VX_ok _ _ _ _) (fuel := 20000) [(k,728,k728 w.params)] [] (fun τ => ckScr w.params 877 941 (ckA 877 τ)) rfl (by simp) (fun x hx => nomatch hx)
    (fun hs p τ => ck_run877 w b1 b2 b3 hs p τ) rfl (fun s hz _ _ => ?_)
  intro s' L hz' q e
  exact ⟨⟨_,0,leaves_at (S := oCk w.params k) (out := ⟨.ok (.done (.ret (.ref (ckA 877 s.toks 0)))),_,[]⟩) (α := ckA 877 s.toks) (tk := 0) [61,60,17,16,62,25,24,2] L e rfl rfl rfl rfl (fun p hp => by simp only [List.mem_cons,List.not_mem_nil,or_false] at hp; show 1 ≤ p; omega) (by decide),fun i x hx => by
    cases i with
    | zero => cases hx; rfl
    | succ i => cases hx⟩,hz'⟩
theorem ck_run886 (w : World) (b1 b2 b3 : Bool) (hs : HL cxt_sh) (p : Pos) (τ : Nat) : SH (VX w b1 b2 b3) true 20000 [] ⟨.call (.ref 733) ⟨[.ref 749],[]⟩,none,none,fillAll cxt_sh hs,none⟩ p ((VX w b1 b2 b3).den (.call (.ref 733) ⟨[.ref 749],[]⟩)) (ckScr w.params 886 950 (ckA 886 τ)) (tabOf [] 0 .nil) (tabOf [(728,k728 w.params)] 0 .nil) 1 0 886 0 τ 0 [] [] := by
  exact runOf (adrs [728] 886) (adr1 []) (by kernel_rfl)
theorem vCk886 {w : World} {b1 b2 b3 : Bool} {k : Nat} : ValidP (VX w b1 b2 b3) (oCk w.params k) 886 64 [946] := by
  refine valid_runP (VX_ok _ _ _ _) (fuel := 20000) [(k,728,k728 w.params)] [] (fun τ => ckScr w.params 886 950 (ckA 886 τ)) rfl (by simp) (fun x hx => nomatch hx)
    (fun hs p τ => ck_run886 w b1 b2 b3 hs p τ) rfl (fun s hz _ _ => ?_)
  intro s' L hz' q e
  exact ⟨⟨_,0,leaves_at (S := oCk w.params k) (out := ⟨.ok (.done (.ret (.ref (ckA 886 s.toks 0)))),_,[]⟩) (α := ckA 886 s.toks) (tk := 0) [61,60,17,16,62,25,24,2] L e rfl rfl rfl rfl (fun p hp => by simp only [List.mem_cons,List.not_mem_nil,or_false] at hp; show 1 ≤ p; omega) (by decide),fun i x hx => by
    cases i with
    | zero => cases hx; rfl
    | succ i => cases hx⟩,hz'⟩
theorem vCk {w : World} {b1 b2 b3 : Bool} {k m : Nat} (hm : m ≤ 5) : ValidP (VX w b1 b2 b3) (oCk w.params k) (841 + 9 * m) 64 [901 + 9 * m] := by
  obtain rfl | rfl | rfl | rfl | rfl | rfl : m = 0 ∨ m = 1 ∨ m = 2 ∨ m = 3 ∨ m = 4 ∨ m = 5 := by omega
  · exact vCk841
  · exact vCk850
  · exact vCk859
  · exact vCk868
  · exact vCk877
  · exact vCk886
end Mine
end
section
open PySem PySem.W PyProof.Rows
namespace Mine
noncomputable def kK (m : Nat) : Nat := 901 + 9 * m
noncomputable def soSh : List Sk := [.blt SL.s2990761230727911720x9,.blt SL.s15201008993051130160x6,.func,.blt SL.s11611643536802374852x12]
noncomputable def kN (P : Params) (m : Nat) (A : Nat → Nat) (x : Str) (t : Tok) : Spec := oKnew P soSh 5 8 11 14 17 (keOf A) (kK m) (A 1) (A 4) (A 3) (A 32) (A 33) (A 34) (fun i => A (40 + i)) x t
noncomputable def kC (P : Params) (m : Nat) (A : Nat → Nat) (ha hb : Nat) (α β : Nat → Nat) (x : Str) (tx : Tok) (y : Str) (ty : Tok) (b : Bool) : Spec :=
  oKlt P soSh 5 8 20 23 17 26 ha hb (keOf A) (kK m) (A 1) (A 4) (A 6) (A 15) (A 7) (A 32) (A 33) (A 34) (fun i => A (50 + i)) (α 0) (α 1) (β 0) (β 1) x tx y ty b
noncomputable def soR (P : Params) (row m : Nat) (A : Nat → Nat) (x0 x1 x2 x3 : Str) (y0 y1 y2 y3 : Tok) (e : Nat) : List Ent := [((row + 788),(rowO x0 x1 x2 x3 y0 y1 y2 y3 e)),((kK m),(kClsO (keOf A) (kK m) (A 1))),((A 1),(kNsO P (keOf A) (A 4) (A 32) (A 33))),((A 2),(kFnO (fdI (A 3)))),((A 3),(cdI fun i => A (40 + i))),((A 4),(kMdO (kK m) (A 34))),((A 5),(kFnO (fdL (A 6) (A 7) (A 15)))),((A 6),(cdL fun i => A (50 + i))),((A 7),(kCeO 749))]
noncomputable def soC (row m : Nat) : Code := .call (.builtin SL.s15201008993051130160x6) ⟨[.ref row],[(u [107,101,121],.ref (kK m))]⟩
noncomputable def SoRun (S : (P : Params) → (n : Nat) → (row m : Nat) → (A : Nat → Nat) → (x0 x1 x2 x3 : Str) → (y0 y1 y2 y3 : Tok) → (e : Nat) → Scr) : Prop := ∀ (w : World) (b1 b2 b3 : Bool) (hs : HL cxt_sh) (p : Pos) (n τ : Nat) (row m : Nat) (A : Nat → Nat) (x0 x1 x2 x3 : Str) (y0 y1 y2 y3 : Tok) (e : Nat),m ≤ 5 →
  SH (VX w b1 b2 b3) true 20000 [] ⟨soC (row + 788) m,none,none,fillAll cxt_sh hs,none⟩ p ((VX w b1 b2 b3).den (soC (row + 788) m)) (S w.params n row m A x0 x1 x2 x3 y0 y1 y2 y3 e) (tabOf (soR w.params row m A x0 x1 x2 x3 y0 y1 y2 y3 e) 0 .nil) (tabOf [] 0 .nil) 0 9 n 0 τ 0 [] []
noncomputable def oSo (P : Params) (h0 h1 h2 h3 h4 h5 h6 h7 h8 : Nat) (row m : Nat) (A : Nat → Nat) (x0 x1 x2 x3 : Str) (y0 y1 y2 y3 : Tok) (e : Nat) (ys : List Value) : Spec :=
  ⟨soC row m,cxt_sh,[(h0,row,rowO x0 x1 x2 x3 y0 y1 y2 y3 e),(h1,kK m,kClsO (keOf A) (kK m) (A 1)),(h2,A 1,kNsO P (keOf A) (A 4) (A 32) (A 33)),(h3,A 2,kFnO (fdI (A 3))),(h4,A 3,cdI fun i => A (40 + i)),(h5,A 4,kMdO (kK m) (A 34)),(h6,A 5,kFnO (fdL (A 6) (A 7) (A 15))),(h7,A 6,cdL fun i => A (50 + i)),(h8,A 7,kCeO 749)],
    fun α _ => .ok (.ret (.ref (α 0))),[],[fun _ _ => lsO ys 2],[],false⟩
noncomputable def knS (P : Params) (n : Nat) (m : Nat) (A : Nat → Nat) (x : Str) (t : Tok) : Scr := (.fin [2,2,2,2,2,2,0,2,2,2,2,2,2,2,2,2,2,2,2,2,2,2,2,2,5,2,2,6,2,6,2,2,5,8,0,8,11,9,9,9,9,7,9,9,6,2,2,5,0,6,2,6,2,6,2,2,5,14,14,0,14,14,14,6,2,14,14,14,14,6,2,6] ⟨.ok (.done (.ret (.ref (n + 1)))),[(1,(n + 1),kIns (kK m) (n + 0) x t),(0,(n + 0),kEdO)],[]⟩)
noncomputable def klS (P : Params) (n : Nat) (m ia da ib db : Nat) (A : Nat → Nat) (x y : Str) (tx ty : Tok) (g l : Bool) : Scr := (.orc [2,5,3,3,3,3,7,8,3,11,14,14,17,0,11,14,14,17,20,20,14,14,17,0,20,20,20,11,14,20,20,20,20,11,14,11,3,23,14,14,17,0,23,14,14,17,20,20,14,14,17,0,20,20,20,23,14,20,20,20,20,23,14,23,2248,0,2248,2245,6,6,6,6,7,6,6] (oGt (.func :: .func :: soSh) x tx y ty g) 2 8 fun α1 tk1 n1 τ1 =>
  (.orc [6,6] (oLt (.func :: .func :: soSh) x tx y ty l) 2 8 fun α2 tk2 n2 τ2 =>
  (.fin [0,0] ⟨.ok (.done (.ret (.bool (!g && l)))),[],[]⟩)))
theorem m5 {m : Nat} (h : m ≤ 5) : m = 0 ∨ m = 1 ∨ m = 2 ∨ m = 3 ∨ m = 4 ∨ m = 5 := by omega
theorem knR (w : World) (b1 b2 b3 : Bool) (hs : HL soSh) (p : Pos) (n τ : Nat) (m : Nat) (A : Nat → Nat) (x : Str) (t : Tok) (hm : m ≤ 5) : SH (VX w b1 b2 b3) true 20000 [] ⟨(kN w.params m A x t).code,none,none,fillAll soSh hs,none⟩ p ((VX w b1 b2 b3).den (kN w.params m A x t).code) (knS w.params n m A x t) (tabOf ((kN w.params m A x t).pre.map (·.2)) 0 .nil) (tabOf [] 0 .nil) 0 5 n 0 τ 0 [] [] := by
  refine runOf (adrs [] n) (adr1 [kK m,A 1,A 2,A 3,A 4]) ?_
  obtain rfl | rfl | rfl | rfl | rfl | rfl := m5 hm <;> kernel_rfl
theorem klR (w : World) (b1 b2 b3 : Bool) (hs : HL soSh) (p : Pos) (n τ : Nat) (m ia da ib db : Nat) (A : Nat → Nat) (x y : Str) (tx ty : Tok) (g l : Bool) (hm : m ≤ 5) : SH (VX w b1 b2 b3) true 20000 [] ⟨.call (.ref (A 5)) ⟨[.ref ia,.ref ib],[]⟩,none,none,fillAll soSh hs,none⟩ p ((VX w b1 b2 b3).den (.call (.ref (A 5)) ⟨[.ref ia,.ref ib],[]⟩)) (klS w.params n m ia da ib db A x y tx ty g l) (tabOf [((A 5),(kFnO (fdL (A 6) (A 7) (A 15)))),((A 6),(cdL fun i => A (50 + i))),((A 7),(kCeO 749)),(ia,(kIns (kK m) da x tx)),((kK m),(kClsO (keOf A) (kK m) (A 1))),((A 1),(kNsO w.params (keOf A) (A 4) (A 32) (A 33))),((A 4),(kMdO (kK m) (A 34))),(ib,(kIns (kK m) db y ty))] 0 .nil) (tabOf [] 0 .nil) 0 8 n 0 τ 0 [] [] := by
  refine runOf (adrs [] n) (adr1 [A 5,A 6,A 7,ia,kK m,A 1,A 4,ib]) ?_
  obtain rfl | rfl | rfl | rfl | rfl | rfl := m5 hm <;> cases b1 <;> cases g <;> cases l <;> kernel_rfl
theorem valid_run0 {V : HV} (O : V.Ok) {S : Spec} {fuel : Nat} (ro : List (Nat × Ent)) (scr : Nat → Nat → Scr) (hpre : ∀ x ∈ ro,x ∈ S.pre)
    (run : ∀ (hs : HL S.shape) (p : Pos) (n τ : Nat),SH V true fuel [] ⟨S.code,none,none,fillAll S.shape hs,none⟩ p (V.den S.code) (scr n τ) (tabOf (ro.map (·.2)) 0 .nil) (tabOf [] 0 .nil) 0 ro.length n 0 τ 0 [] [])
    (ok : (tabOk ([] : List Ent) 0 .nil && tabOk (ro.map (·.2)) 0 .nil) = true)
    (fin : ∀ s : Shared,FinOk V (fun r s' => ∀ q,r = resF q → ∃ α tk,Leaves S s q s' α tk) s (fun a => a ∈ ([] : List Addr)) 0 (scr s.heap.objs.size s.toks)) : Valid V S := by
  intro hs p s htop hp ⟨hap,hpp⟩
  have r := run hs p s.heap.objs.size s.toks
  have l2 : ro.length = (ro.map (·.2)).length := by rw [List.length_map]
  rw [l2] at r
  refine enter O (lT := []) (lR := ro.map (·.2)) r ok htop (fun x hx => nomatch hx) (fun x hx => ?_) List.nodup_nil (fun x hx => nomatch hx) (fun x hx => nomatch hx) (fin s)
  obtain ⟨y,hy,rfl⟩ := List.mem_map.mp hx
  exact hp y (hpre y hy)
theorem pk {β : Type} {r l : List β} (is : List Nat) (h : r = is.filterMap (l[·]?)) : ∀ x ∈ r,x ∈ l := by
  subst h
  intro x hx
  obtain ⟨i,_,hi⟩ := List.mem_filterMap.mp hx
  exact List.mem_of_getElem? hi
theorem vkN {w : World} {b1 b2 b3 : Bool} {m : Nat} {A : Nat → Nat} {x : Str} {t : Tok} (hm : m ≤ 5) : Valid (VX w b1 b2 b3) (kN w.params m A x t) := by
  refine valid_run0 (VX_ok _ _ _ _) (kN w.params m A x t).pre (fun n τ => knS w.params n m A x t) (fun _ h => h) (fun hs p n τ => knR w b1 b2 b3 hs p n τ m A x t hm) rfl fun s s' L q e => ?_
  exact leaves_end (S := kN w.params m A x t) (own := []) (α := fun i => match i with | 0 => s.heap.objs.size + 1 | _ => s.heap.objs.size + 0) (tk := 0) [1,0] L e rfl rfl rfl rfl (by simp) (by decide)
theorem vkC {w : World} {b1 b2 b3 : Bool} {m ha hb : Nat} {A α β : Nat → Nat} {x y : Str} {tx ty : Tok} {b : Bool} (hm : m ≤ 5) (h : kLt x y = b) : Valid (VX w b1 b2 b3) (kC w.params m A ha hb α β x tx y ty b) := by
  subst h
  refine valid_run0 (VX_ok _ _ _ _) (S := kC w.params m A ha hb α β x tx y ty (kLt x y)) [(20,(A 5),(kFnO (fdL (A 6) (A 7) (A 15)))),(23,(A 6),(cdL fun i => A (50 + i))),(26,(A 7),(kCeO 749)),(ha,α 0,(kIns (kK m) (α 1) x tx)),(5,(kK m),(kClsO (keOf A) (kK m) (A 1))),(8,(A 1),(kNsO w.params (keOf A) (A 4) (A 32) (A 33))),(17,(A 4),(kMdO (kK m) (A 34))),(hb,β 0,(kIns (kK m) (β 1) y ty))] (fun n τ => klS w.params n m (α 0) (α 1) (β 0) (β 1) A x y tx ty _ _) (pk [2,3,5,6,0,1,4,7] rfl) (fun hs p n τ => klR w b1 b2 b3 hs p n τ m (α 0) (α 1) (β 0) (β 1) A x y tx ty (decide (y.cps.toList < x.cps.toList)) (decide (x.cps.toList < y.cps.toList)) hm) rfl fun s => ?_
  refine ⟨vGt rfl,fun _ _ _ _ _ => ⟨vLt rfl,fun _ _ _ _ _ s' L q e => ?_⟩⟩
  exact leaves_end (S := kC w.params m A ha hb α β x tx y ty (kLt x y)) (own := []) (α := fun _ => 0) (tk := 0) [] L e rfl rfl rfl rfl (by simp) (by simp)
theorem nx {V : HV} {Q : Except Value PySem.Fin → Shared → Prop} {s : Shared} {A : Addr → Prop} {m₀ : Nat} {hs : List Nat} {S : Spec} {m r : Nat} {rest : (Nat → Nat) → Tok → Nat → Nat → Scr} (h : Valid V S) (H : ∀ α tk n τ,FinOk V Q s A m₀ (rest α tk n τ)) : FinOk V Q s A m₀ (.orc hs S m r rest) := ⟨h,fun α tk n τ _ => H α tk n τ⟩
theorem so_valid {w : World} {b1 b2 b3 : Bool} {S : (P : Params) → (n : Nat) → (row m : Nat) → (A : Nat → Nat) → (x0 x1 x2 x3 : Str) → (y0 y1 y2 y3 : Tok) → (e : Nat) → Scr} (hS : SoRun S) {h0 h1 h2 h3 h4 h5 h6 h7 h8 : Nat} (row m : Nat) (A : Nat → Nat) (x0 x1 x2 x3 : Str) (y0 y1 y2 y3 : Tok) (e : Nat) {ys : List Value} (hm : m ≤ 5) (hr : 788 ≤ row)
    (F : ∀ (s : Shared) (row : Nat),FinOk (VX w b1 b2 b3) (fun r s' => ∀ q,r = resF q → ∃ α tk,Leaves (oSo w.params h0 h1 h2 h3 h4 h5 h6 h7 h8 (row + 788) m A x0 x1 x2 x3 y0 y1 y2 y3 e ys) s q s' α tk) s (fun a => a ∈ ([] : List Addr)) 0 (S w.params s.heap.objs.size row m A x0 x1 x2 x3 y0 y1 y2 y3 e)) :
    Valid (VX w b1 b2 b3) (oSo w.params h0 h1 h2 h3 h4 h5 h6 h7 h8 row m A x0 x1 x2 x3 y0 y1 y2 y3 e ys) := by
  obtain ⟨row,rfl⟩ : ∃ k,row = k + 788 := ⟨row - 788,by omega⟩
  exact valid_run0 (VX_ok _ _ _ _) (fuel := 20000) (oSo w.params h0 h1 h2 h3 h4 h5 h6 h7 h8 (row + 788) m A x0 x1 x2 x3 y0 y1 y2 y3 e ys).pre (fun n τ => S w.params n row m A x0 x1 x2 x3 y0 y1 y2 y3 e) (fun _ h => h) (fun hs p n τ => hS w b1 b2 b3 hs p n τ row m A x0 x1 x2 x3 y0 y1 y2 y3 e hm) rfl (fun s => F s row)
noncomputable def so0123 (P : Params) (n : Nat) (row m : Nat) (A : Nat → Nat) (x0 x1 x2 x3 : Str) (y0 y1 y2 y3 : Tok) (e : Nat) : Scr := (.orc [] (oCol (.blt SL.s15201008993051130160x6 :: cxt_sh) 2 (row + 788) [(.str x0 y0),(.str x1 y1),(.str x2 y2),(.str x3 y3)] e) 0 9 fun α1 tk1 n1 τ1 =>
 (.orc [3,0,6,6,6,6,6,6] (kN P m A x0 y0) 4 9 fun α2 tk2 n2 τ2 =>
 (.orc [12,12,12] (kN P m A x1 y1) 4 11 fun α3 tk3 n3 τ3 =>
 (.orc [12,12,12] (kN P m A x2 y2) 4 13 fun α4 tk4 n4 τ4 =>
 (.orc [12,12,12] (kN P m A x3 y3) 4 15 fun α5 tk5 n5 τ5 =>
 (.orc [12,12,12,12,29,35,41,47,29,35,41,47,35,5,5,8,20] (kC P m A 35 29 α3 α2 x1 y1 x0 y0 false) 4 17 fun α6 tk6 n6 τ6 =>
 (.orc [41,5,5,8,20] (kC P m A 41 35 α4 α3 x2 y2 x1 y1 false) 4 17 fun α7 tk7 n7 τ7 =>
 (.orc [47,5,5,8,20] (kC P m A 47 41 α5 α4 x3 y3 x2 y2 false) 4 17 fun α8 tk8 n8 τ8 =>
 (.fin [12,12,12,6,6,6,6] ⟨.ok (.done (.ret (.ref (n1 + 0)))),[(1,(n1 + 0),lsO [(.str x0 y0),(.str x1 y1),(.str x2 y2),(.str x3 y3)] 2)],[]⟩)))))))))
theorem so0123R : SoRun so0123 := by
  intro w b1 b2 b3 hs p n τ row m A x0 x1 x2 x3 y0 y1 y2 y3 e hm
  refine runOf (adrs [] n) (adr1 [row + 788,kK m,A 1,A 2,A 3,A 4,A 5,A 6,A 7]) ?_
  obtain rfl | rfl | rfl | rfl | rfl | rfl := m5 hm
  all_goals cases b1 <;> kernel_rfl
theorem so0123V {w : World} {b1 b2 b3 : Bool} {h0 h1 h2 h3 h4 h5 h6 h7 h8 : Nat} {row m : Nat} {A : Nat → Nat} {x0 x1 x2 x3 : Str} {y0 y1 y2 y3 : Tok} {e : Nat} (hm : m ≤ 5) (hr : 788 ≤ row)
    (_ : kLt x0 x1 = true) (_ : kLt x0 x2 = true) (_ : kLt x0 x3 = true) (_ : kLt x1 x0 = false) (_ : kLt x1 x2 = true) (_ : kLt x1 x3 = true) (_ : kLt x2 x0 = false) (_ : kLt x2 x1 = false) (_ : kLt x2 x3 = true) (_ : kLt x3 x0 = false) (_ : kLt x3 x1 = false) (_ : kLt x3 x2 = false) : Valid (VX w b1 b2 b3) (oSo w.params h0 h1 h2 h3 h4 h5 h6 h7 h8 row m A x0 x1 x2 x3 y0 y1 y2 y3 e [(.str x0 y0),(.str x1 y1),(.str x2 y2),(.str x3 y3)]) := by
  refine so_valid so0123R row m A x0 x1 x2 x3 y0 y1 y2 y3 e hm hr fun s row => ?_
  refine nx (vCol (by simp) (by simp)) fun α tk n τ => ?_
  iterate 4 refine nx (vkN hm) fun _ _ _ _ => ?_
  iterate 3 refine nx (vkC hm (by assumption)) fun _ _ _ _ => ?_
  intro s' L q e'
  exact leaves_end (S := oSo w.params h0 h1 h2 h3 h4 h5 h6 h7 h8 (row + 788) m A x0 x1 x2 x3 y0 y1 y2 y3 e [(.str x0 y0),(.str x1 y1),(.str x2 y2),(.str x3 y3)]) (own := []) (out := ⟨.ok (.done (.ret (.ref (n + 0)))),_,[]⟩) (α := fun _ => n + 0) (tk := 0) [1] L e' rfl rfl rfl rfl (by simp) (by decide)
noncomputable def so0132 (P : Params) (n : Nat) (row m : Nat) (A : Nat → Nat) (x0 x1 x2 x3 : Str) (y0 y1 y2 y3 : Tok) (e : Nat) : Scr := (.orc [] (oCol (.blt SL.s15201008993051130160x6 :: cxt_sh) 2 (row + 788) [(.str x0 y0),(.str x1 y1),(.str x2 y2),(.str x3 y3)] e) 0 9 fun α1 tk1 n1 τ1 =>
 (.orc [3,0,6,6,6,6,6,6] (kN P m A x0 y0) 4 9 fun α2 tk2 n2 τ2 =>
 (.orc [12,12,12] (kN P m A x1 y1) 4 11 fun α3 tk3 n3 τ3 =>
 (.orc [12,12,12] (kN P m A x2 y2) 4 13 fun α4 tk4 n4 τ4 =>
 (.orc [12,12,12] (kN P m A x3 y3) 4 15 fun α5 tk5 n5 τ5 =>
 (.orc [12,12,12,12,29,35,41,47,29,35,41,47,35,5,5,8,20] (kC P m A 35 29 α3 α2 x1 y1 x0 y0 false) 4 17 fun α6 tk6 n6 τ6 =>
 (.orc [41,5,5,8,20] (kC P m A 41 35 α4 α3 x2 y2 x1 y1 false) 4 17 fun α7 tk7 n7 τ7 =>
 (.orc [47,5,5,8,20] (kC P m A 47 41 α5 α4 x3 y3 x2 y2 true) 4 17 fun α8 tk8 n8 τ8 =>
 (.orc [29,5,5,8,20] (kC P m A 29 41 α2 α4 x0 y0 x2 y2 true) 4 17 fun α9 tk9 n9 τ9 =>
 (.orc [47,5,5,8,20] (kC P m A 47 35 α5 α3 x3 y3 x1 y1 false) 4 17 fun α10 tk10 n10 τ10 =>
 (.orc [47,5,5,8,20] (kC P m A 47 41 α5 α4 x3 y3 x2 y2 true) 4 17 fun α11 tk11 n11 τ11 =>
 (.fin [12,12,12,6,6,6,6] ⟨.ok (.done (.ret (.ref (n1 + 0)))),[(1,(n1 + 0),lsO [(.str x0 y0),(.str x1 y1),(.str x3 y3),(.str x2 y2)] 2)],[]⟩))))))))))))
theorem so0132R : SoRun so0132 := by
  intro w b1 b2 b3 hs p n τ row m A x0 x1 x2 x3 y0 y1 y2 y3 e hm
  refine runOf (adrs [] n) (adr1 [row + 788,kK m,A 1,A 2,A 3,A 4,A 5,A 6,A 7]) ?_
  obtain rfl | rfl | rfl | rfl | rfl | rfl := m5 hm
  all_goals cases b1 <;> kernel_rfl
theorem so0132V {w : World} {b1 b2 b3 : Bool} {h0 h1 h2 h3 h4 h5 h6 h7 h8 : Nat} {row m : Nat} {A : Nat → Nat} {x0 x1 x2 x3 : Str} {y0 y1 y2 y3 : Tok} {e : Nat} (hm : m ≤ 5) (hr : 788 ≤ row)
    (_ : kLt x0 x1 = true) (_ : kLt x0 x2 = true) (_ : kLt x0 x3 = true) (_ : kLt x1 x0 = false) (_ : kLt x1 x2 = true) (_ : kLt x1 x3 = true) (_ : kLt x2 x0 = false) (_ : kLt x2 x1 = false) (_ : kLt x2 x3 = false) (_ : kLt x3 x0 = false) (_ : kLt x3 x1 = false) (_ : kLt x3 x2 = true) : Valid (VX w b1 b2 b3) (oSo w.params h0 h1 h2 h3 h4 h5 h6 h7 h8 row m A x0 x1 x2 x3 y0 y1 y2 y3 e [(.str x0 y0),(.str x1 y1),(.str x3 y3),(.str x2 y2)]) := by
  refine so_valid so0132R row m A x0 x1 x2 x3 y0 y1 y2 y3 e hm hr fun s row => ?_
  refine nx (vCol (by simp) (by simp)) fun α tk n τ => ?_
  iterate 4 refine nx (vkN hm) fun _ _ _ _ => ?_
  iterate 6 refine nx (vkC hm (by assumption)) fun _ _ _ _ => ?_
  intro s' L q e'
  exact leaves_end (S := oSo w.params h0 h1 h2 h3 h4 h5 h6 h7 h8 (row + 788) m A x0 x1 x2 x3 y0 y1 y2 y3 e [(.str x0 y0),(.str x1 y1),(.str x3 y3),(.str x2 y2)]) (own := []) (out := ⟨.ok (.done (.ret (.ref (n + 0)))),_,[]⟩) (α := fun _ => n + 0) (tk := 0) [1] L e' rfl rfl rfl rfl (by simp) (by decide)
noncomputable def so0213 (P : Params) (n : Nat) (row m : Nat) (A : Nat → Nat) (x0 x1 x2 x3 : Str) (y0 y1 y2 y3 : Tok) (e : Nat) : Scr := (.orc [] (oCol (.blt SL.s15201008993051130160x6 :: cxt_sh) 2 (row + 788) [(.str x0 y0),(.str x1 y1),(.str x2 y2),(.str x3 y3)] e) 0 9 fun α1 tk1 n1 τ1 =>
 (.orc [3,0,6,6,6,6,6,6] (kN P m A x0 y0) 4 9 fun α2 tk2 n2 τ2 =>
 (.orc [12,12,12] (kN P m A x1 y1) 4 11 fun α3 tk3 n3 τ3 =>
 (.orc [12,12,12] (kN P m A x2 y2) 4 13 fun α4 tk4 n4 τ4 =>
 (.orc [12,12,12] (kN P m A x3 y3) 4 15 fun α5 tk5 n5 τ5 =>
 (.orc [12,12,12,12,29,35,41,47,29,35,41,47,35,5,5,8,20] (kC P m A 35 29 α3 α2 x1 y1 x0 y0 false) 4 17 fun α6 tk6 n6 τ6 =>
 (.orc [41,5,5,8,20] (kC P m A 41 35 α4 α3 x2 y2 x1 y1 true) 4 17 fun α7 tk7 n7 τ7 =>
 (.orc [29,5,5,8,20] (kC P m A 29 35 α2 α3 x0 y0 x1 y1 true) 4 17 fun α8 tk8 n8 τ8 =>
 (.orc [41,5,5,8,20] (kC P m A 41 35 α4 α3 x2 y2 x1 y1 true) 4 17 fun α9 tk9 n9 τ9 =>
 (.orc [41,5,5,8,20] (kC P m A 41 29 α4 α2 x2 y2 x0 y0 false) 4 17 fun α10 tk10 n10 τ10 =>
 (.orc [47,5,5,8,20] (kC P m A 47 41 α5 α4 x3 y3 x2 y2 false) 4 17 fun α11 tk11 n11 τ11 =>
 (.orc [47,5,5,8,20] (kC P m A 47 35 α5 α3 x3 y3 x1 y1 false) 4 17 fun α12 tk12 n12 τ12 =>
 (.fin [12,12,12,6,6,6,6] ⟨.ok (.done (.ret (.ref (n1 + 0)))),[(1,(n1 + 0),lsO [(.str x0 y0),(.str x2 y2),(.str x1 y1),(.str x3 y3)] 2)],[]⟩)))))))))))))
theorem so0213R : SoRun so0213 := by
  intro w b1 b2 b3 hs p n τ row m A x0 x1 x2 x3 y0 y1 y2 y3 e hm
  refine runOf (adrs [] n) (adr1 [row + 788,kK m,A 1,A 2,A 3,A 4,A 5,A 6,A 7]) ?_
  obtain rfl | rfl | rfl | rfl | rfl | rfl := m5 hm
  all_goals cases b1 <;> kernel_rfl
theorem so0213V {w : World} {b1 b2 b3 : Bool} {h0 h1 h2 h3 h4 h5 h6 h7 h8 : Nat} {row m : Nat} {A : Nat → Nat} {x0 x1 x2 x3 : Str} {y0 y1 y2 y3 : Tok} {e : Nat} (hm : m ≤ 5) (hr : 788 ≤ row)
    (_ : kLt x0 x1 = true) (_ : kLt x0 x2 = true) (_ : kLt x0 x3 = true) (_ : kLt x1 x0 = false) (_ : kLt x1 x2 = false) (_ : kLt x1 x3 = true) (_ : kLt x2 x0 = false) (_ : kLt x2 x1 = true) (_ : kLt x2 x3 = true) (_ : kLt x3 x0 = false) (_ : kLt x3 x1 = false) (_ : kLt x3 x2 = false) : Valid (VX w b1 b2 b3) (oSo w.params h0 h1 h2 h3 h4 h5 h6 h7 h8 row m A x0 x1 x2 x3 y0 y1 y2 y3 e [(.str x0 y0),(.str x2 y2),(.str x1 y1),(.str x3 y3)]) := by
  refine so_valid so0213R row m A x0 x1 x2 x3 y0 y1 y2 y3 e hm hr fun s row => ?_
  refine nx (vCol (by simp) (by simp)) fun α tk n τ => ?_
  iterate 4 refine nx (vkN hm) fun _ _ _ _ => ?_
  iterate 7 refine nx (vkC hm (by assumption)) fun _ _ _ _ => ?_
  intro s' L q e'
  exact leaves_end (S := oSo w.params h0 h1 h2 h3 h4 h5 h6 h7 h8 (row + 788) m A x0 x1 x2 x3 y0 y1 y2 y3 e [(.str x0 y0),(.str x2 y2),(.str x1 y1),(.str x3 y3)]) (own := []) (out := ⟨.ok (.done (.ret (.ref (n + 0)))),_,[]⟩) (α := fun _ => n + 0) (tk := 0) [1] L e' rfl rfl rfl rfl (by simp) (by decide)
noncomputable def so0231 (P : Params) (n : Nat) (row m : Nat) (A : Nat → Nat) (x0 x1 x2 x3 : Str) (y0 y1 y2 y3 : Tok) (e : Nat) : Scr := (.orc [] (oCol (.blt SL.s15201008993051130160x6 :: cxt_sh) 2 (row + 788) [(.str x0 y0),(.str x1 y1),(.str x2 y2),(.str x3 y3)] e) 0 9 fun α1 tk1 n1 τ1 =>
 (.orc [3,0,6,6,6,6,6,6] (kN P m A x0 y0) 4 9 fun α2 tk2 n2 τ2 =>
 (.orc [12,12,12] (kN P m A x1 y1) 4 11 fun α3 tk3 n3 τ3 =>
 (.orc [12,12,12] (kN P m A x2 y2) 4 13 fun α4 tk4 n4 τ4 =>
 (.orc [12,12,12] (kN P m A x3 y3) 4 15 fun α5 tk5 n5 τ5 =>
 (.orc [12,12,12,12,29,35,41,47,29,35,41,47,35,5,5,8,20] (kC P m A 35 29 α3 α2 x1 y1 x0 y0 false) 4 17 fun α6 tk6 n6 τ6 =>
 (.orc [41,5,5,8,20] (kC P m A 41 35 α4 α3 x2 y2 x1 y1 false) 4 17 fun α7 tk7 n7 τ7 =>
 (.orc [47,5,5,8,20] (kC P m A 47 41 α5 α4 x3 y3 x2 y2 true) 4 17 fun α8 tk8 n8 τ8 =>
 (.orc [29,5,5,8,20] (kC P m A 29 41 α2 α4 x0 y0 x2 y2 true) 4 17 fun α9 tk9 n9 τ9 =>
 (.orc [47,5,5,8,20] (kC P m A 47 35 α5 α3 x3 y3 x1 y1 true) 4 17 fun α10 tk10 n10 τ10 =>
 (.orc [47,5,5,8,20] (kC P m A 47 29 α5 α2 x3 y3 x0 y0 false) 4 17 fun α11 tk11 n11 τ11 =>
 (.fin [12,12,12,6,6,6,6] ⟨.ok (.done (.ret (.ref (n1 + 0)))),[(1,(n1 + 0),lsO [(.str x0 y0),(.str x3 y3),(.str x1 y1),(.str x2 y2)] 2)],[]⟩))))))))))))
theorem so0231R : SoRun so0231 := by
  intro w b1 b2 b3 hs p n τ row m A x0 x1 x2 x3 y0 y1 y2 y3 e hm
  refine runOf (adrs [] n) (adr1 [row + 788,kK m,A 1,A 2,A 3,A 4,A 5,A 6,A 7]) ?_
  obtain rfl | rfl | rfl | rfl | rfl | rfl := m5 hm
  all_goals cases b1 <;> kernel_rfl
theorem so0231V {w : World} {b1 b2 b3 : Bool} {h0 h1 h2 h3 h4 h5 h6 h7 h8 : Nat} {row m : Nat} {A : Nat → Nat} {x0 x1 x2 x3 : Str} {y0 y1 y2 y3 : Tok} {e : Nat} (hm : m ≤ 5) (hr : 788 ≤ row)
    (_ : kLt x0 x1 = true) (_ : kLt x0 x2 = true) (_ : kLt x0 x3 = true) (_ : kLt x1 x0 = false) (_ : kLt x1 x2 = true) (_ : kLt x1 x3 = false) (_ : kLt x2 x0 = false) (_ : kLt x2 x1 = false) (_ : kLt x2 x3 = false) (_ : kLt x3 x0 = false) (_ : kLt x3 x1 = true) (_ : kLt x3 x2 = true) : Valid (VX w b1 b2 b3) (oSo w.params h0 h1 h2 h3 h4 h5 h6 h7 h8 row m A x0 x1 x2 x3 y0 y1 y2 y3 e [(.str x0 y0),(.str x3 y3),(.str x1 y1),(.str x2 y2)]) := by
  refine so_valid so0231R row m A x0 x1 x2 x3 y0 y1 y2 y3 e hm hr fun s row => ?_
  refine nx (vCol (by simp) (by simp)) fun α tk n τ => ?_
  iterate 4 refine nx (vkN hm) fun _ _ _ _ => ?_
  iterate 6 refine nx (vkC hm (by assumption)) fun _ _ _ _ => ?_
  intro s' L q e'
  exact leaves_end (S := oSo w.params h0 h1 h2 h3 h4 h5 h6 h7 h8 (row + 788) m A x0 x1 x2 x3 y0 y1 y2 y3 e [(.str x0 y0),(.str x3 y3),(.str x1 y1),(.str x2 y2)]) (own := []) (out := ⟨.ok (.done (.ret (.ref (n + 0)))),_,[]⟩) (α := fun _ => n + 0) (tk := 0) [1] L e' rfl rfl rfl rfl (by simp) (by decide)
noncomputable def so0312 (P : Params) (n : Nat) (row m : Nat) (A : Nat → Nat) (x0 x1 x2 x3 : Str) (y0 y1 y2 y3 : Tok) (e : Nat) : Scr := (.orc [] (oCol (.blt SL.s15201008993051130160x6 :: cxt_sh) 2 (row + 788) [(.str x0 y0),(.str x1 y1),(.str x2 y2),(.str x3 y3)] e) 0 9 fun α1 tk1 n1 τ1 =>
 (.orc [3,0,6,6,6,6,6,6] (kN P m A x0 y0) 4 9 fun α2 tk2 n2 τ2 =>
 (.orc [12,12,12] (kN P m A x1 y1) 4 11 fun α3 tk3 n3 τ3 =>
 (.orc [12,12,12] (kN P m A x2 y2) 4 13 fun α4 tk4 n4 τ4 =>
 (.orc [12,12,12] (kN P m A x3 y3) 4 15 fun α5 tk5 n5 τ5 =>
 (.orc [12,12,12,12,29,35,41,47,29,35,41,47,35,5,5,8,20] (kC P m A 35 29 α3 α2 x1 y1 x0 y0 false) 4 17 fun α6 tk6 n6 τ6 =>
 (.orc [41,5,5,8,20] (kC P m A 41 35 α4 α3 x2 y2 x1 y1 true) 4 17 fun α7 tk7 n7 τ7 =>
 (.orc [29,5,5,8,20] (kC P m A 29 35 α2 α3 x0 y0 x1 y1 true) 4 17 fun α8 tk8 n8 τ8 =>
 (.orc [41,5,5,8,20] (kC P m A 41 35 α4 α3 x2 y2 x1 y1 true) 4 17 fun α9 tk9 n9 τ9 =>
 (.orc [41,5,5,8,20] (kC P m A 41 29 α4 α2 x2 y2 x0 y0 false) 4 17 fun α10 tk10 n10 τ10 =>
 (.orc [47,5,5,8,20] (kC P m A 47 41 α5 α4 x3 y3 x2 y2 false) 4 17 fun α11 tk11 n11 τ11 =>
 (.orc [47,5,5,8,20] (kC P m A 47 35 α5 α3 x3 y3 x1 y1 true) 4 17 fun α12 tk12 n12 τ12 =>
 (.fin [12,12,12,6,6,6,6] ⟨.ok (.done (.ret (.ref (n1 + 0)))),[(1,(n1 + 0),lsO [(.str x0 y0),(.str x2 y2),(.str x3 y3),(.str x1 y1)] 2)],[]⟩)))))))))))))
theorem so0312R : SoRun so0312 := by
  intro w b1 b2 b3 hs p n τ row m A x0 x1 x2 x3 y0 y1 y2 y3 e hm
  refine runOf (adrs [] n) (adr1 [row + 788,kK m,A 1,A 2,A 3,A 4,A 5,A 6,A 7]) ?_
  obtain rfl | rfl | rfl | rfl | rfl | rfl := m5 hm
  all_goals cases b1 <;> kernel_rfl
theorem so0312V {w : World} {b1 b2 b3 : Bool} {h0 h1 h2 h3 h4 h5 h6 h7 h8 : Nat} {row m : Nat} {A : Nat → Nat} {x0 x1 x2 x3 : Str} {y0 y1 y2 y3 : Tok} {e : Nat} (hm : m ≤ 5) (hr : 788 ≤ row)
    (_ : kLt x0 x1 = true) (_ : kLt x0 x2 = true) (_ : kLt x0 x3 = true) (_ : kLt x1 x0 = false) (_ : kLt x1 x2 = false) (_ : kLt x1 x3 = false) (_ : kLt x2 x0 = false) (_ : kLt x2 x1 = true) (_ : kLt x2 x3 = true) (_ : kLt x3 x0 = false) (_ : kLt x3 x1 = true) (_ : kLt x3 x2 = false) : Valid (VX w b1 b2 b3) (oSo w.params h0 h1 h2 h3 h4 h5 h6 h7 h8 row m A x0 x1 x2 x3 y0 y1 y2 y3 e [(.str x0 y0),(.str x2 y2),(.str x3 y3),(.str x1 y1)]) := by
  refine so_valid so0312R row m A x0 x1 x2 x3 y0 y1 y2 y3 e hm hr fun s row => ?_
  refine nx (vCol (by simp) (by simp)) fun α tk n τ => ?_
  iterate 4 refine nx (vkN hm) fun _ _ _ _ => ?_
  iterate 7 refine nx (vkC hm (by assumption)) fun _ _ _ _ => ?_
  intro s' L q e'
  exact leaves_end (S := oSo w.params h0 h1 h2 h3 h4 h5 h6 h7 h8 (row + 788) m A x0 x1 x2 x3 y0 y1 y2 y3 e [(.str x0 y0),(.str x2 y2),(.str x3 y3),(.str x1 y1)]) (own := []) (out := ⟨.ok (.done (.ret (.ref (n + 0)))),_,[]⟩) (α := fun _ => n + 0) (tk := 0) [1] L e' rfl rfl rfl rfl (by simp) (by decide)
noncomputable def so0321 (P : Params) (n : Nat) (row m : Nat) (A : Nat → Nat) (x0 x1 x2 x3 : Str) (y0 y1 y2 y3 : Tok) (e : Nat) : Scr := (.orc [] (oCol (.blt SL.s15201008993051130160x6 :: cxt_sh) 2 (row + 788) [(.str x0 y0),(.str x1 y1),(.str x2 y2),(.str x3 y3)] e) 0 9 fun α1 tk1 n1 τ1 =>
 (.orc [3,0,6,6,6,6,6,6] (kN P m A x0 y0) 4 9 fun α2 tk2 n2 τ2 =>
 (.orc [12,12,12] (kN P m A x1 y1) 4 11 fun α3 tk3 n3 τ3 =>
 (.orc [12,12,12] (kN P m A x2 y2) 4 13 fun α4 tk4 n4 τ4 =>
 (.orc [12,12,12] (kN P m A x3 y3) 4 15 fun α5 tk5 n5 τ5 =>
 (.orc [12,12,12,12,29,35,41,47,29,35,41,47,35,5,5,8,20] (kC P m A 35 29 α3 α2 x1 y1 x0 y0 false) 4 17 fun α6 tk6 n6 τ6 =>
 (.orc [41,5,5,8,20] (kC P m A 41 35 α4 α3 x2 y2 x1 y1 true) 4 17 fun α7 tk7 n7 τ7 =>
 (.orc [29,5,5,8,20] (kC P m A 29 35 α2 α3 x0 y0 x1 y1 true) 4 17 fun α8 tk8 n8 τ8 =>
 (.orc [41,5,5,8,20] (kC P m A 41 35 α4 α3 x2 y2 x1 y1 true) 4 17 fun α9 tk9 n9 τ9 =>
 (.orc [41,5,5,8,20] (kC P m A 41 29 α4 α2 x2 y2 x0 y0 false) 4 17 fun α10 tk10 n10 τ10 =>
 (.orc [47,5,5,8,20] (kC P m A 47 41 α5 α4 x3 y3 x2 y2 true) 4 17 fun α11 tk11 n11 τ11 =>
 (.orc [47,5,5,8,20] (kC P m A 47 29 α5 α2 x3 y3 x0 y0 false) 4 17 fun α12 tk12 n12 τ12 =>
 (.fin [12,12,12,6,6,6,6] ⟨.ok (.done (.ret (.ref (n1 + 0)))),[(1,(n1 + 0),lsO [(.str x0 y0),(.str x3 y3),(.str x2 y2),(.str x1 y1)] 2)],[]⟩)))))))))))))
theorem so0321R : SoRun so0321 := by
  intro w b1 b2 b3 hs p n τ row m A x0 x1 x2 x3 y0 y1 y2 y3 e hm
  refine runOf (adrs [] n) (adr1 [row + 788,kK m,A 1,A 2,A 3,A 4,A 5,A 6,A 7]) ?_
  obtain rfl | rfl | rfl | rfl | rfl | rfl := m5 hm
  all_goals cases b1 <;> kernel_rfl
theorem so0321V {w : World} {b1 b2 b3 : Bool} {h0 h1 h2 h3 h4 h5 h6 h7 h8 : Nat} {row m : Nat} {A : Nat → Nat} {x0 x1 x2 x3 : Str} {y0 y1 y2 y3 : Tok} {e : Nat} (hm : m ≤ 5) (hr : 788 ≤ row)
    (_ : kLt x0 x1 = true) (_ : kLt x0 x2 = true) (_ : kLt x0 x3 = true) (_ : kLt x1 x0 = false) (_ : kLt x1 x2 = false) (_ : kLt x1 x3 = false) (_ : kLt x2 x0 = false) (_ : kLt x2 x1 = true) (_ : kLt x2 x3 = false) (_ : kLt x3 x0 = false) (_ : kLt x3 x1 = true) (_ : kLt x3 x2 = true) : Valid (VX w b1 b2 b3) (oSo w.params h0 h1 h2 h3 h4 h5 h6 h7 h8 row m A x0 x1 x2 x3 y0 y1 y2 y3 e [(.str x0 y0),(.str x3 y3),(.str x2 y2),(.str x1 y1)]) := by
  refine so_valid so0321R row m A x0 x1 x2 x3 y0 y1 y2 y3 e hm hr fun s row => ?_
  refine nx (vCol (by simp) (by simp)) fun α tk n τ => ?_
  iterate 4 refine nx (vkN hm) fun _ _ _ _ => ?_
  iterate 7 refine nx (vkC hm (by assumption)) fun _ _ _ _ => ?_
  intro s' L q e'
  exact leaves_end (S := oSo w.params h0 h1 h2 h3 h4 h5 h6 h7 h8 (row + 788) m A x0 x1 x2 x3 y0 y1 y2 y3 e [(.str x0 y0),(.str x3 y3),(.str x2 y2),(.str x1 y1)]) (own := []) (out := ⟨.ok (.done (.ret (.ref (n + 0)))),_,[]⟩) (α := fun _ => n + 0) (tk := 0) [1] L e' rfl rfl rfl rfl (by simp) (by decide)
noncomputable def so1023 (P : Params) (n : Nat) (row m : Nat) (A : Nat → Nat) (x0 x1 x2 x3 : Str) (y0 y1 y2 y3 : Tok) (e : Nat) : Scr := (.orc [] (oCol (.blt SL.s15201008993051130160x6 :: cxt_sh) 2 (row + 788) [(.str x0 y0),(.str x1 y1),(.str x2 y2),(.str x3 y3)] e) 0 9 fun α1 tk1 n1 τ1 =>
 (.orc [3,0,6,6,6,6,6,6] (kN P m A x0 y0) 4 9 fun α2 tk2 n2 τ2 =>
 (.orc [12,12,12] (kN P m A x1 y1) 4 11 fun α3 tk3 n3 τ3 =>
 (.orc [12,12,12] (kN P m A x2 y2) 4 13 fun α4 tk4 n4 τ4 =>
 (.orc [12,12,12] (kN P m A x3 y3) 4 15 fun α5 tk5 n5 τ5 =>
 (.orc [12,12,12,12,29,35,41,47,29,35,41,47,35,5,5,8,20] (kC P m A 35 29 α3 α2 x1 y1 x0 y0 true) 4 17 fun α6 tk6 n6 τ6 =>
 (.orc [41,5,5,8,20] (kC P m A 41 35 α4 α3 x2 y2 x1 y1 false) 4 17 fun α7 tk7 n7 τ7 =>
 (.orc [35,5,5,8,20] (kC P m A 35 41 α3 α4 x1 y1 x2 y2 true) 4 17 fun α8 tk8 n8 τ8 =>
 (.orc [41,5,5,8,20] (kC P m A 41 29 α4 α2 x2 y2 x0 y0 false) 4 17 fun α9 tk9 n9 τ9 =>
 (.orc [47,5,5,8,20] (kC P m A 47 41 α5 α4 x3 y3 x2 y2 false) 4 17 fun α10 tk10 n10 τ10 =>
 (.fin [12,12,12,6,6,6,6] ⟨.ok (.done (.ret (.ref (n1 + 0)))),[(1,(n1 + 0),lsO [(.str x1 y1),(.str x0 y0),(.str x2 y2),(.str x3 y3)] 2)],[]⟩)))))))))))
theorem so1023R : SoRun so1023 := by
  intro w b1 b2 b3 hs p n τ row m A x0 x1 x2 x3 y0 y1 y2 y3 e hm
  refine runOf (adrs [] n) (adr1 [row + 788,kK m,A 1,A 2,A 3,A 4,A 5,A 6,A 7]) ?_
  obtain rfl | rfl | rfl | rfl | rfl | rfl := m5 hm
  all_goals cases b1 <;> kernel_rfl
theorem so1023V {w : World} {b1 b2 b3 : Bool} {h0 h1 h2 h3 h4 h5 h6 h7 h8 : Nat} {row m : Nat} {A : Nat → Nat} {x0 x1 x2 x3 : Str} {y0 y1 y2 y3 : Tok} {e : Nat} (hm : m ≤ 5) (hr : 788 ≤ row)
    (_ : kLt x0 x1 = false) (_ : kLt x0 x2 = true) (_ : kLt x0 x3 = true) (_ : kLt x1 x0 = true) (_ : kLt x1 x2 = true) (_ : kLt x1 x3 = true) (_ : kLt x2 x0 = false) (_ : kLt x2 x1 = false) (_ : kLt x2 x3 = true) (_ : kLt x3 x0 = false) (_ : kLt x3 x1 = false) (_ : kLt x3 x2 = false) : Valid (VX w b1 b2 b3) (oSo w.params h0 h1 h2 h3 h4 h5 h6 h7 h8 row m A x0 x1 x2 x3 y0 y1 y2 y3 e [(.str x1 y1),(.str x0 y0),(.str x2 y2),(.str x3 y3)]) := by
  refine so_valid so1023R row m A x0 x1 x2 x3 y0 y1 y2 y3 e hm hr fun s row => ?_
  refine nx (vCol (by simp) (by simp)) fun α tk n τ => ?_
  iterate 4 refine nx (vkN hm) fun _ _ _ _ => ?_
  iterate 5 refine nx (vkC hm (by assumption)) fun _ _ _ _ => ?_
  intro s' L q e'
  exact leaves_end (S := oSo w.params h0 h1 h2 h3 h4 h5 h6 h7 h8 (row + 788) m A x0 x1 x2 x3 y0 y1 y2 y3 e [(.str x1 y1),(.str x0 y0),(.str x2 y2),(.str x3 y3)]) (own := []) (out := ⟨.ok (.done (.ret (.ref (n + 0)))),_,[]⟩) (α := fun _ => n + 0) (tk := 0) [1] L e' rfl rfl rfl rfl (by simp) (by decide)
noncomputable def so1032 (P : Params) (n : Nat) (row m : Nat) (A : Nat → Nat) (x0 x1 x2 x3 : Str) (y0 y1 y2 y3 : Tok) (e : Nat) : Scr := (.orc [] (oCol (.blt SL.s15201008993051130160x6 :: cxt_sh) 2 (row + 788) [(.str x0 y0),(.str x1 y1),(.str x2 y2),(.str x3 y3)] e) 0 9 fun α1 tk1 n1 τ1 =>
 (.orc [3,0,6,6,6,6,6,6] (kN P m A x0 y0) 4 9 fun α2 tk2 n2 τ2 =>
 (.orc [12,12,12] (kN P m A x1 y1) 4 11 fun α3 tk3 n3 τ3 =>
 (.orc [12,12,12] (kN P m A x2 y2) 4 13 fun α4 tk4 n4 τ4 =>
 (.orc [12,12,12] (kN P m A x3 y3) 4 15 fun α5 tk5 n5 τ5 =>
 (.orc [12,12,12,12,29,35,41,47,29,35,41,47,35,5,5,8,20] (kC P m A 35 29 α3 α2 x1 y1 x0 y0 true) 4 17 fun α6 tk6 n6 τ6 =>
 (.orc [41,5,5,8,20] (kC P m A 41 35 α4 α3 x2 y2 x1 y1 false) 4 17 fun α7 tk7 n7 τ7 =>
 (.orc [35,5,5,8,20] (kC P m A 35 41 α3 α4 x1 y1 x2 y2 true) 4 17 fun α8 tk8 n8 τ8 =>
 (.orc [41,5,5,8,20] (kC P m A 41 29 α4 α2 x2 y2 x0 y0 false) 4 17 fun α9 tk9 n9 τ9 =>
 (.orc [47,5,5,8,20] (kC P m A 47 41 α5 α4 x3 y3 x2 y2 true) 4 17 fun α10 tk10 n10 τ10 =>
 (.orc [47,5,5,8,20] (kC P m A 47 29 α5 α2 x3 y3 x0 y0 false) 4 17 fun α11 tk11 n11 τ11 =>
 (.orc [47,5,5,8,20] (kC P m A 47 41 α5 α4 x3 y3 x2 y2 true) 4 17 fun α12 tk12 n12 τ12 =>
 (.fin [12,12,12,6,6,6,6] ⟨.ok (.done (.ret (.ref (n1 + 0)))),[(1,(n1 + 0),lsO [(.str x1 y1),(.str x0 y0),(.str x3 y3),(.str x2 y2)] 2)],[]⟩)))))))))))))
theorem so1032R : SoRun so1032 := by
  intro w b1 b2 b3 hs p n τ row m A x0 x1 x2 x3 y0 y1 y2 y3 e hm
  refine runOf (adrs [] n) (adr1 [row + 788,kK m,A 1,A 2,A 3,A 4,A 5,A 6,A 7]) ?_
  obtain rfl | rfl | rfl | rfl | rfl | rfl := m5 hm
  all_goals cases b1 <;> kernel_rfl
theorem so1032V {w : World} {b1 b2 b3 : Bool} {h0 h1 h2 h3 h4 h5 h6 h7 h8 : Nat} {row m : Nat} {A : Nat → Nat} {x0 x1 x2 x3 : Str} {y0 y1 y2 y3 : Tok} {e : Nat} (hm : m ≤ 5) (hr : 788 ≤ row)
    (_ : kLt x0 x1 = false) (_ : kLt x0 x2 = true) (_ : kLt x0 x3 = true) (_ : kLt x1 x0 = true) (_ : kLt x1 x2 = true) (_ : kLt x1 x3 = true) (_ : kLt x2 x0 = false) (_ : kLt x2 x1 = false) (_ : kLt x2 x3 = false) (_ : kLt x3 x0 = false) (_ : kLt x3 x1 = false) (_ : kLt x3 x2 = true) : Valid (VX w b1 b2 b3) (oSo w.params h0 h1 h2 h3 h4 h5 h6 h7 h8 row m A x0 x1 x2 x3 y0 y1 y2 y3 e [(.str x1 y1),(.str x0 y0),(.str x3 y3),(.str x2 y2)]) := by
  refine so_valid so1032R row m A x0 x1 x2 x3 y0 y1 y2 y3 e hm hr fun s row => ?_
  refine nx (vCol (by simp) (by simp)) fun α tk n τ => ?_
  iterate 4 refine nx (vkN hm) fun _ _ _ _ => ?_
  iterate 7 refine nx (vkC hm (by assumption)) fun _ _ _ _ => ?_
  intro s' L q e'
  exact leaves_end (S := oSo w.params h0 h1 h2 h3 h4 h5 h6 h7 h8 (row + 788) m A x0 x1 x2 x3 y0 y1 y2 y3 e [(.str x1 y1),(.str x0 y0),(.str x3 y3),(.str x2 y2)]) (own := []) (out := ⟨.ok (.done (.ret (.ref (n + 0)))),_,[]⟩) (α := fun _ => n + 0) (tk := 0) [1] L e' rfl rfl rfl rfl (by simp) (by decide)
noncomputable def so1203 (P : Params) (n : Nat) (row m : Nat) (A : Nat → Nat) (x0 x1 x2 x3 : Str) (y0 y1 y2 y3 : Tok) (e : Nat) : Scr := (.orc [] (oCol (.blt SL.s15201008993051130160x6 :: cxt_sh) 2 (row + 788) [(.str x0 y0),(.str x1 y1),(.str x2 y2),(.str x3 y3)] e) 0 9 fun α1 tk1 n1 τ1 =>
 (.orc [3,0,6,6,6,6,6,6] (kN P m A x0 y0) 4 9 fun α2 tk2 n2 τ2 =>
 (.orc [12,12,12] (kN P m A x1 y1) 4 11 fun α3 tk3 n3 τ3 =>
 (.orc [12,12,12] (kN P m A x2 y2) 4 13 fun α4 tk4 n4 τ4 =>
 (.orc [12,12,12] (kN P m A x3 y3) 4 15 fun α5 tk5 n5 τ5 =>
 (.orc [12,12,12,12,29,35,41,47,29,35,41,47,35,5,5,8,20] (kC P m A 35 29 α3 α2 x1 y1 x0 y0 false) 4 17 fun α6 tk6 n6 τ6 =>
 (.orc [41,5,5,8,20] (kC P m A 41 35 α4 α3 x2 y2 x1 y1 true) 4 17 fun α7 tk7 n7 τ7 =>
 (.orc [29,5,5,8,20] (kC P m A 29 35 α2 α3 x0 y0 x1 y1 true) 4 17 fun α8 tk8 n8 τ8 =>
 (.orc [41,5,5,8,20] (kC P m A 41 35 α4 α3 x2 y2 x1 y1 true) 4 17 fun α9 tk9 n9 τ9 =>
 (.orc [41,5,5,8,20] (kC P m A 41 29 α4 α2 x2 y2 x0 y0 true) 4 17 fun α10 tk10 n10 τ10 =>
 (.orc [47,5,5,8,20] (kC P m A 47 29 α5 α2 x3 y3 x0 y0 false) 4 17 fun α11 tk11 n11 τ11 =>
 (.orc [47,5,5,8,20] (kC P m A 47 35 α5 α3 x3 y3 x1 y1 false) 4 17 fun α12 tk12 n12 τ12 =>
 (.fin [12,12,12,6,6,6,6] ⟨.ok (.done (.ret (.ref (n1 + 0)))),[(1,(n1 + 0),lsO [(.str x2 y2),(.str x0 y0),(.str x1 y1),(.str x3 y3)] 2)],[]⟩)))))))))))))
theorem so1203R : SoRun so1203 := by
  intro w b1 b2 b3 hs p n τ row m A x0 x1 x2 x3 y0 y1 y2 y3 e hm
  refine runOf (adrs [] n) (adr1 [row + 788,kK m,A 1,A 2,A 3,A 4,A 5,A 6,A 7]) ?_
  obtain rfl | rfl | rfl | rfl | rfl | rfl := m5 hm
  all_goals cases b1 <;> kernel_rfl
theorem so1203V {w : World} {b1 b2 b3 : Bool} {h0 h1 h2 h3 h4 h5 h6 h7 h8 : Nat} {row m : Nat} {A : Nat → Nat} {x0 x1 x2 x3 : Str} {y0 y1 y2 y3 : Tok} {e : Nat} (hm : m ≤ 5) (hr : 788 ≤ row)
    (_ : kLt x0 x1 = true) (_ : kLt x0 x2 = false) (_ : kLt x0 x3 = true) (_ : kLt x1 x0 = false) (_ : kLt x1 x2 = false) (_ : kLt x1 x3 = true) (_ : kLt x2 x0 = true) (_ : kLt x2 x1 = true) (_ : kLt x2 x3 = true) (_ : kLt x3 x0 = false) (_ : kLt x3 x1 = false) (_ : kLt x3 x2 = false) : Valid (VX w b1 b2 b3) (oSo w.params h0 h1 h2 h3 h4 h5 h6 h7 h8 row m A x0 x1 x2 x3 y0 y1 y2 y3 e [(.str x2 y2),(.str x0 y0),(.str x1 y1),(.str x3 y3)]) := by
  refine so_valid so1203R row m A x0 x1 x2 x3 y0 y1 y2 y3 e hm hr fun s row => ?_
  refine nx (vCol (by simp) (by simp)) fun α tk n τ => ?_
  iterate 4 refine nx (vkN hm) fun _ _ _ _ => ?_
  iterate 7 refine nx (vkC hm (by assumption)) fun _ _ _ _ => ?_
  intro s' L q e'
  exact leaves_end (S := oSo w.params h0 h1 h2 h3 h4 h5 h6 h7 h8 (row + 788) m A x0 x1 x2 x3 y0 y1 y2 y3 e [(.str x2 y2),(.str x0 y0),(.str x1 y1),(.str x3 y3)]) (own := []) (out := ⟨.ok (.done (.ret (.ref (n + 0)))),_,[]⟩) (α := fun _ => n + 0) (tk := 0) [1] L e' rfl rfl rfl rfl (by simp) (by decide)
noncomputable def so1230 (P : Params) (n : Nat) (row m : Nat) (A : Nat → Nat) (x0 x1 x2 x3 : Str) (y0 y1 y2 y3 : Tok) (e : Nat) : Scr := (.orc [] (oCol (.blt SL.s15201008993051130160x6 :: cxt_sh) 2 (row + 788) [(.str x0 y0),(.str x1 y1),(.str x2 y2),(.str x3 y3)] e) 0 9 fun α1 tk1 n1 τ1 =>
 (.orc [3,0,6,6,6,6,6,6] (kN P m A x0 y0) 4 9 fun α2 tk2 n2 τ2 =>
 (.orc [12,12,12] (kN P m A x1 y1) 4 11 fun α3 tk3 n3 τ3 =>
 (.orc [12,12,12] (kN P m A x2 y2) 4 13 fun α4 tk4 n4 τ4 =>
 (.orc [12,12,12] (kN P m A x3 y3) 4 15 fun α5 tk5 n5 τ5 =>
 (.orc [12,12,12,12,29,35,41,47,29,35,41,47,35,5,5,8,20] (kC P m A 35 29 α3 α2 x1 y1 x0 y0 false) 4 17 fun α6 tk6 n6 τ6 =>
 (.orc [41,5,5,8,20] (kC P m A 41 35 α4 α3 x2 y2 x1 y1 false) 4 17 fun α7 tk7 n7 τ7 =>
 (.orc [47,5,5,8,20] (kC P m A 47 41 α5 α4 x3 y3 x2 y2 true) 4 17 fun α8 tk8 n8 τ8 =>
 (.orc [29,5,5,8,20] (kC P m A 29 41 α2 α4 x0 y0 x2 y2 true) 4 17 fun α9 tk9 n9 τ9 =>
 (.orc [47,5,5,8,20] (kC P m A 47 35 α5 α3 x3 y3 x1 y1 true) 4 17 fun α10 tk10 n10 τ10 =>
 (.orc [47,5,5,8,20] (kC P m A 47 29 α5 α2 x3 y3 x0 y0 true) 4 17 fun α11 tk11 n11 τ11 =>
 (.fin [12,12,12,6,6,6,6] ⟨.ok (.done (.ret (.ref (n1 + 0)))),[(1,(n1 + 0),lsO [(.str x3 y3),(.str x0 y0),(.str x1 y1),(.str x2 y2)] 2)],[]⟩))))))))))))
theorem so1230R : SoRun so1230 := by
  intro w b1 b2 b3 hs p n τ row m A x0 x1 x2 x3 y0 y1 y2 y3 e hm
  refine runOf (adrs [] n) (adr1 [row + 788,kK m,A 1,A 2,A 3,A 4,A 5,A 6,A 7]) ?_
  obtain rfl | rfl | rfl | rfl | rfl | rfl := m5 hm
  all_goals cases b1 <;> kernel_rfl
theorem so1230V {w : World} {b1 b2 b3 : Bool} {h0 h1 h2 h3 h4 h5 h6 h7 h8 : Nat} {row m : Nat} {A : Nat → Nat} {x0 x1 x2 x3 : Str} {y0 y1 y2 y3 : Tok} {e : Nat} (hm : m ≤ 5) (hr : 788 ≤ row)
    (_ : kLt x0 x1 = true) (_ : kLt x0 x2 = true) (_ : kLt x0 x3 = false) (_ : kLt x1 x0 = false) (_ : kLt x1 x2 = true) (_ : kLt x1 x3 = false) (_ : kLt x2 x0 = false) (_ : kLt x2 x1 = false) (_ : kLt x2 x3 = false) (_ : kLt x3 x0 = true) (_ : kLt x3 x1 = true) (_ : kLt x3 x2 = true) : Valid (VX w b1 b2 b3) (oSo w.params h0 h1 h2 h3 h4 h5 h6 h7 h8 row m A x0 x1 x2 x3 y0 y1 y2 y3 e [(.str x3 y3),(.str x0 y0),(.str x1 y1),(.str x2 y2)]) := by
  refine so_valid so1230R row m A x0 x1 x2 x3 y0 y1 y2 y3 e hm hr fun s row => ?_
  refine nx (vCol (by simp) (by simp)) fun α tk n τ => ?_
  iterate 4 refine nx (vkN hm) fun _ _ _ _ => ?_
  iterate 6 refine nx (vkC hm (by assumption)) fun _ _ _ _ => ?_
  intro s' L q e'
  exact leaves_end (S := oSo w.params h0 h1 h2 h3 h4 h5 h6 h7 h8 (row + 788) m A x0 x1 x2 x3 y0 y1 y2 y3 e [(.str x3 y3),(.str x0 y0),(.str x1 y1),(.str x2 y2)]) (own := []) (out := ⟨.ok (.done (.ret (.ref (n + 0)))),_,[]⟩) (α := fun _ => n + 0) (tk := 0) [1] L e' rfl rfl rfl rfl (by simp) (by decide)
noncomputable def so1302 (P : Params) (n : Nat) (row m : Nat) (A : Nat → Nat) (x0 x1 x2 x3 : Str) (y0 y1 y2 y3 : Tok) (e : Nat) : Scr := (.orc [] (oCol (.blt SL.s15201008993051130160x6 :: cxt_sh) 2 (row + 788) [(.str x0 y0),(.str x1 y1),(.str x2 y2),(.str x3 y3)] e) 0 9 fun α1 tk1 n1 τ1 =>
 (.orc [3,0,6,6,6,6,6,6] (kN P m A x0 y0) 4 9 fun α2 tk2 n2 τ2 =>
 (.orc [12,12,12] (kN P m A x1 y1) 4 11 fun α3 tk3 n3 τ3 =>
 (.orc [12,12,12] (kN P m A x2 y2) 4 13 fun α4 tk4 n4 τ4 =>
 (.orc [12,12,12] (kN P m A x3 y3) 4 15 fun α5 tk5 n5 τ5 =>
 (.orc [12,12,12,12,29,35,41,47,29,35,41,47,35,5,5,8,20] (kC P m A 35 29 α3 α2 x1 y1 x0 y0 false) 4 17 fun α6 tk6 n6 τ6 =>
 (.orc [41,5,5,8,20] (kC P m A 41 35 α4 α3 x2 y2 x1 y1 true) 4 17 fun α7 tk7 n7 τ7 =>
 (.orc [29,5,5,8,20] (kC P m A 29 35 α2 α3 x0 y0 x1 y1 true) 4 17 fun α8 tk8 n8 τ8 =>
 (.orc [41,5,5,8,20] (kC P m A 41 35 α4 α3 x2 y2 x1 y1 true) 4 17 fun α9 tk9 n9 τ9 =>
 (.orc [41,5,5,8,20] (kC P m A 41 29 α4 α2 x2 y2 x0 y0 true) 4 17 fun α10 tk10 n10 τ10 =>
 (.orc [47,5,5,8,20] (kC P m A 47 29 α5 α2 x3 y3 x0 y0 false) 4 17 fun α11 tk11 n11 τ11 =>
 (.orc [47,5,5,8,20] (kC P m A 47 35 α5 α3 x3 y3 x1 y1 true) 4 17 fun α12 tk12 n12 τ12 =>
 (.fin [12,12,12,6,6,6,6] ⟨.ok (.done (.ret (.ref (n1 + 0)))),[(1,(n1 + 0),lsO [(.str x2 y2),(.str x0 y0),(.str x3 y3),(.str x1 y1)] 2)],[]⟩)))))))))))))
theorem so1302R : SoRun so1302 := by
  intro w b1 b2 b3 hs p n τ row m A x0 x1 x2 x3 y0 y1 y2 y3 e hm
  refine runOf (adrs [] n) (adr1 [row + 788,kK m,A 1,A 2,A 3,A 4,A 5,A 6,A 7]) ?_
  obtain rfl | rfl | rfl | rfl | rfl | rfl := m5 hm
  all_goals cases b1 <;> kernel_rfl
theorem so1302V {w : World} {b1 b2 b3 : Bool} {h0 h1 h2 h3 h4 h5 h6 h7 h8 : Nat} {row m : Nat} {A : Nat → Nat} {x0 x1 x2 x3 : Str} {y0 y1 y2 y3 : Tok} {e : Nat} (hm : m ≤ 5) (hr : 788 ≤ row)
    (_ : kLt x0 x1 = true) (_ : kLt x0 x2 = false) (_ : kLt x0 x3 = true) (_ : kLt x1 x0 = false) (_ : kLt x1 x2 = false) (_ : kLt x1 x3 = false) (_ : kLt x2 x0 = true) (_ : kLt x2 x1 = true) (_ : kLt x2 x3 = true) (_ : kLt x3 x0 = false) (_ : kLt x3 x1 = true) (_ : kLt x3 x2 = false) : Valid (VX w b1 b2 b3) (oSo w.params h0 h1 h2 h3 h4 h5 h6 h7 h8 row m A x0 x1 x2 x3 y0 y1 y2 y3 e [(.str x2 y2),(.str x0 y0),(.str x3 y3),(.str x1 y1)]) := by
  refine so_valid so1302R row m A x0 x1 x2 x3 y0 y1 y2 y3 e hm hr fun s row => ?_
  refine nx (vCol (by simp) (by simp)) fun α tk n τ => ?_
  iterate 4 refine nx (vkN hm) fun _ _ _ _ => ?_
  iterate 7 refine nx (vkC hm (by assumption)) fun _ _ _ _ => ?_
  intro s' L q e'
  exact leaves_end (S := oSo w.params h0 h1 h2 h3 h4 h5 h6 h7 h8 (row + 788) m A x0 x1 x2 x3 y0 y1 y2 y3 e [(.str x2 y2),(.str x0 y0),(.str x3 y3),(.str x1 y1)]) (own := []) (out := ⟨.ok (.done (.ret (.ref (n + 0)))),_,[]⟩) (α := fun _ => n + 0) (tk := 0) [1] L e' rfl rfl rfl rfl (by simp) (by decide)
noncomputable def so1320 (P : Params) (n : Nat) (row m : Nat) (A : Nat → Nat) (x0 x1 x2 x3 : Str) (y0 y1 y2 y3 : Tok) (e : Nat) : Scr := (.orc [] (oCol (.blt SL.s15201008993051130160x6 :: cxt_sh) 2 (row + 788) [(.str x0 y0),(.str x1 y1),(.str x2 y2),(.str x3 y3)] e) 0 9 fun α1 tk1 n1 τ1 =>
 (.orc [3,0,6,6,6,6,6,6] (kN P m A x0 y0) 4 9 fun α2 tk2 n2 τ2 =>
 (.orc [12,12,12] (kN P m A x1 y1) 4 11 fun α3 tk3 n3 τ3 =>
 (.orc [12,12,12] (kN P m A x2 y2) 4 13 fun α4 tk4 n4 τ4 =>
 (.orc [12,12,12] (kN P m A x3 y3) 4 15 fun α5 tk5 n5 τ5 =>
 (.orc [12,12,12,12,29,35,41,47,29,35,41,47,35,5,5,8,20] (kC P m A 35 29 α3 α2 x1 y1 x0 y0 false) 4 17 fun α6 tk6 n6 τ6 =>
 (.orc [41,5,5,8,20] (kC P m A 41 35 α4 α3 x2 y2 x1 y1 true) 4 17 fun α7 tk7 n7 τ7 =>
 (.orc [29,5,5,8,20] (kC P m A 29 35 α2 α3 x0 y0 x1 y1 true) 4 17 fun α8 tk8 n8 τ8 =>
 (.orc [41,5,5,8,20] (kC P m A 41 35 α4 α3 x2 y2 x1 y1 true) 4 17 fun α9 tk9 n9 τ9 =>
 (.orc [41,5,5,8,20] (kC P m A 41 29 α4 α2 x2 y2 x0 y0 false) 4 17 fun α10 tk10 n10 τ10 =>
 (.orc [47,5,5,8,20] (kC P m A 47 41 α5 α4 x3 y3 x2 y2 true) 4 17 fun α11 tk11 n11 τ11 =>
 (.orc [47,5,5,8,20] (kC P m A 47 29 α5 α2 x3 y3 x0 y0 true) 4 17 fun α12 tk12 n12 τ12 =>
 (.fin [12,12,12,6,6,6,6] ⟨.ok (.done (.ret (.ref (n1 + 0)))),[(1,(n1 + 0),lsO [(.str x3 y3),(.str x0 y0),(.str x2 y2),(.str x1 y1)] 2)],[]⟩)))))))))))))
theorem so1320R : SoRun so1320 := by
  intro w b1 b2 b3 hs p n τ row m A x0 x1 x2 x3 y0 y1 y2 y3 e hm
  refine runOf (adrs [] n) (adr1 [row + 788,kK m,A 1,A 2,A 3,A 4,A 5,A 6,A 7]) ?_
  obtain rfl | rfl | rfl | rfl | rfl | rfl := m5 hm
  all_goals cases b1 <;> kernel_rfl
theorem so1320V {w : World} {b1 b2 b3 : Bool} {h0 h1 h2 h3 h4 h5 h6 h7 h8 : Nat} {row m : Nat} {A : Nat → Nat} {x0 x1 x2 x3 : Str} {y0 y1 y2 y3 : Tok} {e : Nat} (hm : m ≤ 5) (hr : 788 ≤ row)
    (_ : kLt x0 x1 = true) (_ : kLt x0 x2 = true) (_ : kLt x0 x3 = false) (_ : kLt x1 x0 = false) (_ : kLt x1 x2 = false) (_ : kLt x1 x3 = false) (_ : kLt x2 x0 = false) (_ : kLt x2 x1 = true) (_ : kLt x2 x3 = false) (_ : kLt x3 x0 = true) (_ : kLt x3 x1 = true) (_ : kLt x3 x2 = true) : Valid (VX w b1 b2 b3) (oSo w.params h0 h1 h2 h3 h4 h5 h6 h7 h8 row m A x0 x1 x2 x3 y0 y1 y2 y3 e [(.str x3 y3),(.str x0 y0),(.str x2 y2),(.str x1 y1)]) := by
  refine so_valid so1320R row m A x0 x1 x2 x3 y0 y1 y2 y3 e hm hr fun s row => ?_
  refine nx (vCol (by simp) (by simp)) fun α tk n τ => ?_
  iterate 4 refine nx (vkN hm) fun _ _ _ _ => ?_
  iterate 7 refine nx (vkC hm (by assumption)) fun _ _ _ _ => ?_
  intro s' L q e'
  exact leaves_end (S := oSo w.params h0 h1 h2 h3 h4 h5 h6 h7 h8 (row + 788) m A x0 x1 x2 x3 y0 y1 y2 y3 e [(.str x3 y3),(.str x0 y0),(.str x2 y2),(.str x1 y1)]) (own := []) (out := ⟨.ok (.done (.ret (.ref (n + 0)))),_,[]⟩) (α := fun _ => n + 0) (tk := 0) [1] L e' rfl rfl rfl rfl (by simp) (by decide)
noncomputable def so2013 (P : Params) (n : Nat) (row m : Nat) (A : Nat → Nat) (x0 x1 x2 x3 : Str) (y0 y1 y2 y3 : Tok) (e : Nat) : Scr := (.orc [] (oCol (.blt SL.s15201008993051130160x6 :: cxt_sh) 2 (row + 788) [(.str x0 y0),(.str x1 y1),(.str x2 y2),(.str x3 y3)] e) 0 9 fun α1 tk1 n1 τ1 =>
 (.orc [3,0,6,6,6,6,6,6] (kN P m A x0 y0) 4 9 fun α2 tk2 n2 τ2 =>
 (.orc [12,12,12] (kN P m A x1 y1) 4 11 fun α3 tk3 n3 τ3 =>
 (.orc [12,12,12] (kN P m A x2 y2) 4 13 fun α4 tk4 n4 τ4 =>
 (.orc [12,12,12] (kN P m A x3 y3) 4 15 fun α5 tk5 n5 τ5 =>
 (.orc [12,12,12,12,29,35,41,47,29,35,41,47,35,5,5,8,20] (kC P m A 35 29 α3 α2 x1 y1 x0 y0 true) 4 17 fun α6 tk6 n6 τ6 =>
 (.orc [41,5,5,8,20] (kC P m A 41 35 α4 α3 x2 y2 x1 y1 false) 4 17 fun α7 tk7 n7 τ7 =>
 (.orc [35,5,5,8,20] (kC P m A 35 41 α3 α4 x1 y1 x2 y2 true) 4 17 fun α8 tk8 n8 τ8 =>
 (.orc [41,5,5,8,20] (kC P m A 41 29 α4 α2 x2 y2 x0 y0 true) 4 17 fun α9 tk9 n9 τ9 =>
 (.orc [41,5,5,8,20] (kC P m A 41 29 α4 α2 x2 y2 x0 y0 true) 4 17 fun α10 tk10 n10 τ10 =>
 (.orc [41,5,5,8,20] (kC P m A 41 35 α4 α3 x2 y2 x1 y1 false) 4 17 fun α11 tk11 n11 τ11 =>
 (.orc [47,5,5,8,20] (kC P m A 47 41 α5 α4 x3 y3 x2 y2 false) 4 17 fun α12 tk12 n12 τ12 =>
 (.orc [47,5,5,8,20] (kC P m A 47 29 α5 α2 x3 y3 x0 y0 false) 4 17 fun α13 tk13 n13 τ13 =>
 (.fin [12,12,12,6,6,6,6] ⟨.ok (.done (.ret (.ref (n1 + 0)))),[(1,(n1 + 0),lsO [(.str x1 y1),(.str x2 y2),(.str x0 y0),(.str x3 y3)] 2)],[]⟩))))))))))))))
theorem so2013R : SoRun so2013 := by
  intro w b1 b2 b3 hs p n τ row m A x0 x1 x2 x3 y0 y1 y2 y3 e hm
  refine runOf (adrs [] n) (adr1 [row + 788,kK m,A 1,A 2,A 3,A 4,A 5,A 6,A 7]) ?_
  obtain rfl | rfl | rfl | rfl | rfl | rfl := m5 hm
  all_goals cases b1 <;> kernel_rfl
theorem so2013V {w : World} {b1 b2 b3 : Bool} {h0 h1 h2 h3 h4 h5 h6 h7 h8 : Nat} {row m : Nat} {A : Nat → Nat} {x0 x1 x2 x3 : Str} {y0 y1 y2 y3 : Tok} {e : Nat} (hm : m ≤ 5) (hr : 788 ≤ row)
    (_ : kLt x0 x1 = false) (_ : kLt x0 x2 = false) (_ : kLt x0 x3 = true) (_ : kLt x1 x0 = true) (_ : kLt x1 x2 = true) (_ : kLt x1 x3 = true) (_ : kLt x2 x0 = true) (_ : kLt x2 x1 = false) (_ : kLt x2 x3 = true) (_ : kLt x3 x0 = false) (_ : kLt x3 x1 = false) (_ : kLt x3 x2 = false) : Valid (VX w b1 b2 b3) (oSo w.params h0 h1 h2 h3 h4 h5 h6 h7 h8 row m A x0 x1 x2 x3 y0 y1 y2 y3 e [(.str x1 y1),(.str x2 y2),(.str x0 y0),(.str x3 y3)]) := by
  refine so_valid so2013R row m A x0 x1 x2 x3 y0 y1 y2 y3 e hm hr fun s row => ?_
  refine nx (vCol (by simp) (by simp)) fun α tk n τ => ?_
  iterate 4 refine nx (vkN hm) fun _ _ _ _ => ?_
  iterate 8 refine nx (vkC hm (by assumption)) fun _ _ _ _ => ?_
  intro s' L q e'
  exact leaves_end (S := oSo w.params h0 h1 h2 h3 h4 h5 h6 h7 h8 (row + 788) m A x0 x1 x2 x3 y0 y1 y2 y3 e [(.str x1 y1),(.str x2 y2),(.str x0 y0),(.str x3 y3)]) (own := []) (out := ⟨.ok (.done (.ret (.ref (n + 0)))),_,[]⟩) (α := fun _ => n + 0) (tk := 0) [1] L e' rfl rfl rfl rfl (by simp) (by decide)
noncomputable def so2031 (P : Params) (n : Nat) (row m : Nat) (A : Nat → Nat) (x0 x1 x2 x3 : Str) (y0 y1 y2 y3 : Tok) (e : Nat) : Scr := (.orc [] (oCol (.blt SL.s15201008993051130160x6 :: cxt_sh) 2 (row + 788) [(.str x0 y0),(.str x1 y1),(.str x2 y2),(.str x3 y3)] e) 0 9 fun α1 tk1 n1 τ1 =>
 (.orc [3,0,6,6,6,6,6,6] (kN P m A x0 y0) 4 9 fun α2 tk2 n2 τ2 =>
 (.orc [12,12,12] (kN P m A x1 y1) 4 11 fun α3 tk3 n3 τ3 =>
 (.orc [12,12,12] (kN P m A x2 y2) 4 13 fun α4 tk4 n4 τ4 =>
 (.orc [12,12,12] (kN P m A x3 y3) 4 15 fun α5 tk5 n5 τ5 =>
 (.orc [12,12,12,12,29,35,41,47,29,35,41,47,35,5,5,8,20] (kC P m A 35 29 α3 α2 x1 y1 x0 y0 true) 4 17 fun α6 tk6 n6 τ6 =>
 (.orc [41,5,5,8,20] (kC P m A 41 35 α4 α3 x2 y2 x1 y1 false) 4 17 fun α7 tk7 n7 τ7 =>
 (.orc [35,5,5,8,20] (kC P m A 35 41 α3 α4 x1 y1 x2 y2 true) 4 17 fun α8 tk8 n8 τ8 =>
 (.orc [41,5,5,8,20] (kC P m A 41 29 α4 α2 x2 y2 x0 y0 false) 4 17 fun α9 tk9 n9 τ9 =>
 (.orc [47,5,5,8,20] (kC P m A 47 41 α5 α4 x3 y3 x2 y2 true) 4 17 fun α10 tk10 n10 τ10 =>
 (.orc [47,5,5,8,20] (kC P m A 47 29 α5 α2 x3 y3 x0 y0 true) 4 17 fun α11 tk11 n11 τ11 =>
 (.orc [47,5,5,8,20] (kC P m A 47 35 α5 α3 x3 y3 x1 y1 false) 4 17 fun α12 tk12 n12 τ12 =>
 (.fin [12,12,12,6,6,6,6] ⟨.ok (.done (.ret (.ref (n1 + 0)))),[(1,(n1 + 0),lsO [(.str x1 y1),(.str x3 y3),(.str x0 y0),(.str x2 y2)] 2)],[]⟩)))))))))))))
theorem so2031R : SoRun so2031 := by
  intro w b1 b2 b3 hs p n τ row m A x0 x1 x2 x3 y0 y1 y2 y3 e hm
  refine runOf (adrs [] n) (adr1 [row + 788,kK m,A 1,A 2,A 3,A 4,A 5,A 6,A 7]) ?_
  obtain rfl | rfl | rfl | rfl | rfl | rfl := m5 hm
  all_goals cases b1 <;> kernel_rfl
theorem so2031V {w : World} {b1 b2 b3 : Bool} {h0 h1 h2 h3 h4 h5 h6 h7 h8 : Nat} {row m : Nat} {A : Nat → Nat} {x0 x1 x2 x3 : Str} {y0 y1 y2 y3 : Tok} {e : Nat} (hm : m ≤ 5) (hr : 788 ≤ row)
    (_ : kLt x0 x1 = false) (_ : kLt x0 x2 = true) (_ : kLt x0 x3 = false) (_ : kLt x1 x0 = true) (_ : kLt x1 x2 = true) (_ : kLt x1 x3 = true) (_ : kLt x2 x0 = false) (_ : kLt x2 x1 = false) (_ : kLt x2 x3 = false) (_ : kLt x3 x0 = true) (_ : kLt x3 x1 = false) (_ : kLt x3 x2 = true) : Valid (VX w b1 b2 b3) (oSo w.params h0 h1 h2 h3 h4 h5 h6 h7 h8 row m A x0 x1 x2 x3 y0 y1 y2 y3 e [(.str x1 y1),(.str x3 y3),(.str x0 y0),(.str x2 y2)]) := by
  refine so_valid so2031R row m A x0 x1 x2 x3 y0 y1 y2 y3 e hm hr fun s row => ?_
  refine nx (vCol (by simp) (by simp)) fun α tk n τ => ?_
  iterate 4 refine nx (vkN hm) fun _ _ _ _ => ?_
  iterate 7 refine nx (vkC hm (by assumption)) fun _ _ _ _ => ?_
  intro s' L q e'
  exact leaves_end (S := oSo w.params h0 h1 h2 h3 h4 h5 h6 h7 h8 (row + 788) m A x0 x1 x2 x3 y0 y1 y2 y3 e [(.str x1 y1),(.str x3 y3),(.str x0 y0),(.str x2 y2)]) (own := []) (out := ⟨.ok (.done (.ret (.ref (n + 0)))),_,[]⟩) (α := fun _ => n + 0) (tk := 0) [1] L e' rfl rfl rfl rfl (by simp) (by decide)
noncomputable def so2103 (P : Params) (n : Nat) (row m : Nat) (A : Nat → Nat) (x0 x1 x2 x3 : Str) (y0 y1 y2 y3 : Tok) (e : Nat) : Scr := (.orc [] (oCol (.blt SL.s15201008993051130160x6 :: cxt_sh) 2 (row + 788) [(.str x0 y0),(.str x1 y1),(.str x2 y2),(.str x3 y3)] e) 0 9 fun α1 tk1 n1 τ1 =>
 (.orc [3,0,6,6,6,6,6,6] (kN P m A x0 y0) 4 9 fun α2 tk2 n2 τ2 =>
 (.orc [12,12,12] (kN P m A x1 y1) 4 11 fun α3 tk3 n3 τ3 =>
 (.orc [12,12,12] (kN P m A x2 y2) 4 13 fun α4 tk4 n4 τ4 =>
 (.orc [12,12,12] (kN P m A x3 y3) 4 15 fun α5 tk5 n5 τ5 =>
 (.orc [12,12,12,12,29,35,41,47,29,35,41,47,35,5,5,8,20] (kC P m A 35 29 α3 α2 x1 y1 x0 y0 true) 4 17 fun α6 tk6 n6 τ6 =>
 (.orc [41,5,5,8,20] (kC P m A 41 35 α4 α3 x2 y2 x1 y1 true) 4 17 fun α7 tk7 n7 τ7 =>
 (.orc [47,5,5,8,20] (kC P m A 47 41 α5 α4 x3 y3 x2 y2 false) 4 17 fun α8 tk8 n8 τ8 =>
 (.orc [41,5,5,8,20] (kC P m A 41 47 α4 α5 x2 y2 x3 y3 true) 4 17 fun α9 tk9 n9 τ9 =>
 (.orc [47,5,5,8,20] (kC P m A 47 29 α5 α2 x3 y3 x0 y0 false) 4 17 fun α10 tk10 n10 τ10 =>
 (.fin [12,12,12,6,6,6,6] ⟨.ok (.done (.ret (.ref (n1 + 0)))),[(1,(n1 + 0),lsO [(.str x2 y2),(.str x1 y1),(.str x0 y0),(.str x3 y3)] 2)],[]⟩)))))))))))
theorem so2103R : SoRun so2103 := by
  intro w b1 b2 b3 hs p n τ row m A x0 x1 x2 x3 y0 y1 y2 y3 e hm
  refine runOf (adrs [] n) (adr1 [row + 788,kK m,A 1,A 2,A 3,A 4,A 5,A 6,A 7]) ?_
  obtain rfl | rfl | rfl | rfl | rfl | rfl := m5 hm
  all_goals cases b1 <;> kernel_rfl
theorem so2103V {w : World} {b1 b2 b3 : Bool} {h0 h1 h2 h3 h4 h5 h6 h7 h8 : Nat} {row m : Nat} {A : Nat → Nat} {x0 x1 x2 x3 : Str} {y0 y1 y2 y3 : Tok} {e : Nat} (hm : m ≤ 5) (hr : 788 ≤ row)
    (_ : kLt x0 x1 = false) (_ : kLt x0 x2 = false) (_ : kLt x0 x3 = true) (_ : kLt x1 x0 = true) (_ : kLt x1 x2 = false) (_ : kLt x1 x3 = true) (_ : kLt x2 x0 = true) (_ : kLt x2 x1 = true) (_ : kLt x2 x3 = true) (_ : kLt x3 x0 = false) (_ : kLt x3 x1 = false) (_ : kLt x3 x2 = false) : Valid (VX w b1 b2 b3) (oSo w.params h0 h1 h2 h3 h4 h5 h6 h7 h8 row m A x0 x1 x2 x3 y0 y1 y2 y3 e [(.str x2 y2),(.str x1 y1),(.str x0 y0),(.str x3 y3)]) := by
  refine so_valid so2103R row m A x0 x1 x2 x3 y0 y1 y2 y3 e hm hr fun s row => ?_
  refine nx (vCol (by simp) (by simp)) fun α tk n τ => ?_
  iterate 4 refine nx (vkN hm) fun _ _ _ _ => ?_
  iterate 5 refine nx (vkC hm (by assumption)) fun _ _ _ _ => ?_
  intro s' L q e'
  exact leaves_end (S := oSo w.params h0 h1 h2 h3 h4 h5 h6 h7 h8 (row + 788) m A x0 x1 x2 x3 y0 y1 y2 y3 e [(.str x2 y2),(.str x1 y1),(.str x0 y0),(.str x3 y3)]) (own := []) (out := ⟨.ok (.done (.ret (.ref (n + 0)))),_,[]⟩) (α := fun _ => n + 0) (tk := 0) [1] L e' rfl rfl rfl rfl (by simp) (by decide)
noncomputable def so2130 (P : Params) (n : Nat) (row m : Nat) (A : Nat → Nat) (x0 x1 x2 x3 : Str) (y0 y1 y2 y3 : Tok) (e : Nat) : Scr := (.orc [] (oCol (.blt SL.s15201008993051130160x6 :: cxt_sh) 2 (row + 788) [(.str x0 y0),(.str x1 y1),(.str x2 y2),(.str x3 y3)] e) 0 9 fun α1 tk1 n1 τ1 =>
 (.orc [3,0,6,6,6,6,6,6] (kN P m A x0 y0) 4 9 fun α2 tk2 n2 τ2 =>
 (.orc [12,12,12] (kN P m A x1 y1) 4 11 fun α3 tk3 n3 τ3 =>
 (.orc [12,12,12] (kN P m A x2 y2) 4 13 fun α4 tk4 n4 τ4 =>
 (.orc [12,12,12] (kN P m A x3 y3) 4 15 fun α5 tk5 n5 τ5 =>
 (.orc [12,12,12,12,29,35,41,47,29,35,41,47,35,5,5,8,20] (kC P m A 35 29 α3 α2 x1 y1 x0 y0 true) 4 17 fun α6 tk6 n6 τ6 =>
 (.orc [41,5,5,8,20] (kC P m A 41 35 α4 α3 x2 y2 x1 y1 false) 4 17 fun α7 tk7 n7 τ7 =>
 (.orc [35,5,5,8,20] (kC P m A 35 41 α3 α4 x1 y1 x2 y2 true) 4 17 fun α8 tk8 n8 τ8 =>
 (.orc [41,5,5,8,20] (kC P m A 41 29 α4 α2 x2 y2 x0 y0 false) 4 17 fun α9 tk9 n9 τ9 =>
 (.orc [47,5,5,8,20] (kC P m A 47 41 α5 α4 x3 y3 x2 y2 true) 4 17 fun α10 tk10 n10 τ10 =>
 (.orc [47,5,5,8,20] (kC P m A 47 29 α5 α2 x3 y3 x0 y0 true) 4 17 fun α11 tk11 n11 τ11 =>
 (.orc [47,5,5,8,20] (kC P m A 47 35 α5 α3 x3 y3 x1 y1 true) 4 17 fun α12 tk12 n12 τ12 =>
 (.fin [12,12,12,6,6,6,6] ⟨.ok (.done (.ret (.ref (n1 + 0)))),[(1,(n1 + 0),lsO [(.str x3 y3),(.str x1 y1),(.str x0 y0),(.str x2 y2)] 2)],[]⟩)))))))))))))
theorem so2130R : SoRun so2130 := by
  intro w b1 b2 b3 hs p n τ row m A x0 x1 x2 x3 y0 y1 y2 y3 e hm
  refine runOf (adrs [] n) (adr1 [row + 788,kK m,A 1,A 2,A 3,A 4,A 5,A 6,A 7]) ?_
  obtain rfl | rfl | rfl | rfl | rfl | rfl := m5 hm
  all_goals cases b1 <;> kernel_rfl
theorem so2130V {w : World} {b1 b2 b3 : Bool} {h0 h1 h2 h3 h4 h5 h6 h7 h8 : Nat} {row m : Nat} {A : Nat → Nat} {x0 x1 x2 x3 : Str} {y0 y1 y2 y3 : Tok} {e : Nat} (hm : m ≤ 5) (hr : 788 ≤ row)
    (_ : kLt x0 x1 = false) (_ : kLt x0 x2 = true) (_ : kLt x0 x3 = false) (_ : kLt x1 x0 = true) (_ : kLt x1 x2 = true) (_ : kLt x1 x3 = false) (_ : kLt x2 x0 = false) (_ : kLt x2 x1 = false) (_ : kLt x2 x3 = false) (_ : kLt x3 x0 = true) (_ : kLt x3 x1 = true) (_ : kLt x3 x2 = true) : Valid (VX w b1 b2 b3) (oSo w.params h0 h1 h2 h3 h4 h5 h6 h7 h8 row m A x0 x1 x2 x3 y0 y1 y2 y3 e [(.str x3 y3),(.str x1 y1),(.str x0 y0),(.str x2 y2)]) := by
  refine so_valid so2130R row m A x0 x1 x2 x3 y0 y1 y2 y3 e hm hr fun s row => ?_
  refine nx (vCol (by simp) (by simp)) fun α tk n τ => ?_
  iterate 4 refine nx (vkN hm) fun _ _ _ _ => ?_
  iterate 7 refine nx (vkC hm (by assumption)) fun _ _ _ _ => ?_
  intro s' L q e'
  exact leaves_end (S := oSo w.params h0 h1 h2 h3 h4 h5 h6 h7 h8 (row + 788) m A x0 x1 x2 x3 y0 y1 y2 y3 e [(.str x3 y3),(.str x1 y1),(.str x0 y0),(.str x2 y2)]) (own := []) (out := ⟨.ok (.done (.ret (.ref (n + 0)))),_,[]⟩) (α := fun _ => n + 0) (tk := 0) [1] L e' rfl rfl rfl rfl (by simp) (by decide)
noncomputable def so2301 (P : Params) (n : Nat) (row m : Nat) (A : Nat → Nat) (x0 x1 x2 x3 : Str) (y0 y1 y2 y3 : Tok) (e : Nat) : Scr := (.orc [] (oCol (.blt SL.s15201008993051130160x6 :: cxt_sh) 2 (row + 788) [(.str x0 y0),(.str x1 y1),(.str x2 y2),(.str x3 y3)] e) 0 9 fun α1 tk1 n1 τ1 =>
 (.orc [3,0,6,6,6,6,6,6] (kN P m A x0 y0) 4 9 fun α2 tk2 n2 τ2 =>
 (.orc [12,12,12] (kN P m A x1 y1) 4 11 fun α3 tk3 n3 τ3 =>
 (.orc [12,12,12] (kN P m A x2 y2) 4 13 fun α4 tk4 n4 τ4 =>
 (.orc [12,12,12] (kN P m A x3 y3) 4 15 fun α5 tk5 n5 τ5 =>
 (.orc [12,12,12,12,29,35,41,47,29,35,41,47,35,5,5,8,20] (kC P m A 35 29 α3 α2 x1 y1 x0 y0 false) 4 17 fun α6 tk6 n6 τ6 =>
 (.orc [41,5,5,8,20] (kC P m A 41 35 α4 α3 x2 y2 x1 y1 true) 4 17 fun α7 tk7 n7 τ7 =>
 (.orc [29,5,5,8,20] (kC P m A 29 35 α2 α3 x0 y0 x1 y1 true) 4 17 fun α8 tk8 n8 τ8 =>
 (.orc [41,5,5,8,20] (kC P m A 41 35 α4 α3 x2 y2 x1 y1 true) 4 17 fun α9 tk9 n9 τ9 =>
 (.orc [41,5,5,8,20] (kC P m A 41 29 α4 α2 x2 y2 x0 y0 true) 4 17 fun α10 tk10 n10 τ10 =>
 (.orc [47,5,5,8,20] (kC P m A 47 29 α5 α2 x3 y3 x0 y0 true) 4 17 fun α11 tk11 n11 τ11 =>
 (.orc [47,5,5,8,20] (kC P m A 47 41 α5 α4 x3 y3 x2 y2 false) 4 17 fun α12 tk12 n12 τ12 =>
 (.fin [12,12,12,6,6,6,6] ⟨.ok (.done (.ret (.ref (n1 + 0)))),[(1,(n1 + 0),lsO [(.str x2 y2),(.str x3 y3),(.str x0 y0),(.str x1 y1)] 2)],[]⟩)))))))))))))
theorem so2301R : SoRun so2301 := by
  intro w b1 b2 b3 hs p n τ row m A x0 x1 x2 x3 y0 y1 y2 y3 e hm
  refine runOf (adrs [] n) (adr1 [row + 788,kK m,A 1,A 2,A 3,A 4,A 5,A 6,A 7]) ?_
  obtain rfl | rfl | rfl | rfl | rfl | rfl := m5 hm
  all_goals cases b1 <;> kernel_rfl
theorem so2301V {w : World} {b1 b2 b3 : Bool} {h0 h1 h2 h3 h4 h5 h6 h7 h8 : Nat} {row m : Nat} {A : Nat → Nat} {x0 x1 x2 x3 : Str} {y0 y1 y2 y3 : Tok} {e : Nat} (hm : m ≤ 5) (hr : 788 ≤ row)
    (_ : kLt x0 x1 = true) (_ : kLt x0 x2 = false) (_ : kLt x0 x3 = false) (_ : kLt x1 x0 = false) (_ : kLt x1 x2 = false) (_ : kLt x1 x3 = false) (_ : kLt x2 x0 = true) (_ : kLt x2 x1 = true) (_ : kLt x2 x3 = true) (_ : kLt x3 x0 = true) (_ : kLt x3 x1 = true) (_ : kLt x3 x2 = false) : Valid (VX w b1 b2 b3) (oSo w.params h0 h1 h2 h3 h4 h5 h6 h7 h8 row m A x0 x1 x2 x3 y0 y1 y2 y3 e [(.str x2 y2),(.str x3 y3),(.str x0 y0),(.str x1 y1)]) := by
  refine so_valid so2301R row m A x0 x1 x2 x3 y0 y1 y2 y3 e hm hr fun s row => ?_
  refine nx (vCol (by simp) (by simp)) fun α tk n τ => ?_
  iterate 4 refine nx (vkN hm) fun _ _ _ _ => ?_
  iterate 7 refine nx (vkC hm (by assumption)) fun _ _ _ _ => ?_
  intro s' L q e'
  exact leaves_end (S := oSo w.params h0 h1 h2 h3 h4 h5 h6 h7 h8 (row + 788) m A x0 x1 x2 x3 y0 y1 y2 y3 e [(.str x2 y2),(.str x3 y3),(.str x0 y0),(.str x1 y1)]) (own := []) (out := ⟨.ok (.done (.ret (.ref (n + 0)))),_,[]⟩) (α := fun _ => n + 0) (tk := 0) [1] L e' rfl rfl rfl rfl (by simp) (by decide)
noncomputable def so2310 (P : Params) (n : Nat) (row m : Nat) (A : Nat → Nat) (x0 x1 x2 x3 : Str) (y0 y1 y2 y3 : Tok) (e : Nat) : Scr := (.orc [] (oCol (.blt SL.s15201008993051130160x6 :: cxt_sh) 2 (row + 788) [(.str x0 y0),(.str x1 y1),(.str x2 y2),(.str x3 y3)] e) 0 9 fun α1 tk1 n1 τ1 =>
 (.orc [3,0,6,6,6,6,6,6] (kN P m A x0 y0) 4 9 fun α2 tk2 n2 τ2 =>
 (.orc [12,12,12] (kN P m A x1 y1) 4 11 fun α3 tk3 n3 τ3 =>
 (.orc [12,12,12] (kN P m A x2 y2) 4 13 fun α4 tk4 n4 τ4 =>
 (.orc [12,12,12] (kN P m A x3 y3) 4 15 fun α5 tk5 n5 τ5 =>
 (.orc [12,12,12,12,29,35,41,47,29,35,41,47,35,5,5,8,20] (kC P m A 35 29 α3 α2 x1 y1 x0 y0 false) 4 17 fun α6 tk6 n6 τ6 =>
 (.orc [41,5,5,8,20] (kC P m A 41 35 α4 α3 x2 y2 x1 y1 true) 4 17 fun α7 tk7 n7 τ7 =>
 (.orc [29,5,5,8,20] (kC P m A 29 35 α2 α3 x0 y0 x1 y1 true) 4 17 fun α8 tk8 n8 τ8 =>
 (.orc [41,5,5,8,20] (kC P m A 41 35 α4 α3 x2 y2 x1 y1 true) 4 17 fun α9 tk9 n9 τ9 =>
 (.orc [41,5,5,8,20] (kC P m A 41 29 α4 α2 x2 y2 x0 y0 true) 4 17 fun α10 tk10 n10 τ10 =>
 (.orc [47,5,5,8,20] (kC P m A 47 29 α5 α2 x3 y3 x0 y0 true) 4 17 fun α11 tk11 n11 τ11 =>
 (.orc [47,5,5,8,20] (kC P m A 47 41 α5 α4 x3 y3 x2 y2 true) 4 17 fun α12 tk12 n12 τ12 =>
 (.fin [12,12,12,6,6,6,6] ⟨.ok (.done (.ret (.ref (n1 + 0)))),[(1,(n1 + 0),lsO [(.str x3 y3),(.str x2 y2),(.str x0 y0),(.str x1 y1)] 2)],[]⟩)))))))))))))
theorem so2310R : SoRun so2310 := by
  intro w b1 b2 b3 hs p n τ row m A x0 x1 x2 x3 y0 y1 y2 y3 e hm
  refine runOf (adrs [] n) (adr1 [row + 788,kK m,A 1,A 2,A 3,A 4,A 5,A 6,A 7]) ?_
  obtain rfl | rfl | rfl | rfl | rfl | rfl := m5 hm
  all_goals cases b1 <;> kernel_rfl
theorem so2310V {w : World} {b1 b2 b3 : Bool} {h0 h1 h2 h3 h4 h5 h6 h7 h8 : Nat} {row m : Nat} {A : Nat → Nat} {x0 x1 x2 x3 : Str} {y0 y1 y2 y3 : Tok} {e : Nat} (hm : m ≤ 5) (hr : 788 ≤ row)
    (_ : kLt x0 x1 = true) (_ : kLt x0 x2 = false) (_ : kLt x0 x3 = false) (_ : kLt x1 x0 = false) (_ : kLt x1 x2 = false) (_ : kLt x1 x3 = false) (_ : kLt x2 x0 = true) (_ : kLt x2 x1 = true) (_ : kLt x2 x3 = false) (_ : kLt x3 x0 = true) (_ : kLt x3 x1 = true) (_ : kLt x3 x2 = true) : Valid (VX w b1 b2 b3) (oSo w.params h0 h1 h2 h3 h4 h5 h6 h7 h8 row m A x0 x1 x2 x3 y0 y1 y2 y3 e [(.str x3 y3),(.str x2 y2),(.str x0 y0),(.str x1 y1)]) := by
  refine so_valid so2310R row m A x0 x1 x2 x3 y0 y1 y2 y3 e hm hr fun s row => ?_
  refine nx (vCol (by simp) (by simp)) fun α tk n τ => ?_
  iterate 4 refine nx (vkN hm) fun _ _ _ _ => ?_
  iterate 7 refine nx (vkC hm (by assumption)) fun _ _ _ _ => ?_
  intro s' L q e'
  exact leaves_end (S := oSo w.params h0 h1 h2 h3 h4 h5 h6 h7 h8 (row + 788) m A x0 x1 x2 x3 y0 y1 y2 y3 e [(.str x3 y3),(.str x2 y2),(.str x0 y0),(.str x1 y1)]) (own := []) (out := ⟨.ok (.done (.ret (.ref (n + 0)))),_,[]⟩) (α := fun _ => n + 0) (tk := 0) [1] L e' rfl rfl rfl rfl (by simp) (by decide)
noncomputable def so3012 (P : Params) (n : Nat) (row m : Nat) (A : Nat → Nat) (x0 x1 x2 x3 : Str) (y0 y1 y2 y3 : Tok) (e : Nat) : Scr := (.orc [] (oCol (.blt SL.s15201008993051130160x6 :: cxt_sh) 2 (row + 788) [(.str x0 y0),(.str x1 y1),(.str x2 y2),(.str x3 y3)] e) 0 9 fun α1 tk1 n1 τ1 =>
 (.orc [3,0,6,6,6,6,6,6] (kN P m A x0 y0) 4 9 fun α2 tk2 n2 τ2 =>
 (.orc [12,12,12] (kN P m A x1 y1) 4 11 fun α3 tk3 n3 τ3 =>
 (.orc [12,12,12] (kN P m A x2 y2) 4 13 fun α4 tk4 n4 τ4 =>
 (.orc [12,12,12] (kN P m A x3 y3) 4 15 fun α5 tk5 n5 τ5 =>
 (.orc [12,12,12,12,29,35,41,47,29,35,41,47,35,5,5,8,20] (kC P m A 35 29 α3 α2 x1 y1 x0 y0 true) 4 17 fun α6 tk6 n6 τ6 =>
 (.orc [41,5,5,8,20] (kC P m A 41 35 α4 α3 x2 y2 x1 y1 false) 4 17 fun α7 tk7 n7 τ7 =>
 (.orc [35,5,5,8,20] (kC P m A 35 41 α3 α4 x1 y1 x2 y2 true) 4 17 fun α8 tk8 n8 τ8 =>
 (.orc [41,5,5,8,20] (kC P m A 41 29 α4 α2 x2 y2 x0 y0 true) 4 17 fun α9 tk9 n9 τ9 =>
 (.orc [41,5,5,8,20] (kC P m A 41 29 α4 α2 x2 y2 x0 y0 true) 4 17 fun α10 tk10 n10 τ10 =>
 (.orc [41,5,5,8,20] (kC P m A 41 35 α4 α3 x2 y2 x1 y1 false) 4 17 fun α11 tk11 n11 τ11 =>
 (.orc [47,5,5,8,20] (kC P m A 47 41 α5 α4 x3 y3 x2 y2 false) 4 17 fun α12 tk12 n12 τ12 =>
 (.orc [47,5,5,8,20] (kC P m A 47 29 α5 α2 x3 y3 x0 y0 true) 4 17 fun α13 tk13 n13 τ13 =>
 (.fin [12,12,12,6,6,6,6] ⟨.ok (.done (.ret (.ref (n1 + 0)))),[(1,(n1 + 0),lsO [(.str x1 y1),(.str x2 y2),(.str x3 y3),(.str x0 y0)] 2)],[]⟩))))))))))))))
theorem so3012R : SoRun so3012 := by
  intro w b1 b2 b3 hs p n τ row m A x0 x1 x2 x3 y0 y1 y2 y3 e hm
  refine runOf (adrs [] n) (adr1 [row + 788,kK m,A 1,A 2,A 3,A 4,A 5,A 6,A 7]) ?_
  obtain rfl | rfl | rfl | rfl | rfl | rfl := m5 hm
  all_goals cases b1 <;> kernel_rfl
theorem so3012V {w : World} {b1 b2 b3 : Bool} {h0 h1 h2 h3 h4 h5 h6 h7 h8 : Nat} {row m : Nat} {A : Nat → Nat} {x0 x1 x2 x3 : Str} {y0 y1 y2 y3 : Tok} {e : Nat} (hm : m ≤ 5) (hr : 788 ≤ row)
    (_ : kLt x0 x1 = false) (_ : kLt x0 x2 = false) (_ : kLt x0 x3 = false) (_ : kLt x1 x0 = true) (_ : kLt x1 x2 = true) (_ : kLt x1 x3 = true) (_ : kLt x2 x0 = true) (_ : kLt x2 x1 = false) (_ : kLt x2 x3 = true) (_ : kLt x3 x0 = true) (_ : kLt x3 x1 = false) (_ : kLt x3 x2 = false) : Valid (VX w b1 b2 b3) (oSo w.params h0 h1 h2 h3 h4 h5 h6 h7 h8 row m A x0 x1 x2 x3 y0 y1 y2 y3 e [(.str x1 y1),(.str x2 y2),(.str x3 y3),(.str x0 y0)]) := by
  refine so_valid so3012R row m A x0 x1 x2 x3 y0 y1 y2 y3 e hm hr fun s row => ?_
  refine nx (vCol (by simp) (by simp)) fun α tk n τ => ?_
  iterate 4 refine nx (vkN hm) fun _ _ _ _ => ?_
  iterate 8 refine nx (vkC hm (by assumption)) fun _ _ _ _ => ?_
  intro s' L q e'
  exact leaves_end (S := oSo w.params h0 h1 h2 h3 h4 h5 h6 h7 h8 (row + 788) m A x0 x1 x2 x3 y0 y1 y2 y3 e [(.str x1 y1),(.str x2 y2),(.str x3 y3),(.str x0 y0)]) (own := []) (out := ⟨.ok (.done (.ret (.ref (n + 0)))),_,[]⟩) (α := fun _ => n + 0) (tk := 0) [1] L e' rfl rfl rfl rfl (by simp) (by decide)
noncomputable def so3021 (P : Params) (n : Nat) (row m : Nat) (A : Nat → Nat) (x0 x1 x2 x3 : Str) (y0 y1 y2 y3 : Tok) (e : Nat) : Scr := (.orc [] (oCol (.blt SL.s15201008993051130160x6 :: cxt_sh) 2 (row + 788) [(.str x0 y0),(.str x1 y1),(.str x2 y2),(.str x3 y3)] e) 0 9 fun α1 tk1 n1 τ1 =>
 (.orc [3,0,6,6,6,6,6,6] (kN P m A x0 y0) 4 9 fun α2 tk2 n2 τ2 =>
 (.orc [12,12,12] (kN P m A x1 y1) 4 11 fun α3 tk3 n3 τ3 =>
 (.orc [12,12,12] (kN P m A x2 y2) 4 13 fun α4 tk4 n4 τ4 =>
 (.orc [12,12,12] (kN P m A x3 y3) 4 15 fun α5 tk5 n5 τ5 =>
 (.orc [12,12,12,12,29,35,41,47,29,35,41,47,35,5,5,8,20] (kC P m A 35 29 α3 α2 x1 y1 x0 y0 true) 4 17 fun α6 tk6 n6 τ6 =>
 (.orc [41,5,5,8,20] (kC P m A 41 35 α4 α3 x2 y2 x1 y1 false) 4 17 fun α7 tk7 n7 τ7 =>
 (.orc [35,5,5,8,20] (kC P m A 35 41 α3 α4 x1 y1 x2 y2 true) 4 17 fun α8 tk8 n8 τ8 =>
 (.orc [41,5,5,8,20] (kC P m A 41 29 α4 α2 x2 y2 x0 y0 true) 4 17 fun α9 tk9 n9 τ9 =>
 (.orc [41,5,5,8,20] (kC P m A 41 29 α4 α2 x2 y2 x0 y0 true) 4 17 fun α10 tk10 n10 τ10 =>
 (.orc [41,5,5,8,20] (kC P m A 41 35 α4 α3 x2 y2 x1 y1 false) 4 17 fun α11 tk11 n11 τ11 =>
 (.orc [47,5,5,8,20] (kC P m A 47 41 α5 α4 x3 y3 x2 y2 true) 4 17 fun α12 tk12 n12 τ12 =>
 (.orc [47,5,5,8,20] (kC P m A 47 35 α5 α3 x3 y3 x1 y1 false) 4 17 fun α13 tk13 n13 τ13 =>
 (.fin [12,12,12,6,6,6,6] ⟨.ok (.done (.ret (.ref (n1 + 0)))),[(1,(n1 + 0),lsO [(.str x1 y1),(.str x3 y3),(.str x2 y2),(.str x0 y0)] 2)],[]⟩))))))))))))))
theorem so3021R : SoRun so3021 := by
  intro w b1 b2 b3 hs p n τ row m A x0 x1 x2 x3 y0 y1 y2 y3 e hm
  refine runOf (adrs [] n) (adr1 [row + 788,kK m,A 1,A 2,A 3,A 4,A 5,A 6,A 7]) ?_
  obtain rfl | rfl | rfl | rfl | rfl | rfl := m5 hm
  all_goals cases b1 <;> kernel_rfl
theorem so3021V {w : World} {b1 b2 b3 : Bool} {h0 h1 h2 h3 h4 h5 h6 h7 h8 : Nat} {row m : Nat} {A : Nat → Nat} {x0 x1 x2 x3 : Str} {y0 y1 y2 y3 : Tok} {e : Nat} (hm : m ≤ 5) (hr : 788 ≤ row)
    (_ : kLt x0 x1 = false) (_ : kLt x0 x2 = false) (_ : kLt x0 x3 = false) (_ : kLt x1 x0 = true) (_ : kLt x1 x2 = true) (_ : kLt x1 x3 = true) (_ : kLt x2 x0 = true) (_ : kLt x2 x1 = false) (_ : kLt x2 x3 = false) (_ : kLt x3 x0 = true) (_ : kLt x3 x1 = false) (_ : kLt x3 x2 = true) : Valid (VX w b1 b2 b3) (oSo w.params h0 h1 h2 h3 h4 h5 h6 h7 h8 row m A x0 x1 x2 x3 y0 y1 y2 y3 e [(.str x1 y1),(.str x3 y3),(.str x2 y2),(.str x0 y0)]) := by
  refine so_valid so3021R row m A x0 x1 x2 x3 y0 y1 y2 y3 e hm hr fun s row => ?_
  refine nx (vCol (by simp) (by simp)) fun α tk n τ => ?_
  iterate 4 refine nx (vkN hm) fun _ _ _ _ => ?_
  iterate 8 refine nx (vkC hm (by assumption)) fun _ _ _ _ => ?_
  intro s' L q e'
  exact leaves_end (S := oSo w.params h0 h1 h2 h3 h4 h5 h6 h7 h8 (row + 788) m A x0 x1 x2 x3 y0 y1 y2 y3 e [(.str x1 y1),(.str x3 y3),(.str x2 y2),(.str x0 y0)]) (own := []) (out := ⟨.ok (.done (.ret (.ref (n + 0)))),_,[]⟩) (α := fun _ => n + 0) (tk := 0) [1] L e' rfl rfl rfl rfl (by simp) (by decide)
noncomputable def so3102 (P : Params) (n : Nat) (row m : Nat) (A : Nat → Nat) (x0 x1 x2 x3 : Str) (y0 y1 y2 y3 : Tok) (e : Nat) : Scr := (.orc [] (oCol (.blt SL.s15201008993051130160x6 :: cxt_sh) 2 (row + 788) [(.str x0 y0),(.str x1 y1),(.str x2 y2),(.str x3 y3)] e) 0 9 fun α1 tk1 n1 τ1 =>
 (.orc [3,0,6,6,6,6,6,6] (kN P m A x0 y0) 4 9 fun α2 tk2 n2 τ2 =>
 (.orc [12,12,12] (kN P m A x1 y1) 4 11 fun α3 tk3 n3 τ3 =>
 (.orc [12,12,12] (kN P m A x2 y2) 4 13 fun α4 tk4 n4 τ4 =>
 (.orc [12,12,12] (kN P m A x3 y3) 4 15 fun α5 tk5 n5 τ5 =>
 (.orc [12,12,12,12,29,35,41,47,29,35,41,47,35,5,5,8,20] (kC P m A 35 29 α3 α2 x1 y1 x0 y0 true) 4 17 fun α6 tk6 n6 τ6 =>
 (.orc [41,5,5,8,20] (kC P m A 41 35 α4 α3 x2 y2 x1 y1 true) 4 17 fun α7 tk7 n7 τ7 =>
 (.orc [47,5,5,8,20] (kC P m A 47 41 α5 α4 x3 y3 x2 y2 false) 4 17 fun α8 tk8 n8 τ8 =>
 (.orc [41,5,5,8,20] (kC P m A 41 47 α4 α5 x2 y2 x3 y3 true) 4 17 fun α9 tk9 n9 τ9 =>
 (.orc [47,5,5,8,20] (kC P m A 47 29 α5 α2 x3 y3 x0 y0 true) 4 17 fun α10 tk10 n10 τ10 =>
 (.orc [47,5,5,8,20] (kC P m A 47 35 α5 α3 x3 y3 x1 y1 false) 4 17 fun α11 tk11 n11 τ11 =>
 (.orc [47,5,5,8,20] (kC P m A 47 29 α5 α2 x3 y3 x0 y0 true) 4 17 fun α12 tk12 n12 τ12 =>
 (.fin [12,12,12,6,6,6,6] ⟨.ok (.done (.ret (.ref (n1 + 0)))),[(1,(n1 + 0),lsO [(.str x2 y2),(.str x1 y1),(.str x3 y3),(.str x0 y0)] 2)],[]⟩)))))))))))))
theorem so3102R : SoRun so3102 := by
  intro w b1 b2 b3 hs p n τ row m A x0 x1 x2 x3 y0 y1 y2 y3 e hm
  refine runOf (adrs [] n) (adr1 [row + 788,kK m,A 1,A 2,A 3,A 4,A 5,A 6,A 7]) ?_
  obtain rfl | rfl | rfl | rfl | rfl | rfl := m5 hm
  all_goals cases b1 <;> kernel_rfl
theorem so3102V {w : World} {b1 b2 b3 : Bool} {h0 h1 h2 h3 h4 h5 h6 h7 h8 : Nat} {row m : Nat} {A : Nat → Nat} {x0 x1 x2 x3 : Str} {y0 y1 y2 y3 : Tok} {e : Nat} (hm : m ≤ 5) (hr : 788 ≤ row)
    (_ : kLt x0 x1 = false) (_ : kLt x0 x2 = false) (_ : kLt x0 x3 = false) (_ : kLt x1 x0 = true) (_ : kLt x1 x2 = false) (_ : kLt x1 x3 = true) (_ : kLt x2 x0 = true) (_ : kLt x2 x1 = true) (_ : kLt x2 x3 = true) (_ : kLt x3 x0 = true) (_ : kLt x3 x1 = false) (_ : kLt x3 x2 = false) : Valid (VX w b1 b2 b3) (oSo w.params h0 h1 h2 h3 h4 h5 h6 h7 h8 row m A x0 x1 x2 x3 y0 y1 y2 y3 e [(.str x2 y2),(.str x1 y1),(.str x3 y3),(.str x0 y0)]) := by
  refine so_valid so3102R row m A x0 x1 x2 x3 y0 y1 y2 y3 e hm hr fun s row => ?_
  refine nx (vCol (by simp) (by simp)) fun α tk n τ => ?_
  iterate 4 refine nx (vkN hm) fun _ _ _ _ => ?_
  iterate 7 refine nx (vkC hm (by assumption)) fun _ _ _ _ => ?_
  intro s' L q e'
  exact leaves_end (S := oSo w.params h0 h1 h2 h3 h4 h5 h6 h7 h8 (row + 788) m A x0 x1 x2 x3 y0 y1 y2 y3 e [(.str x2 y2),(.str x1 y1),(.str x3 y3),(.str x0 y0)]) (own := []) (out := ⟨.ok (.done (.ret (.ref (n + 0)))),_,[]⟩) (α := fun _ => n + 0) (tk := 0) [1] L e' rfl rfl rfl rfl (by simp) (by decide)
noncomputable def so3120 (P : Params) (n : Nat) (row m : Nat) (A : Nat → Nat) (x0 x1 x2 x3 : Str) (y0 y1 y2 y3 : Tok) (e : Nat) : Scr := (.orc [] (oCol (.blt SL.s15201008993051130160x6 :: cxt_sh) 2 (row + 788) [(.str x0 y0),(.str x1 y1),(.str x2 y2),(.str x3 y3)] e) 0 9 fun α1 tk1 n1 τ1 =>
 (.orc [3,0,6,6,6,6,6,6] (kN P m A x0 y0) 4 9 fun α2 tk2 n2 τ2 =>
 (.orc [12,12,12] (kN P m A x1 y1) 4 11 fun α3 tk3 n3 τ3 =>
 (.orc [12,12,12] (kN P m A x2 y2) 4 13 fun α4 tk4 n4 τ4 =>
 (.orc [12,12,12] (kN P m A x3 y3) 4 15 fun α5 tk5 n5 τ5 =>
 (.orc [12,12,12,12,29,35,41,47,29,35,41,47,35,5,5,8,20] (kC P m A 35 29 α3 α2 x1 y1 x0 y0 true) 4 17 fun α6 tk6 n6 τ6 =>
 (.orc [41,5,5,8,20] (kC P m A 41 35 α4 α3 x2 y2 x1 y1 false) 4 17 fun α7 tk7 n7 τ7 =>
 (.orc [35,5,5,8,20] (kC P m A 35 41 α3 α4 x1 y1 x2 y2 true) 4 17 fun α8 tk8 n8 τ8 =>
 (.orc [41,5,5,8,20] (kC P m A 41 29 α4 α2 x2 y2 x0 y0 true) 4 17 fun α9 tk9 n9 τ9 =>
 (.orc [41,5,5,8,20] (kC P m A 41 29 α4 α2 x2 y2 x0 y0 true) 4 17 fun α10 tk10 n10 τ10 =>
 (.orc [41,5,5,8,20] (kC P m A 41 35 α4 α3 x2 y2 x1 y1 false) 4 17 fun α11 tk11 n11 τ11 =>
 (.orc [47,5,5,8,20] (kC P m A 47 41 α5 α4 x3 y3 x2 y2 true) 4 17 fun α12 tk12 n12 τ12 =>
 (.orc [47,5,5,8,20] (kC P m A 47 35 α5 α3 x3 y3 x1 y1 true) 4 17 fun α13 tk13 n13 τ13 =>
 (.fin [12,12,12,6,6,6,6] ⟨.ok (.done (.ret (.ref (n1 + 0)))),[(1,(n1 + 0),lsO [(.str x3 y3),(.str x1 y1),(.str x2 y2),(.str x0 y0)] 2)],[]⟩))))))))))))))
theorem so3120R : SoRun so3120 := by
  intro w b1 b2 b3 hs p n τ row m A x0 x1 x2 x3 y0 y1 y2 y3 e hm
  refine runOf (adrs [] n) (adr1 [row + 788,kK m,A 1,A 2,A 3,A 4,A 5,A 6,A 7]) ?_
  obtain rfl | rfl | rfl | rfl | rfl | rfl := m5 hm
  all_goals cases b1 <;> kernel_rfl
theorem so3120V {w : World} {b1 b2 b3 : Bool} {h0 h1 h2 h3 h4 h5 h6 h7 h8 : Nat} {row m : Nat} {A : Nat → Nat} {x0 x1 x2 x3 : Str} {y0 y1 y2 y3 : Tok} {e : Nat} (hm : m ≤ 5) (hr : 788 ≤ row)
    (_ : kLt x0 x1 = false) (_ : kLt x0 x2 = false) (_ : kLt x0 x3 = false) (_ : kLt x1 x0 = true) (_ : kLt x1 x2 = true) (_ : kLt x1 x3 = false) (_ : kLt x2 x0 = true) (_ : kLt x2 x1 = false) (_ : kLt x2 x3 = false) (_ : kLt x3 x0 = true) (_ : kLt x3 x1 = true) (_ : kLt x3 x2 = true) : Valid (VX w b1 b2 b3) (oSo w.params h0 h1 h2 h3 h4 h5 h6 h7 h8 row m A x0 x1 x2 x3 y0 y1 y2 y3 e [(.str x3 y3),(.str x1 y1),(.str x2 y2),(.str x0 y0)]) := by
  refine so_valid so3120R row m A x0 x1 x2 x3 y0 y1 y2 y3 e hm hr fun s row => ?_
  refine nx (vCol (by simp) (by simp)) fun α tk n τ => ?_
  iterate 4 refine nx (vkN hm) fun _ _ _ _ => ?_
  iterate 8 refine nx (vkC hm (by assumption)) fun _ _ _ _ => ?_
  intro s' L q e'
  exact leaves_end (S := oSo w.params h0 h1 h2 h3 h4 h5 h6 h7 h8 (row + 788) m A x0 x1 x2 x3 y0 y1 y2 y3 e [(.str x3 y3),(.str x1 y1),(.str x2 y2),(.str x0 y0)]) (own := []) (out := ⟨.ok (.done (.ret (.ref (n + 0)))),_,[]⟩) (α := fun _ => n + 0) (tk := 0) [1] L e' rfl rfl rfl rfl (by simp) (by decide)
noncomputable def so3201 (P : Params) (n : Nat) (row m : Nat) (A : Nat → Nat) (x0 x1 x2 x3 : Str) (y0 y1 y2 y3 : Tok) (e : Nat) : Scr := (.orc [] (oCol (.blt SL.s15201008993051130160x6 :: cxt_sh) 2 (row + 788) [(.str x0 y0),(.str x1 y1),(.str x2 y2),(.str x3 y3)] e) 0 9 fun α1 tk1 n1 τ1 =>
 (.orc [3,0,6,6,6,6,6,6] (kN P m A x0 y0) 4 9 fun α2 tk2 n2 τ2 =>
 (.orc [12,12,12] (kN P m A x1 y1) 4 11 fun α3 tk3 n3 τ3 =>
 (.orc [12,12,12] (kN P m A x2 y2) 4 13 fun α4 tk4 n4 τ4 =>
 (.orc [12,12,12] (kN P m A x3 y3) 4 15 fun α5 tk5 n5 τ5 =>
 (.orc [12,12,12,12,29,35,41,47,29,35,41,47,35,5,5,8,20] (kC P m A 35 29 α3 α2 x1 y1 x0 y0 true) 4 17 fun α6 tk6 n6 τ6 =>
 (.orc [41,5,5,8,20] (kC P m A 41 35 α4 α3 x2 y2 x1 y1 true) 4 17 fun α7 tk7 n7 τ7 =>
 (.orc [47,5,5,8,20] (kC P m A 47 41 α5 α4 x3 y3 x2 y2 false) 4 17 fun α8 tk8 n8 τ8 =>
 (.orc [41,5,5,8,20] (kC P m A 41 47 α4 α5 x2 y2 x3 y3 true) 4 17 fun α9 tk9 n9 τ9 =>
 (.orc [47,5,5,8,20] (kC P m A 47 29 α5 α2 x3 y3 x0 y0 true) 4 17 fun α10 tk10 n10 τ10 =>
 (.orc [47,5,5,8,20] (kC P m A 47 35 α5 α3 x3 y3 x1 y1 true) 4 17 fun α11 tk11 n11 τ11 =>
 (.orc [47,5,5,8,20] (kC P m A 47 41 α5 α4 x3 y3 x2 y2 false) 4 17 fun α12 tk12 n12 τ12 =>
 (.fin [12,12,12,6,6,6,6] ⟨.ok (.done (.ret (.ref (n1 + 0)))),[(1,(n1 + 0),lsO [(.str x2 y2),(.str x3 y3),(.str x1 y1),(.str x0 y0)] 2)],[]⟩)))))))))))))
theorem so3201R : SoRun so3201 := by
  intro w b1 b2 b3 hs p n τ row m A x0 x1 x2 x3 y0 y1 y2 y3 e hm
  refine runOf (adrs [] n) (adr1 [row + 788,kK m,A 1,A 2,A 3,A 4,A 5,A 6,A 7]) ?_
  obtain rfl | rfl | rfl | rfl | rfl | rfl := m5 hm
  all_goals cases b1 <;> kernel_rfl
theorem so3201V {w : World} {b1 b2 b3 : Bool} {h0 h1 h2 h3 h4 h5 h6 h7 h8 : Nat} {row m : Nat} {A : Nat → Nat} {x0 x1 x2 x3 : Str} {y0 y1 y2 y3 : Tok} {e : Nat} (hm : m ≤ 5) (hr : 788 ≤ row)
    (_ : kLt x0 x1 = false) (_ : kLt x0 x2 = false) (_ : kLt x0 x3 = false) (_ : kLt x1 x0 = true) (_ : kLt x1 x2 = false) (_ : kLt x1 x3 = false) (_ : kLt x2 x0 = true) (_ : kLt x2 x1 = true) (_ : kLt x2 x3 = true) (_ : kLt x3 x0 = true) (_ : kLt x3 x1 = true) (_ : kLt x3 x2 = false) : Valid (VX w b1 b2 b3) (oSo w.params h0 h1 h2 h3 h4 h5 h6 h7 h8 row m A x0 x1 x2 x3 y0 y1 y2 y3 e [(.str x2 y2),(.str x3 y3),(.str x1 y1),(.str x0 y0)]) := by
  refine so_valid so3201R row m A x0 x1 x2 x3 y0 y1 y2 y3 e hm hr fun s row => ?_
  refine nx (vCol (by simp) (by simp)) fun α tk n τ => ?_
  iterate 4 refine nx (vkN hm) fun _ _ _ _ => ?_
  iterate 7 refine nx (vkC hm (by assumption)) fun _ _ _ _ => ?_
  intro s' L q e'
  exact leaves_end (S := oSo w.params h0 h1 h2 h3 h4 h5 h6 h7 h8 (row + 788) m A x0 x1 x2 x3 y0 y1 y2 y3 e [(.str x2 y2),(.str x3 y3),(.str x1 y1),(.str x0 y0)]) (own := []) (out := ⟨.ok (.done (.ret (.ref (n + 0)))),_,[]⟩) (α := fun _ => n + 0) (tk := 0) [1] L e' rfl rfl rfl rfl (by simp) (by decide)
noncomputable def so3210 (P : Params) (n : Nat) (row m : Nat) (A : Nat → Nat) (x0 x1 x2 x3 : Str) (y0 y1 y2 y3 : Tok) (e : Nat) : Scr := (.orc [] (oCol (.blt SL.s15201008993051130160x6 :: cxt_sh) 2 (row + 788) [(.str x0 y0),(.str x1 y1),(.str x2 y2),(.str x3 y3)] e) 0 9 fun α1 tk1 n1 τ1 =>
 (.orc [3,0,6,6,6,6,6,6] (kN P m A x0 y0) 4 9 fun α2 tk2 n2 τ2 =>
 (.orc [12,12,12] (kN P m A x1 y1) 4 11 fun α3 tk3 n3 τ3 =>
 (.orc [12,12,12] (kN P m A x2 y2) 4 13 fun α4 tk4 n4 τ4 =>
 (.orc [12,12,12] (kN P m A x3 y3) 4 15 fun α5 tk5 n5 τ5 =>
 (.orc [12,12,12,12,29,35,41,47,29,35,41,47,35,5,5,8,20] (kC P m A 35 29 α3 α2 x1 y1 x0 y0 true) 4 17 fun α6 tk6 n6 τ6 =>
 (.orc [41,5,5,8,20] (kC P m A 41 35 α4 α3 x2 y2 x1 y1 true) 4 17 fun α7 tk7 n7 τ7 =>
 (.orc [47,5,5,8,20] (kC P m A 47 41 α5 α4 x3 y3 x2 y2 true) 4 17 fun α8 tk8 n8 τ8 =>
 (.fin [12,12,12,6,6,6,6] ⟨.ok (.done (.ret (.ref (n1 + 0)))),[(1,(n1 + 0),lsO [(.str x3 y3),(.str x2 y2),(.str x1 y1),(.str x0 y0)] 2)],[]⟩)))))))))
theorem so3210R : SoRun so3210 := by
  intro w b1 b2 b3 hs p n τ row m A x0 x1 x2 x3 y0 y1 y2 y3 e hm
  refine runOf (adrs [] n) (adr1 [row + 788,kK m,A 1,A 2,A 3,A 4,A 5,A 6,A 7]) ?_
  obtain rfl | rfl | rfl | rfl | rfl | rfl := m5 hm
  all_goals cases b1 <;> kernel_rfl
theorem so3210V {w : World} {b1 b2 b3 : Bool} {h0 h1 h2 h3 h4 h5 h6 h7 h8 : Nat} {row m : Nat} {A : Nat → Nat} {x0 x1 x2 x3 : Str} {y0 y1 y2 y3 : Tok} {e : Nat} (hm : m ≤ 5) (hr : 788 ≤ row)
    (_ : kLt x0 x1 = false) (_ : kLt x0 x2 = false) (_ : kLt x0 x3 = false) (_ : kLt x1 x0 = true) (_ : kLt x1 x2 = false) (_ : kLt x1 x3 = false) (_ : kLt x2 x0 = true) (_ : kLt x2 x1 = true) (_ : kLt x2 x3 = false) (_ : kLt x3 x0 = true) (_ : kLt x3 x1 = true) (_ : kLt x3 x2 = true) : Valid (VX w b1 b2 b3) (oSo w.params h0 h1 h2 h3 h4 h5 h6 h7 h8 row m A x0 x1 x2 x3 y0 y1 y2 y3 e [(.str x3 y3),(.str x2 y2),(.str x1 y1),(.str x0 y0)]) := by
  refine so_valid so3210R row m A x0 x1 x2 x3 y0 y1 y2 y3 e hm hr fun s row => ?_
  refine nx (vCol (by simp) (by simp)) fun α tk n τ => ?_
  iterate 4 refine nx (vkN hm) fun _ _ _ _ => ?_
  iterate 3 refine nx (vkC hm (by assumption)) fun _ _ _ _ => ?_
  intro s' L q e'
  exact leaves_end (S := oSo w.params h0 h1 h2 h3 h4 h5 h6 h7 h8 (row + 788) m A x0 x1 x2 x3 y0 y1 y2 y3 e [(.str x3 y3),(.str x2 y2),(.str x1 y1),(.str x0 y0)]) (own := []) (out := ⟨.ok (.done (.ret (.ref (n + 0)))),_,[]⟩) (α := fun _ => n + 0) (tk := 0) [1] L e' rfl rfl rfl rfl (by simp) (by decide)
end Mine
end
section
open PySem PySem.W PyProof.Rows
namespace Mine
noncomputable def stc (p : Nat) : Nat := match p with
  | 1 => 39
  | 2 => 34
  | 3 => 96
  | _ => 97
theorem lt4 {p : Nat} (h : p < 4) : p = 0 ∨ p = 1 ∨ p = 2 ∨ p = 3 := by omega
theorem app_list (x y : Str) : (x ++ y).cps.toList = x.cps.toList ++ y.cps.toList := by
  show (Str.append x y).cps.toList = _
  cases x; cases y
  simp [Str.append]
theorem app_assoc (x y z : Str) : x ++ y ++ z = x ++ (y ++ z) := str_ext (by
  apply Array.ext'
  rw [app_list,app_list,app_list,app_list,List.append_assoc])
theorem lstart_step {c : Nat} (h : isSg c) : lstart c = lstep (97,u [],false) c := by
  rcases h with rfl | rfl | rfl | rfl <;> rfl
theorem lexT_fold {l : List Nat} (hne : l ≠ []) (h : ∀ c ∈ l,isSg c) : lexT l = l.foldl lstep (97,u [],false) := by
  cases l with
  | nil => exact absurd rfl hne
  | cons c cs =>
    show cs.foldl lstep (lstart c) = cs.foldl lstep (lstep (97,u [],false) c)
    rw [lstart_step (h c (.head _))]
theorem passed_lt {p : Nat} {K : Str} {c : Nat} (hp : p < 4) (hc : isSg c) : (passed (p,K) c).1 < 4 := by
  rcases lt4 hp with rfl | rfl | rfl | rfl <;> rcases hc with rfl | rfl | rfl | rfl <;> first | exact (by decide : 0 < 4) | exact (by decide : 1 < 4) | exact (by decide : 2 < 4) | exact (by decide : 3 < 4)
theorem step_one {p n : Nat} {K : Str} {qd : Bool} {c : Nat} (hp : p < 4) (hc : isSg c) (J : qd = false → p = 0 → K.length = n) :
    ∃ qd',lstep (stc p,K,qd) c = (stc (passed (p,K) c).1,(passed (p,K) c).2,qd') ∧ (qd' = false → (passed (p,K) c).1 = 0 → (passed (p,K) c).2.length = n + 1) := by
  have e1 : K.length = n → (K ++ u [120]).length = n + 1 := fun h => by rw [strLen_append,h]; rfl
  rcases lt4 hp with rfl | rfl | rfl | rfl <;> rcases hc with rfl | rfl | rfl | rfl
  · exact ⟨qd,rfl,fun h _ => e1 (J h rfl)⟩
  all_goals first
    | exact ⟨qd,rfl,fun _ h => nomatch (show (1 : Nat) = 0 from h)⟩
    | exact ⟨qd,rfl,fun _ h => nomatch (show (2 : Nat) = 0 from h)⟩
    | exact ⟨qd,rfl,fun _ h => nomatch (show (3 : Nat) = 0 from h)⟩
    | exact ⟨true,rfl,fun h => nomatch h⟩
theorem step_all : ∀ (l : List Nat) (p n : Nat) (K : Str) (qd : Bool),p < 4 → (∀ c ∈ l,isSg c) → (qd = false → p = 0 → K.length = n) →
    ∃ qd',l.foldl lstep (stc p,K,qd) = (stc (l.foldl passed (p,K)).1,(l.foldl passed (p,K)).2,qd') ∧ (l.foldl passed (p,K)).1 < 4 ∧ (qd' = false → (l.foldl passed (p,K)).1 = 0 → (l.foldl passed (p,K)).2.length = n + l.length)
  | [],p,n,K,qd,hp,_,J => ⟨qd,rfl,hp,J⟩
  | c :: l,p,n,K,qd,hp,h,J => by
    obtain ⟨qd',e,J'⟩ := step_one hp (h c (.head _)) J
    obtain ⟨qd2,e2,a,J2⟩ := step_all l (passed (p,K) c).1 (n + 1) (passed (p,K) c).2 qd' (passed_lt hp (h c (.head _))) (fun x hx => h x (.tail _ hx)) J'
    refine ⟨qd2,?_,a,fun h1 h2 => ?_⟩
    · rw [List.foldl_cons,e]; exact e2
    · rw [List.length_cons,show n + (l.length + 1) = n + 1 + l.length by omega]; exact J2 h1 h2
theorem mark_sg {p : Nat} (hp : p < 4) : ∀ c ∈ (mark p).cps.toList,isSg c := fun c hc => by
  rcases lt4 hp with rfl | rfl | rfl | rfl
  · exact nomatch (show c ∈ ([] : List Nat) from hc)
  · obtain rfl := List.mem_singleton.mp (show c ∈ [39] from hc); exact .inr (.inl rfl)
  · obtain rfl := List.mem_singleton.mp (show c ∈ [34] from hc); exact .inr (.inr (.inl rfl))
  · obtain rfl := List.mem_singleton.mp (show c ∈ [96] from hc); exact .inr (.inr (.inr rfl))
theorem mark_start {p : Nat} (hp : p < 4) : (mark p).cps.toList.foldl lstep (97,u [],false) = (stc p,u [],false) := by
  rcases lt4 hp with rfl | rfl | rfl | rfl <;> rfl
theorem mark_size {p : Nat} (hp : p < 4) : (mark p).length ≤ 1 := by
  rcases lt4 hp with rfl | rfl | rfl | rfl <;> decide
theorem line_ok {T : Str} {st g : Nat} (hs : st < 4) (hg : g < 4) (h2 : 2 ≤ T.length) (hl : T.length ≤ 900) (hsg : ∀ c ∈ T.cps.toList,isSg c) : TokOk (mark st ++ T ++ mark g) := by
  have a := mark_size hs
  have b := mark_size hg
  have e : (mark st ++ T ++ mark g).length = (mark st).length + T.length + (mark g).length := by rw [strLen_append,strLen_append]
  refine ⟨fun h => ?_,fun c hc => ?_,?_,?_⟩
  · have : (mark st ++ T ++ mark g).length = 0 := by
      show (mark st ++ T ++ mark g).cps.size = 0
      rw [← Array.length_toList,h]; rfl
    omega
  · rw [app_list,app_list] at hc
    rcases List.mem_append.mp hc with hc | hc
    · rcases List.mem_append.mp hc with hc | hc
      · exact mark_sg hs c hc
      · exact hsg c hc
    · exact mark_sg hg c hc
  · omega
  · omega
theorem line_lex {T : Str} {st g : Nat} (hs : st < 4) (hg : g < 4) (h2 : 2 ≤ T.length) (hl : T.length ≤ 900) (hsg : ∀ c ∈ T.cps.toList,isSg c) :
    ∃ qd,lexT (mark st ++ T ++ mark g).cps.toList = (mark g).cps.toList.foldl lstep (stc (T.cps.toList.foldl passed (st,u [])).1,(T.cps.toList.foldl passed (st,u [])).2,qd) ∧ (T.cps.toList.foldl passed (st,u [])).1 < 4 ∧
      (qd = false → (T.cps.toList.foldl passed (st,u [])).1 = 0 → (T.cps.toList.foldl passed (st,u [])).2.length = T.length) := by
  have O := line_ok hs hg h2 hl hsg
  obtain ⟨qd,e,a,J⟩ := step_all T.cps.toList st 0 (u []) false hs hsg (fun _ _ => rfl)
  refine ⟨qd,?_,a,fun x y => (J x y).trans (by rw [Nat.zero_add]; exact Array.length_toList)⟩
  rw [lexT_fold O.ne O.sg,app_list,app_list,List.foldl_append,List.foldl_append,mark_start hs,e]
theorem tokS_of {T : Str} {st g : Nat} (hs : st < 4) (h2 : 2 ≤ T.length) (hl : T.length ≤ 900) (hsg : ∀ c ∈ T.cps.toList,isSg c) (hg : (T.cps.toList.foldl passed (st,u [])).1 = g) : TokS (mark st ++ T ++ mark g) (T.cps.toList.foldl passed (st,u [])).2 := by
  obtain ⟨_,_,a,_⟩ := line_lex (g := 0) hs (by decide) h2 hl hsg
  rw [hg] at a
  obtain ⟨qd,e,_,J⟩ := line_lex hs a h2 hl hsg
  refine ⟨line_ok hs a h2 hl hsg,?_⟩
  rw [e]
  rw [hg] at J ⊢
  generalize (T.cps.toList.foldl passed (st,u [])).2 = K at J ⊢
  rcases lt4 a with rfl | rfl | rfl | rfl
  · refine ⟨qd,rfl,fun h => ?_⟩
    have := J h rfl
    cases hK : (K == u []) with
    | false => rfl
    | true =>
      have := beq_iff_eq.mp hK
      subst this
      have : (u []).length = 0 := rfl
      omega
  · exact ⟨true,rfl,fun h => nomatch h⟩
  · exact ⟨true,rfl,fun h => nomatch h⟩
  · exact ⟨true,rfl,fun h => nomatch h⟩
theorem tokN_of {T : Str} {st g : Nat} (hs : st < 4) (hg4 : g < 4) (h2 : 2 ≤ T.length) (hl : T.length ≤ 900) (hsg : ∀ c ∈ T.cps.toList,isSg c) (hg : (T.cps.toList.foldl passed (st,u [])).1 ≠ g) : TokN (mark st ++ T ++ mark g) := by
  obtain ⟨qd,e,a,J⟩ := line_lex hs hg4 h2 hl hsg
  refine ⟨line_ok hs hg4 h2 hl hsg,?_⟩
  rw [e]
  generalize (T.cps.toList.foldl passed (st,u [])).2 = K
  generalize (T.cps.toList.foldl passed (st,u [])).1 = p at a hg
  rcases lt4 a with rfl | rfl | rfl | rfl <;> rcases lt4 hg4 with rfl | rfl | rfl | rfl <;> first | exact absurd rfl hg | exact ⟨_,_,_,rfl,.inl rfl⟩ | exact ⟨_,_,_,rfl,.inr (.inl rfl)⟩ | exact ⟨_,_,_,rfl,.inr (.inr rfl)⟩
noncomputable def R4.s (r : R4) (i : Nat) : Str := match i with
  | 0 => r.x0
  | 1 => r.x1
  | 2 => r.x2
  | _ => r.x3
noncomputable def R4.t (r : R4) (i : Nat) : Tok := match i with
  | 0 => r.y0
  | 1 => r.y1
  | 2 => r.y2
  | _ => r.y3
noncomputable def R4.vals (r : R4) : List Value := [.str r.x0 r.y0,.str r.x1 r.y1,.str r.x2 r.y2,.str r.x3 r.y3]
theorem vals_at (r : R4) {i : Nat} (h : i < 4) : r.vals[i]? = some (.str (r.s i) (r.t i)) := by
  rcases lt4 h with rfl | rfl | rfl | rfl <;> rfl
noncomputable def R4.Dis (r : R4) : Prop := ∀ i j,i < 4 → j < 4 → r.s i = r.s j → i = j
theorem swap_at (r : R4) {p : Nat} {K : Str} {c : Nat} (hp : p < 4) (hc : isSg c) : (r.swap c).s (passed (p,K) c).1 = r.s p := by
  rcases lt4 hp with rfl | rfl | rfl | rfl <;> rcases hc with rfl | rfl | rfl | rfl <;> rfl
theorem row_at : ∀ (l : List Nat) (r : R4) (p : Nat) (K : Str),p < 4 → (∀ c ∈ l,isSg c) → (l.foldl R4.swap r).s (l.foldl passed (p,K)).1 = r.s p
  | [],_,_,_,_,_ => rfl
  | c :: l,r,p,K,hp,h => (row_at l (r.swap c) (passed (p,K) c).1 (passed (p,K) c).2 (passed_lt hp (h c (.head _))) (fun x hx => h x (.tail _ hx))).trans (swap_at r hp (h c (.head _)))
theorem sig_sig {c p : Nat} (hp : p < 4) (hc : isSg c) : (passed ((passed (p,u []) c).1,u []) c).1 = p := by
  rcases lt4 hp with rfl | rfl | rfl | rfl <;> rcases hc with rfl | rfl | rfl | rfl <;> rfl
theorem dis_swap {r : R4} (h : r.Dis) {c : Nat} (hc : isSg c) : (r.swap c).Dis := by
  intro i j hi hj e
  have a : ∀ i,i < 4 → (r.swap c).s i = r.s (passed (i,u []) c).1 := fun i hi => by
    have := swap_at r (K := u []) (passed_lt (K := u []) hi hc) hc
    rwa [sig_sig hi hc] at this
  rw [a i hi,a j hj] at e
  have := h _ _ (passed_lt hi hc) (passed_lt hj hc) e
  rw [← sig_sig hi hc,← sig_sig hj hc,this]
theorem dis_rows : ∀ (l : List Nat) (r : R4),r.Dis → (∀ c ∈ l,isSg c) → (l.foldl R4.swap r).Dis
  | [],_,h,_ => h
  | c :: l,r,h,hs => dis_rows l (r.swap c) (dis_swap h (hs c (.head _))) fun x hx => hs x (.tail _ hx)
theorem ov_in {v : Ov} {wd : R4} (hws : v.ws = wd.vals) (hxs : v.xs = (v.x.T.cps.toList.foldl R4.swap wd).vals) (hd : wd.Dis) (h2 : 2 ≤ v.x.T.length) (hT : v.x.T.length ≤ 500) (hW : v.x.Wy.length ≤ 300) (sg : ∀ c ∈ v.x.T.cps.toList,isSg c) (sgW : ∀ c ∈ v.x.Wy.cps.toList,isSg c)
    (home : ∀ i,i < 4 → (v.x.Wy.cps.toList.foldl R4.swap (v.x.T.cps.toList.foldl R4.swap wd)).s i = wd.s i) : v.In := by
  refine ⟨fun h => ?_,sg,sgW,hT,hW,fun st hst => ⟨⟨wd.s st,wd.t st,by rw [hws]; exact vals_at wd hst,fun g hg => ⟨_,_,by rw [hxs]; exact vals_at _ hg,?_⟩⟩,?_⟩⟩
  · have : v.x.T.length = 0 := by
      show v.x.T.cps.size = 0
      rw [← Array.length_toList,h]; rfl
    omega
  · have ra := row_at v.x.T.cps.toList wd st (u []) hst sg
    obtain ⟨_,_,a,_⟩ := line_lex (g := 0) hst (by decide) h2 (by omega) sg
    by_cases hp : (v.x.T.cps.toList.foldl passed (st,u [])).1 = g
    · refine .inl ⟨?_,tokS_of hst h2 (by omega) sg hp⟩
      rw [hp] at ra
      exact beq_iff_eq.mpr ra
    · refine .inr ⟨?_,tokN_of hst hg h2 (by omega) sg hp⟩
      cases e : ((v.x.T.cps.toList.foldl R4.swap wd).s g == wd.s st) with
      | false => rfl
      | true =>
        exfalso
        have e := beq_iff_eq.mp e
        exact hp (dis_rows _ _ hd sg _ _ a hg (ra.trans e.symm))
  · have e : mark st ++ v.x.T ++ v.x.Wy ++ mark st = mark st ++ (v.x.T ++ v.x.Wy) ++ mark st := by rw [app_assoc (mark st) v.x.T v.x.Wy]
    rw [e]
    have el : (v.x.T ++ v.x.Wy).length = v.x.T.length + v.x.Wy.length := strLen_append _ _
    have sg2 : ∀ c ∈ (v.x.T ++ v.x.Wy).cps.toList,isSg c := fun c hc => by
      rw [app_list] at hc
      exact (List.mem_append.mp hc).elim (sg c) (sgW c)
    refine tokS_of hst (by omega) (by omega) sg2 ?_
    have ra := row_at (v.x.T ++ v.x.Wy).cps.toList wd st (u []) hst sg2
    obtain ⟨_,_,a,_⟩ := line_lex (T := v.x.T ++ v.x.Wy) (g := 0) hst (by decide) (by omega) (by omega) sg2
    rw [app_list,List.foldl_append,home _ (by rw [← app_list]; exact a)] at ra
    rw [← app_list] at ra
    exact hd _ _ a hst ra
end Mine
end
section
open PySem PySem.W PyProof.Rows
namespace Mine
theorem vNeB {V : HV} {z : Nat} {sh : List Sk} {x y : Str} {t u : Tok} {b : Bool} (h : (x != y) = b) : ValidB V (oNe sh x t y u b) z 0 := by
  unfold oNe
  rw [← i_str___ne___eq]
  exact valid_givesB F.slot_str_ne (fun s => typeIs_str s x t) F.entry_str_ne (F.args_str_ne_2 _ _) (gives_str_ne x y t u) fun s R hR => by
    have := hR 0 s ⟨rfl,rfl,rfl,rfl⟩
    rw [← h,← toList_bne] at this
    exact this
noncomputable def lcOff : PySem.Expr := match ((bodyAt [30])[1]? : Option Stmt) with
  | some (Stmt.For _ _ b _ _) => match (b[0]? : Option Stmt) with
    | some (Stmt.Assign _ v _) => v
    | _ => default
  | _ => default
noncomputable def wyKind : NameKind → NameKind
  | .free => .cell
  | k => k
noncomputable def wySc : Scope := { lcSc lcOff with names := (lcSc lcOff).names.map fun x => (x.1,wyKind x.2) }
noncomputable def wyEnvC (loc fr cr co : Nat) : Env := { scope := wySc,locals := loc,globals := 3,cells := [(u [114,111,119],cr),(u [111,114,100,101,114],co)],qual := u [95,108,97,119,95,119,97,121,46,60,108,111,99,97,108,115,62,46],func := none,code := .ref 774,frame := some fr,builtins := 0 }
noncomputable def ofCode (it acc loc fr cr co : Nat) : Code := .compStart lcOff 0 (.ref it) (.ref acc) (wyEnvC loc fr cr co)
noncomputable def rgO (a b : Int) : Obj := ⟨.type SL.s15992201931430999065x14,none,.fields ⟨[.int a 0,.int b 0,.int 1 0]⟩,#[]⟩
noncomputable def celO (a : Nat) : Obj := ⟨.type SL.s15660640913423913556x4,none,.cell (some (.ref a)),#[]⟩
noncomputable def ofH (f : Option Bool) (b2 : Bool) : List Nat := (match f,b2 with
  | some true,_ => [6,0,9,9,9,9,3,0,3,3,3,3,3,3,3,3]
  | none,false => [3,3,0,3,3,3,0,3,3,3,3,3,3,3,3]
  | _,_ => [3,0,3,3,3,3,3,3,3,3]) ++ [6,6,2,6,5,5,5,0,5,5,8,6,11,11,11,0,11,11]
noncomputable def ofE (f : Bool) : List Nat := match f with
  | true => [6,0,9,9,9,9,3,0,3,3,3,3,15]
  | false => [3,0,3,3,3,3,15]
noncomputable def ofI (b : Bool) (i : Int) (t : Tok) : List Value := match b with
  | true => [.int i t]
  | false => []
noncomputable def ofL (n1 n2 n3 : Bool) (t1 t2 t3 : Tok) : List Value := ofI n1 1 t1 ++ (ofI n2 2 t2 ++ ofI n3 3 t3)
noncomputable abbrev shF : List Sk := [.frl,.func,.func,.blt SL.s11611643536802374852x12]
noncomputable def ofScr (b2 : Bool) (P : Params) (z τ : Nat) (it acc loc : Nat) (r q : R4) (n1 n2 n3 : Bool) : Scr :=
  .orcB (ofH none b2) (oNe (.lcl :: shF) r.x1 r.y1 q.x1 q.y1 n1) (z + 0) 0 [] 3 4 fun _ _ τ1 =>
  .orcB (ofH (some n1) b2) (oNe (.lcl :: shF) r.x2 r.y2 q.x2 q.y2 n2) (z + 0) 0 [] 3 4 fun _ _ τ2 =>
  .orcB (ofH (some n2) b2) (oNe (.lcl :: shF) r.x3 r.y3 q.x3 q.y3 n3) (z + 0) 0 [] 3 4 fun _ _ τ3 =>
  .finB (ofE n3) ⟨.ok (.done .next),[(0,it,rgO 4 0),(1,loc,dicO [d P (u [112,108,97,99,101]) (τ + 1) (.int 3 (τ2 + 0))] 1),(2,acc,lsO (ofL n1 n2 n3 (τ + 0) (τ1 + 0) (τ2 + 0)) (ofL n1 n2 n3 (τ + 0) (τ1 + 0) (τ2 + 0)).length)],[]⟩ (z + 2)
theorem of_run (w : World) (b1 b2 b3 : Bool) (hs : HL shF) (p : Pos) (z τ : Nat) (it acc loc fr cr co row od : Nat) (r q : R4) (n1 n2 n3 : Bool) :
    SH (VX w b1 b2 b3) true 20000 [] ⟨ofCode it acc loc fr cr co,none,none,fillAll shF hs,none⟩ p ((VX w b1 b2 b3).den (ofCode it acc loc fr cr co)) (ofScr b2 w.params z τ it acc loc r q n1 n2 n3)
      (tabOf [(cr,celO row),(row,r.obj),(co,celO od),(od,q.obj)] 0 .nil) (tabOf [(it,rgO 1 3),(loc,dicO [] 0),(acc,lsO [] 0)] 0 .nil) 3 4 z 0 τ 0 [] [] := by
  refine runOf (adrs [it,loc,acc] z) (adr1 [cr,row,co,od]) ?_
  cases b1 <;> cases b2 <;> cases n1 <;> cases n2 <;> cases n3 <;> kernel_rfl
noncomputable def oOff (P : Params) (k0 k1 k2 j0 j1 j2 j3 it acc loc fr cr co row od : Nat) (r q : R4) (n1 n2 n3 : Bool) : Spec :=
  ⟨ofCode it acc loc fr cr co,shF,[(3 * k0 + 3,it,rgO 1 3),(3 * k1 + 3,loc,dicO [] 0),(3 * k2 + 3,acc,lsO [] 0),(j0,cr,celO row),(j1,row,r.obj),(j2,co,celO od),(j3,od,q.obj)],
    fun _ _ => .ok .next,[(k0,it,fun _ _ => rgO 4 0),(k1,loc,fun α _ => dicO [d P (u [112,108,97,99,101]) (α 3) (.int 3 (α 2))] 1),(k2,acc,fun α _ => lsO (ofL n1 n2 n3 (α 0) (α 1) (α 2)) (ofL n1 n2 n3 (α 0) (α 1) (α 2)).length)],[],[],true⟩
noncomputable def al4' (a b c e i : Nat) : Nat := match i with
  | 0 => a
  | 1 => b
  | 2 => c
  | _ => e
theorem vOff {w : World} {b1 b2 b3 : Bool} {k0 k1 k2 j0 j1 j2 j3 it acc loc fr cr co row od : Nat} {r q : R4} {n1 n2 n3 : Bool} (hnd : [k0,k1,k2].Nodup)
    (hj : ∀ j ∈ [j0,j1,j2,j3],j % 3 = 2 ∨ (j % 3 = 0 ∧ 3 ≤ j) ∧ ∀ k ∈ [k0,k1,k2],3 * k + 3 ≠ j) (h1 : (r.x1 != q.x1) = n1) (h2 : (r.x2 != q.x2) = n2) (h3 : (r.x3 != q.x3) = n3) :
    Valid (VX w b1 b2 b3) (oOff w.params k0 k1 k2 j0 j1 j2 j3 it acc loc fr cr co row od r q n1 n2 n3) := by
  refine ValidB.all (c := 2) fun z => ?_
  refine valid_runC (VX_ok _ _ _ _) (fuel := 20000) [(k0,it,rgO 1 3),(k1,loc,dicO [] 0),(k2,acc,lsO [] 0)] [(j0,cr,celO row),(j1,row,r.obj),(j2,co,celO od),(j3,od,q.obj)] (fun τ => ofScr b2 w.params z τ it acc loc r q n1 n2 n3) rfl hnd (fun y hy => ?_)
    (fun hs p τ => of_run w b1 b2 b3 hs p z τ it acc loc fr cr co row od r q n1 n2 n3) rfl (fun s hz _ _ => ?_)
  · have e : ∀ x ∈ ([(k0,it,rgO 1 3),(k1,loc,dicO [] 0),(k2,acc,lsO [] 0)] : List (Nat × Ent)),x.1 ∈ [k0,k1,k2] := fun x hx => List.mem_map_of_mem (f := (·.1)) hx
    have := hj y.1 (by simp only [List.mem_cons,List.not_mem_nil,or_false] at hy ⊢; rcases hy with rfl | rfl | rfl | rfl <;> simp)
    exact this.imp id fun ⟨a,b⟩ => ⟨a,fun x hx => b _ (e x hx)⟩
  · refine ⟨vNeB h1,fun α1 tk1 τ1 _ => ⟨vNeB h2,fun α2 tk2 τ2 _ => ⟨vNeB h3,fun α3 tk3 τ3 _ s' L hz' q' e => ?_⟩⟩⟩
    exact ⟨leaves_end (S := oOff w.params k0 k1 k2 j0 j1 j2 j3 it acc loc fr cr co row od r q n1 n2 n3) (out := ⟨.ok (.done .next),_,[]⟩) (α := al4' (s.toks + 0) (τ1 + 0) (τ2 + 0) (s.toks + 1)) (tk := 0) [] L e rfl rfl rfl rfl (fun _ h => nomatch h) List.nodup_nil,hz'⟩
end Mine
end
section
open PySem PySem.W PyProof.Rows
namespace Mine
noncomputable def strIs (x : Str) (v : Value) : Bool := match v with
  | .str y _ => y == x
  | _ => false
noncomputable def oIdx (sh : List Sk) (h a : Nat) (q : R4) (x : Str) (t : Tok) (p : Nat) : Spec :=
  spV (.call (.builtin SL.s869085319901275473x10) ⟨[.ref a,.str x t],[]⟩) sh [(h,a,q.obj)] fun tk => .int (p : Int) tk
theorem vals_mem {q : R4} {y : Value} (h : y ∈ (⟨q.vals⟩ : Array Value)) : ∃ s t,y = .str s t := by
  have h : y ∈ q.vals := by simpa using h
  simp only [R4.vals,List.mem_cons,List.not_mem_nil,or_false] at h
  rcases h with rfl | rfl | rfl | rfl <;> exact ⟨_,_,rfl⟩
theorem vIdx {V : HV} {sh : List Sk} {h a : Nat} {q : R4} {x : Str} {t : Tok} {p : Nat} (hp : p < 4) (hx : q.s p = x) (hn : ∀ m,m < p → q.s m ≠ x) : Valid V (oIdx sh h a q x t p) := by
  refine ValidB.all (c := 0) fun z => ?_
  unfold oIdx spV R4.obj rowO
  rw [← SL.e869085319901275473x10,← SL.e9222952809800978799x4]
  have at_ : ∀ m (hm : m < (⟨q.vals⟩ : Array Value).size),strIs x ((⟨q.vals⟩ : Array Value)[m]'hm) = (q.s m == x) := fun m hm => by
    have hm : m < 4 := hm
    rcases lt4 hm with rfl | rfl | rfl | rfl <;> rfl
  have hsm : (p : Int) < 2 ^ 63 - 1 := by
    have : (p : Int) < 4 := by exact_mod_cast hp
    have : (4 : Int) < 2 ^ 63 - 1 := by decide
    omega
  refine valid_meetsB rfl F.slot_list_index F.entry_list_index (F.args_list_index_2 _ _) (SeqAt.list_indexAt a ⟨q.vals⟩ q.e none #[] (.str x t) (strIs x) p hp hsm ?_ fun m hm hlt => ?_) fun A s hA hpre hap => ?_
  · refine (at_ p hp).trans ?_
    rw [hx]
    exact beq_self_eq_true x
  · refine (at_ m hm).trans ?_
    cases e : (q.s m == x) with
    | false => rfl
    | true => exact absurd (beq_iff_eq.mp e) (hn m hlt)
  · have h1 := hpre _ (List.mem_singleton.mpr rfl)
    dsimp only at h1
    refine ⟨⟨_,h1,rfl⟩,h1,fun y hy => ?_,⟨fun _ => 0,s.toks,leaves_same rfl ⟨rfl,rfl,rfl,rfl⟩⟩,rfl⟩
    obtain ⟨s',t',rfl⟩ := vals_mem hy
    exact SeqAt.EqAt.str_str s' t' x t
noncomputable def oLNe (sh : List Sk) (ha a : Nat) (ys : List Value) (ea hb b : Nat) (wd : R4) : Spec :=
  spV (.call (.builtin i_list___ne__) ⟨[.ref a,.ref b],[]⟩) sh [(ha,a,lsO ys ea),(hb,b,wd.obj)] fun _ => .bool false
theorem vLNe {V : HV} {sh : List Sk} {ha a : Nat} {ea hb b : Nat} {q wd : R4} (he : ∀ i,i < 4 → q.s i = wd.s i) : Valid V (oLNe sh ha a q.vals ea hb b wd) := by
  refine ValidB.all (c := 0) fun z => ?_
  unfold oLNe spV lsO R4.obj rowO
  rw [← i_list___ne___eq,← SL.e9222952809800978799x4]
  refine valid_meetsB rfl F.slot_list_ne F.entry_list_ne (F.args_list_ne_2 _ _) (SeqAt.list_neAt a b ⟨q.vals⟩ ⟨wd.vals⟩ ea wd.e none none #[] #[] rfl (fun _ => true)) fun A s hA hpre hap => ?_
  have h1 := hpre _ (List.Mem.head _)
  have h2 := hpre _ (List.Mem.tail _ (List.Mem.head _))
  dsimp only at h1 h2
  refine ⟨⟨_,h1,rfl⟩,h1,h2,fun j j1 j2 => ?_,⟨fun _ => 0,0,leaves_same ?_ ⟨rfl,rfl,rfl,rfl⟩⟩,rfl⟩
  · have j4 : j < 4 := j1
    have := SeqAt.EqAt.str_str (A := A.in1) (s := s) (q.s j) (q.t j) (wd.s j) (wd.t j)
    rw [he j j4,beq_self_eq_true] at this
    have e1 : (⟨q.vals⟩ : Array Value)[j]'j1 = .str (wd.s j) (q.t j) := by rw [← he j j4]; rcases lt4 j4 with rfl | rfl | rfl | rfl <;> rfl
    have e2 : (⟨wd.vals⟩ : Array Value)[j]'j2 = .str (wd.s j) (wd.t j) := by rcases lt4 j4 with rfl | rfl | rfl | rfl <;> rfl
    rw [e1,e2]
    exact this
  · simp
end Mine
end
section
open PySem PySem.W PyProof.Rows
namespace Mine
structure P4 where
  a0 : Nat
  a1 : Nat
  a2 : Nat
  a3 : Nat
noncomputable def P4.s (l : P4) (i : Nat) : Nat := match i with
  | 0 => l.a0
  | 1 => l.a1
  | 2 => l.a2
  | _ => l.a3
noncomputable def P4.swap (l : P4) (g : Nat) : P4 := match g with
  | 1 => ⟨l.a1,l.a0,l.a2,l.a3⟩
  | 2 => ⟨l.a2,l.a1,l.a0,l.a3⟩
  | 3 => ⟨l.a3,l.a1,l.a2,l.a0⟩
  | _ => l
noncomputable def P4.off (l : P4) (i : Nat) : Bool := !(Nat.beq (l.s i) i)
noncomputable def P4.fst (l : P4) : Nat := match l.off 1,l.off 2,l.off 3 with
  | true,_,_ => 1
  | false,true,_ => 2
  | false,false,true => 3
  | false,false,false => 0
noncomputable def P4.go (l : P4) : Nat := match l.fst,l.a0 with
  | 0,_ => 0
  | f + 1,0 => f + 1
  | _,g + 1 => g + 1
noncomputable def mk4 (g : Nat) : Nat := match g with
  | 1 => 39
  | 2 => 34
  | 3 => 96
  | _ => 120
noncomputable def P4.way : Nat → P4 → Str → Str
  | 0,_,W => W
  | k + 1,l,W => match l.fst with
    | 0 => P4.way k l W
    | _ + 1 => P4.way k (l.swap l.go) (W ++ mark l.go)
noncomputable def wyN8 : List Nat := [15,0,15,15,15,15,15,15,15,15,3,3,10,1,0,0]
noncomputable def wyC (h : Nat) : List Nat := [h,h,0,h,h,h,h,0,h,h,h,h,h + 3]
noncomputable def wyA (ha hl : Nat) : List Nat := [3,3,hl,hl,hl,3,ha,ha,0,ha,0,ha,ha]
noncomputable def wyM (ha a0 : Nat) : List Nat := match a0 with
  | 0 => [0,3,ha,ha,ha,0,ha,ha,2269]
  | _ + 1 => [0,2269]
noncomputable def wyG (a0 f : Nat) (α : Nat → Nat) (tk : Tok) : Tok := match a0 with
  | 0 => α (f - 1)
  | _ + 1 => tk
noncomputable def wyT (P : Params) (n0 od : Nat) (q : R4) : (k j : Nat) → List Nat → (n τ a sw row : Nat) → R4 → P4 → Str → Tok → Scr
  | 0,j,pre,n,τ,a,sw,row,r,l,W,wt => .fin (pre ++ [15,0,15,15,15,15,69,3]) ⟨.ok (.done (.ret (.str W wt))),[],[]⟩
  | k + 1,j,pre,n,τ,a,sw,row,r,l,W,wt =>
    .orc (pre ++ (wyN8 ++ wyC (18 + 12 * j))) (oOff P (6 + 4 * j) (8 + 4 * j) (7 + 4 * j) 6 (5 + 3 * sw) 9 2 (n + (a + 1)) (n + (a + 2)) (n + (a + 3)) n0 (n0 + 1) (n0 + 2) row od r q (l.off 1) (l.off 2) (l.off 3)) (9 + 4 * j) (2 + sw) fun α tk n1 τ1 =>
    match l.fst with
    | 0 => wyT P n0 od q k (j + 1) (wyA (24 + 12 * j) (27 + 12 * j)) n1 τ1 0 sw row r l W wt
    | f + 1 =>
      .orc (wyA (24 + 12 * j) (27 + 12 * j) ++ [3,10,9,2,2,2,2,6,5 + 3 * sw,5 + 3 * sw,5 + 3 * sw,0,5 + 3 * sw,5 + 3 * sw]) (oIdx shF 2 od q r.x0 r.y0 l.a0) (9 + 4 * j) (2 + sw) fun _ tk2 n2 τ2 =>
      .orc (wyM (24 + 12 * j) l.a0) (oMark shF l.go (wyG l.a0 (f + 1) α tk2)) (9 + 4 * j) (2 + sw) fun _ tk3 n3 τ3 =>
      .orc [] (oAdd shF W wt (mark l.go) tk3) (9 + 4 * j) (2 + sw) fun _ tk4 n4 τ4 =>
      .orc [3,3,10,6,3,0] (oGet shF (W ++ mark l.go) tk4 (-1) (τ4 + 2) (mk4 l.go)) (9 + 4 * j) (2 + sw) fun _ tk5 n5 τ5 =>
      .orc [2290] (oCallee 763 shF (5 + 3 * sw) row r.obj (u [mk4 l.go]) tk5 (fun _ _ => (r.swap (mk4 l.go)).obj) false) (9 + 4 * j) (2 + sw) fun α6 tk6 n6 τ6 =>
      wyT P n0 od q k (j + 1) [6,6] n6 τ6 0 (sw + 1) (α6 0) (r.swap (mk4 l.go)) (l.swap l.go) (W ++ mark l.go) tk4
noncomputable def wyP0 : List Nat := [2326,2323,6,6,9,9,7,3,3,10,1,0,0,12,12,0,12,12,12,12,0,12,12,12,12,15,0]
noncomputable def wyScr (P : Params) (n τ od row : Nat) (q r : R4) (l : P4) : Scr := wyT P (n + 0) od q 4 0 wyP0 n τ 5 0 row r l (u []) (τ + 0)
noncomputable def perms4 : List P4 := [⟨0,1,2,3⟩,⟨0,1,3,2⟩,⟨0,2,1,3⟩,⟨0,2,3,1⟩,⟨0,3,1,2⟩,⟨0,3,2,1⟩,⟨1,0,2,3⟩,⟨1,0,3,2⟩,⟨1,2,0,3⟩,⟨1,2,3,0⟩,⟨1,3,0,2⟩,⟨1,3,2,0⟩,
  ⟨2,0,1,3⟩,⟨2,0,3,1⟩,⟨2,1,0,3⟩,⟨2,1,3,0⟩,⟨2,3,0,1⟩,⟨2,3,1,0⟩,⟨3,0,1,2⟩,⟨3,0,2,1⟩,⟨3,1,0,2⟩,⟨3,1,2,0⟩,⟨3,2,0,1⟩,⟨3,2,1,0⟩]
theorem wy_run (w : World) (b1 b2 b3 : Bool) (hs : HL cxt_sh) (p : Pos) (n τ od row : Nat) (q r : R4) (l : P4) (hl : l ∈ perms4) :
    SH (VX w b1 b2 b3) true 20000 [] ⟨.call (.ref 775) ⟨[.ref (row + 788),.ref (od + 788)],[]⟩,none,none,fillAll cxt_sh hs,none⟩ p ((VX w b1 b2 b3).den (.call (.ref 775) ⟨[.ref (row + 788),.ref (od + 788)],[]⟩)) (wyScr w.params n τ (od + 788) (row + 788) q r l)
      (tabOf [(od + 788,q.obj),(row + 788,r.obj)] 0 .nil) (tabOf [] 0 .nil) 0 2 n 0 τ 0 [] [] := by
  refine runOf (adrs [] n) (adr1 [od + 788,row + 788]) ?_
  simp only [perms4,List.mem_cons,List.not_mem_nil,or_false] at hl
  rcases hl with rfl | rfl | rfl | rfl | rfl | rfl | rfl | rfl | rfl | rfl | rfl | rfl | rfl | rfl | rfl | rfl | rfl | rfl | rfl | rfl | rfl | rfl | rfl | rfl
  all_goals cases b1 <;> kernel_rfl
end Mine
end
section
open PySem PySem.W PyProof.Rows
namespace Mine
noncomputable def Num (w r : R4) (l : P4) : Prop := ∀ i,i < 4 → r.s i = w.s (l.s i)
theorem perms_lt {l : P4} (h : l ∈ perms4) : ∀ i,i < 4 → l.s i < 4 := by
  simp only [perms4,List.mem_cons,List.not_mem_nil,or_false] at h
  intro i hi
  rcases h with rfl | rfl | rfl | rfl | rfl | rfl | rfl | rfl | rfl | rfl | rfl | rfl | rfl | rfl | rfl | rfl | rfl | rfl | rfl | rfl | rfl | rfl | rfl | rfl <;> rcases lt4 hi with rfl | rfl | rfl | rfl <;> decide
theorem mem_perms (a b c d : Nat) (h : ([⟨a,b,c,d⟩] : List P4).all (fun l => perms4.any fun m => Nat.beq l.a0 m.a0 && Nat.beq l.a1 m.a1 && Nat.beq l.a2 m.a2 && Nat.beq l.a3 m.a3) = true) : (⟨a,b,c,d⟩ : P4) ∈ perms4 := by
  simp only [List.all_cons,List.all_nil,Bool.and_true,List.any_eq_true,Bool.and_eq_true] at h
  obtain ⟨m,hm,⟨⟨h0,h1⟩,h2⟩,h3⟩ := h
  obtain ⟨m0,m1,m2,m3⟩ := m
  have := Nat.eq_of_beq_eq_true h0
  have := Nat.eq_of_beq_eq_true h1
  have := Nat.eq_of_beq_eq_true h2
  have := Nat.eq_of_beq_eq_true h3
  dsimp only at *
  subst_vars
  exact hm
theorem perms_swap {l : P4} (h : l ∈ perms4) {g : Nat} (hg : g < 4) : l.swap g ∈ perms4 := by
  simp only [perms4,List.mem_cons,List.not_mem_nil,or_false] at h
  rcases h with rfl | rfl | rfl | rfl | rfl | rfl | rfl | rfl | rfl | rfl | rfl | rfl | rfl | rfl | rfl | rfl | rfl | rfl | rfl | rfl | rfl | rfl | rfl | rfl <;> rcases lt4 hg with rfl | rfl | rfl | rfl <;> exact mem_perms _ _ _ _ rfl
theorem num_swap {w r : R4} {l : P4} (h : Num w r l) {g : Nat} (hg : g < 4) : Num w (r.swap (mk4 g)) (l.swap g) := fun i hi => by
  have h0 := h 0 (by decide)
  have h1 := h 1 (by decide)
  have h2 := h 2 (by decide)
  have h3 := h 3 (by decide)
  rcases lt4 hg with rfl | rfl | rfl | rfl <;> rcases lt4 hi with rfl | rfl | rfl | rfl <;> assumption
theorem go_all : perms4.all (fun l => Nat.beq l.fst 0 || ((Nat.beq l.go 1 || Nat.beq l.go 2 || Nat.beq l.go 3) && Nat.ble l.fst 3)) = true := rfl
theorem go_lt {l : P4} (h : l ∈ perms4) {f : Nat} (hf : l.fst = f + 1) : (l.go = 1 ∨ l.go = 2 ∨ l.go = 3) ∧ f < 3 := by
  have := List.all_eq_true.mp go_all l h
  simp only [Bool.or_eq_true,Bool.and_eq_true,Nat.beq_eq,Nat.ble_eq] at this
  omega
theorem off_ne {w r q : R4} {l : P4} (hd : w.Dis) (hn : Num w r l) (hl : ∀ i,i < 4 → l.s i < 4) (hq : ∀ i,i < 4 → q.s i = w.s i) {i : Nat} (hi : i < 4) : (r.s i != q.s i) = l.off i := by
  rw [hn i hi,hq i hi]
  unfold P4.off bne
  congr 1
  rw [BT.beq_eq]
  by_cases e : l.s i = i
  · rw [e]; simp
  · have : ¬ w.s (l.s i) = w.s i := fun h => e (hd _ _ (hl i hi) hi h)
    simp [e,this]
theorem get_last (W : Str) {g : Nat} (hg : g = 1 ∨ g = 2 ∨ g = 3) : (seqIndex? (-1) (W ++ mark g).length).bind ((W ++ mark g).cps[·]?) = some (mk4 g) := by
  have e : (W ++ mark g).length = W.length + 1 := by
    rw [strLen_append]
    rcases hg with rfl | rfl | rfl <;> rfl
  rw [e]
  have h1 : seqIndex? (-1) (W.length + 1) = some W.length := by
    unfold seqIndex?
    simp
    try omega
  rw [h1]
  show (W ++ mark g).cps[W.length]? = _
  rw [← Array.getElem?_toList,app_list]
  have : W.length = W.cps.toList.length := Array.length_toList.symm
  rw [this,List.getElem?_append_right (Nat.le_refl _),Nat.sub_self]
  rcases hg with rfl | rfl | rfl <;> rfl
theorem vMark0 {w : World} {b1 b2 b3 : Bool} {g : Nat} {pt : Tok} (hg : g = 1 ∨ g = 2 ∨ g = 3) : Valid (VX w b1 b2 b3) (oMark shF g pt) := by
  rcases hg with rfl | rfl | rfl
  · exact vMark01 w b1 b2 b3 pt
  · exact vMark02 w b1 b2 b3 pt
  · exact vMark03 w b1 b2 b3 pt
theorem vSw4 {w : World} {b1 b2 b3 : Bool} {hp a g : Nat} {r : R4} {ct : Tok} (hhp : hp % 3 = 2) (hg : g = 1 ∨ g = 2 ∨ g = 3) : Valid (VX w b1 b2 b3) (oCallee 763 shF hp a r.obj (u [mk4 g]) ct (fun _ _ => (r.swap (mk4 g)).obj) false) := by
  rcases hg with rfl | rfl | rfl
  · exact ValidB.all fun z => vSwB (g := 39) hhp (.inr (.inl rfl))
  · exact ValidB.all fun z => vSwB (g := 34) hhp (.inr (.inr (.inl rfl)))
  · exact ValidB.all fun z => vSwB (g := 96) hhp (.inr (.inr (.inr rfl)))
theorem wy_fin {w : World} {b1 b2 b3 : Bool} {wd q : R4} (hd : wd.Dis) (hq : ∀ i,i < 4 → q.s i = wd.s i) {Q : Except Value PySem.Fin → Shared → Prop} {s : Shared} {m₀ n0 od : Nat} {A : Addr → Prop} :
    ∀ (k j : Nat) (pre : List Nat) (n τ a sw row : Nat) (r : R4) (l : P4) (W : Str) (wt : Tok),l ∈ perms4 → Num wd r l → W.length + k ≤ 10 →
      (∀ s' tk,Left s A m₀ [] [] s' → Q (.ok (.done (.ret (.str (l.way k W) tk)))) s') → FinOk (VX w b1 b2 b3) Q s A m₀ (wyT w.params n0 od q k j pre n τ a sw row r l W wt)
  | 0,j,pre,n,τ,a,sw,row,r,l,W,wt,hl,hn,hW,H => fun s' L => H s' wt L
  | k + 1,j,pre,n,τ,a,sw,row,r,l,W,wt,hl,hn,hW,H => by
    have hlt := perms_lt hl
    refine nx (vOff (by simp) (fun x hx => ?_) (off_ne (i := 1) hd hn hlt hq (by decide)) (off_ne (i := 2) hd hn hlt hq (by decide)) (off_ne (i := 3) hd hn hlt hq (by decide))) fun α tk n1 τ1 => ?_
    · simp only [List.mem_cons,List.not_mem_nil,or_false] at hx
      rcases hx with rfl | rfl | rfl | rfl
      · refine .inr ⟨⟨by decide,by decide⟩,fun y hy => ?_⟩
        simp only [List.mem_cons,List.not_mem_nil,or_false] at hy
        rcases hy with rfl | rfl | rfl <;> omega
      · exact .inl (by omega)
      · refine .inr ⟨⟨by decide,by decide⟩,fun y hy => ?_⟩
        simp only [List.mem_cons,List.not_mem_nil,or_false] at hy
        rcases hy with rfl | rfl | rfl <;> omega
      · exact .inl (by decide)
    · cases hf : l.fst with
      | zero =>
        have e : l.way (k + 1) W = l.way k W := by
          show (match l.fst with | 0 => P4.way k l W | _ + 1 => P4.way k (l.swap l.go) (W ++ mark l.go)) = _
          rw [hf]
        rw [e] at H
        exact wy_fin hd hq k (j + 1) _ n1 τ1 0 sw row r l W wt hl hn (by omega) H
      | succ f =>
        obtain ⟨hg,hf3⟩ := go_lt hl hf
        have hg4 : l.go < 4 := by omega
        have e : l.way (k + 1) W = (l.swap l.go).way k (W ++ mark l.go) := by
          show (match l.fst with | 0 => P4.way k l W | _ + 1 => P4.way k (l.swap l.go) (W ++ mark l.go)) = _
          rw [hf]
        rw [e] at H
        have hm := mark_size hg4
        have h0 := hlt 0 (by decide)
        have r0 : r.x0 = wd.s l.a0 := hn 0 (by decide)
        refine nx (vIdx h0 (by rw [r0]; exact hq _ h0) fun m hm => ?_) fun _ tk2 n2 τ2 => ?_
        · rw [r0,hq m (Nat.lt_trans hm h0)]
          intro h
          have e5 : m = l.a0 := hd _ _ (Nat.lt_trans hm h0) h0 h
          have : m < l.a0 := hm
          omega
        refine nx (vMark0 hg) fun _ tk3 n3 τ3 => ?_
        refine nx (vAdd (by have : (1000 : Nat) ≤ sizeLine := by decide
                            omega)) fun _ tk4 n4 τ4 => ?_
        refine nx (vGet (by decide) (get_last W hg)) fun _ tk5 n5 τ5 => ?_
        refine nx (vSw4 (by omega) hg) fun α6 tk6 n6 τ6 => ?_
        refine wy_fin hd hq k (j + 1) _ n6 τ6 0 (sw + 1) (α6 0) _ _ _ tk4 (perms_swap hl hg4) (num_swap hn hg4) ?_ H
        rw [strLen_append]
        omega
noncomputable def oWay (sh : List Sk) (h0 h1 od row : Nat) (q r : R4) (l : P4) : Spec :=
  ⟨.call (.ref 775) ⟨[.ref row,.ref od],[]⟩,sh,[(h0,od,q.obj),(h1,row,r.obj)],fun _ tk => .ok (.ret (.str (l.way 4 (u [])) tk)),[],[],[],true⟩
theorem vWay {w : World} {b1 b2 b3 : Bool} {h0 h1 od row : Nat} {q r wd : R4} {l : P4} (hd : wd.Dis) (hq : ∀ i,i < 4 → q.s i = wd.s i) (hl : l ∈ perms4) (hn : Num wd r l) (ho : 788 ≤ od) (hr : 788 ≤ row) :
    Valid (VX w b1 b2 b3) (oWay cxt_sh h0 h1 od row q r l) := by
  obtain ⟨od,rfl⟩ : ∃ k,od = k + 788 := ⟨od - 788,by omega⟩
  obtain ⟨row,rfl⟩ : ∃ k,row = k + 788 := ⟨row - 788,by omega⟩
  refine valid_run0 (VX_ok _ _ _ _) (fuel := 20000) [(h0,od + 788,q.obj),(h1,row + 788,r.obj)] (fun n τ => wyScr w.params n τ (od + 788) (row + 788) q r l) (fun _ h => h)
    (fun hs p n τ => wy_run w b1 b2 b3 hs p n τ od row q r l hl) rfl (fun s => ?_)
  · refine wy_fin hd hq 4 0 _ _ _ _ _ _ r l (u []) _ hl hn (by decide) fun s' tk L q' e => ?_
    exact ⟨_,_,left_same L (fun _ h => nomatch h) (resF_inj e)⟩
end Mine
end
section
open PySem PySem.W PyProof.Rows
namespace Mine
noncomputable def sgD (d : Int × Tok) : Nat := sgn (d.1.fmod 4)
noncomputable def tlD (d : Int × Tok) : Nat := tln ((d.1.fdiv 4).fmod 4)
noncomputable def tT (d0 d1 d2 d3 d4 : Int × Tok) : Str := u [sgD d0,sgD d1,sgD d2,sgD d3,sgD d4]
noncomputable def wdR (d0 d1 d2 d3 d4 : Int × Tok) (α : Nat → Tok) : R4 := ⟨u [105,116,32] ++ u [tlD d0],u [105,116,39,115] ++ u [tlD d1],u [105,116,115] ++ u [tlD d2],u [122] ++ u [tlD d3],α 0,α 1,α 2,α 3,4⟩
noncomputable def rwR (d0 d1 d2 d3 d4 : Int × Tok) (α : Nat → Tok) : R4 := rF (wdR d0 d1 d2 d3 d4 α) [sgD d0,sgD d1,sgD d2,sgD d3,sgD d4]
noncomputable def odR (d0 d1 d2 d3 d4 : Int × Tok) (α : Nat → Tok) : R4 := { wdR d0 d1 d2 d3 d4 α with e := 2 }
noncomputable def ovOf (fr it : Nat) (sl : List (Option Value)) (ks vs : List Nat) (T W : Str) (rw wd : R4) : Ov := ⟨⟨788,vs.getD 1 0,vs.getD 3 0,vs.getD 4 0,vs.getD 5 0,T,vs.getD 2 0,W,vs.getD 6 0,fun i => ks.getD i 0⟩,fr,it,⟨sl⟩,rw.vals,wd.vals,rw.e,wd.e⟩
noncomputable def lits (τ : Tok) : List (Int × Tok) := [(13,τ + 0),(6,τ + 1),(3,τ + 2),(10,τ + 3),(5,τ + 4)]
noncomputable def dl (cs : List (Int × Tok)) (α : Nat → Tok) (τ : Tok) (i : Nat) : Int × Tok := ((cs.zipIdx.map fun x => (x.1.1.fmod 1000000,α x.2)) ++ lits τ).getD i (0,0)
noncomputable def lH : List (Int × Tok) → List Nat
  | [] => [18,15,21,15]
  | _ :: _ => [18,18,18,15,21,15]
noncomputable def oRdX' (sh : List Sk) (hp ini : Nat) (T : Str) (tt : Tok) (ob : Obj) : Spec :=
  ⟨.call (.ref 742) ⟨[.ref 763,.str T tt,.ref ini],[]⟩,sh,[(hp,ini,ob)],fun _ _ => .ok (.ret (.ref ini)),[],[],[],true⟩
noncomputable def lS2 (P : Params) (τ m : Nat) (l : P4) (τ4 : Tok) (α4 : Nat → Nat) (d0 d1 d2 d3 d4 : Int × Tok) : Scr := (.orcB [0,6,6,6,11,11,0,11,27] (oText P cxt_sh 8 10 9 11 801 802 803 (α4 0) 789 [d0,d1,d2,d3,d4]) 804 2 [] 11 4 fun α5 tk5 τ5 =>
  (.orcB [33,33,33,0,30,30,6,6,10,1,6,0,0,36,36,0,36,39,11,11,0,11,42,51,51,0,51,51,51,51,0,51,51] (oWords P 16 12 15 13 18 17 45 36 11 d0.1 d1.1 d2.1 d3.1 d4.1 d0.2 d1.2 d2.2 d3.2 d4.2 (τ5 + 2) (τ5 + 3) (τ5 + 4) (τ5 + 5)) 814 18 [] 19 4 fun α6 tk6 τ6 =>
  (.orcB [6,6,57,57,57,57,57,57,10,10,6,6,2227] (oRd 763 rb_sh 54 812 (tT d0 d1 d2 d3 d4) (τ5 + 0) (wdR d0 d1 d2 d3 d4 α6).obj (fun _ => (rwR d0 d1 d2 d3 d4 α6).obj) false) 832 (9 + 9 * m) [] 19 4 fun α7 tk7 τ7 =>
  (.orcB [6,6,10,1,6,10,10,2200] (oCk P 0) ((832 + (9 + 9 * m)) + 0) 64 [kK m] 19 5 fun α8 tk8 τ8 =>
  (.orc [] (oSo P 14 17 20 23 26 29 32 35 38 (α7 0) m α8 (rwR d0 d1 d2 d3 d4 α6).x0 (rwR d0 d1 d2 d3 d4 α6).x1 (rwR d0 d1 d2 d3 d4 α6).x2 (rwR d0 d1 d2 d3 d4 α6).x3 (rwR d0 d1 d2 d3 d4 α6).y0 (rwR d0 d1 d2 d3 d4 α6).y1 (rwR d0 d1 d2 d3 d4 α6).y2 (rwR d0 d1 d2 d3 d4 α6).y3 (rwR d0 d1 d2 d3 d4 α6).e (wdR d0 d1 d2 d3 d4 α6).vals) 19 13 fun α9 tk9 n9 τ9 =>
  (.orc [6,6,6,6,41,54,41] (oLNe [.func,.blt SL.s11611643536802374852x12] 41 (α9 0) (wdR d0 d1 d2 d3 d4 α6).vals 2 54 812 (wdR d0 d1 d2 d3 d4 α6)) 19 14 fun α10 tk10 n10 τ10 =>
  (.orc [10,6,6,2326] (oWay cxt_sh 41 14 (α9 0) (α7 0) (odR d0 d1 d2 d3 d4 α6) (rwR d0 d1 d2 d3 d4 α6) l) 19 14 fun α11 tk11 n11 τ11 =>
  (.orc [6,6,10,1,0,0,60,60,0,60,60,60,60,0,60,60,60,60,63] (oOut P (shO 789) 20 1 14 54 (ovOf 789 (n11 + 1) [] [(τ + 0),(τ4 + 0),(τ5 + 1),(τ6 + 0),(τ7 + 0),(τ9 + 0),(τ11 + 0)] [788,(α4 0),(τ5 + 0),812,(α7 0),(α9 0),tk11] (tT d0 d1 d2 d3 d4) (l.way 4 (u [])) (rwR d0 d1 d2 d3 d4 α6) (wdR d0 d1 d2 d3 d4 α6))) 21 14 fun α12 tk12 n12 τ12 =>
  (.fin [] ⟨.ok (.done (.ret (.bool true))),[(0,728,(ckT α8))],[]⟩)))))))))
noncomputable def lS1 (P : Params) (τ m : Nat) (xs : List Value) (cs : List (Int × Tok)) (l : P4) (D : (Nat → Tok) → Tok → Nat → Int × Tok) : Scr := (.orcB [10,0,2362,2359,6,6,7,6,2,2,2] (oSl5 [.func,.blt SL.s11611643536802374852x12] 2 788 xs 0 9 790 (τ + 1) (ccI cs)) 791 1 [] 3 1 fun α1 tk1 τ1 =>
  (.orcB [5,5,0,5,12] (oCells P cxt_sh 3 5 4 5 792 793 794 (α1 0) 789 cs) 795 2 [] 6 2 fun α2 tk2 τ2 =>
  (.orcB (lH cs) (oLAdd [.func,.blt SL.s11611643536802374852x12] 15 793 (ccV cs α2) cs.length 21 797 (ccI (lits τ2)) 0) 798 1 [] 7 2 fun α3 tk3 τ3 =>
  (.orcB [8,8,8] (oSl5 [.func,.blt SL.s11611643536802374852x12] 8 (α3 0) (ccV cs α2 ++ ccI (lits τ2)) 0 24 799 (τ3 + 0) (ccI [D α2 τ2 0,D α2 τ2 1,D α2 τ2 2,D α2 τ2 3,D α2 τ2 4])) 800 1 [800] 8 3 fun α4 tk4 τ4 => lS2 P τ m l τ4 α4 (D α2 τ2 0) (D α2 τ2 1) (D α2 τ2 2) (D α2 τ2 3) (D α2 τ2 4)))))
theorem lS_run (w : World) (b1 b2 b3 : Bool) (p : Pos) (τ m : Nat) (xs : List Value) (cs : List (Int × Tok)) (l : P4) (D : (Nat → Tok) → Tok → Nat → Int × Tok) (h1 : 1 ≤ m) (hm : m ≤ 5) :
    SH (VX w b1 b2 b3) false 20000 [] ⟨.builtin SL.s11611643536802374852x12 {}, none, none, [], none⟩ p (callStub (Str.ofString "law") [.ref 788]).cur (lS1 w.params τ m xs cs l D) (tabOf [(788, lsO xs 0)] 0 .nil) (tabOf [(728, k728 w.params)] 0 .nil) 1 1 789 0 τ 0 [] [] := by
  refine runOf (adrs [728] 789) (adr1 [788]) ?_
  obtain rfl | rfl | rfl | rfl | rfl : m = 1 ∨ m = 2 ∨ m = 3 ∨ m = 4 ∨ m = 5 := by omega
  all_goals cases cs <;> cases b1 <;> kernel_rfl
noncomputable def lX2 (P : Params) (τ m : Nat) (l : P4) (τ4 : Tok) (α4 : Nat → Nat) (d0 d1 d2 d3 d4 : Int × Tok) : Scr := (.orcB [0,6,6,6,11,11,0,11,27] (oText P cxt_sh 8 10 9 11 801 802 803 (α4 0) 789 [d0,d1,d2,d3,d4]) 804 2 [] 11 4 fun α5 tk5 τ5 =>
  (.orcB [33,33,33,0,30,30,6,6,10,1,6,0,0,36,36,0,36,39,11,11,0,11,42,51,51,0,51,51,51,51,0,51,51] (oWords P 16 12 15 13 18 17 45 36 11 d0.1 d1.1 d2.1 d3.1 d4.1 d0.2 d1.2 d2.2 d3.2 d4.2 (τ5 + 2) (τ5 + 3) (τ5 + 4) (τ5 + 5)) 814 18 [] 19 4 fun α6 tk6 τ6 =>
  (.orcB [6,6,57,57,57,57,57,57,10,10,6,6,2227] (oRdX' rx_sh 54 812 (tT d0 d1 d2 d3 d4) (τ5 + 0) (wdR d0 d1 d2 d3 d4 α6).obj) 832 9 [] 19 4 fun α7 tk7 τ7 =>
  (.orcB [6,6,10,1,6,10,10,2200] (oCk P 0) 841 64 [kK m] 19 4 fun α8 tk8 τ8 =>
  (.orc [] (oSo P 54 14 17 20 23 26 29 32 35 812 m α8 (wdR d0 d1 d2 d3 d4 α6).x0 (wdR d0 d1 d2 d3 d4 α6).x1 (wdR d0 d1 d2 d3 d4 α6).x2 (wdR d0 d1 d2 d3 d4 α6).x3 (wdR d0 d1 d2 d3 d4 α6).y0 (wdR d0 d1 d2 d3 d4 α6).y1 (wdR d0 d1 d2 d3 d4 α6).y2 (wdR d0 d1 d2 d3 d4 α6).y3 (wdR d0 d1 d2 d3 d4 α6).e (wdR d0 d1 d2 d3 d4 α6).vals) 19 12 fun α9 tk9 n9 τ9 =>
  (.orc [6,6,6,6,38,54,38] (oLNe [.func,.blt SL.s11611643536802374852x12] 38 (α9 0) (wdR d0 d1 d2 d3 d4 α6).vals 2 54 812 (wdR d0 d1 d2 d3 d4 α6)) 19 13 fun α10 tk10 n10 τ10 =>
  (.orc [10,6,6,2326] (oWay cxt_sh 38 54 (α9 0) 812 (odR d0 d1 d2 d3 d4 α6) (wdR d0 d1 d2 d3 d4 α6) l) 19 13 fun α11 tk11 n11 τ11 =>
  (.orc [6,6,10,1,0,0,60,60,0,60,60,60,60,0,60,60,60,60,63] (oOut P (shO 789) 20 1 54 54 (ovOf 789 (n11 + 1) [] [(τ + 0),(τ4 + 0),(τ5 + 1),(τ6 + 0),(τ7 + 0),(τ9 + 0),(τ11 + 0)] [788,(α4 0),(τ5 + 0),812,812,(α9 0),tk11] (tT d0 d1 d2 d3 d4) (l.way 4 (u [])) (wdR d0 d1 d2 d3 d4 α6) (wdR d0 d1 d2 d3 d4 α6))) 21 13 fun α12 tk12 n12 τ12 =>
  (.fin [] ⟨.ok (.done (.ret (.bool true))),[(0,728,(ckT α8))],[]⟩)))))))))
noncomputable def lX1 (P : Params) (τ m : Nat) (xs : List Value) (cs : List (Int × Tok)) (l : P4) (D : (Nat → Tok) → Tok → Nat → Int × Tok) : Scr := (.orcB [10,0,2362,2359,6,6,7,6,2,2,2] (oSl5 [.func,.blt SL.s11611643536802374852x12] 2 788 xs 0 9 790 (τ + 1) (ccI cs)) 791 1 [] 3 1 fun α1 tk1 τ1 =>
  (.orcB [5,5,0,5,12] (oCells P cxt_sh 3 5 4 5 792 793 794 (α1 0) 789 cs) 795 2 [] 6 2 fun α2 tk2 τ2 =>
  (.orcB (lH cs) (oLAdd [.func,.blt SL.s11611643536802374852x12] 15 793 (ccV cs α2) cs.length 21 797 (ccI (lits τ2)) 0) 798 1 [] 7 2 fun α3 tk3 τ3 =>
  (.orcB [8,8,8] (oSl5 [.func,.blt SL.s11611643536802374852x12] 8 (α3 0) (ccV cs α2 ++ ccI (lits τ2)) 0 24 799 (τ3 + 0) (ccI [D α2 τ2 0,D α2 τ2 1,D α2 τ2 2,D α2 τ2 3,D α2 τ2 4])) 800 1 [800] 8 3 fun α4 tk4 τ4 => lX2 P τ m l τ4 α4 (D α2 τ2 0) (D α2 τ2 1) (D α2 τ2 2) (D α2 τ2 3) (D α2 τ2 4)))))
theorem lX_run (w : World) (b1 b2 b3 : Bool) (p : Pos) (τ m : Nat) (xs : List Value) (cs : List (Int × Tok)) (l : P4) (D : (Nat → Tok) → Tok → Nat → Int × Tok) (hm : m = 0) :
    SH (VX w b1 b2 b3) false 20000 [] ⟨.builtin SL.s11611643536802374852x12 {}, none, none, [], none⟩ p (callStub (Str.ofString "law") [.ref 788]).cur (lX1 w.params τ m xs cs l D) (tabOf [(788, lsO xs 0)] 0 .nil) (tabOf [(728, k728 w.params)] 0 .nil) 1 1 789 0 τ 0 [] [] := by
  refine runOf (adrs [728] 789) (adr1 [788]) ?_
  subst hm
  all_goals cases cs <;> cases b1 <;> kernel_rfl
end Mine
end
section
open PySem PySem.W PyProof.Rows
namespace Mine
noncomputable def ofP (w : R4) (l : P4) (e : Nat) : R4 := ⟨w.s l.a0,w.s l.a1,w.s l.a2,w.s l.a3,w.t l.a0,w.t l.a1,w.t l.a2,w.t l.a3,e⟩
theorem ofP_num (w : R4) (l : P4) (e : Nat) : Num w (ofP w l e) l := fun i hi => by
  rcases lt4 hi with rfl | rfl | rfl | rfl <;> rfl
noncomputable def Rise (w : R4) : Prop := ∀ i j,i < 4 → j < 4 → kLt (w.s i) (w.s j) = decide (i < j)
theorem kLt_self (x : Str) : kLt x x = false := by
  unfold kLt
  cases decide (x.cps.toList < x.cps.toList) <;> rfl
theorem Rise.dis {w : R4} (h : Rise w) : w.Dis := fun i j hi hj e => by
  by_cases hij : i = j
  · exact hij
  · exfalso
    rcases Nat.lt_or_gt_of_ne hij with q | q
    · have := h i j hi hj
      rw [e,kLt_self,decide_eq_true q] at this
      cases this
    · have := h j i hj hi
      rw [e,kLt_self,decide_eq_true q] at this
      cases this
theorem wd_rise (d0 d1 d2 d3 d4 : Int × Tok) (α : Nat → Tok) : Rise (wdR d0 d1 d2 d3 d4 α) := fun i j hi hj => by
  by_cases hij : i = j
  · subst hij
    rw [kLt_self,decide_eq_false (Nat.lt_irrefl i)]
  · rcases lt4 hi with rfl | rfl | rfl | rfl <;> rcases lt4 hj with rfl | rfl | rfl | rfl <;> first | exact absurd rfl hij | kernel_rfl
theorem so_all {w : World} {b1 b2 b3 : Bool} {h0 h1 h2 h3 h4 h5 h6 h7 h8 row m : Nat} {A : Nat → Nat} {wd : R4} {l : P4} {e : Nat} (hl : l ∈ perms4) (K : Rise wd) (hm : m ≤ 5) (hr : 788 ≤ row) :
    Valid (VX w b1 b2 b3) (oSo w.params h0 h1 h2 h3 h4 h5 h6 h7 h8 row m A (ofP wd l e).x0 (ofP wd l e).x1 (ofP wd l e).x2 (ofP wd l e).x3 (ofP wd l e).y0 (ofP wd l e).y1 (ofP wd l e).y2 (ofP wd l e).y3 (ofP wd l e).e wd.vals) := by
  have k := fun i j (hi : i < 4) (hj : j < 4) => K i j hi hj
  simp only [perms4,List.mem_cons,List.not_mem_nil,or_false] at hl
  rcases hl with rfl | rfl | rfl | rfl | rfl | rfl | rfl | rfl | rfl | rfl | rfl | rfl | rfl | rfl | rfl | rfl | rfl | rfl | rfl | rfl | rfl | rfl | rfl | rfl
  · exact so0123V hm hr (k 0 1 (by decide) (by decide)) (k 0 2 (by decide) (by decide)) (k 0 3 (by decide) (by decide)) (k 1 0 (by decide) (by decide)) (k 1 2 (by decide) (by decide)) (k 1 3 (by decide) (by decide)) (k 2 0 (by decide) (by decide)) (k 2 1 (by decide) (by decide)) (k 2 3 (by decide) (by decide)) (k 3 0 (by decide) (by decide)) (k 3 1 (by decide) (by decide)) (k 3 2 (by decide) (by decide))
  · exact so0132V hm hr (k 0 1 (by decide) (by decide)) (k 0 3 (by decide) (by decide)) (k 0 2 (by decide) (by decide)) (k 1 0 (by decide) (by decide)) (k 1 3 (by decide) (by decide)) (k 1 2 (by decide) (by decide)) (k 3 0 (by decide) (by decide)) (k 3 1 (by decide) (by decide)) (k 3 2 (by decide) (by decide)) (k 2 0 (by decide) (by decide)) (k 2 1 (by decide) (by decide)) (k 2 3 (by decide) (by decide))
  · exact so0213V hm hr (k 0 2 (by decide) (by decide)) (k 0 1 (by decide) (by decide)) (k 0 3 (by decide) (by decide)) (k 2 0 (by decide) (by decide)) (k 2 1 (by decide) (by decide)) (k 2 3 (by decide) (by decide)) (k 1 0 (by decide) (by decide)) (k 1 2 (by decide) (by decide)) (k 1 3 (by decide) (by decide)) (k 3 0 (by decide) (by decide)) (k 3 2 (by decide) (by decide)) (k 3 1 (by decide) (by decide))
  · exact so0231V hm hr (k 0 2 (by decide) (by decide)) (k 0 3 (by decide) (by decide)) (k 0 1 (by decide) (by decide)) (k 2 0 (by decide) (by decide)) (k 2 3 (by decide) (by decide)) (k 2 1 (by decide) (by decide)) (k 3 0 (by decide) (by decide)) (k 3 2 (by decide) (by decide)) (k 3 1 (by decide) (by decide)) (k 1 0 (by decide) (by decide)) (k 1 2 (by decide) (by decide)) (k 1 3 (by decide) (by decide))
  · exact so0312V hm hr (k 0 3 (by decide) (by decide)) (k 0 1 (by decide) (by decide)) (k 0 2 (by decide) (by decide)) (k 3 0 (by decide) (by decide)) (k 3 1 (by decide) (by decide)) (k 3 2 (by decide) (by decide)) (k 1 0 (by decide) (by decide)) (k 1 3 (by decide) (by decide)) (k 1 2 (by decide) (by decide)) (k 2 0 (by decide) (by decide)) (k 2 3 (by decide) (by decide)) (k 2 1 (by decide) (by decide))
  · exact so0321V hm hr (k 0 3 (by decide) (by decide)) (k 0 2 (by decide) (by decide)) (k 0 1 (by decide) (by decide)) (k 3 0 (by decide) (by decide)) (k 3 2 (by decide) (by decide)) (k 3 1 (by decide) (by decide)) (k 2 0 (by decide) (by decide)) (k 2 3 (by decide) (by decide)) (k 2 1 (by decide) (by decide)) (k 1 0 (by decide) (by decide)) (k 1 3 (by decide) (by decide)) (k 1 2 (by decide) (by decide))
  · exact so1023V hm hr (k 1 0 (by decide) (by decide)) (k 1 2 (by decide) (by decide)) (k 1 3 (by decide) (by decide)) (k 0 1 (by decide) (by decide)) (k 0 2 (by decide) (by decide)) (k 0 3 (by decide) (by decide)) (k 2 1 (by decide) (by decide)) (k 2 0 (by decide) (by decide)) (k 2 3 (by decide) (by decide)) (k 3 1 (by decide) (by decide)) (k 3 0 (by decide) (by decide)) (k 3 2 (by decide) (by decide))
  · exact so1032V hm hr (k 1 0 (by decide) (by decide)) (k 1 3 (by decide) (by decide)) (k 1 2 (by decide) (by decide)) (k 0 1 (by decide) (by decide)) (k 0 3 (by decide) (by decide)) (k 0 2 (by decide) (by decide)) (k 3 1 (by decide) (by decide)) (k 3 0 (by decide) (by decide)) (k 3 2 (by decide) (by decide)) (k 2 1 (by decide) (by decide)) (k 2 0 (by decide) (by decide)) (k 2 3 (by decide) (by decide))
  · exact so1203V hm hr (k 1 2 (by decide) (by decide)) (k 1 0 (by decide) (by decide)) (k 1 3 (by decide) (by decide)) (k 2 1 (by decide) (by decide)) (k 2 0 (by decide) (by decide)) (k 2 3 (by decide) (by decide)) (k 0 1 (by decide) (by decide)) (k 0 2 (by decide) (by decide)) (k 0 3 (by decide) (by decide)) (k 3 1 (by decide) (by decide)) (k 3 2 (by decide) (by decide)) (k 3 0 (by decide) (by decide))
  · exact so1230V hm hr (k 1 2 (by decide) (by decide)) (k 1 3 (by decide) (by decide)) (k 1 0 (by decide) (by decide)) (k 2 1 (by decide) (by decide)) (k 2 3 (by decide) (by decide)) (k 2 0 (by decide) (by decide)) (k 3 1 (by decide) (by decide)) (k 3 2 (by decide) (by decide)) (k 3 0 (by decide) (by decide)) (k 0 1 (by decide) (by decide)) (k 0 2 (by decide) (by decide)) (k 0 3 (by decide) (by decide))
  · exact so1302V hm hr (k 1 3 (by decide) (by decide)) (k 1 0 (by decide) (by decide)) (k 1 2 (by decide) (by decide)) (k 3 1 (by decide) (by decide)) (k 3 0 (by decide) (by decide)) (k 3 2 (by decide) (by decide)) (k 0 1 (by decide) (by decide)) (k 0 3 (by decide) (by decide)) (k 0 2 (by decide) (by decide)) (k 2 1 (by decide) (by decide)) (k 2 3 (by decide) (by decide)) (k 2 0 (by decide) (by decide))
  · exact so1320V hm hr (k 1 3 (by decide) (by decide)) (k 1 2 (by decide) (by decide)) (k 1 0 (by decide) (by decide)) (k 3 1 (by decide) (by decide)) (k 3 2 (by decide) (by decide)) (k 3 0 (by decide) (by decide)) (k 2 1 (by decide) (by decide)) (k 2 3 (by decide) (by decide)) (k 2 0 (by decide) (by decide)) (k 0 1 (by decide) (by decide)) (k 0 3 (by decide) (by decide)) (k 0 2 (by decide) (by decide))
  · exact so2013V hm hr (k 2 0 (by decide) (by decide)) (k 2 1 (by decide) (by decide)) (k 2 3 (by decide) (by decide)) (k 0 2 (by decide) (by decide)) (k 0 1 (by decide) (by decide)) (k 0 3 (by decide) (by decide)) (k 1 2 (by decide) (by decide)) (k 1 0 (by decide) (by decide)) (k 1 3 (by decide) (by decide)) (k 3 2 (by decide) (by decide)) (k 3 0 (by decide) (by decide)) (k 3 1 (by decide) (by decide))
  · exact so2031V hm hr (k 2 0 (by decide) (by decide)) (k 2 3 (by decide) (by decide)) (k 2 1 (by decide) (by decide)) (k 0 2 (by decide) (by decide)) (k 0 3 (by decide) (by decide)) (k 0 1 (by decide) (by decide)) (k 3 2 (by decide) (by decide)) (k 3 0 (by decide) (by decide)) (k 3 1 (by decide) (by decide)) (k 1 2 (by decide) (by decide)) (k 1 0 (by decide) (by decide)) (k 1 3 (by decide) (by decide))
  · exact so2103V hm hr (k 2 1 (by decide) (by decide)) (k 2 0 (by decide) (by decide)) (k 2 3 (by decide) (by decide)) (k 1 2 (by decide) (by decide)) (k 1 0 (by decide) (by decide)) (k 1 3 (by decide) (by decide)) (k 0 2 (by decide) (by decide)) (k 0 1 (by decide) (by decide)) (k 0 3 (by decide) (by decide)) (k 3 2 (by decide) (by decide)) (k 3 1 (by decide) (by decide)) (k 3 0 (by decide) (by decide))
  · exact so2130V hm hr (k 2 1 (by decide) (by decide)) (k 2 3 (by decide) (by decide)) (k 2 0 (by decide) (by decide)) (k 1 2 (by decide) (by decide)) (k 1 3 (by decide) (by decide)) (k 1 0 (by decide) (by decide)) (k 3 2 (by decide) (by decide)) (k 3 1 (by decide) (by decide)) (k 3 0 (by decide) (by decide)) (k 0 2 (by decide) (by decide)) (k 0 1 (by decide) (by decide)) (k 0 3 (by decide) (by decide))
  · exact so2301V hm hr (k 2 3 (by decide) (by decide)) (k 2 0 (by decide) (by decide)) (k 2 1 (by decide) (by decide)) (k 3 2 (by decide) (by decide)) (k 3 0 (by decide) (by decide)) (k 3 1 (by decide) (by decide)) (k 0 2 (by decide) (by decide)) (k 0 3 (by decide) (by decide)) (k 0 1 (by decide) (by decide)) (k 1 2 (by decide) (by decide)) (k 1 3 (by decide) (by decide)) (k 1 0 (by decide) (by decide))
  · exact so2310V hm hr (k 2 3 (by decide) (by decide)) (k 2 1 (by decide) (by decide)) (k 2 0 (by decide) (by decide)) (k 3 2 (by decide) (by decide)) (k 3 1 (by decide) (by decide)) (k 3 0 (by decide) (by decide)) (k 1 2 (by decide) (by decide)) (k 1 3 (by decide) (by decide)) (k 1 0 (by decide) (by decide)) (k 0 2 (by decide) (by decide)) (k 0 3 (by decide) (by decide)) (k 0 1 (by decide) (by decide))
  · exact so3012V hm hr (k 3 0 (by decide) (by decide)) (k 3 1 (by decide) (by decide)) (k 3 2 (by decide) (by decide)) (k 0 3 (by decide) (by decide)) (k 0 1 (by decide) (by decide)) (k 0 2 (by decide) (by decide)) (k 1 3 (by decide) (by decide)) (k 1 0 (by decide) (by decide)) (k 1 2 (by decide) (by decide)) (k 2 3 (by decide) (by decide)) (k 2 0 (by decide) (by decide)) (k 2 1 (by decide) (by decide))
  · exact so3021V hm hr (k 3 0 (by decide) (by decide)) (k 3 2 (by decide) (by decide)) (k 3 1 (by decide) (by decide)) (k 0 3 (by decide) (by decide)) (k 0 2 (by decide) (by decide)) (k 0 1 (by decide) (by decide)) (k 2 3 (by decide) (by decide)) (k 2 0 (by decide) (by decide)) (k 2 1 (by decide) (by decide)) (k 1 3 (by decide) (by decide)) (k 1 0 (by decide) (by decide)) (k 1 2 (by decide) (by decide))
  · exact so3102V hm hr (k 3 1 (by decide) (by decide)) (k 3 0 (by decide) (by decide)) (k 3 2 (by decide) (by decide)) (k 1 3 (by decide) (by decide)) (k 1 0 (by decide) (by decide)) (k 1 2 (by decide) (by decide)) (k 0 3 (by decide) (by decide)) (k 0 1 (by decide) (by decide)) (k 0 2 (by decide) (by decide)) (k 2 3 (by decide) (by decide)) (k 2 1 (by decide) (by decide)) (k 2 0 (by decide) (by decide))
  · exact so3120V hm hr (k 3 1 (by decide) (by decide)) (k 3 2 (by decide) (by decide)) (k 3 0 (by decide) (by decide)) (k 1 3 (by decide) (by decide)) (k 1 2 (by decide) (by decide)) (k 1 0 (by decide) (by decide)) (k 2 3 (by decide) (by decide)) (k 2 1 (by decide) (by decide)) (k 2 0 (by decide) (by decide)) (k 0 3 (by decide) (by decide)) (k 0 1 (by decide) (by decide)) (k 0 2 (by decide) (by decide))
  · exact so3201V hm hr (k 3 2 (by decide) (by decide)) (k 3 0 (by decide) (by decide)) (k 3 1 (by decide) (by decide)) (k 2 3 (by decide) (by decide)) (k 2 0 (by decide) (by decide)) (k 2 1 (by decide) (by decide)) (k 0 3 (by decide) (by decide)) (k 0 2 (by decide) (by decide)) (k 0 1 (by decide) (by decide)) (k 1 3 (by decide) (by decide)) (k 1 2 (by decide) (by decide)) (k 1 0 (by decide) (by decide))
  · exact so3210V hm hr (k 3 2 (by decide) (by decide)) (k 3 1 (by decide) (by decide)) (k 3 0 (by decide) (by decide)) (k 2 3 (by decide) (by decide)) (k 2 1 (by decide) (by decide)) (k 2 0 (by decide) (by decide)) (k 1 3 (by decide) (by decide)) (k 1 2 (by decide) (by decide)) (k 1 0 (by decide) (by decide)) (k 0 3 (by decide) (by decide)) (k 0 2 (by decide) (by decide)) (k 0 1 (by decide) (by decide))
theorem home_all {wd : R4} {l : P4} {e : Nat} (hl : l ∈ perms4) : ∀ i,i < 4 → ((l.way 4 (u [])).cps.toList.foldl R4.swap (ofP wd l e)).s i = wd.s i := by
  simp only [perms4,List.mem_cons,List.not_mem_nil,or_false] at hl
  intro i hi
  rcases hl with rfl | rfl | rfl | rfl | rfl | rfl | rfl | rfl | rfl | rfl | rfl | rfl | rfl | rfl | rfl | rfl | rfl | rfl | rfl | rfl | rfl | rfl | rfl | rfl <;> rcases lt4 hi with rfl | rfl | rfl | rfl <;> rfl
theorem way_sg : perms4.all (fun l => (l.way 4 (u [])).cps.toList.all (fun c => Nat.beq c 39 || Nat.beq c 34 || Nat.beq c 96) && Nat.ble (l.way 4 (u [])).length 300) = true := by kernel_rfl
theorem dl_take (cs : List (Int × Tok)) (α : Nat → Tok) (τ : Tok) : (ccV cs α ++ ccI (lits τ)).take 5 = ccI [dl cs α τ 0,dl cs α τ 1,dl cs α τ 2,dl cs α τ 3,dl cs α τ 4] := by
  have e : ccV cs α ++ ccI (lits τ) = ccI ((cs.zipIdx.map fun x => (x.1.1.fmod 1000000,α x.2)) ++ lits τ) := by
    unfold ccV ccI
    rw [List.map_append,List.map_map]
    rfl
  rw [e]
  unfold ccI dl
  rw [← List.map_take]
  congr 1
  have h5 : 5 ≤ ((cs.zipIdx.map fun x => (x.1.1.fmod 1000000,α x.2)) ++ lits τ).length := by
    rw [List.length_append]
    show 5 ≤ _ + 5
    omega
  generalize ((cs.zipIdx.map fun x => (x.1.1.fmod 1000000,α x.2)) ++ lits τ) = l at h5
  match l,h5 with
  | a :: b :: c :: d :: e :: r,_ => rfl
theorem sgD_sg (d : Int × Tok) : isSg (sgD d) := by
  unfold sgD
  rcases fmod4 d.1 with h | h | h | h <;> rw [h]
  · exact .inl rfl
  · exact .inr (.inl rfl)
  · exact .inr (.inr (.inl rfl))
  · exact .inr (.inr (.inr rfl))
noncomputable def mkC (g : Nat) : Nat := match Nat.beq g 120 with
  | true => 0
  | false => 1
theorem swC_mkC (g : Nat) : swC g = 1 + 9 * mkC g := by
  unfold swC mkC
  cases Nat.beq g 120 <;> rfl
theorem mkC_le (g : Nat) : mkC g ≤ 1 := by
  unfold mkC
  cases Nat.beq g 120 <;> decide
theorem mkC_zero {g : Nat} (h : mkC g = 0) : g = 120 := by
  unfold mkC at h
  cases e : Nat.beq g 120 with
  | true => exact Nat.eq_of_beq_eq_true e
  | false => rw [e] at h; cases h
theorem vRdN {w : World} {b1 b2 b3 : Bool} {z hp ini m : Nat} {tt : Tok} {r : R4} {g0 g1 g2 g3 g4 : Nat} (h788 : 788 ≤ ini) (h0 : isSg g0) (h1 : isSg g1) (h2 : isSg g2) (h3 : isSg g3) (h4 : isSg g4) (hm : mkC g0 + mkC g1 + mkC g2 + mkC g3 + mkC g4 = m) (hm1 : 1 ≤ m) :
    ValidB (VX w b1 b2 b3) (oRd 763 rb_sh hp ini (u [g0,g1,g2,g3,g4]) tt r.obj (fun _ => (rF r [g0,g1,g2,g3,g4]).obj) false) z (9 + 9 * m) := by
  obtain ⟨ini,rfl⟩ : ∃ k,ini = k + 788 := ⟨ini - 788,by omega⟩
  intro hs p s hz htop hp' ⟨hap,hpp⟩
  have r' := rb_run w b1 b2 b3 hs p z s.toks ini (u [g0,g1,g2,g3,g4]) tt r g0 g1 g2 g3 g4
  rw [← hz] at r'
  refine enter (VX_ok _ _ _ _) (lT := []) (lR := [(ini + 788,r.obj)]) r' rfl htop (fun x hx => nomatch hx) (fun x hx => ?_) List.nodup_nil (fun x hx => nomatch hx) (fun x hx => nomatch hx) ?_
  · obtain rfl := List.mem_singleton.mp hx
    exact hp' _ (List.mem_singleton.mpr rfl)
  have hsg : ∀ c ∈ (u [g0,g1,g2,g3,g4]).cps.toList,isSg c := fun c hc => by
    have hc : c ∈ [g0,g1,g2,g3,g4] := hc
    simp only [List.mem_cons,List.not_mem_nil,or_false] at hc
    rcases hc with rfl | rfl | rfl | rfl | rfl <;> assumption
  refine ⟨vStrIterB (isSg_ascii hsg),fun α1 tk1 τ1 _ => ⟨vAscNextB rfl,fun α2 tk2 τ2 _ => ⟨vSwB rfl h0,fun α3 tk3 τ3 n3 => ⟨vAscNextB rfl,fun α4 tk4 τ4 _ => ⟨vSwB rfl h1,fun α5 tk5 τ5 n5 => ⟨vAscNextB rfl,fun α6 tk6 τ6 _ => ⟨vSwB rfl h2,fun α7 tk7 τ7 n7 =>
    ⟨vAscNextB rfl,fun α8 tk8 τ8 _ => ⟨vSwB rfl h3,fun α9 tk9 τ9 n9 => ⟨vAscNextB rfl,fun α10 tk10 τ10 _ => ⟨vSwB rfl h4,fun α11 tk11 τ11 n11 => ⟨vAscEndB rfl,fun α12 tk12 τ12 _ s' L hz' q e => ?_⟩⟩⟩⟩⟩⟩⟩⟩⟩⟩⟩⟩
  have st : ∀ {g a b : Nat},(s.heap.objs.size ≤ a ∨ Nat.beq g 120 = true ∧ b = a) → (s.heap.objs.size ≤ b ∨ mkC g = 1) → s.heap.objs.size ≤ a := fun {g a b} x y => by
    rcases x with x | ⟨x1,x2⟩
    · exact x
    · rcases y with y | y
      · exact x2 ▸ y
      · exfalso
        unfold mkC at y
        rw [x1] at y
        cases y
  have nw : ∀ {S : Spec} {α : Nat → Nat} {f : (Nat → Nat) → Tok → Obj} {x : Nat × Ent} {o : Bool},S.newR[0]? = some f → S.pre = [x] → S.old = o → (∀ i f,S.newR[i]? = some f → s.heap.objs.size ≤ α i ∨ S.old = true ∧ ∃ x ∈ S.pre,x.1 % 3 = 2 ∧ x.2.1 = α i) →
      s.heap.objs.size ≤ α 0 ∨ o = true ∧ x.2.1 = α 0 := fun {S α f x o} e1 e2 e3 h => by
    rcases h 0 f e1 with h | ⟨h1,y,hy,_,e⟩
    · exact .inl h
    · rw [e2] at hy
      obtain rfl := List.mem_singleton.mp hy
      exact .inr ⟨e3 ▸ h1,e⟩
  have k3 := nw (o := Nat.beq g0 120) rfl rfl rfl n3.1
  have k5 := nw (o := Nat.beq g1 120) rfl rfl rfl n5.1
  have k7 := nw (o := Nat.beq g2 120) rfl rfl rfl n7.1
  have k9 := nw (o := Nat.beq g3 120) rfl rfl rfl n9.1
  have k11 := nw (o := Nat.beq g4 120) rfl rfl rfl n11.1
  have c0 := mkC_le g0
  have c1 := mkC_le g1
  have c2 := mkC_le g2
  have c3 := mkC_le g3
  have c4 := mkC_le g4
  have fin : s.heap.objs.size ≤ α11 0 := by
    by_cases q4 : mkC g4 = 1
    · exact st k11 (.inr q4)
    refine st k11 (.inl ?_)
    by_cases q3 : mkC g3 = 1
    · exact st k9 (.inr q3)
    refine st k9 (.inl ?_)
    by_cases q2 : mkC g2 = 1
    · exact st k7 (.inr q2)
    refine st k7 (.inl ?_)
    by_cases q1 : mkC g1 = 1
    · exact st k5 (.inr q1)
    refine st k5 (.inl ?_)
    have q0 : mkC g0 = 1 := by omega
    exact st k3 (.inr q0)
  refine ⟨⟨fun _ => α11 0,0,resF_inj e,(fun _ h => nomatch h),fun j g h => ?_,fun a ob g _ => L.keep a ob g (fun h => nomatch h),fun j g h => ?_,(fun _ _ h => nomatch h),(fun _ _ h => absurd h (Nat.not_lt_zero _)),L.grow,L.gens,L.drawn,L.os⟩,hz'.trans ?_⟩
  · cases j with
    | zero => cases h; exact L.ro _ (List.mem_singleton.mpr rfl)
    | succ j => cases h
  · cases j with
    | succ j => cases h
    | zero => exact .inl fin
  · have := swC_mkC g0
    have := swC_mkC g1
    have := swC_mkC g2
    have := swC_mkC g3
    have := swC_mkC g4
    omega
theorem rx_runB (w : World) (b1 b2 b3 : Bool) (hs : HL rx_sh) (p : Pos) (n τ : Nat) (ini : Nat) (tt : Tok) (dat : Data) : SH (VX w b1 b2 b3) true 20000 [] ⟨rx_code ini tt dat,none,none,fillAll rx_sh hs,none⟩ p ((VX w b1 b2 b3).den (rx_code ini tt dat)) (Scr.atZ (n + 9) (rx_scr w.params n τ ini tt dat)) (tabOf (rx_lR w.params ini tt dat) 0 .nil) (tabOf (rx_lT w.params ini tt dat) 0 .nil) 0 1 n 0 τ 0 [] [] := by
  cases b1 <;> exact runOf (adrs [] n) (adr1 [(ini + 788)]) (by kernel_rfl)
theorem vRdX {w : World} {b1 b2 b3 : Bool} {z hp ini : Nat} {T : Str} {tt : Tok} {dat : Data} (h788 : 788 ≤ ini) (hT : T = u [120,120,120,120,120]) : ValidB (VX w b1 b2 b3) (oRdX' rx_sh hp ini T tt ⟨.type SL.s9222952809800978799x4,none,dat,#[]⟩) z 9 := by
  subst hT
  obtain ⟨ini,rfl⟩ : ∃ k,ini = k + 788 := ⟨ini - 788,by omega⟩
  intro hs p s hz htop hpre ⟨hap,hpp⟩
  subst hz
  refine enter (VX_ok _ _ _ _) (lT := []) (lR := [(ini + 788,⟨.type SL.s9222952809800978799x4,none,dat,#[]⟩)]) (rx_runB w b1 b2 b3 hs p s.heap.objs.size s.toks ini tt dat) rfl htop (fun _ h => nomatch h) (fun x hx => ?_) List.nodup_nil (fun _ h => nomatch h) (fun _ h => nomatch h) ?_
  · obtain rfl := List.mem_singleton.mp hx
    exact hpre _ (List.mem_singleton.mpr rfl)
  · intro s' L hz' q e
    exact ⟨⟨fun _ => 0,0,resF_inj e,(fun _ h => nomatch h),(fun _ _ h => nomatch h),(fun a ob g _ => L.keep a ob g (fun h => nomatch h)),(fun _ _ h => nomatch h),(fun _ _ h => nomatch h),(fun _ _ h => absurd h (Nat.not_lt_zero _)),L.grow,L.gens,L.drawn,L.os⟩,hz'⟩
end Mine
end
section
open PySem PySem.W PyProof.Rows
namespace Mine
noncomputable def lOf (gs : List Nat) (l : P4) : P4 := gs.foldl (fun l g => l.swap (place g)) l
theorem ofP_swap' (w : R4) (l : P4) (e g : Nat) (hg : isSg g) : ∃ e',(ofP w l e).swap g = ofP w (l.swap (place g)) e' := by
  rcases hg with rfl | rfl | rfl | rfl
  · exact ⟨e,rfl⟩
  · exact ⟨0,rfl⟩
  · exact ⟨0,rfl⟩
  · exact ⟨0,rfl⟩
theorem place_lt {g : Nat} (hg : isSg g) : place g < 4 := by
  rcases hg with rfl | rfl | rfl | rfl <;> decide
theorem rows_of (w : R4) : ∀ (gs : List Nat) (l : P4) (e : Nat),(∀ g ∈ gs,isSg g) → ∃ e',gs.foldl R4.swap (ofP w l e) = ofP w (lOf gs l) e'
  | [],l,e,_ => ⟨e,rfl⟩
  | g :: gs,l,e,h => by
    obtain ⟨e',h1⟩ := ofP_swap' w l e g (h g (.head _))
    rw [List.foldl_cons,h1]
    exact rows_of w gs _ e' fun x hx => h x (.tail _ hx)
theorem lOf_mem : ∀ (gs : List Nat) (l : P4),l ∈ perms4 → (∀ g ∈ gs,isSg g) → lOf gs l ∈ perms4
  | [],l,h,_ => h
  | g :: gs,l,h,hs => lOf_mem gs _ (perms_swap h (place_lt (hs g (.head _)))) fun x hx => hs x (.tail _ hx)
theorem way_in {l : P4} (hl : l ∈ perms4) : (∀ c ∈ (l.way 4 (u [])).cps.toList,isSg c) ∧ (l.way 4 (u [])).length ≤ 300 := by
  have := List.all_eq_true.mp way_sg l hl
  simp only [Bool.and_eq_true,List.all_eq_true,Bool.or_eq_true,Nat.beq_eq,Nat.ble_eq] at this
  refine ⟨fun c hc => ?_,this.2⟩
  rcases this.1 c hc with (h | h) | h
  · exact .inr (.inl h)
  · exact .inr (.inr (.inl h))
  · exact .inr (.inr (.inr h))
theorem tT_sg (d0 d1 d2 d3 d4 : Int × Tok) : ∀ c ∈ (tT d0 d1 d2 d3 d4).cps.toList,isSg c := fun c hc => by
  have hc : c ∈ [sgD d0,sgD d1,sgD d2,sgD d3,sgD d4] := hc
  simp only [List.mem_cons,List.not_mem_nil,or_false] at hc
  rcases hc with rfl | rfl | rfl | rfl | rfl <;> exact sgD_sg _
theorem ov_of {fr it : Nat} {sl : List (Option Value)} {ks vs : List Nat} {d0 d1 d2 d3 d4 : Int × Tok} {rw wd : R4} {l : P4} {e : Nat} (hl : l ∈ perms4) (K : Rise wd) (h1 : [sgD d0,sgD d1,sgD d2,sgD d3,sgD d4].foldl R4.swap wd = rw) (h2 : rw = ofP wd l e) :
    (ovOf fr it sl ks vs (tT d0 d1 d2 d3 d4) (l.way 4 (u [])) rw wd).In := by
  have W := way_in hl
  refine ov_in (wd := wd) rfl ?_ K.dis (show 2 ≤ 5 by decide) (show 5 ≤ 500 by decide) W.2 (tT_sg d0 d1 d2 d3 d4) W.1 fun i hi => ?_
  · show rw.vals = ([sgD d0,sgD d1,sgD d2,sgD d3,sgD d4].foldl R4.swap wd).vals
    rw [h1]
  · show ((l.way 4 (u [])).cps.toList.foldl R4.swap ([sgD d0,sgD d1,sgD d2,sgD d3,sgD d4].foldl R4.swap wd)).s i = wd.s i
    rw [h1,h2]
    exact home_all hl i hi
noncomputable abbrev LawQ (s : Shared) : Except Value PySem.Fin → Shared → Prop := fun r s' => r = .ok (.done (.ret (.bool true))) ∧ Grown s s'
theorem law_end {s s' : Shared} {A : Nat → Nat} (L : Left s (fun a => a ∈ [728]) 1 [(0,728,ckT A)] [] s') : LawQ s (.ok (.done (.ret (.bool true)))) s' :=
  ⟨rfl,fun a o h hne => L.keep a o h (fun hm => hne (List.mem_singleton.mp hm)),⟨⟨[.int 725 0,.int 4 0,.ref (A 60)]⟩,L.at_ _ (.head _)⟩,L.gens,L.os⟩
section
variable {w : World} {b1 b2 b3 : Bool} {s : Shared}
theorem lS2_fin (hs : s.heap.objs.size = 789) {τ m : Nat} {l : P4} {τ4 : Tok} {α4 : Nat → Nat} {d0 d1 d2 d3 d4 : Int × Tok} (hl : l = lOf [sgD d0,sgD d1,sgD d2,sgD d3,sgD d4] ⟨0,1,2,3⟩)
    (hm : mkC (sgD d0) + mkC (sgD d1) + mkC (sgD d2) + mkC (sgD d3) + mkC (sgD d4) = m) (h1 : 1 ≤ m) (h5 : m ≤ 5) : FinOk (VX w b1 b2 b3) (LawQ s) s (fun a => a ∈ [728]) 1 (lS2 w.params τ m l τ4 α4 d0 d1 d2 d3 d4) := by
  have gsg : ∀ g ∈ [sgD d0,sgD d1,sgD d2,sgD d3,sgD d4],isSg g := tT_sg d0 d1 d2 d3 d4
  have hlm : l ∈ perms4 := hl ▸ lOf_mem _ _ (.head _) gsg
  refine ⟨vText (by decide) (by decide) (by decide) (by decide),fun α5 tk5 τ5 _ => ⟨vWords (by decide) (by decide),fun α6 tk6 τ6 _ =>
    ⟨vRdN (by decide) (sgD_sg _) (sgD_sg _) (sgD_sg _) (sgD_sg _) (sgD_sg _) hm h1,fun α7 tk7 τ7 n7 => ⟨?_,fun α8 tk8 τ8 _ => ?_⟩⟩⟩⟩
  · show ValidP _ _ _ _ _
    rw [show (832 + (9 + 9 * m)) + 0 = 841 + 9 * m by omega]
    exact vCk h5
  have K : Rise (wdR d0 d1 d2 d3 d4 α6) := wd_rise d0 d1 d2 d3 d4 α6
  obtain ⟨e,he⟩ : ∃ e,rwR d0 d1 d2 d3 d4 (pin [] α6) = ofP (wdR d0 d1 d2 d3 d4 (pin [] α6)) l e := by
    rw [hl]
    exact rows_of (wdR d0 d1 d2 d3 d4 α6) [sgD d0,sgD d1,sgD d2,sgD d3,sgD d4] ⟨0,1,2,3⟩ 4 gsg
  have a7 : 788 ≤ α7 0 := by
    have := n7.1 0 _ rfl
    rcases this with h | ⟨h,_⟩
    · have h : s.heap.objs.size ≤ α7 0 := h
      omega
    · cases h
  have hin := fun fr it sl ks vs => ov_of (fr := fr) (it := it) (sl := sl) (ks := ks) (vs := vs) (d0 := d0) (d1 := d1) (d2 := d2) (d3 := d3) (d4 := d4) (rw := rwR d0 d1 d2 d3 d4 α6) hlm K rfl he
  refine ⟨?_,fun α9 tk9 n9 τ9 n9' => ?_⟩
  · rw [he]
    exact so_all hlm K h5 a7
  have a9 : 788 ≤ α9 0 := by
    rcases n9'.1 0 _ rfl with h | ⟨h,_⟩
    · omega
    · cases h
  refine nx (vLNe (q := wdR d0 d1 d2 d3 d4 α6) fun _ _ => rfl) fun _ _ _ _ => ?_
  refine nx (vWay (wd := wdR d0 d1 d2 d3 d4 α6) K.dis (fun _ _ => rfl) hlm (by rw [he]; exact ofP_num _ _ _) a9 a7) fun _ tk11 n11 τ11 => ?_
  refine nx (vOut (by decide) (by decide) (by decide) (hin _ _ _ _ _)) fun _ _ _ _ => ?_
  exact fun s' L => law_end L
theorem lX2_fin (hs : s.heap.objs.size = 789) {τ m : Nat} {l : P4} {τ4 : Tok} {α4 : Nat → Nat} {d0 d1 d2 d3 d4 : Int × Tok} (hl : l = lOf [sgD d0,sgD d1,sgD d2,sgD d3,sgD d4] ⟨0,1,2,3⟩)
    (hm : mkC (sgD d0) + mkC (sgD d1) + mkC (sgD d2) + mkC (sgD d3) + mkC (sgD d4) = m) (h0 : m = 0) : FinOk (VX w b1 b2 b3) (LawQ s) s (fun a => a ∈ [728]) 1 (lX2 w.params τ m l τ4 α4 d0 d1 d2 d3 d4) := by
  subst h0
  have g0 : sgD d0 = 120 := mkC_zero (by omega)
  have g1 : sgD d1 = 120 := mkC_zero (by omega)
  have g2 : sgD d2 = 120 := mkC_zero (by omega)
  have g3 : sgD d3 = 120 := mkC_zero (by omega)
  have g4 : sgD d4 = 120 := mkC_zero (by omega)
  have hT : tT d0 d1 d2 d3 d4 = u [120,120,120,120,120] := by unfold tT; rw [g0,g1,g2,g3,g4]
  have hl0 : l = ⟨0,1,2,3⟩ := by rw [hl,g0,g1,g2,g3,g4]; rfl
  have hlm : l ∈ perms4 := hl0 ▸ .head _
  refine ⟨vText (by decide) (by decide) (by decide) (by decide),fun α5 tk5 τ5 _ => ⟨vWords (by decide) (by decide),fun α6 tk6 τ6 _ =>
    ⟨vRdX (by decide) hT,fun α7 tk7 τ7 n7 => ⟨?_,fun α8 tk8 τ8 _ => ?_⟩⟩⟩⟩
  · exact vCk (m := 0) (by decide)
  have K : Rise (wdR d0 d1 d2 d3 d4 α6) := wd_rise d0 d1 d2 d3 d4 α6
  have he : wdR d0 d1 d2 d3 d4 α6 = ofP (wdR d0 d1 d2 d3 d4 α6) l 4 := by rw [hl0]; rfl
  have hnum : Num (wdR d0 d1 d2 d3 d4 α6) (wdR d0 d1 d2 d3 d4 α6) l := by
    rw [hl0]
    intro i hi
    rcases lt4 hi with rfl | rfl | rfl | rfl <;> rfl
  have hw : [sgD d0,sgD d1,sgD d2,sgD d3,sgD d4].foldl R4.swap (wdR d0 d1 d2 d3 d4 α6) = wdR d0 d1 d2 d3 d4 α6 := by rw [g0,g1,g2,g3,g4]; rfl
  have hin := fun fr it sl ks vs => ov_of (fr := fr) (it := it) (sl := sl) (ks := ks) (vs := vs) (d0 := d0) (d1 := d1) (d2 := d2) (d3 := d3) (d4 := d4) (rw := wdR d0 d1 d2 d3 d4 α6) hlm K hw he
  have hso := so_all (w := w) (b1 := b1) (b2 := b2) (b3 := b3) (h0 := 54) (h1 := 14) (h2 := 17) (h3 := 20) (h4 := 23) (h5 := 26) (h6 := 29) (h7 := 32) (h8 := 35) (row := 812) (m := 0) (A := pin [kK 0] α8) (wd := wdR d0 d1 d2 d3 d4 α6) (l := ⟨0,1,2,3⟩) (e := 4) (.head _) K (by decide) (by decide)
  refine ⟨hso,fun α9 tk9 n9 τ9 n9' => ?_⟩
  have a9 : 788 ≤ α9 0 := by
    rcases n9'.1 0 _ rfl with h | ⟨h,_⟩
    · omega
    · cases h
  refine nx (vLNe (q := wdR d0 d1 d2 d3 d4 α6) fun _ _ => rfl) fun _ _ _ _ => ?_
  refine nx (vWay (wd := wdR d0 d1 d2 d3 d4 α6) K.dis (fun _ _ => rfl) hlm hnum a9 (by decide)) fun _ tk11 n11 τ11 => ?_
  refine nx (vOut (by decide) (by decide) (by decide) (hin _ _ _ _ _)) fun _ _ _ _ => ?_
  exact fun s' L => law_end L
end
noncomputable def nd (cs : List (Int × Tok)) (i : Nat) : Int := ((cs.map fun c : Int × Tok => c.1.fmod 1000000) ++ [13,6,3,10,5]).getD i 0
theorem dl_nd (cs : List (Int × Tok)) (α : Nat → Tok) (τ : Tok) (i : Nat) : (dl cs α τ i).1 = nd cs i := by
  unfold dl nd
  have e : ((cs.map fun c : Int × Tok => c.1.fmod 1000000) ++ [13,6,3,10,5]) = ((cs.zipIdx.map fun x => (x.1.1.fmod 1000000,α x.2)) ++ lits τ).map (·.1) := by
    rw [List.map_append,List.map_map]
    have : (cs.zipIdx.map ((fun x : Int × Tok => x.1) ∘ fun x : (Int × Tok) × Nat => (x.1.1.fmod 1000000,α x.2))) = cs.map fun c : Int × Tok => c.1.fmod 1000000 := by
      have h := List.zipIdx_map_fst 0 cs
      conv => rhs; rw [← h]
      rw [List.map_map]
      rfl
    rw [this]
    rfl
  rw [e,List.getD_eq_getElem?_getD,List.getD_eq_getElem?_getD,List.getElem?_map]
  cases ((cs.zipIdx.map fun x => (x.1.1.fmod 1000000,α x.2)) ++ lits τ)[i]? <;> rfl
noncomputable def gS (cs : List (Int × Tok)) (i : Nat) : Nat := sgn ((nd cs i).fmod 4)
theorem sgD_dl (cs : List (Int × Tok)) (α : Nat → Tok) (τ : Tok) (i : Nat) : sgD (dl cs α τ i) = gS cs i := by
  unfold sgD gS
  rw [dl_nd]
theorem ccV_len (cs : List (Int × Tok)) (α : Nat → Tok) : (ccV cs α).length = cs.length := by
  unfold ccV
  rw [List.length_map,List.length_zipIdx]
theorem ints_cs : ∀ (xs : List Value),(∀ v ∈ xs,∃ i t,v = .int i t) → ∃ cs : List (Int × Tok),xs = ccI cs
  | [],_ => ⟨[],rfl⟩
  | v :: xs,h => by
    obtain ⟨i,t,rfl⟩ := h v (.head _)
    obtain ⟨cs,rfl⟩ := ints_cs xs fun x hx => h x (.tail _ hx)
    exact ⟨(i,t) :: cs,rfl⟩
theorem law_calls {w : World} {b1 b2 b3 : Bool} {s : Shared} {xs : List Value} (htop : ∀ i ob,(VX w b1 b2 b3).top i = some ob → s.heap.get? i = some ob) (h728 : s.heap.get? 728 = some (k728 w.params))
    (hx' : s.heap.get? 788 = some (lsO xs 0)) (hz : s.heap.objs.size = 789) (hi : ∀ v ∈ xs,∃ i t,v = .int i t) (hl : xs.length ≤ 63) (p : Pos) :
    Sem.wp (VM (VX w b1 b2 b3)) ⟨.builtin SL.s11611643536802374852x12 {}, none, none, [], none⟩ (callStub (Str.ofString "law") [.ref 788]).cur (fun fin _ s' => fin = .done (.ret (.bool true)) ∧ Grown s s') (fun _ _ _ => False) p s := by
  obtain ⟨cs,hcs⟩ := ints_cs (xs.take 5) fun v hv => hi v (List.mem_of_mem_take hv)
  have hcl : cs.length ≤ 5 := by
    have : (xs.take 5).length ≤ 5 := by rw [List.length_take]; omega
    rw [hcs] at this
    unfold ccI at this
    rwa [List.length_map] at this
  have c0 := mkC_le (gS cs 0)
  have c1 := mkC_le (gS cs 1)
  have c2 := mkC_le (gS cs 2)
  have c3 := mkC_le (gS cs 3)
  have c4 := mkC_le (gS cs 4)
  have D : ∀ S : Scr, SH (VX w b1 b2 b3) false 20000 [] ⟨.builtin SL.s11611643536802374852x12 {}, none, none, [], none⟩ p (callStub (Str.ofString "law") [.ref 788]).cur S (tabOf [(788, lsO xs 0)] 0 .nil) (tabOf [(728, k728 w.params)] 0 .nil) 1 1 789 0 s.toks 0 [] [] →
      FinOk (VX w b1 b2 b3) (LawQ s) s (fun a => a ∈ [728]) 1 S →
      Sem.wp (VM (VX w b1 b2 b3)) ⟨.builtin SL.s11611643536802374852x12 {}, none, none, [], none⟩ (callStub (Str.ofString "law") [.ref 788]).cur (fun fin _ s' => fin = .done (.ret (.bool true)) ∧ Grown s s') (fun _ _ _ => False) p s := fun S run F => by
    have M := Mt.start (V := VX w b1 b2 b3) (s := s) (A₀ := fun a => a ∈ [728]) [(728,k728 w.params)] [(788,lsO xs 0)] rfl htop (fun x hx => by obtain rfl := List.mem_singleton.mp hx; exact h728) (fun x hx => by obtain rfl := List.mem_singleton.mp hx; exact hx')
      (by simp) (fun x hx y hy => by obtain rfl := List.mem_singleton.mp hx; obtain rfl := List.mem_singleton.mp hy; exact (by decide : (728 : Nat) ≠ 788)) (fun x hx ob => by obtain rfl := List.mem_singleton.mp hx; show topF w.params 728 ≠ some ob; intro h; exact (topF_kT h).2 rfl) (fun x hx => by obtain rfl := List.mem_singleton.mp hx; exact List.mem_singleton.mpr rfl)
    have M : Mt (VX w b1 b2 b3) s (fun a => a ∈ [728]) 1 s (tabOf [(788,lsO xs 0)] 0 .nil) (tabOf [(728,k728 w.params)] 0 .nil) 1 1 789 0 s.toks 0 := by rw [← hz]; exact M
    have := simH_sound (Q := LawQ s) (VX_ok w b1 b2 b3) _ _ _ _ _ _ _ _ _ _ _ _ _ _ _ _ s (SH_simH run) M F
    refine Sem.wp_mono _ _ _ (fun fin p' s' h => ?_) (fun e p' s' h => ?_) _ _ this
    · obtain ⟨h1,h2⟩ : (Except.ok fin : Except Value PySem.Fin) = .ok (.done (.ret (.bool true))) ∧ Grown s s' := h
      cases h1
      exact ⟨rfl,h2⟩
    · obtain ⟨h1,_⟩ : (Except.error e : Except Value PySem.Fin) = .ok (.done (.ret (.bool true))) ∧ Grown s s' := h
      cases h1
  by_cases hm : mkC (gS cs 0) + mkC (gS cs 1) + mkC (gS cs 2) + mkC (gS cs 3) + mkC (gS cs 4) = 0
  · refine D _ (lX_run w b1 b2 b3 p s.toks 0 xs cs (lOf [gS cs 0,gS cs 1,gS cs 2,gS cs 3,gS cs 4] ⟨0,1,2,3⟩) (dl cs) rfl) ?_
    refine ⟨vSl5B hcs (by omega),fun α1 tk1 τ1 _ => ⟨vCells (by decide) (by decide) (by decide) (by decide) hcl,fun α2 tk2 τ2 _ => ⟨vLAddB (by rw [ccV_len]; omega) (show 5 ≤ 1000 by decide),fun α3 tk3 τ3 _ =>
      ⟨vSl5P (dl_take cs α2 τ2) (by rw [List.length_append,ccV_len]; show cs.length + 5 ≤ 1000; omega),fun α4 tk4 τ4 _ => ?_⟩⟩⟩⟩
    refine lX2_fin hz ?_ ?_ rfl
    · rw [sgD_dl,sgD_dl,sgD_dl,sgD_dl,sgD_dl]
    · rw [sgD_dl,sgD_dl,sgD_dl,sgD_dl,sgD_dl]; exact hm
  · refine D _ (lS_run w b1 b2 b3 p s.toks (mkC (gS cs 0) + mkC (gS cs 1) + mkC (gS cs 2) + mkC (gS cs 3) + mkC (gS cs 4)) xs cs (lOf [gS cs 0,gS cs 1,gS cs 2,gS cs 3,gS cs 4] ⟨0,1,2,3⟩) (dl cs) (by omega) (by omega)) ?_
    refine ⟨vSl5B hcs (by omega),fun α1 tk1 τ1 _ => ⟨vCells (by decide) (by decide) (by decide) (by decide) hcl,fun α2 tk2 τ2 _ => ⟨vLAddB (by rw [ccV_len]; omega) (show 5 ≤ 1000 by decide),fun α3 tk3 τ3 _ =>
      ⟨vSl5P (dl_take cs α2 τ2) (by rw [List.length_append,ccV_len]; show cs.length + 5 ≤ 1000; omega),fun α4 tk4 τ4 _ => ?_⟩⟩⟩⟩
    refine lS2_fin hz ?_ ?_ (by omega) (by omega)
    · rw [sgD_dl,sgD_dl,sgD_dl,sgD_dl,sgD_dl]
    · rw [sgD_dl,sgD_dl,sgD_dl,sgD_dl,sgD_dl]
end Mine
end
section
open PySem PySem.W PyProof.Rows
namespace Mine
theorem calls : Calls := fun w s xs hk hx hz hi hl hg => by
  obtain ⟨b1,b2,b3,hw⟩ := W3_self w
  have htop : ∀ i ob,(VX w b1 b2 b3).top i = some ob → s.heap.get? i = some ob := fun i ob h => hk i ob (topF_kT h).1
  have h728 : s.heap.get? 728 = some (k728 w.params) := hk 728 _ (by kernel_rfl)
  have hx' : s.heap.get? 788 = some (lsO xs 0) := by
    unfold lsO
    rw [← SL.e9222952809800978799x4]
    exact hx
  have := law_calls htop h728 hx' hz hi hl default
  change Sem.wp (model pg (W3 w b1 b2 b3)) _ _ _ _ _ _ at this
  rw [hw,← pg_eq,← SL.e11611643536802374852x12] at this
  exact this
theorem holds : PySem.Challenge.rw_ik0198_01.Holds := main calls
end Mine
end
open PySem PySem.W PyProof.Rows
theorem PySem.Challenge.cw_ik0198_01_holds : PySem.Challenge.rw_ik0198_01.Holds :=
  Mine.holds
