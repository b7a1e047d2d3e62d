import PyProof.Rows.All
import Wide.All
import OpenK.AllK
import Wide.FinOn
import PySem.Challenge.RW_aw6015_01
open PySem PySem.W PyProof.Rows
set_option Elab.async false
namespace Mine
set_option maxRecDepth 100000 in
set_option maxHeartbeats 8000000 in
open_top hd for PySem.Challenge.rw_aw6015_01
end Mine
section
open PySem
namespace Mine

/-- the fields of a node -/
structure Nd where
  left : Option Addr
  next : Option Addr
  parent : Option Addr
  prev : Option Addr
  key : Int
  kt : Tok
  value : Int
  vt : Tok

inductive Fl where
  | left | next | parent | prev
def Nd.get (n : Nd) : Fl → Option Addr
  | .left => n.left | .next => n.next | .parent => n.parent | .prev => n.prev
def Nd.put (n : Nd) (f : Fl) (v : Option Addr) : Nd := match f with
  | .left => { n with left := v } | .next => { n with next := v } | .parent => { n with parent := v } | .prev => { n with prev := v }

def upd (σ : Addr → Nd) (a : Addr) (n : Nd) : Addr → Nd := fun b => if b = a then n else σ b
def setF (σ : Addr → Nd) (a : Addr) (f : Fl) (v : Option Addr) : Addr → Nd := upd σ a ((σ a).put f v)
def setVal (σ : Addr → Nd) (a : Addr) (i : Int) (t : Tok) : Addr → Nd := upd σ a { σ a with value := i, vt := t }

theorem setF_ne {σ : Addr → Nd} {a b : Addr} {f : Fl} {v : Option Addr} (h : b ≠ a) : setF σ a f v b = σ b := by simp [setF, upd, h]
theorem setF_eq {σ : Addr → Nd} {a : Addr} {f : Fl} {v : Option Addr} : setF σ a f v a = (σ a).put f v := by simp [setF, upd]
theorem setVal_ne {σ : Addr → Nd} {a b : Addr} {i : Int} {t : Tok} (h : b ≠ a) : setVal σ a i t b = σ b := by simp [setVal, upd, h]
theorem setVal_eq {σ : Addr → Nd} {a : Addr} {i : Int} {t : Tok} : setVal σ a i t a = { σ a with value := i, vt := t } := by simp [setVal, upd]

/-- keys and values stand -/
def KV (σ σ' : Addr → Nd) : Prop := ∀ b, (σ' b).key = (σ b).key ∧ (σ' b).value = (σ b).value
theorem KV.refl {σ : Addr → Nd} : KV σ σ := fun _ => ⟨rfl, rfl⟩
theorem KV.trans {σ₁ σ₂ σ₃ : Addr → Nd} (x : KV σ₁ σ₂) (y : KV σ₂ σ₃) : KV σ₁ σ₃ := fun b => ⟨(y b).1.trans (x b).1, (y b).2.trans (x b).2⟩
theorem KV.setF {σ : Addr → Nd} {a : Addr} {f : Fl} {v : Option Addr} : KV σ (setF σ a f v) := fun b => by
  by_cases h : b = a
  · subst h; rw [setF_eq]; cases f <;> exact ⟨rfl, rfl⟩
  · rw [setF_ne h]; exact ⟨rfl, rfl⟩

/-- a forest in the left child, next sibling form -/
inductive BT where
  | nil
  | node (a : Addr) (l n : BT)
def BT.hd : BT → Option Addr
  | .nil => none
  | .node a _ _ => some a
def BT.ad : BT → List Addr
  | .nil => []
  | .node a l n => a :: (l.ad ++ n.ad)
def Rep (σ : Addr → Nd) : Option Addr → Option Addr → BT → Prop
  | _, _, .nil => True
  | par, pv, .node a l n => (σ a).left = l.hd ∧ (σ a).next = n.hd ∧ (σ a).parent = par ∧ (σ a).prev = pv ∧ Rep σ (some a) none l ∧ Rep σ par (some a) n
def HO (val : Addr → Int) : Int → BT → Prop
  | _, .nil => True
  | pv, .node a l n => pv ≤ val a ∧ HO val (val a) l ∧ HO val pv n

theorem Rep.congr {σ σ' : Addr → Nd} : ∀ {t : BT} {par pv : Option Addr}, (∀ b ∈ t.ad, σ' b = σ b) → Rep σ par pv t → Rep σ' par pv t
  | .nil, _, _, _, _ => trivial
  | .node a l n, par, pv, h, hr => by
    obtain ⟨h1, h2, h3, h4, h5, h6⟩ := hr
    have ha := h a (by simp [BT.ad])
    refine ⟨by rw [ha]; exact h1, by rw [ha]; exact h2, by rw [ha]; exact h3, by rw [ha]; exact h4, Rep.congr (fun b hb => h b (by simp [BT.ad, hb])) h5, Rep.congr (fun b hb => h b (by simp [BT.ad, hb])) h6⟩

theorem hd_mem : ∀ {t : BT} {a : Addr}, t.hd = some a → a ∈ t.ad
  | .nil, _, h => by cases h
  | .node a l n, b, h => by cases h; simp [BT.ad]

/-- the first one's prev turned -/
theorem Rep.setPrev {σ : Addr → Nd} {t : BT} {par pv v : Option Addr} {x : Addr} (hx : t.hd = some x) (nd : t.ad.Nodup) (hr : Rep σ par pv t) : Rep (setF σ x .prev v) par v t := by
  cases t with
  | nil => cases hx
  | node a l n =>
    cases hx
    obtain ⟨h1, h2, h3, h4, h5, h6⟩ := hr
    simp only [BT.ad, List.nodup_cons, List.mem_append, not_or] at nd
    refine ⟨by rw [setF_eq]; exact h1, by rw [setF_eq]; exact h2, by rw [setF_eq]; exact h3, by rw [setF_eq]; rfl, Rep.congr (fun b hb => setF_ne ?_) h5, Rep.congr (fun b hb => setF_ne ?_) h6⟩
    · rintro rfl; exact nd.1.1 hb
    · rintro rfl; exact nd.1.2 hb

/-- the two roots linked: w the winner, l the loser -/
def linkT (σ : Addr → Nd) (w l : Addr) : Addr → Nd :=
  match (σ w).left with
  | none => setF (setF (setF (setF σ l .next none) l .prev none) w .left (some l)) l .parent (some w)
  | some x => setF (setF (setF (setF (setF σ l .next (some x)) x .prev (some l)) l .prev none) w .left (some l)) l .parent (some w)
theorem linkT_none {σ : Addr → Nd} {w l : Addr} (h : (σ w).get .left = none) : linkT σ w l = setF (setF (setF (setF σ l .next none) l .prev none) w .left (some l)) l .parent (some w) := by
  unfold linkT; rw [show (σ w).left = none from h]
theorem linkT_some {σ : Addr → Nd} {w l x : Addr} (h : (σ w).get .left = some x) : linkT σ w l = setF (setF (setF (setF (setF σ l .next (some x)) x .prev (some l)) l .prev none) w .left (some l)) l .parent (some w) := by
  unfold linkT; rw [show (σ w).left = some x from h]
/-- who wins -/
def WL (σ : Addr → Nd) (r o w l : Addr) : Prop := ((σ o).value < (σ r).value ∧ w = o ∧ l = r) ∨ (¬ (σ o).value < (σ r).value ∧ w = r ∧ l = o)
theorem WL.le {σ : Addr → Nd} {r o w l : Addr} (h : WL σ r o w l) : (σ w).value ≤ (σ l).value := by
  rcases h with ⟨a, rfl, rfl⟩ | ⟨a, rfl, rfl⟩ <;> omega

theorem KV.linkT {σ : Addr → Nd} {w l : Addr} : KV σ (linkT σ w l) := by
  unfold Mine.linkT
  split
  · exact ((KV.setF.trans KV.setF).trans KV.setF).trans KV.setF
  · exact (((KV.setF.trans KV.setF).trans KV.setF).trans KV.setF).trans KV.setF

theorem linkT_frame {σ : Addr → Nd} {w l b : Addr} (hw : b ≠ w) (hl : b ≠ l) (hx : (σ w).left ≠ some b) : linkT σ w l b = σ b := by
  cases e : (σ w).left with
  | none => rw [linkT_none e, setF_ne hl, setF_ne hw, setF_ne hl, setF_ne hl]
  | some x =>
    have : b ≠ x := by rintro rfl; exact hx e
    rw [linkT_some e, setF_ne hl, setF_ne hw, setF_ne hl, setF_ne this, setF_ne hl]

theorem linkT_win {σ : Addr → Nd} {w l : Addr} (hwl : w ≠ l) (hx : (σ w).left ≠ some w) : linkT σ w l w = { σ w with left := some l } := by
  cases e : (σ w).left with
  | none => rw [linkT_none e, setF_ne hwl, setF_eq, setF_ne hwl, setF_ne hwl]; rfl
  | some x =>
    have : w ≠ x := by rintro rfl; exact hx e
    rw [linkT_some e, setF_ne hwl, setF_eq, setF_ne hwl, setF_ne this, setF_ne hwl]; rfl
theorem linkT_lose {σ : Addr → Nd} {w l : Addr} (hwl : w ≠ l) (hx : (σ w).left ≠ some l) : linkT σ w l l = { σ l with next := (σ w).left, prev := none, parent := some w } := by
  cases e : (σ w).left with
  | none => rw [linkT_none e, setF_eq, setF_ne (Ne.symm hwl), setF_eq, setF_eq]; rfl
  | some x =>
    have : l ≠ x := by rintro rfl; exact hx e
    rw [linkT_some e, setF_eq, setF_ne (Ne.symm hwl), setF_eq, setF_ne this, setF_eq]; rfl

theorem link_rep {σ : Addr → Nd} {w l : Addr} {lw ll : BT} (hw : (σ w).left = lw.hd) (hRw : Rep σ (some w) none lw) (hl : (σ l).left = ll.hd) (hRl : Rep σ (some l) none ll)
    (nd : (w :: l :: (lw.ad ++ ll.ad)).Nodup) : Rep (linkT σ w l) (some w) none (.node l ll lw) := by
  simp only [List.nodup_cons, List.mem_cons, List.mem_append, not_or, List.nodup_append] at nd
  obtain ⟨⟨wl, wlw, wll⟩, ⟨llw, lll⟩, ndw, ndl, dis⟩ := nd
  have hxl : (σ w).left ≠ some l := fun e => llw (hd_mem (hw ▸ e))
  have e1 := linkT_lose wl hxl
  have hll : ∀ b ∈ ll.ad, linkT σ w l b = σ b := fun b hb => linkT_frame (fun e => wll (e ▸ hb)) (fun e => lll (e ▸ hb)) (fun e => dis b (hd_mem (hw ▸ e)) b hb rfl)
  refine ⟨by rw [e1]; exact hl, by rw [e1]; exact hw, by rw [e1], by rw [e1], Rep.congr hll hRl, ?_⟩
  cases e : (σ w).left with
  | none =>
    cases lw with
    | nil => trivial
    | node a x y => rw [hw] at e; cases e
  | some x =>
    have hx : lw.hd = some x := by rw [← hw]; exact e
    have hxm := hd_mem hx
    have r1 := Rep.setPrev (v := some l) hx ndw hRw
    refine Rep.congr (fun b hb => ?_) r1
    have b1 : b ≠ w := fun e => wlw (e ▸ hb)
    have b2 : b ≠ l := fun e => llw (e ▸ hb)
    have x2 : x ≠ l := fun e => llw (e ▸ hxm)
    rw [linkT_some e, setF_ne b2, setF_ne b1, setF_ne b2]
    by_cases hbx : b = x
    · subst hbx; rw [setF_eq, setF_eq, setF_ne b2]
    · rw [setF_ne hbx, setF_ne hbx, setF_ne b2]
end Mine
namespace Mine
def cut1 (σ : Addr → Nd) (x : Addr) : Addr → Nd :=
  match (σ x).prev with
  | some q => setF σ q .next (σ x).next
  | none => match (σ x).parent with
    | some p => setF σ p .left (σ x).next
    | none => σ
/-- a node cut off -/
def cutT (σ : Addr → Nd) (x : Addr) : Addr → Nd :=
  match (σ x).next with
  | some n => setF (setF (setF (setF (cut1 σ x) x .prev none) n .prev (σ x).prev) x .next none) x .parent none
  | none => setF (setF (cut1 σ x) x .prev none) x .parent none
theorem cut1_q {σ : Addr → Nd} {x q : Addr} {v : Option Addr} (h : (σ x).get .prev = some q) (hn : (σ x).get .next = v) : cut1 σ x = setF σ q .next v := by
  unfold cut1; rw [show (σ x).prev = some q from h, show (σ x).next = v from hn]
theorem cut1_p {σ : Addr → Nd} {x p : Addr} {v : Option Addr} (h : (σ x).get .prev = none) (hp : (σ x).get .parent = some p) (hn : (σ x).get .next = v) : cut1 σ x = setF σ p .left v := by
  unfold cut1; rw [show (σ x).prev = none from h, show (σ x).parent = some p from hp, show (σ x).next = v from hn]
theorem cutT_n {σ τ : Addr → Nd} {x n : Addr} {v : Option Addr} (hn : (σ x).get .next = some n) (hv : (σ x).get .prev = v) (h : cut1 σ x = τ) : cutT σ x = setF (setF (setF (setF τ x .prev none) n .prev v) x .next none) x .parent none := by
  unfold cutT; rw [show (σ x).next = some n from hn, h, show (σ x).prev = v from hv]
theorem cutT_0 {σ τ : Addr → Nd} {x : Addr} (hn : (σ x).get .next = none) (h : cut1 σ x = τ) : cutT σ x = setF (setF τ x .prev none) x .parent none := by
  unfold cutT; rw [show (σ x).next = none from hn, h]
end Mine
namespace Mine
theorem WL.dom {σ : Addr → Nd} {r o w l : Addr} {D : Addr → Prop} (h : WL σ r o w l) (hr : D r) (ho : D o) : D w ∧ D l := by
  rcases h with ⟨_, rfl, rfl⟩ | ⟨_, rfl, rfl⟩
  · exact ⟨ho, hr⟩
  · exact ⟨hr, ho⟩
end Mine
end
section
open PySem
namespace Mine
/-- the children yet to be merged: only left and next count -/
def Chain (σ : Addr → Nd) : BT → Prop
  | .nil => True
  | .node a l n => (σ a).left = l.hd ∧ (σ a).next = n.hd ∧ Rep σ (some a) none l ∧ Chain σ n
theorem Rep.chain {σ : Addr → Nd} : ∀ {t : BT} {par pv : Option Addr}, Rep σ par pv t → Chain σ t
  | .nil, _, _, _ => trivial
  | .node _ _ _, _, _, ⟨h1, h2, _, _, h5, h6⟩ => ⟨h1, h2, h5, h6.chain⟩
theorem Chain.congr {σ σ' : Addr → Nd} : ∀ {t : BT}, (∀ b ∈ t.ad, σ' b = σ b) → Chain σ t → Chain σ' t
  | .nil, _, _ => trivial
  | .node a l n, h, ⟨h1, h2, h5, h6⟩ => by
    have ha := h a (by simp [BT.ad])
    exact ⟨by rw [ha]; exact h1, by rw [ha]; exact h2, Rep.congr (fun b hb => h b (by simp [BT.ad, hb])) h5, Chain.congr (fun b hb => h b (by simp [BT.ad, hb])) h6⟩

/-- a stack of trees, led back by prev -/
def hdS : List (Addr × BT) → Option Addr
  | [] => none
  | p :: _ => some p.1
def adS : List (Addr × BT) → List Addr
  | [] => []
  | p :: r => p.1 :: (p.2.ad ++ adS r)
def Stk (σ : Addr → Nd) : List (Addr × BT) → Prop
  | [] => True
  | p :: r => (σ p.1).left = p.2.hd ∧ Rep σ (some p.1) none p.2 ∧ (σ p.1).prev = hdS r ∧ Stk σ r
theorem Stk.congr {σ σ' : Addr → Nd} : ∀ {S : List (Addr × BT)}, (∀ b ∈ adS S, σ' b = σ b) → Stk σ S → Stk σ' S
  | [], _, _ => trivial
  | (a, l) :: r, h, ⟨h1, h2, h3, h4⟩ => by
    have ha := h a (by simp [adS])
    exact ⟨by rw [ha]; exact h1, Rep.congr (fun b hb => h b (by simp [adS, hb])) h2, by rw [ha]; exact h3, Stk.congr (fun b hb => h b (by simp [adS, hb])) h4⟩
def HOS (val : Addr → Int) : List (Addr × BT) → Prop
  | [] => True
  | p :: r => HO val (val p.1) p.2 ∧ HOS val r
def HOF (val : Addr → Int) : BT → Prop
  | .nil => True
  | .node a l n => HO val (val a) l ∧ HOF val n
theorem HO.hof {val : Addr → Int} : ∀ {t : BT} {pv : Int}, HO val pv t → HOF val t
  | .nil, _, _ => trivial
  | .node _ _ _, _, ⟨_, h2, h3⟩ => ⟨h2, h3.hof⟩
theorem HO.mono {val : Addr → Int} : ∀ {t : BT} {pv pv' : Int}, pv' ≤ pv → HO val pv t → HO val pv' t
  | .nil, _, _, _, _ => trivial
  | .node _ _ _, _, _, h, ⟨h1, h2, h3⟩ => ⟨Int.le_trans h h1, h2, h3.mono h⟩
theorem HO.all {val : Addr → Int} : ∀ {t : BT} {pv : Int}, HO val pv t → ∀ b ∈ t.ad, pv ≤ val b
  | .nil, _, _, b, hb => by simp [BT.ad] at hb
  | .node a l n, pv, ⟨h1, h2, h3⟩, b, hb => by
    simp only [BT.ad, List.mem_cons, List.mem_append] at hb
    rcases hb with rfl | hb | hb
    · exact h1
    · exact Int.le_trans h1 (h2.all b hb)
    · exact h3.all b hb

/-- the trees in hand, ahead of the second loop's end -/
structure MG (σ₀ σ : Addr → Nd) (A₀ : List Addr) (F : BT) (S : List (Addr × BT)) : Prop where
  ch : Chain σ F
  st : Stk σ S
  perm : (F.ad ++ adS S).Perm A₀
  kv : KV σ₀ σ
  fr : ∀ b, b ∉ A₀ → σ b = σ₀ b
  ho1 : HOF (fun b => (σ₀ b).value) F
  ho2 : HOS (fun b => (σ₀ b).value) S
/-- the second loop: a tree in hand, whose prev does not count, and the stack -/
structure MH (σ₀ σ : Addr → Nd) (A₀ : List Addr) (a : Addr) (l : BT) (S : List (Addr × BT)) : Prop where
  lf : (σ a).left = l.hd
  rp : Rep σ (some a) none l
  st : Stk σ S
  perm : (a :: (l.ad ++ adS S)).Perm A₀
  kv : KV σ₀ σ
  fr : ∀ b, b ∉ A₀ → σ b = σ₀ b
  ho1 : HO (fun b => (σ₀ b).value) (σ₀ a).value l
  ho2 : HOS (fun b => (σ₀ b).value) S

section
variable {σ₀ σ : Addr → Nd} {A₀ : List Addr}
theorem MG.start {F : BT} {par : Option Addr} {pv : Int} (hr : Rep σ par none F) (ho : HO (fun b => (σ b).value) pv F) : MG σ σ F.ad F [] :=
  ⟨hr.chain, trivial, by simp [adS], KV.refl, fun _ _ => rfl, ho.hof, trivial⟩

/-- one linked: w over lo -/
theorem MG.odd {c : Addr} {l : BT} {S : List (Addr × BT)} (nd : A₀.Nodup) (g : MG σ₀ σ A₀ (.node c l .nil) S) : MG σ₀ (setF σ c .prev (hdS S)) A₀ .nil ((c, l) :: S) := by
  obtain ⟨⟨h1, h2, h3, _⟩, st, perm, kv, fr, ⟨o1, _⟩, o2⟩ := g
  have nd' := perm.symm.nodup nd
  have hc : c ∈ A₀ := perm.subset (by simp [BT.ad])
  simp only [BT.ad, List.append_nil, List.cons_append, List.nodup_cons, List.mem_append, not_or, List.nodup_append] at nd'
  refine ⟨trivial, ⟨by rw [setF_eq]; exact h1, Rep.congr (fun b hb => setF_ne ?_) h3, by rw [setF_eq]; rfl, Stk.congr (fun b hb => setF_ne ?_) st⟩, ?_, kv.trans KV.setF, fun b hb => ?_, trivial, ⟨o1, o2⟩⟩
  · rintro rfl; exact nd'.1.1 hb
  · rintro rfl; exact nd'.1.2 hb
  · simpa [BT.ad, adS] using perm
  · rw [setF_ne (by rintro rfl; exact hb hc)]; exact fr b hb

theorem link_perm (c d : Addr) (X Y Z W : List Addr) : (d :: c :: (X ++ Y) ++ (Z ++ W)).Perm (c :: (Y ++ (d :: (X ++ (Z ++ W))))) := by
  have h1 : (d :: c :: (X ++ Y) ++ (Z ++ W)).Perm (c :: d :: (X ++ Y) ++ (Z ++ W)) := by
    simpa using List.Perm.swap c d (X ++ Y ++ (Z ++ W))
  refine h1.trans ?_
  simp only [List.cons_append, List.append_assoc]
  refine List.Perm.cons _ ?_
  have h2 : (d :: (X ++ (Y ++ (Z ++ W)))).Perm (d :: (Y ++ (X ++ (Z ++ W)))) := by
    refine List.Perm.cons _ ?_
    have := (List.perm_append_comm (l₁ := X) (l₂ := Y)).append_right (Z ++ W)
    simpa only [List.append_assoc] using this
  exact h2.trans (List.perm_middle.symm)

theorem MG.pair {c d w lo : Addr} {l l₂ n : BT} {S : List (Addr × BT)} (nd : A₀.Nodup) (g : MG σ₀ σ A₀ (.node c l (.node d l₂ n)) S) (hw : WL σ c d w lo) :
    ∃ l', MG σ₀ (setF (linkT σ w lo) w .prev (hdS S)) A₀ n ((w, l') :: S) := by
  obtain ⟨⟨h1, h2, h3, h4, h5, h6, h7⟩, st, perm, kv, fr, ⟨o1, o3, o4⟩, o2⟩ := g
  have nd' := perm.symm.nodup nd
  have vw : (σ₀ w).value ≤ (σ₀ lo).value := by have := hw.le; rw [(kv w).2, (kv lo).2] at this; exact this
  have main : ∀ (w lo : Addr) (lw ll : BT), (σ w).left = lw.hd → Rep σ (some w) none lw → (σ lo).left = ll.hd → Rep σ (some lo) none ll → (w :: (lw.ad ++ (lo :: (ll.ad ++ (n.ad ++ adS S))))).Perm A₀ →
      HO (fun b => (σ₀ b).value) (σ₀ w).value lw → HO (fun b => (σ₀ b).value) (σ₀ lo).value ll → (σ₀ w).value ≤ (σ₀ lo).value →
      MG σ₀ (setF (linkT σ w lo) w .prev (hdS S)) A₀ n ((w, .node lo ll lw) :: S) := by
    intro w lo lw ll a1 a2 a3 a4 pm q1 q2 q3
    have np := pm.symm.nodup nd
    have np2 := np
    simp only [List.nodup_cons, List.mem_append, List.mem_cons, not_or, List.nodup_append] at np
    obtain ⟨⟨w1, w2, w3, w4, w5⟩, n1, ⟨⟨l1, l2, l3⟩, n2, ⟨n3, n4, d1⟩, d2⟩, d3⟩ := np
    have hnd : (w :: lo :: (lw.ad ++ ll.ad)).Nodup := by
      have e1 : lo ∉ lw.ad := fun h => d3 lo h lo (.inl rfl) rfl
      have e2 : ∀ x ∈ lw.ad, ∀ y ∈ ll.ad, x ≠ y := fun x hx y hy => d3 x hx y (.inr (.inl hy))
      simp only [List.nodup_cons, List.mem_cons, List.mem_append, not_or, List.nodup_append]
      exact ⟨⟨w2, w1, w3⟩, ⟨e1, l1⟩, n1, n2, e2⟩
    have rr := link_rep a1 a2 a3 a4 hnd
    have ww := linkT_win (σ := σ) (w := w) (l := lo) w2 (fun e => w1 (hd_mem (a1 ▸ e)))
    have off : ∀ b, b ≠ w → b ≠ lo → b ∉ lw.ad → linkT σ w lo b = σ b := fun b x y z => linkT_frame x y (fun e => z (hd_mem (a1 ▸ e)))
    have offn : ∀ b ∈ n.ad, linkT σ w lo b = σ b := fun b hb => off b (fun e => w4 (e ▸ hb)) (fun e => l2 (e ▸ hb)) (fun e => d3 b e b (.inr (.inr (.inl hb))) rfl)
    have offS : ∀ b ∈ adS S, linkT σ w lo b = σ b := fun b hb => off b (fun e => w5 (e ▸ hb)) (fun e => l3 (e ▸ hb)) (fun e => d3 b e b (.inr (.inr (.inr hb))) rfl)
    refine ⟨Chain.congr (fun b hb => ?_) h7, ⟨by rw [setF_eq]; show (linkT σ w lo w).left = _; rw [ww]; rfl, Rep.congr (fun b hb => setF_ne ?_) rr, by rw [setF_eq]; rfl, Stk.congr (fun b hb => ?_) st⟩, ?_, (kv.trans KV.linkT).trans KV.setF, fun b hb => ?_, o4, ⟨⟨q3, q2, q1⟩, o2⟩⟩
    · rw [setF_ne (show b ≠ w from fun e => w4 (e ▸ hb)), offn b hb]
    · intro e
      simp only [BT.ad, List.mem_cons, List.mem_append, e] at hb
      rcases hb with hb | hb | hb
      · exact w2 hb
      · exact w3 hb
      · exact w1 hb
    · rw [setF_ne (show b ≠ w from fun e => w5 (e ▸ hb)), offS b hb]
    · refine List.Perm.trans ?_ pm
      simp only [adS, BT.ad]
      refine List.perm_append_comm.trans ?_
      simp only [List.cons_append, List.append_assoc]
      refine List.Perm.cons _ ?_
      have e1 : (lo :: (ll.ad ++ (lw.ad ++ (adS S ++ n.ad)))).Perm (lo :: (lw.ad ++ (ll.ad ++ (n.ad ++ adS S)))) := by
        refine List.Perm.cons _ ?_
        rw [← List.append_assoc, ← List.append_assoc lw.ad]
        exact (List.perm_append_comm.append_right _).trans (List.Perm.append_left _ List.perm_append_comm)
      exact e1.trans (List.perm_middle.symm)
    · have hw' : w ∈ A₀ := pm.subset (by simp)
      have hlo : lo ∈ A₀ := pm.subset (by simp)
      have hlw : ∀ x ∈ lw.ad, x ∈ A₀ := fun x hx => pm.subset (by simp [hx])
      rw [setF_ne (by rintro rfl; exact hb hw'), off b (by rintro rfl; exact hb hw') (by rintro rfl; exact hb hlo) (fun h => hb (hlw b h))]; exact fr b hb
  have perm' : (c :: (l.ad ++ (d :: (l₂.ad ++ (n.ad ++ adS S))))).Perm A₀ := by
    simpa [BT.ad, List.append_assoc] using perm
  rcases hw with ⟨_, rfl, rfl⟩ | ⟨_, rfl, rfl⟩
  · refine ⟨_, main w lo l₂ l h4 h6 h1 h3 ?_ o3 o1 vw⟩
    refine List.Perm.trans ?_ perm'
    exact (link_perm lo w l₂.ad l.ad n.ad (adS S)) |> fun h => by
      refine List.Perm.trans ?_ h
      simp only [List.cons_append, List.append_assoc]
      refine List.Perm.cons _ ?_
      exact List.perm_middle
  · exact ⟨_, main w lo l l₂ h1 h3 h4 h6 perm' o1 o3 vw⟩

theorem MG.turn {a : Addr} {l : BT} {S : List (Addr × BT)} (g : MG σ₀ σ A₀ .nil ((a, l) :: S)) : MH σ₀ σ A₀ a l S ∧ (σ a).prev = hdS S := by
  obtain ⟨_, ⟨h1, h2, h3, h4⟩, perm, kv, fr, _, ⟨o1, o2⟩⟩ := g
  exact ⟨⟨h1, h2, h4, by simpa [BT.ad, adS] using perm, kv, fr, o1, o2⟩, h3⟩

theorem MH.step {a b w lo : Addr} {l l₂ : BT} {S : List (Addr × BT)} (nd : A₀.Nodup) (g : MH σ₀ σ A₀ a l ((b, l₂) :: S)) (hw : WL σ b a w lo) : ∃ l', MH σ₀ (linkT σ w lo) A₀ w l' S := by
  obtain ⟨h1, h2, ⟨h4, h6, h7, st⟩, perm, kv, fr, o1, o3, o2⟩ := g
  have vw : (σ₀ w).value ≤ (σ₀ lo).value := by have := hw.le; rw [(kv w).2, (kv lo).2] at this; exact this
  have main : ∀ (w lo : Addr) (lw ll : BT), (σ w).left = lw.hd → Rep σ (some w) none lw → (σ lo).left = ll.hd → Rep σ (some lo) none ll → (w :: (lw.ad ++ (lo :: (ll.ad ++ adS S)))).Perm A₀ →
      HO (fun b => (σ₀ b).value) (σ₀ w).value lw → HO (fun b => (σ₀ b).value) (σ₀ lo).value ll → (σ₀ w).value ≤ (σ₀ lo).value →
      MH σ₀ (linkT σ w lo) A₀ w (.node lo ll lw) S := by
    intro w lo lw ll a1 a2 a3 a4 pm q1 q2 q3
    have np := pm.symm.nodup nd
    simp only [List.nodup_cons, List.mem_append, List.mem_cons, not_or, List.nodup_append] at np
    obtain ⟨⟨w1, w2, w3, w5⟩, n1, ⟨⟨l1, l3⟩, n2, n4, d2⟩, d3⟩ := np
    have hnd : (w :: lo :: (lw.ad ++ ll.ad)).Nodup := by
      have e1 : lo ∉ lw.ad := fun h => d3 lo h lo (.inl rfl) rfl
      have e2 : ∀ x ∈ lw.ad, ∀ y ∈ ll.ad, x ≠ y := fun x hx y hy => d3 x hx y (.inr (.inl hy))
      simp only [List.nodup_cons, List.mem_cons, List.mem_append, not_or, List.nodup_append]
      exact ⟨⟨w2, w1, w3⟩, ⟨e1, l1⟩, n1, n2, e2⟩
    have rr := link_rep a1 a2 a3 a4 hnd
    have ww := linkT_win (σ := σ) (w := w) (l := lo) w2 (fun e => w1 (hd_mem (a1 ▸ e)))
    have off : ∀ b, b ≠ w → b ≠ lo → b ∉ lw.ad → linkT σ w lo b = σ b := fun b x y z => linkT_frame x y (fun e => z (hd_mem (a1 ▸ e)))
    have offS : ∀ b ∈ adS S, linkT σ w lo b = σ b := fun b hb => off b (fun e => w5 (e ▸ hb)) (fun e => l3 (e ▸ hb)) (fun e => d3 b e b (.inr (.inr hb)) rfl)
    refine ⟨by rw [ww]; rfl, rr, Stk.congr offS st, ?_, kv.trans KV.linkT, fun b hb => ?_, ⟨q3, q2, q1⟩, o2⟩
    · refine List.Perm.trans ?_ pm
      simp only [BT.ad, List.cons_append, List.append_assoc]
      refine List.Perm.cons _ ?_
      have e1 : (lo :: (ll.ad ++ (lw.ad ++ adS S))).Perm (lo :: (lw.ad ++ (ll.ad ++ adS S))) := by
        refine List.Perm.cons _ ?_
        rw [← List.append_assoc, ← List.append_assoc lw.ad]
        exact List.perm_append_comm.append_right _
      exact e1.trans (List.perm_middle.symm)
    · have hw' : w ∈ A₀ := pm.subset (by simp)
      have hlo : lo ∈ A₀ := pm.subset (by simp)
      have hlw : ∀ x ∈ lw.ad, x ∈ A₀ := fun x hx => pm.subset (by simp [hx])
      rw [off b (by rintro rfl; exact hb hw') (by rintro rfl; exact hb hlo) (fun h => hb (hlw b h))]; exact fr b hb
  have perm' : (a :: (l.ad ++ (b :: (l₂.ad ++ adS S)))).Perm A₀ := by simpa [adS] using perm
  rcases hw with ⟨_, rfl, rfl⟩ | ⟨_, rfl, rfl⟩
  · exact ⟨_, main w lo l l₂ h1 h2 h4 h6 perm' o1 o3 vw⟩
  · refine ⟨_, main w lo l₂ l h4 h6 h1 h2 ?_ o3 o1 vw⟩
    refine List.Perm.trans ?_ perm'
    have := link_perm lo w l₂.ad l.ad [] (adS S)
    simp only [List.nil_append, List.cons_append, List.append_assoc] at this
    refine List.Perm.trans (List.Perm.cons _ ?_) this
    exact List.perm_middle

theorem MH.fin {a : Addr} {l : BT} (nd : A₀.Nodup) (g : MH σ₀ σ A₀ a l []) : let σ' := setF (setF (setF σ a .prev none) a .next none) a .parent none
    Rep σ' none none (.node a l .nil) ∧ (a :: l.ad).Perm A₀ ∧ KV σ₀ σ' ∧ (∀ b, b ∉ A₀ → σ' b = σ₀ b) ∧ HO (fun b => (σ₀ b).value) (σ₀ a).value l := by
  obtain ⟨h1, h2, _, perm, kv, fr, o1, _⟩ := g
  simp only [adS, List.append_nil] at perm
  have np := perm.symm.nodup nd
  simp only [List.nodup_cons] at np
  have ha : a ∈ A₀ := perm.subset (by simp)
  refine ⟨⟨?_, ?_, ?_, ?_, Rep.congr (fun b hb => ?_) h2, trivial⟩, perm, ((kv.trans KV.setF).trans KV.setF).trans KV.setF, fun b hb => ?_, o1⟩
  · simp only [setF_eq, Nd.put]; exact h1
  · simp only [setF_eq, Nd.put]; rfl
  · simp only [setF_eq, Nd.put]
  · simp only [setF_eq, Nd.put]
  · have : b ≠ a := fun e => np.1 (e ▸ hb)
    rw [setF_ne this, setF_ne this, setF_ne this]
  · have : b ≠ a := fun e => hb (e ▸ ha)
    rw [setF_ne this, setF_ne this, setF_ne this]; exact fr b hb
end
end Mine

namespace Mine
section
variable {σ₀ σ : Addr → Nd} {A₀ : List Addr}
theorem MG.memF {F : BT} {S : List (Addr × BT)} (g : MG σ₀ σ A₀ F S) : ∀ b ∈ F.ad, b ∈ A₀ := fun b hb => g.perm.subset (List.mem_append_left _ hb)
theorem hdS_mem {S : List (Addr × BT)} {y : Addr} (h : hdS S = some y) : y ∈ adS S := by
  cases S with
  | nil => cases h
  | cons p r => cases h; simp [adS]
theorem MG.memS {F : BT} {S : List (Addr × BT)} (g : MG σ₀ σ A₀ F S) {y : Addr} (h : hdS S = some y) : y ∈ A₀ := g.perm.subset (List.mem_append_right _ (hdS_mem h))
theorem MH.memS {a : Addr} {l : BT} {S : List (Addr × BT)} (g : MH σ₀ σ A₀ a l S) {y : Addr} (h : hdS S = some y) : y ∈ A₀ := g.perm.subset (by
  have := hdS_mem h
  simp [this])
theorem MH.mem {a : Addr} {l : BT} {S : List (Addr × BT)} (g : MH σ₀ σ A₀ a l S) : a ∈ A₀ := g.perm.subset (by simp)
def BT.len : BT → Nat
  | .nil => 0
  | .node _ _ n => n.len + 1
theorem hd_none {t : BT} (h : t.hd = none) : t = .nil := by cases t with | nil => rfl | node a l n => cases h
theorem hd_some {t : BT} {a : Addr} (h : t.hd = some a) : ∃ l n, t = .node a l n := by cases t with | nil => cases h | node b l n => cases h; exact ⟨l, n, rfl⟩
end
end Mine
namespace Mine
/-- what merging gives -/
structure MergeOut (σ : Addr → Nd) (root : Addr) (F0 : BT) (pv : Int) (σ' : Addr → Nd) (t : BT) : Prop where
  rep : Rep σ' none none t
  perm : t.ad.Perm F0.ad
  kv : KV σ σ'
  fr : ∀ b, b ∉ F0.ad → b ≠ root → σ' b = σ b
  rt : σ' root = (σ root).put .left none
  ho : HO (fun b => (σ b).value) pv t
  sh : t = .nil ∨ ∃ a l, t = .node a l .nil
theorem MergeOut.nil {σ : Addr → Nd} {root : Addr} {pv : Int} : MergeOut σ root .nil pv (setF σ root .left none) .nil :=
  ⟨trivial, List.Perm.refl _, KV.setF, fun b _ h => setF_ne h, setF_eq, trivial, .inl rfl⟩
theorem MergeOut.of {σ σ₁ : Addr → Nd} {root a : Addr} {F0 l : BT} {pv : Int} (nd : (root :: F0.ad).Nodup) (hO : HO (fun b => (σ b).value) pv F0) (g : MH (setF σ root .left none) σ₁ F0.ad a l []) :
    MergeOut σ root F0 pv (setF (setF (setF σ₁ a .prev none) a .next none) a .parent none) (.node a l .nil) := by
  have nd0 := (List.nodup_cons.mp nd).2
  obtain ⟨f1, f2, f3, f4, f5⟩ := MH.fin nd0 g
  have ev : (fun b => (setF σ root .left none b).value) = fun b => (σ b).value := funext fun b => (KV.setF (σ := σ) b).2
  have ha := g.mem
  refine ⟨f1, by simpa [BT.ad] using f2, KV.setF.trans f3, fun b hb hr => (f4 b hb).trans (setF_ne hr), ?_, ?_, .inr ⟨a, l, rfl⟩⟩
  · rw [f4 root (List.nodup_cons.mp nd).1, setF_eq]
  · rw [ev] at f5
    refine ⟨hO.all a ha, ?_, trivial⟩
    have : (setF σ root .left none a).value = (σ a).value := (KV.setF (σ := σ) a).2
    rw [this] at f5
    exact f5
end Mine
end
section
open PySem
namespace Mine
def rm (a : Addr) : BT → BT
  | .nil => .nil
  | .node b l n => if b = a then n else .node b (rm a l) (rm a n)
def sb (a : Addr) : BT → BT
  | .nil => .nil
  | .node b l n => if b = a then l else if a ∈ l.ad then sb a l else sb a n
def clr (a : Addr) : BT → BT
  | .nil => .nil
  | .node b l n => if b = a then .node b .nil n else .node b (clr a l) (clr a n)

theorem rm_not {a : Addr} : ∀ {t : BT}, a ∉ t.ad → rm a t = t
  | .nil, _ => rfl
  | .node b l n, h => by
    simp only [BT.ad, List.mem_cons, List.mem_append, not_or] at h
    simp only [rm, if_neg (Ne.symm h.1), rm_not h.2.1, rm_not h.2.2]
theorem clr_not {a : Addr} : ∀ {t : BT}, a ∉ t.ad → clr a t = t
  | .nil, _ => rfl
  | .node b l n, h => by
    simp only [BT.ad, List.mem_cons, List.mem_append, not_or] at h
    simp only [clr, if_neg (Ne.symm h.1), clr_not h.2.1, clr_not h.2.2]
theorem rm_hd {a : Addr} {t : BT} (h : t.hd ≠ some a) : (rm a t).hd = t.hd := by
  cases t with
  | nil => rfl
  | node b l n =>
    have : b ≠ a := fun e => h (by rw [e]; rfl)
    simp [rm, this, BT.hd]
theorem clr_hd {a : Addr} {t : BT} : (clr a t).hd = t.hd := by
  cases t with
  | nil => rfl
  | node b l n => by_cases e : b = a <;> simp [clr, e, BT.hd]

theorem nd_node {b : Addr} {l n : BT} (h : (BT.node b l n).ad.Nodup) : b ∉ l.ad ∧ b ∉ n.ad ∧ l.ad.Nodup ∧ n.ad.Nodup ∧ ∀ x ∈ l.ad, x ∉ n.ad := by
  simp only [BT.ad, List.nodup_cons, List.mem_append, not_or, List.nodup_append] at h
  exact ⟨h.1.1, h.1.2, h.2.1, h.2.2.1, fun x hx hn => h.2.2.2 x hx x hn rfl⟩

theorem rm_perm {a : Addr} : ∀ {t : BT}, a ∈ t.ad → t.ad.Nodup → (a :: ((sb a t).ad ++ (rm a t).ad)).Perm t.ad
  | .nil, h, _ => by simp [BT.ad] at h
  | .node b l n, h, nd => by
    obtain ⟨h1, h2, h3, h4, h5⟩ := nd_node nd
    by_cases e : b = a
    · subst e; simp [sb, rm, BT.ad]
    · have e' : a ≠ b := Ne.symm e
      simp only [BT.ad, List.mem_cons, List.mem_append, e', false_or] at h
      rcases h with h | h
      · have hn := h5 a h
        have ih := rm_perm h h3
        simp only [sb, rm, if_neg e, if_pos h, rm_not hn, BT.ad]
        rw [List.perm_iff_count] at ih ⊢
        intro x
        have := ih x
        simp only [List.count_cons, List.count_append] at this ⊢
        omega
      · have hl : a ∉ l.ad := fun q => h5 a q h
        have ih := rm_perm h h4
        simp only [sb, rm, if_neg e, if_neg hl, rm_not hl, BT.ad]
        rw [List.perm_iff_count] at ih ⊢
        intro x
        have := ih x
        simp only [List.count_cons, List.count_append] at this ⊢
        omega
theorem clr_perm {a : Addr} : ∀ {t : BT}, a ∈ t.ad → t.ad.Nodup → ((sb a t).ad ++ (clr a t).ad).Perm t.ad
  | .nil, h, _ => by simp [BT.ad] at h
  | .node b l n, h, nd => by
    obtain ⟨h1, h2, h3, h4, h5⟩ := nd_node nd
    by_cases e : b = a
    · subst e
      simp only [sb, clr, if_true, BT.ad, List.nil_append]
      exact List.perm_middle
    · have e' : a ≠ b := Ne.symm e
      simp only [BT.ad, List.mem_cons, List.mem_append, e', false_or] at h
      rcases h with h | h
      · have hn := h5 a h
        have ih := clr_perm h h3
        simp only [sb, clr, if_neg e, if_pos h, clr_not hn, BT.ad]
        rw [List.perm_iff_count] at ih ⊢
        intro x
        have := ih x
        simp only [List.count_cons, List.count_append] at this ⊢
        omega
      · have hl : a ∉ l.ad := fun q => h5 a q h
        have ih := clr_perm h h4
        simp only [sb, clr, if_neg e, if_neg hl, clr_not hl, BT.ad]
        rw [List.perm_iff_count] at ih ⊢
        intro x
        have := ih x
        simp only [List.count_cons, List.count_append] at this ⊢
        omega

theorem Rep.sb {σ : Addr → Nd} {a : Addr} : ∀ {t : BT} {par pv : Option Addr}, Rep σ par pv t → a ∈ t.ad → (σ a).left = (Mine.sb a t).hd ∧ Rep σ (some a) none (Mine.sb a t)
  | .nil, _, _, _, h => by simp [BT.ad] at h
  | .node b l n, par, pv, ⟨r1, r2, r3, r4, r5, r6⟩, h => by
    by_cases e : b = a
    · subst e; simp only [Mine.sb, if_true]; exact ⟨r1, r5⟩
    · have e' : a ≠ b := Ne.symm e
      simp only [BT.ad, List.mem_cons, List.mem_append, e', false_or] at h
      by_cases hl : a ∈ l.ad
      · simp only [Mine.sb, if_neg e, if_pos hl]; exact Rep.sb r5 hl
      · simp only [Mine.sb, if_neg e, if_neg hl]; exact Rep.sb r6 (h.resolve_left hl)

/-- where the neighbours of a node lie -/
structure Nbr (σ : Addr → Nd) (a : Addr) (A S : List Addr) : Prop where
  pv : ∀ x, (σ a).prev = some x → x ∈ A ∧ x ≠ a ∧ x ∉ S
  nx : ∀ x, (σ a).next = some x → x ∈ A ∧ x ≠ a ∧ x ∉ S
  pa : (σ a).prev = none → ∃ x, (σ a).parent = some x ∧ x ∈ A ∧ x ≠ a ∧ x ∉ S
theorem Nbr.mono {σ : Addr → Nd} {a : Addr} {A A' S : List Addr} (h : Nbr σ a A S) (hs : ∀ x ∈ A, x ∈ A') : Nbr σ a A' S :=
  ⟨fun x e => ⟨hs x (h.pv x e).1, (h.pv x e).2⟩, fun x e => ⟨hs x (h.nx x e).1, (h.nx x e).2⟩, fun e => by obtain ⟨x, e1, e2, e3⟩ := h.pa e; exact ⟨x, e1, hs x e2, e3⟩⟩
theorem nbr {σ : Addr → Nd} {a : Addr} : ∀ {t : BT} {par pv : Option Addr}, Rep σ par pv t → t.ad.Nodup → a ∈ t.ad → t.hd ≠ some a → Nbr σ a t.ad (sb a t).ad
  | .nil, _, _, _, _, h, _ => by simp [BT.ad] at h
  | .node b l n, par, pv, ⟨r1, r2, r3, r4, r5, r6⟩, nd, h, hh => by
    obtain ⟨h1, h2, h3, h4, h5⟩ := nd_node nd
    have e : b ≠ a := fun e => hh (by rw [e]; rfl)
    have e' : a ≠ b := Ne.symm e
    simp only [BT.ad, List.mem_cons, List.mem_append, e', false_or] at h
    rcases h with h | h
    · by_cases q : l.hd = some a
      · obtain ⟨l1, n1, rfl⟩ := hd_some q
        obtain ⟨s1, s2, s3, s4, s5, s6⟩ := r5
        obtain ⟨g1, g2, g3, g4, g5⟩ := nd_node h3
        simp only [sb, if_neg e, if_pos h, if_true]
        refine ⟨fun x z => (by rw [s4] at z; cases z), fun x z => ?_, fun _ => ⟨b, s3, by simp [BT.ad], e, ?_⟩⟩
        · have hx := hd_mem (s2 ▸ z)
          refine ⟨by simp [BT.ad, hx], fun w => g2 (w ▸ hx), fun w => g5 x w hx⟩
        · exact fun w => h1 (by simp [BT.ad, w])
      · simp only [sb, if_neg e, if_pos h]
        exact (nbr r5 h3 h q).mono (fun x hx => by simp [BT.ad, hx])
    · have hl : a ∉ l.ad := fun q => h5 a q h
      by_cases q : n.hd = some a
      · obtain ⟨l1, n1, rfl⟩ := hd_some q
        obtain ⟨s1, s2, s3, s4, s5, s6⟩ := r6
        obtain ⟨g1, g2, g3, g4, g5⟩ := nd_node h4
        simp only [sb, if_neg e, if_neg hl, if_true]
        refine ⟨fun x z => ?_, fun x z => ?_, fun z => (by rw [s4] at z; cases z)⟩
        · rw [s4] at z; cases z
          exact ⟨by simp [BT.ad], e, fun w => h2 (by simp [BT.ad, w])⟩
        · have hx := hd_mem (s2 ▸ z)
          refine ⟨by simp [BT.ad, hx], fun w => g2 (w ▸ hx), fun w => g5 x w hx⟩
      · simp only [sb, if_neg e, if_neg hl]
        exact (nbr r6 h4 h q).mono (fun x hx => by simp [BT.ad, hx])

theorem cut1_frame {σ : Addr → Nd} {a x : Addr} (hp : (σ a).prev ≠ some x) (hq : (σ a).prev = none → (σ a).parent ≠ some x) : cut1 σ a x = σ x := by
  cases e : (σ a).prev with
  | some q =>
    rw [cut1_q e rfl, setF_ne]
    rintro rfl; exact hp e
  | none =>
    cases e2 : (σ a).parent with
    | some p =>
      rw [cut1_p e e2 rfl, setF_ne]
      rintro rfl; exact hq e e2
    | none => unfold cut1; rw [e]; dsimp only; rw [e2]
theorem cutT_frame {σ : Addr → Nd} {a x : Addr} (ha : x ≠ a) (hn : (σ a).next ≠ some x) (hp : (σ a).prev ≠ some x) (hq : (σ a).prev = none → (σ a).parent ≠ some x) : cutT σ a x = σ x := by
  cases e : (σ a).next with
  | some n =>
    have : x ≠ n := by rintro rfl; exact hn e
    rw [cutT_n e rfl rfl, setF_ne ha, setF_ne ha, setF_ne this, setF_ne ha, cut1_frame hp hq]
  | none => rw [cutT_0 e rfl, setF_ne ha, setF_ne ha, cut1_frame hp hq]
theorem Nbr.frame {σ : Addr → Nd} {a x : Addr} {A S : List Addr} (h : Nbr σ a A S) (hx : x ∉ A) (ha : x ≠ a) : cutT σ a x = σ x :=
  cutT_frame ha (fun e => hx (h.nx x e).1) (fun e => hx (h.pv x e).1) (fun e z => by obtain ⟨y, e1, e2, _⟩ := h.pa e; rw [e1] at z; cases z; exact hx e2)
theorem Nbr.frameS {σ : Addr → Nd} {a x : Addr} {A S : List Addr} (h : Nbr σ a A S) (hx : x ∈ S) (ha : x ≠ a) : cutT σ a x = σ x :=
  cutT_frame ha (fun e => (h.nx x e).2.2 hx) (fun e => (h.pv x e).2.2 hx) (fun e z => by obtain ⟨y, e1, _, _, e2⟩ := h.pa e; rw [e1] at z; cases z; exact e2 hx)
theorem Nbr.self {σ : Addr → Nd} {a : Addr} {A S : List Addr} (h : Nbr σ a A S) : cutT σ a a = { σ a with next := none, prev := none, parent := none } := by
  have c : cut1 σ a a = σ a := cut1_frame (fun e => (h.pv a e).2.1 rfl) (fun e z => by obtain ⟨y, e1, _, e2, _⟩ := h.pa e; rw [e1] at z; cases z; exact e2 rfl)
  cases e : (σ a).next with
  | some n =>
    have : a ≠ n := by rintro rfl; exact (h.nx _ e).2.1 rfl
    rw [cutT_n e rfl rfl, setF_eq, setF_eq, setF_ne this, setF_eq, c]; rfl
  | none =>
    rw [cutT_0 e rfl, setF_eq, setF_eq, c]
    have : σ a = { σ a with next := none } := by rw [← e]
    rw [this]; rfl
theorem KV.cutT {σ : Addr → Nd} {a : Addr} : KV σ (cutT σ a) := by
  have c : KV σ (cut1 σ a) := by
    unfold cut1
    cases (σ a).prev with
    | some q => exact KV.setF
    | none => cases (σ a).parent with
      | some p => exact KV.setF
      | none => exact KV.refl
  cases e : (σ a).next with
  | some n => rw [cutT_n e rfl rfl]; exact (((c.trans KV.setF).trans KV.setF).trans KV.setF).trans KV.setF
  | none => rw [cutT_0 e rfl]; exact (c.trans KV.setF).trans KV.setF

/-- the first of the siblings behind the cut one, now at its place -/
theorem cut_tail {σ : Addr → Nd} {a : Addr} {par : Option Addr} {n1 : BT} (hr : Rep σ par (some a) n1) (nd : n1.ad.Nodup) (hx : (σ a).next = n1.hd) (ha : a ∉ n1.ad)
    (hp : ∀ x ∈ n1.ad, (σ a).prev ≠ some x) (hq : ∀ x ∈ n1.ad, (σ a).prev = none → (σ a).parent ≠ some x) : Rep (cutT σ a) par (σ a).prev n1 := by
  cases e : n1.hd with
  | none => rw [hd_none e]; trivial
  | some x =>
    refine Rep.congr (fun b hb => ?_) (Rep.setPrev (v := (σ a).prev) e nd hr)
    have hba : b ≠ a := fun z => ha (z ▸ hb)
    rw [cutT_n (hx.trans e) rfl rfl, setF_ne hba, setF_ne hba]
    by_cases q : b = x
    · subst q; rw [setF_eq, setF_eq, setF_ne hba, cut1_frame (hp b hb) (hq b hb)]; rfl
    · rw [setF_ne q, setF_ne q, setF_ne hba, cut1_frame (hp b hb) (hq b hb)]

theorem cut_rm {σ : Addr → Nd} {a : Addr} : ∀ {t : BT} {par pv : Option Addr}, Rep σ par pv t → t.ad.Nodup → a ∈ t.ad → t.hd ≠ some a → (∀ p, par = some p → p ∉ t.ad) → Rep (cutT σ a) par pv (rm a t)
  | .nil, _, _, _, _, h, _, _ => by simp [BT.ad] at h
  | .node b l n, par, pv, ⟨r1, r2, r3, r4, r5, r6⟩, nd, h, hh, hpar => by
    obtain ⟨h1, h2, h3, h4, h5⟩ := nd_node nd
    have e : b ≠ a := fun e => hh (by rw [e]; rfl)
    have e' : a ≠ b := Ne.symm e
    simp only [BT.ad, List.mem_cons, List.mem_append, e', false_or] at h
    rcases h with h | h
    · have hn := h5 a h
      simp only [rm, if_neg e, rm_not hn]
      by_cases q : l.hd = some a
      · obtain ⟨l1, n1, rfl⟩ := hd_some q
        obtain ⟨s1, s2, s3, s4, s5, s6⟩ := r5
        obtain ⟨g1, g2, g3, g4, g5⟩ := nd_node h3
        have hb : ∀ x ∈ n1.ad, x ≠ b := fun x hx z => h1 (by simp [BT.ad, z ▸ hx])
        have rn : rm a (.node a l1 n1) = n1 := by simp [rm]
        have hbn : (σ a).next ≠ some b := fun z => hb b (hd_mem (s2 ▸ z)) rfl
        have cb : cutT σ a b = (σ b).put .left n1.hd := by
          cases z : (σ a).next with
          | some x =>
            have : b ≠ x := by rintro rfl; exact hbn z
            rw [cutT_n z s4 (cut1_p s4 s3 s2), setF_ne e, setF_ne e, setF_ne this, setF_ne e, setF_eq]
          | none => rw [cutT_0 z (cut1_p s4 s3 s2), setF_ne e, setF_ne e, setF_eq]
        rw [rn]
        have ct := cut_tail s6 g4 s2 g2 (fun x _ z => by rw [s4] at z; cases z) (fun x hx _ z => by rw [s3] at z; cases z; exact hb _ hx rfl)
        rw [s4] at ct
        refine ⟨by rw [cb]; rfl, by rw [cb]; exact r2, by rw [cb]; exact r3, by rw [cb]; exact r4, ct, Rep.congr (fun x hx => cutT_frame ?_ ?_ ?_ ?_) r6⟩
        · rintro rfl; exact hn hx
        · intro z; exact h5 x (by simp [BT.ad, hd_mem (s2 ▸ z)]) hx
        · rw [s4]; intro z; cases z
        · rw [s3]; intro _ z; cases z; exact h2 hx
      · have nb := nbr r5 h3 h q
        have ih := cut_rm r5 h3 h q (fun p hp => by cases hp; exact h1)
        have cb : cutT σ a b = σ b := nb.frame h1 e
        refine ⟨by rw [cb, rm_hd q]; exact r1, by rw [cb]; exact r2, by rw [cb]; exact r3, by rw [cb]; exact r4, ih, Rep.congr (fun x hx => nb.frame (fun z => h5 x z hx) (fun z => hn (z ▸ hx))) r6⟩
    · have hl : a ∉ l.ad := fun q => h5 a q h
      simp only [rm, if_neg e, rm_not hl]
      by_cases q : n.hd = some a
      · obtain ⟨l1, n1, rfl⟩ := hd_some q
        obtain ⟨s1, s2, s3, s4, s5, s6⟩ := r6
        obtain ⟨g1, g2, g3, g4, g5⟩ := nd_node h4
        have hb : ∀ x ∈ n1.ad, x ≠ b := fun x hx z => h2 (by simp [BT.ad, z ▸ hx])
        have rn : rm a (.node a l1 n1) = n1 := by simp [rm]
        have hbn : (σ a).next ≠ some b := fun z => hb b (hd_mem (s2 ▸ z)) rfl
        have cb : cutT σ a b = (σ b).put .next n1.hd := by
          cases z : (σ a).next with
          | some x =>
            have : b ≠ x := by rintro rfl; exact hbn z
            rw [cutT_n z s4 (cut1_q s4 s2), setF_ne e, setF_ne e, setF_ne this, setF_ne e, setF_eq]
          | none => rw [cutT_0 z (cut1_q s4 s2), setF_ne e, setF_ne e, setF_eq]
        rw [rn]
        have ct := cut_tail s6 g4 s2 g2 (fun x hx z => by rw [s4] at z; cases z; exact hb _ hx rfl) (fun x hx z => by rw [s4] at z; cases z)
        rw [s4] at ct
        refine ⟨by rw [cb]; exact r1, by rw [cb]; rfl, by rw [cb]; exact r3, by rw [cb]; exact r4, Rep.congr (fun x hx => cutT_frame ?_ ?_ ?_ ?_) r5, ct⟩
        · rintro rfl; exact hl hx
        · intro z; exact h5 x hx (by simp [BT.ad, hd_mem (s2 ▸ z)])
        · rw [s4]; intro z; cases z; exact h1 hx
        · rw [s4]; intro z; cases z
      · have nb := nbr r6 h4 h q
        have ih := cut_rm r6 h4 h q (fun p hp z => hpar p hp (by simp [BT.ad, z]))
        have cb : cutT σ a b = σ b := nb.frame h2 e
        refine ⟨by rw [cb]; exact r1, by rw [cb, rm_hd q]; exact r2, by rw [cb]; exact r3, by rw [cb]; exact r4, Rep.congr (fun x hx => nb.frame (fun z => h5 x hx z) (fun z => hl (z ▸ hx))) r5, ih⟩

theorem HO.congr {val val' : Addr → Int} : ∀ {t : BT} {pv : Int}, (∀ b ∈ t.ad, val' b = val b) → HO val pv t → HO val' pv t
  | .nil, _, _, _ => trivial
  | .node b l n, pv, h, ⟨h1, h2, h3⟩ => by
    have hb := h b (by simp [BT.ad])
    refine ⟨by rw [hb]; exact h1, ?_, HO.congr (fun x hx => h x (by simp [BT.ad, hx])) h3⟩
    rw [hb]
    exact HO.congr (fun x hx => h x (by simp [BT.ad, hx])) h2
theorem HO.rm {val : Addr → Int} {a : Addr} : ∀ {t : BT} {pv : Int}, HO val pv t → HO val pv (Mine.rm a t)
  | .nil, _, _ => trivial
  | .node b l n, pv, ⟨h1, h2, h3⟩ => by
    by_cases e : b = a
    · simp only [Mine.rm, if_pos e]; exact h3
    · simp only [Mine.rm, if_neg e]; exact ⟨h1, h2.rm, h3.rm⟩
theorem HO.sb {val : Addr → Int} {a : Addr} : ∀ {t : BT} {pv : Int}, HO val pv t → a ∈ t.ad → HO val (val a) (Mine.sb a t)
  | .nil, _, _, h => by simp [BT.ad] at h
  | .node b l n, pv, ⟨h1, h2, h3⟩, h => by
    by_cases e : b = a
    · simp only [Mine.sb, if_pos e]; exact e ▸ h2
    · have e' : a ≠ b := Ne.symm e
      simp only [BT.ad, List.mem_cons, List.mem_append, e', false_or] at h
      by_cases hl : a ∈ l.ad
      · simp only [Mine.sb, if_neg e, if_pos hl]; exact h2.sb hl
      · simp only [Mine.sb, if_neg e, if_neg hl]; exact h3.sb (h.resolve_left hl)
theorem HO.clr {val val' : Addr → Int} {a : Addr} : ∀ {t : BT} {pv : Int}, HO val pv t → t.ad.Nodup → (∀ b ∈ t.ad, b ≠ a → val' b = val b) → val a ≤ val' a → HO val' pv (Mine.clr a t)
  | .nil, _, _, _, _, _ => trivial
  | .node b l n, pv, ⟨h1, h2, h3⟩, nd, hv, hle => by
    obtain ⟨n1, n2, n3, n4, n5⟩ := nd_node nd
    by_cases e : b = a
    · subst e
      simp only [Mine.clr, if_true]
      exact ⟨Int.le_trans h1 hle, trivial, HO.congr (fun x hx => hv x (by simp [BT.ad, hx]) (fun z => n2 (z ▸ hx))) h3⟩
    · simp only [Mine.clr, if_neg e]
      have hb := hv b (by simp [BT.ad]) e
      refine ⟨by rw [hb]; exact h1, ?_, h3.clr n4 (fun x hx => hv x (by simp [BT.ad, hx])) hle⟩
      rw [hb]
      exact h2.clr n3 (fun x hx => hv x (by simp [BT.ad, hx])) hle
/-- a value lowered, not below the parent's -/
theorem HO.dec {σ : Addr → Nd} {val val' : Addr → Int} {a : Addr} : ∀ {t : BT} {p : Addr} {pv : Option Addr}, Rep σ (some p) pv t → HO val (val p) t → (∀ b ∈ t.ad, b ≠ a → val' b = val b) → val' a ≤ val a → (∀ q, (σ a).parent = some q → val q ≤ val' a) → HO val' (val p) t
  | .nil, _, _, _, _, _, _, _ => trivial
  | .node b l n, p, pv, ⟨r1, r2, r3, r4, r5, r6⟩, ⟨h1, h2, h3⟩, hv, hle, hp => by
    have ih := HO.dec r6 h3 (fun x hx => hv x (by simp [BT.ad, hx])) hle hp
    have ih2 := HO.dec r5 h2 (fun x hx => hv x (by simp [BT.ad, hx])) hle hp
    by_cases e : b = a
    · subst e
      exact ⟨hp p r3, ih2.mono hle, ih⟩
    · have hb := hv b (by simp [BT.ad]) e
      exact ⟨by rw [hb]; exact h1, by rw [hb]; exact ih2, ih⟩
theorem Rep.clr {σ σ' : Addr → Nd} {a : Addr} : ∀ {t : BT} {par pv : Option Addr}, Rep σ par pv t → t.ad.Nodup → (∀ b ∈ t.ad, b ≠ a → b ∉ (Mine.sb a t).ad → σ' b = σ b) → (σ' a).left = none → (σ' a).next = (σ a).next → (σ' a).prev = (σ a).prev → (σ' a).parent = (σ a).parent → Rep σ' par pv (Mine.clr a t)
  | .nil, _, _, _, _, _, _, _, _, _ => trivial
  | .node b l n, par, pv, ⟨r1, r2, r3, r4, r5, r6⟩, nd, h, q1, q2, q3, q4 => by
    obtain ⟨n1, n2, n3, n4, n5⟩ := nd_node nd
    by_cases e : b = a
    · subst e
      simp only [Mine.clr, if_true]
      simp only [Mine.sb, if_true] at h
      exact ⟨q1, q2.trans r2, q4.trans r3, q3.trans r4, trivial, Rep.congr (fun x hx => h x (by simp [BT.ad, hx]) (fun z => n2 (z ▸ hx)) (fun z => n5 x z hx)) r6⟩
    · simp only [Mine.clr, if_neg e]
      simp only [Mine.sb, if_neg e] at h
      by_cases ha : a ∈ l.ad
      · rw [if_pos ha] at h
        have sub : ∀ x ∈ (Mine.sb a l).ad, x ∈ l.ad := fun x hx => (clr_perm ha n3).subset (List.mem_append_left _ hx)
        have hb := h b (by simp [BT.ad]) e (fun z => n1 (sub b z))
        have hn := n5 a ha
        refine ⟨by rw [hb, clr_hd]; exact r1, by rw [hb, clr_hd]; exact r2, by rw [hb]; exact r3, by rw [hb]; exact r4, r5.clr n3 (fun x hx => h x (by simp [BT.ad, hx])) q1 q2 q3 q4, ?_⟩
        rw [clr_not hn]
        exact Rep.congr (fun x hx => h x (by simp [BT.ad, hx]) (fun z => hn (z ▸ hx)) (fun z => n5 x (sub x z) hx)) r6
      · rw [if_neg ha] at h
        by_cases hn : a ∈ n.ad
        · have sub : ∀ x ∈ (Mine.sb a n).ad, x ∈ n.ad := fun x hx => (clr_perm hn n4).subset (List.mem_append_left _ hx)
          have hb := h b (by simp [BT.ad]) e (fun z => n2 (sub b z))
          refine ⟨by rw [hb, clr_hd]; exact r1, by rw [hb, clr_hd]; exact r2, by rw [hb]; exact r3, by rw [hb]; exact r4, ?_, r6.clr n4 (fun x hx => h x (by simp [BT.ad, hx])) q1 q2 q3 q4⟩
          rw [clr_not ha]
          exact Rep.congr (fun x hx => h x (by simp [BT.ad, hx]) (fun z => ha (z ▸ hx)) (fun z => n5 x hx (sub x z))) r5
        · have sn : ∀ {t : BT}, a ∉ t.ad → Mine.sb a t = .nil := by
            intro t
            induction t with
            | nil => intro _; rfl
            | node c l' n' il inn =>
              intro hc
              simp only [BT.ad, List.mem_cons, List.mem_append, not_or] at hc
              simp only [Mine.sb, if_neg (Ne.symm hc.1), if_neg hc.2.1]
              exact inn hc.2.2
          rw [sn hn] at h
          have hb := h b (by simp [BT.ad]) e (by simp [BT.ad])
          rw [clr_not ha, clr_not hn]
          exact ⟨by rw [hb]; exact r1, by rw [hb]; exact r2, by rw [hb]; exact r3, by rw [hb]; exact r4, Rep.congr (fun x hx => h x (by simp [BT.ad, hx]) (fun z => ha (z ▸ hx)) (by simp [BT.ad])) r5, Rep.congr (fun x hx => h x (by simp [BT.ad, hx]) (fun z => hn (z ▸ hx)) (by simp [BT.ad])) r6⟩

/-- a heap's tree -/
structure TI (σ : Addr → Nd) (t : BT) : Prop where
  rep : Rep σ none none t
  sh : t = .nil ∨ ∃ a l, t = .node a l .nil
  nd : t.ad.Nodup
  ho : ∃ pv, HO (fun b => (σ b).value) pv t
theorem TI.congr {σ σ' : Addr → Nd} {t : BT} (h : TI σ t) (e : ∀ b ∈ t.ad, σ' b = σ b) : TI σ' t := by
  obtain ⟨pv, ho⟩ := h.ho
  exact ⟨h.rep.congr e, h.sh, h.nd, pv, ho.congr fun b hb => by show (σ' b).value = (σ b).value; rw [e b hb]⟩
theorem TI.link {σ : Addr → Nd} {r c w l : Addr} {lr lc : BT} (h1 : TI σ (.node r lr .nil)) (h2 : TI σ (.node c lc .nil)) (nd : ((BT.node r lr .nil).ad ++ (BT.node c lc .nil).ad).Nodup) (hw : WL σ r c w l) :
    ∃ t', TI (linkT σ w l) t' ∧ t'.ad.Perm ((BT.node r lr .nil).ad ++ (BT.node c lc .nil).ad) ∧ t'.hd = some w := by
  obtain ⟨⟨a1, a2, a3, a4, a5, _⟩, _, _, p1, ⟨b1, b2, _⟩⟩ := h1
  obtain ⟨⟨c1, c2, c3, c4, c5, _⟩, _, _, p2, ⟨d1, d2, _⟩⟩ := h2
  have main : ∀ (w l : Addr) (lw ll : BT), (σ w).left = lw.hd → (σ w).next = none → (σ w).parent = none → (σ w).prev = none → Rep σ (some w) none lw → (σ l).left = ll.hd → Rep σ (some l) none ll →
      (w :: l :: (lw.ad ++ ll.ad)).Nodup → HO (fun b => (σ b).value) (σ w).value lw → HO (fun b => (σ b).value) (σ l).value ll → (σ w).value ≤ (σ l).value → TI (linkT σ w l) (.node w (.node l ll lw) .nil) := by
    intro w l lw ll e1 e2 e3 e4 e5 e6 e7 nd q1 q2 q3
    have rr := link_rep e1 e5 e6 e7 nd
    simp only [List.nodup_cons, List.mem_cons, List.mem_append, not_or, List.nodup_append] at nd
    obtain ⟨⟨n1, n2, n3⟩, ⟨n4, n5⟩, n6, n7, n8⟩ := nd
    have ww := linkT_win (σ := σ) (w := w) (l := l) n1 (fun e => n2 (hd_mem (e1 ▸ e)))
    have ev : (fun b => (linkT σ w l b).value) = fun b => (σ b).value := funext fun b => (KV.linkT (σ := σ) (w := w) (l := l) b).2
    refine ⟨⟨by rw [ww]; rfl, by rw [ww]; exact e2, by rw [ww]; exact e3, by rw [ww]; exact e4, rr, trivial⟩, .inr ⟨_, _, rfl⟩, ?_, (σ w).value, ?_⟩
    · simp only [BT.ad, List.append_nil, List.nodup_cons, List.mem_cons, List.mem_append, not_or, List.nodup_append]
      exact ⟨⟨n1, n3, n2⟩, ⟨n5, n4⟩, n7, n6, fun x hx y hy e => n8 y hy x hx e.symm⟩
    · rw [ev]; exact ⟨Int.le_refl _, ⟨q3, q2, q1⟩, trivial⟩
  simp only [BT.ad, List.append_nil] at nd ⊢
  rcases hw with ⟨hv, rfl, rfl⟩ | ⟨hv, rfl, rfl⟩
  · refine ⟨_, main w l lc lr c1 c2 c3 c4 c5 a1 a5 ?_ d2 b2 (by omega), ?_, rfl⟩
    · rw [← List.Perm.nodup_iff (l₁ := l :: lr.ad ++ (w :: lc.ad))]
      · exact nd
      · rw [List.perm_iff_count]; intro x; simp only [List.count_cons, List.count_append, List.cons_append]; omega
    · rw [List.perm_iff_count]; intro x; simp only [BT.ad, List.count_cons, List.count_append, List.cons_append, List.count_nil]; omega
  · refine ⟨_, main w l lr lc a1 a2 a3 a4 a5 c1 c5 ?_ b2 d2 (by omega), ?_, rfl⟩
    · rw [← List.Perm.nodup_iff (l₁ := w :: lr.ad ++ (l :: lc.ad))]
      · exact nd
      · rw [List.perm_iff_count]; intro x; simp only [List.count_cons, List.count_append, List.cons_append]; omega
    · rw [List.perm_iff_count]; intro x; simp only [BT.ad, List.count_cons, List.count_append, List.cons_append, List.count_nil]; omega

theorem TI.root {σ : Addr → Nd} {t : BT} {a : Addr} (h : TI σ t) (ha : a ∈ t.ad) : ∃ r l, t = .node r l .nil := by
  rcases h.sh with rfl | h
  · simp [BT.ad] at ha
  · exact h
/-- cut off: two trees -/
theorem TI.cut {σ : Addr → Nd} {t : BT} {a : Addr} (h : TI σ t) (ha : a ∈ t.ad) (hr : t.hd ≠ some a) :
    TI (cutT σ a) (rm a t) ∧ TI (cutT σ a) (.node a (sb a t) .nil) ∧ ((rm a t).ad ++ (BT.node a (sb a t) .nil).ad).Perm t.ad ∧ (rm a t).hd = t.hd ∧ (∀ b, b ∉ t.ad → cutT σ a b = σ b) := by
  obtain ⟨rep, sh, nd, pv, ho⟩ := h
  have nb := nbr rep nd ha hr
  have pm := rm_perm ha nd
  have nd2 := pm.symm.nodup nd
  have ev : (fun b => (cutT σ a b).value) = fun b => (σ b).value := funext fun b => (KV.cutT (σ := σ) (a := a) b).2
  obtain ⟨s1, s2⟩ := rep.sb ha
  have pm2 : ((rm a t).ad ++ (BT.node a (sb a t) .nil).ad).Perm t.ad := by
    refine List.Perm.trans ?_ pm
    simp only [BT.ad, List.append_nil]
    rw [List.perm_iff_count]; intro x; simp only [List.count_cons, List.count_append]; omega
  have nd3 := pm2.symm.nodup nd
  rw [List.nodup_append] at nd3
  refine ⟨⟨cut_rm rep nd ha hr (fun p e => by cases e), ?_, nd3.1, pv, by rw [ev]; exact ho.rm⟩, ⟨⟨?_, ?_, ?_, ?_, ?_, trivial⟩, .inr ⟨_, _, rfl⟩, nd3.2.1, (σ a).value, ?_⟩, pm2, rm_hd hr, fun b hb => nb.frame hb (fun z => hb (z ▸ ha))⟩
  · rcases sh with rfl | ⟨r, l, rfl⟩
    · exact .inl rfl
    · have : r ≠ a := fun e => hr (by rw [e]; rfl)
      simp only [rm, if_neg this]; exact .inr ⟨_, _, rfl⟩
  · rw [nb.self]; exact s1
  · rw [nb.self]; rfl
  · rw [nb.self]
  · rw [nb.self]
  · refine s2.congr fun b hb => nb.frameS hb (fun z => ?_)
    simp only [List.nodup_cons, List.mem_append, not_or] at nd2
    exact nd2.1.1 (z ▸ hb)
  · rw [ev]; exact ⟨Int.le_refl _, ho.sb ha, trivial⟩
end Mine
end
section
open PySem
namespace Mine
theorem valueAt_mem {kvs : List (Int × Value)} {k : Int} {v : Value} (h : valueAt kvs k = some v) : (k, v) ∈ kvs := by
  unfold valueAt at h
  obtain ⟨p, hp, rfl⟩ := Option.map_eq_some_iff.mp h
  have h1 := List.mem_of_find?_eq_some hp
  have h2 := List.find?_some hp
  have : p.1 = k := by simpa using h2
  rw [← this]; exact h1
theorem valueAt_none {kvs : List (Int × Value)} {k : Int} (h : valueAt kvs k = none) : ∀ v, (k, v) ∉ kvs := by
  intro v hv
  unfold valueAt at h
  have := Option.map_eq_none_iff.mp h
  have := List.find?_eq_none.mp this _ hv
  simp at this
theorem mem_valueAt {kvs : List (Int × Value)} {k : Int} {v : Value} (nd : (kvs.map (·.1)).Nodup) (h : (k, v) ∈ kvs) : valueAt kvs k = some v := by
  induction kvs with
  | nil => cases h
  | cons p r ih =>
    simp only [List.map_cons, List.nodup_cons] at nd
    rcases List.mem_cons.mp h with rfl | h
    · simp [valueAt]
    · have : p.1 ≠ k := by
        rintro rfl
        exact nd.1 (List.mem_map_of_mem (f := (·.1)) h)
      have := ih nd.2 h
      unfold valueAt at this ⊢
      rw [List.find?_cons_of_neg (by simpa using ‹p.1 ≠ k›)]
      exact this

/-- the heap's tree and its table -/
structure PI (D : Addr → Prop) (σ : Addr → Nd) (t : BT) (kvs : List (Int × Value)) : Prop where
  ti : TI σ t
  dom : ∀ a ∈ t.ad, D a
  ks : (t.ad.map fun a => (σ a).key).Nodup
  pm : kvs.Perm (t.ad.map fun a => ((σ a).key, Value.ref a))
theorem PI.kn {D : Addr → Prop} {σ : Addr → Nd} {t : BT} {kvs : List (Int × Value)} (h : PI D σ t kvs) : (kvs.map (·.1)).Nodup := by
  have := h.pm.map (·.1)
  refine this.symm.nodup ?_
  rw [List.map_map]
  exact h.ks
theorem PI.get {D : Addr → Prop} {σ : Addr → Nd} {t : BT} {kvs : List (Int × Value)} (h : PI D σ t kvs) {k : Int} {v : Value} (e : valueAt kvs k = some v) : ∃ a ∈ t.ad, (σ a).key = k ∧ v = .ref a := by
  have := h.pm.subset (valueAt_mem e)
  obtain ⟨a, ha, e⟩ := List.mem_map.mp this
  cases e
  exact ⟨a, ha, rfl, rfl⟩
theorem PI.get_none {D : Addr → Prop} {σ : Addr → Nd} {t : BT} {kvs : List (Int × Value)} (h : PI D σ t kvs) {k : Int} (e : valueAt kvs k = none) : ∀ a ∈ t.ad, (σ a).key ≠ k := by
  rintro a ha rfl
  exact valueAt_none e _ (h.pm.symm.subset (List.mem_map.mpr ⟨a, ha, rfl⟩))
theorem PI.at {D : Addr → Prop} {σ : Addr → Nd} {t : BT} {kvs : List (Int × Value)} (h : PI D σ t kvs) {a : Addr} (ha : a ∈ t.ad) : valueAt kvs (σ a).key = some (.ref a) :=
  mem_valueAt h.kn (h.pm.symm.subset (List.mem_map.mpr ⟨a, ha, rfl⟩))
theorem PI.len {D : Addr → Prop} {σ : Addr → Nd} {t : BT} {kvs : List (Int × Value)} (h : PI D σ t kvs) : kvs.length = t.ad.length := by
  rw [h.pm.length_eq, List.length_map]
/-- the table's part stands where the keys and the nodes do -/
theorem PI.turn {D D' : Addr → Prop} {σ σ' : Addr → Nd} {t t' : BT} {kvs : List (Int × Value)} (h : PI D σ t kvs) (ti : TI σ' t') (pm : t'.ad.Perm t.ad) (hk : ∀ a ∈ t.ad, (σ' a).key = (σ a).key) (hD : ∀ a ∈ t.ad, D' a) : PI D' σ' t' kvs := by
  have e1 : (t.ad.map fun a => (σ' a).key) = t.ad.map fun a => (σ a).key := List.map_congr_left hk
  have e2 : (t.ad.map fun a => ((σ' a).key, Value.ref a)) = t.ad.map fun a => ((σ a).key, Value.ref a) := List.map_congr_left fun a ha => by rw [hk a ha]
  refine ⟨ti, fun a ha => hD a (pm.subset ha), ?_, ?_⟩
  · exact (pm.map _).symm.nodup (e1 ▸ h.ks)
  · refine h.pm.trans ?_
    rw [← e2]
    exact (pm.map _).symm

/-- what a put gives -/
inductive InsOut (k v : Int) (al : Bool) (σ : Addr → Nd) (t : BT) (σ' : Addr → Nd) (t' : BT) : Bool → Prop
  | keep (a : Addr) : a ∈ t.ad → (σ a).key = k → (σ a).value ≤ v → (al = true → (σ a).value = v) → t'.ad.Perm t.ad → (∀ b ∈ t.ad, (σ' b).key = (σ b).key ∧ (σ' b).value = (σ b).value) → InsOut k v al σ t σ' t' false
  | put (a : Addr) (r : Bool) : a ∈ t.ad → (σ a).key = k → (r = true ↔ v < (σ a).value) → ((σ a).value < v → al = true) → t'.ad.Perm t.ad → (∀ b ∈ t.ad, (σ' b).key = (σ b).key ∧ (b ≠ a → (σ' b).value = (σ b).value)) → (σ' a).value = v → InsOut k v al σ t σ' t' r
  | new (x : Addr) : (∀ a ∈ t.ad, (σ a).key ≠ k) → x ∉ t.ad → t'.ad.Perm (x :: t.ad) → (∀ b ∈ t.ad, (σ' b).key = (σ b).key ∧ (σ' b).value = (σ b).value) → (σ' x).key = k → (σ' x).value = v → InsOut k v al σ t σ' t' true

section
variable {D : Addr → Prop} {σ : Addr → Nd} {t : BT} {kvs : List (Int × Value)} {k v : Int} {vt : Tok} {a : Addr} {al : Bool}
theorem ins_keep (h : PI D σ t kvs) (ha : a ∈ t.ad) (hk : (σ a).key = k) (hv : ¬ v < (σ a).value) (hal : al = true → ¬ (σ a).value < v) : PI D σ t kvs ∧ InsOut k v al σ t σ t false :=
  ⟨h, .keep a ha hk (by omega) (fun e => by have := hal e; omega) (List.Perm.refl _) fun _ _ => ⟨rfl, rfl⟩⟩

theorem setVal_rep {σ : Addr → Nd} {a : Addr} {i : Int} {tk : Tok} : ∀ {t : BT} {par pv : Option Addr}, Rep σ par pv t → Rep (setVal σ a i tk) par pv t
  | .nil, _, _, _ => trivial
  | .node b l n, par, pv, ⟨r1, r2, r3, r4, r5, r6⟩ => by
    have e : ∀ b, (setVal σ a i tk b).left = (σ b).left ∧ (setVal σ a i tk b).next = (σ b).next ∧ (setVal σ a i tk b).parent = (σ b).parent ∧ (setVal σ a i tk b).prev = (σ b).prev ∧ (setVal σ a i tk b).key = (σ b).key := fun b => by
      by_cases e : b = a
      · subst e; rw [setVal_eq]; exact ⟨rfl, rfl, rfl, rfl, rfl⟩
      · rw [setVal_ne e]; exact ⟨rfl, rfl, rfl, rfl, rfl⟩
    obtain ⟨e1, e2, e3, e4, _⟩ := e b
    exact ⟨e1.trans r1, e2.trans r2, e3.trans r3, e4.trans r4, setVal_rep r5, setVal_rep r6⟩
theorem setVal_get {σ : Addr → Nd} {a b : Addr} {i : Int} {tk : Tok} {f : Fl} : (setVal σ a i tk b).get f = (σ b).get f := by
  by_cases e : b = a
  · subst e; rw [setVal_eq]; cases f <;> rfl
  · rw [setVal_ne e]
theorem setVal_key {σ : Addr → Nd} {a b : Addr} {i : Int} {tk : Tok} : (setVal σ a i tk b).key = (σ b).key := by
  by_cases e : b = a
  · subst e; rw [setVal_eq]
  · rw [setVal_ne e]
theorem setVal_val {σ : Addr → Nd} {a b : Addr} {i : Int} {tk : Tok} : (setVal σ a i tk b).value = if b = a then i else (σ b).value := by
  by_cases e : b = a
  · subst e; rw [setVal_eq, if_pos rfl]
  · rw [setVal_ne e, if_neg e]

/-- lowered at its place -/
theorem TI.dec (h : TI σ t) (ha : a ∈ t.ad) (hv : v < (σ a).value) (hp : t.hd = some a ∨ ∃ p, (σ a).get .parent = some p ∧ ¬ v < (σ p).value) : TI (setVal σ a v vt) t := by
  obtain ⟨rep, sh, nd, pv, ho⟩ := h
  refine ⟨setVal_rep rep, sh, nd, ?_⟩
  rcases sh with rfl | ⟨r, l, rfl⟩
  · simp [BT.ad] at ha
  obtain ⟨h1, h2, h3⟩ := ho
  obtain ⟨n1, n2, n3, n4, n5⟩ := nd_node nd
  by_cases e : r = a
  · subst e
    have e9 : (setVal σ r v vt r).value = v := by rw [setVal_val, if_pos rfl]
    refine ⟨v, by show v ≤ (setVal σ r v vt r).value; rw [e9]; exact Int.le_refl _, ?_, trivial⟩
    show HO _ ((setVal σ r v vt r).value) _
    rw [e9]
    refine (h2.mono (Int.le_of_lt hv)).congr fun b hb => ?_
    (try dsimp only); rw [setVal_val, if_neg (show ¬ b = r from fun z => n1 (z ▸ hb))]
  · have hp' : ∃ p, (σ a).parent = some p ∧ ¬ v < (σ p).value := hp.resolve_left (fun z => e (Option.some.inj z))
    obtain ⟨p, hp1, hp2⟩ := hp'
    have hr : (setVal σ a v vt r).value = (σ r).value := by rw [setVal_val, if_neg e]
    refine ⟨pv, ?_, ?_, trivial⟩
    · show pv ≤ (setVal σ a v vt r).value; rw [hr]; exact h1
    · have := HO.dec (val := fun b => (σ b).value) (val' := fun b => (setVal σ a v vt b).value) (a := a) rep.2.2.2.2.1 h2 (fun b _ hb => by (try dsimp only); rw [setVal_val, if_neg hb]) (by (try dsimp only); rw [setVal_val, if_pos rfl]; omega)
        (fun q hq => by rw [hp1] at hq; cases hq; (try dsimp only); rw [setVal_val, if_pos rfl]; omega)
      show HO _ (setVal σ a v vt r).value l
      rw [hr]; exact this
theorem ins_dec (h : PI D σ t kvs) (ha : a ∈ t.ad) (hk : (σ a).key = k) (hv : v < (σ a).value) (hp : t.hd = some a ∨ ∃ p, (σ a).get .parent = some p ∧ ¬ v < (σ p).value) :
    PI D (setVal σ a v vt) t kvs ∧ InsOut k v al σ t (setVal σ a v vt) t true :=
  ⟨h.turn (h.ti.dec ha hv hp) (List.Perm.refl _) (fun b _ => setVal_key) h.dom,
    .put a true ha hk ⟨fun _ => hv, fun _ => rfl⟩ (fun z => by omega) (List.Perm.refl _) (fun b _ => ⟨setVal_key, fun e => by rw [setVal_val, if_neg e]⟩) (by rw [setVal_val, if_pos rfl])⟩

/-- lowered, cut off, linked again -/
theorem cut_two (h : PI D σ t kvs) (ha : a ∈ t.ad) (hr : t.hd ≠ some a) (hv : v < (σ a).value) :
    TI (cutT (setVal σ a v vt) a) (rm a t) ∧ TI (cutT (setVal σ a v vt) a) (.node a (sb a t) .nil) ∧ ((rm a t).ad ++ (BT.node a (sb a t) .nil).ad).Perm t.ad ∧ (rm a t).hd = t.hd := by
  obtain ⟨rep, sh, nd, pv, ho⟩ := h.ti
  have rep1 := setVal_rep (a := a) (i := v) (tk := vt) rep
  have nb := nbr rep1 nd ha hr
  have pm := rm_perm ha nd
  have nd2 := pm.symm.nodup nd
  have ev : ∀ b, (cutT (setVal σ a v vt) a b).value = if b = a then v else (σ b).value := fun b => by rw [(KV.cutT (σ := setVal σ a v vt) (a := a) b).2, setVal_val]
  obtain ⟨s1, s2⟩ := rep1.sb ha
  have pm2 : ((rm a t).ad ++ (BT.node a (sb a t) .nil).ad).Perm t.ad := by
    refine List.Perm.trans ?_ pm
    simp only [BT.ad, List.append_nil]
    rw [List.perm_iff_count]; intro x; simp only [List.count_cons, List.count_append]; omega
  have nd3 := pm2.symm.nodup nd
  rw [List.nodup_append] at nd3
  have na : ∀ b ∈ (rm a t).ad, b ≠ a := fun b hb e => nd3.2.2 b hb a (by simp [BT.ad]) e
  simp only [List.nodup_cons, List.mem_append, not_or] at nd2
  refine ⟨⟨cut_rm rep1 nd ha hr (fun p e => by cases e), ?_, nd3.1, pv, ho.rm.congr fun b hb => ?_⟩, ⟨⟨?_, ?_, ?_, ?_, ?_, trivial⟩, .inr ⟨_, _, rfl⟩, nd3.2.1, v, ?_⟩, pm2, rm_hd hr⟩
  · rcases sh with rfl | ⟨r, l, rfl⟩
    · exact .inl rfl
    · have : r ≠ a := fun e => hr (by rw [e]; rfl)
      simp only [rm, if_neg this]; exact .inr ⟨_, _, rfl⟩
  · (try dsimp only); rw [ev, if_neg (na b hb)]
  · rw [nb.self]; exact s1
  · rw [nb.self]; rfl
  · rw [nb.self]
  · rw [nb.self]
  · exact s2.congr fun b hb => nb.frameS hb (fun z => nd2.1.1 (z ▸ hb))
  · refine ⟨by show v ≤ (cutT (setVal σ a v vt) a a).value; rw [ev, if_pos rfl]; exact Int.le_refl _, ?_, trivial⟩
    show HO _ ((cutT (setVal σ a v vt) a a).value) _
    rw [ev, if_pos rfl]
    refine ((ho.sb ha).mono (Int.le_of_lt hv)).congr fun b hb => ?_
    (try dsimp only); rw [ev, if_neg (show ¬ b = a from fun z => nd2.1.1 (z ▸ hb))]

theorem ins_cut {r w l : Addr} {lr : BT} (h : PI D σ t kvs) (e : t = .node r lr .nil) (ha : a ∈ t.ad) (hr : a ≠ r) (hk : (σ a).key = k) (hv : v < (σ a).value) (hw : WL (cutT (setVal σ a v vt) a) r a w l) :
    ∃ t', PI D (linkT (cutT (setVal σ a v vt) a) w l) t' kvs ∧ InsOut k v al σ t (linkT (cutT (setVal σ a v vt) a) w l) t' true ∧ t'.hd = some w := by
  have hh : t.hd ≠ some a := by rw [e]; intro z; cases z; exact hr rfl
  obtain ⟨t1, t2, pm, e2⟩ := cut_two (vt := vt) h ha hh hv
  obtain ⟨r', lr', e3⟩ : ∃ r' lr', rm a t = .node r' lr' .nil := by
    rcases t1.sh with z | z
    · rw [z, e] at e2; cases e2
    · exact z
  have : r' = r := by rw [e3, e] at e2; cases e2; rfl
  subst this
  rw [e3] at t1 pm
  obtain ⟨t', q1, q2, q3⟩ := t1.link t2 (pm.symm.nodup h.ti.nd) hw
  have kv : ∀ b, (linkT (cutT (setVal σ a v vt) a) w l b).key = (σ b).key ∧ (linkT (cutT (setVal σ a v vt) a) w l b).value = if b = a then v else (σ b).value := fun b => by
    rw [(KV.linkT b).1, (KV.linkT b).2, (KV.cutT b).1, (KV.cutT b).2, setVal_key, setVal_val]; exact ⟨rfl, rfl⟩
  exact ⟨t', h.turn q1 (q2.trans pm) (fun b _ => (kv b).1) h.dom, .put a true ha hk ⟨fun _ => hv, fun _ => rfl⟩ (fun z => by omega) (q2.trans pm) (fun b _ => ⟨(kv b).1, fun e => by rw [(kv b).2, if_neg e]⟩) (by rw [(kv a).2, if_pos rfl]), q3⟩

/-- raised: what merging asks -/
theorem inc_args (h : PI D σ t kvs) (ha : a ∈ t.ad) : (setVal σ a v vt a).left = (sb a t).hd ∧ Rep (setVal σ a v vt) (some a) none (sb a t) ∧ HO (fun b => (setVal σ a v vt b).value) (σ a).value (sb a t) ∧ (a :: (sb a t).ad).Nodup ∧ ∀ b ∈ (sb a t).ad, D b := by
  obtain ⟨rep, sh, nd, pv, ho⟩ := h.ti
  obtain ⟨s1, s2⟩ := (setVal_rep (a := a) (i := v) (tk := vt) rep).sb ha
  have pm := rm_perm ha nd
  have nd2 := pm.symm.nodup nd
  simp only [List.nodup_cons, List.mem_append, not_or, List.nodup_append] at nd2
  refine ⟨s1, s2, (ho.sb ha).congr fun b hb => ?_, List.nodup_cons.mpr ⟨nd2.1.1, nd2.2.1⟩, fun b hb => h.dom b (pm.subset (by simp [hb]))⟩
  (try dsimp only); rw [setVal_val, if_neg (show ¬ b = a from fun z => nd2.1.1 (z ▸ hb))]
theorem inc_two {σ' : Addr → Nd} {tc : BT} {pv' : Int} (h : PI D σ t kvs) (ha : a ∈ t.ad) (hv : (σ a).value < v) (g : MergeOut (setVal σ a v vt) a (sb a t) pv' σ' tc) :
    TI σ' (clr a t) ∧ TI σ' tc ∧ ((clr a t).ad ++ tc.ad).Perm t.ad ∧ (clr a t).hd = t.hd ∧ ∀ b, (σ' b).key = (σ b).key ∧ (σ' b).value = if b = a then v else (σ b).value := by
  obtain ⟨rep, sh, nd, pv, ho⟩ := h.ti
  have pm := clr_perm ha nd
  have nd1 := pm.symm.nodup nd
  rw [List.nodup_append] at nd1
  have pmr := rm_perm ha nd
  have nd2 := pmr.symm.nodup nd
  simp only [List.nodup_cons, List.mem_append, not_or, List.nodup_append] at nd2
  have kv : ∀ b, (σ' b).key = (σ b).key ∧ (σ' b).value = if b = a then v else (σ b).value := fun b => by rw [(g.kv b).1, (g.kv b).2, setVal_key, setVal_val]; exact ⟨rfl, rfl⟩
  have pm2 : ((clr a t).ad ++ tc.ad).Perm t.ad := by
    refine List.Perm.trans ?_ pm
    exact (List.Perm.append_left _ g.perm).trans List.perm_append_comm
  have nd3 := pm2.symm.nodup nd
  rw [List.nodup_append] at nd3
  refine ⟨⟨?_, ?_, nd3.1, pv, ?_⟩, ⟨g.rep, g.sh, nd3.2.1, pv', ?_⟩, pm2, clr_hd, kv⟩
  · refine Rep.clr rep nd (fun b _ hb hs => ?_) ?_ ?_ ?_ ?_
    · rw [g.fr b hs hb, setVal_ne hb]
    · rw [g.rt]; rfl
    · rw [g.rt, setVal_eq]; rfl
    · rw [g.rt, setVal_eq]; rfl
    · rw [g.rt, setVal_eq]; rfl
  · rcases sh with rfl | ⟨r, l, rfl⟩
    · exact .inl rfl
    · by_cases e : r = a
      · simp only [clr, if_pos e]; exact .inr ⟨_, _, rfl⟩
      · simp only [clr, if_neg e]; exact .inr ⟨_, _, rfl⟩
  · refine HO.clr ho nd (fun b _ hb => ?_) ?_
    · (try dsimp only); rw [(kv b).2, if_neg hb]
    · (try dsimp only); rw [(kv a).2, if_pos rfl]; omega
  · refine g.ho.congr fun b _ => (g.kv b).2
theorem ins_inc0 {σ' : Addr → Nd} {tc : BT} {pv' : Int} (h : PI D σ t kvs) (ha : a ∈ t.ad) (hk : (σ a).key = k) (hv : ¬ v < (σ a).value) (hv' : (σ a).value < v) (hal : al = true) (g : MergeOut (setVal σ a v vt) a (sb a t) pv' σ' tc) (hc : tc.hd = none) :
    PI D σ' (clr a t) kvs ∧ InsOut k v al σ t σ' (clr a t) false ∧ (clr a t).hd = t.hd := by
  obtain ⟨q1, _, q3, q4, kv⟩ := inc_two h ha hv' g
  have := hd_none hc; subst this
  simp only [BT.ad, List.append_nil] at q3
  exact ⟨h.turn q1 q3 (fun b _ => (kv b).1) h.dom, .put a false ha hk ⟨(by rintro ⟨⟩), fun z => absurd z hv⟩ (fun _ => hal) q3 (fun b _ => ⟨(kv b).1, fun e => by rw [(kv b).2, if_neg e]⟩) (by rw [(kv a).2, if_pos rfl]), q4⟩
theorem ins_inc1 {σ' : Addr → Nd} {tc lr : BT} {pv' : Int} {r c w l : Addr} (h : PI D σ t kvs) (e : t = .node r lr .nil) (ha : a ∈ t.ad) (hk : (σ a).key = k) (hv : ¬ v < (σ a).value) (hv' : (σ a).value < v) (hal : al = true) (g : MergeOut (setVal σ a v vt) a (sb a t) pv' σ' tc) (hc : tc.hd = some c) (hw : WL σ' r c w l) :
    ∃ t', PI D (linkT σ' w l) t' kvs ∧ InsOut k v al σ t (linkT σ' w l) t' false ∧ t'.hd = some w := by
  obtain ⟨q1, q2, q3, q4, kv⟩ := inc_two h ha hv' g
  obtain ⟨lc, e1⟩ : ∃ lc, tc = .node c lc .nil := by
    rcases g.sh with z | ⟨c', lc, z⟩
    · rw [z] at hc; cases hc
    · rw [z] at hc; cases hc; exact ⟨lc, z⟩
  obtain ⟨r', lr', e3⟩ : ∃ r' lr', clr a t = .node r' lr' .nil := by
    rcases q1.sh with z | z
    · rw [z, e] at q4; cases q4
    · exact z
  have : r' = r := by rw [e3, e] at q4; cases q4; rfl
  subst this
  rw [e3] at q1 q3
  subst e1
  obtain ⟨t', p1, p2, p3⟩ := q1.link q2 (q3.symm.nodup h.ti.nd) hw
  have kv' : ∀ b, (linkT σ' w l b).key = (σ b).key ∧ (linkT σ' w l b).value = if b = a then v else (σ b).value := fun b => by rw [(KV.linkT b).1, (KV.linkT b).2]; exact kv b
  exact ⟨t', h.turn p1 (p2.trans q3) (fun b _ => (kv' b).1) h.dom, .put a false ha hk ⟨(by rintro ⟨⟩), fun z => absurd z hv⟩ (fun _ => hal) (p2.trans q3) (fun b _ => ⟨(kv' b).1, fun e => by rw [(kv' b).2, if_neg e]⟩) (by rw [(kv' a).2, if_pos rfl]), p3⟩

/-- a new one -/
theorem new_PI {σ' : Addr → Nd} {t' : BT} {x : Addr} {D' : Addr → Prop} (h : PI D σ t kvs) (hn : ∀ a ∈ t.ad, (σ a).key ≠ k) (hx : x ∉ t.ad) (ti : TI σ' t') (pm : t'.ad.Perm (x :: t.ad)) (hk : ∀ a ∈ t.ad, (σ' a).key = (σ a).key) (hkx : (σ' x).key = k) (hD : ∀ a, D a → D' a) (hDx : D' x) :
    PI D' σ' t' (stored kvs k (.ref x)) := by
  have e0 : kvs.any (fun kv => kv.1 = k) = false := by
    cases e : kvs.any (fun kv => kv.1 = k) with
    | false => rfl
    | true =>
      obtain ⟨p, hp, hpk⟩ := List.any_eq_true.mp e
      obtain ⟨a, ha, e⟩ := List.mem_map.mp (h.pm.subset hp)
      refine absurd ?_ (hn a ha)
      rw [← e] at hpk
      simpa using hpk
  have es : stored kvs k (.ref x) = kvs ++ [(k, .ref x)] := by unfold stored; rw [e0]; rfl
  have e1 : (t.ad.map fun a => (σ' a).key) = t.ad.map fun a => (σ a).key := List.map_congr_left hk
  have e2 : (t.ad.map fun a => ((σ' a).key, Value.ref a)) = t.ad.map fun a => ((σ a).key, Value.ref a) := List.map_congr_left fun a ha => by rw [hk a ha]
  refine ⟨ti, fun a ha => ?_, ?_, ?_⟩
  · rcases List.mem_cons.mp (pm.subset ha) with rfl | ha
    · exact hDx
    · exact hD a (h.dom a ha)
  · refine (pm.map _).symm.nodup ?_
    rw [List.map_cons, e1, List.nodup_cons]
    refine ⟨fun hm => ?_, h.ks⟩
    obtain ⟨a, ha, e⟩ := List.mem_map.mp hm
    exact hn a ha (e.trans hkx)
  · rw [es]
    refine List.Perm.trans ?_ (pm.map _).symm
    rw [List.map_cons, e2, hkx]
    refine List.perm_append_comm.trans ?_
    exact List.Perm.cons _ h.pm
abbrev newNd (k v : Int) (kt vt : Tok) : Nd := ⟨none, none, none, none, k, kt, v, vt⟩
theorem new_TI {x : Addr} {kt : Tok} {σ' : Addr → Nd} (e : σ' x = newNd k v kt vt) : TI σ' (.node x .nil .nil) :=
  ⟨⟨by rw [e]; rfl, by rw [e]; rfl, by rw [e], by rw [e], trivial, trivial⟩, .inr ⟨_, _, rfl⟩, by simp [BT.ad], (σ' x).value, Int.le_refl _, trivial, trivial⟩
theorem upd_eq {σ : Addr → Nd} {x : Addr} {n : Nd} : upd σ x n x = n := by simp [upd]
theorem upd_ne {σ : Addr → Nd} {x b : Addr} {n : Nd} (h : b ≠ x) : upd σ x n b = σ b := by simp [upd, h]
theorem ins_new0 {x : Addr} {kt : Tok} {D' : Addr → Prop} (h : PI D σ .nil kvs) (hD : ∀ a, D a → D' a) (hDx : D' x) :
    PI D' (upd σ x (newNd k v kt vt)) (.node x .nil .nil) (stored kvs k (.ref x)) ∧ InsOut k v al σ .nil (upd σ x (newNd k v kt vt)) (.node x .nil .nil) true := by
  have hn : ∀ a ∈ BT.nil.ad, (σ a).key ≠ k := fun a ha => by simp [BT.ad] at ha
  refine ⟨new_PI h hn (by simp [BT.ad]) (new_TI upd_eq) (List.Perm.refl _) (fun a ha => by simp [BT.ad] at ha) (by rw [upd_eq]) hD hDx, .new x hn (by simp [BT.ad]) (List.Perm.refl _) (fun a ha => by simp [BT.ad] at ha) (by rw [upd_eq]) (by rw [upd_eq])⟩
theorem ins_new1 {x r w l : Addr} {lr : BT} {kt : Tok} {D' : Addr → Prop} (h : PI D σ t kvs) (e : t = .node r lr .nil) (hn : ∀ a ∈ t.ad, (σ a).key ≠ k) (hx : x ∉ t.ad) (hD : ∀ a, D a → D' a) (hDx : D' x) (hw : WL (upd σ x (newNd k v kt vt)) r x w l) :
    ∃ t', PI D' (linkT (upd σ x (newNd k v kt vt)) w l) t' (stored kvs k (.ref x)) ∧ InsOut k v al σ t (linkT (upd σ x (newNd k v kt vt)) w l) t' true ∧ t'.hd = some w := by
  have ne : ∀ b ∈ t.ad, b ≠ x := fun b hb z => hx (z ▸ hb)
  have t1 : TI (upd σ x (newNd k v kt vt)) t := h.ti.congr fun b hb => upd_ne (ne b hb)
  have t2 : TI (upd σ x (newNd k v kt vt)) (.node x .nil .nil) := new_TI upd_eq
  subst e
  have nd : ((BT.node r lr .nil).ad ++ (BT.node x .nil .nil).ad).Nodup := by
    rw [List.nodup_append]
    refine ⟨h.ti.nd, by simp [BT.ad], fun b hb c hc => ?_⟩
    simp only [BT.ad, List.append_nil, List.mem_singleton] at hc
    subst hc; exact ne b hb
  obtain ⟨t', p1, p2, p3⟩ := t1.link t2 nd hw
  have p2' : t'.ad.Perm (x :: (BT.node r lr .nil).ad) := p2.trans (by simpa [BT.ad] using List.perm_append_comm (l₁ := (BT.node r lr .nil).ad) (l₂ := [x]))
  have kv : ∀ b, (linkT (upd σ x (newNd k v kt vt)) w l b).key = (upd σ x (newNd k v kt vt) b).key ∧ (linkT (upd σ x (newNd k v kt vt)) w l b).value = (upd σ x (newNd k v kt vt) b).value := fun b => KV.linkT b
  refine ⟨t', new_PI h hn hx p1 p2' (fun b hb => by rw [(kv b).1, upd_ne (ne b hb)]) (by rw [(kv x).1, upd_eq]) hD hDx, .new x hn hx p2' (fun b hb => by rw [(kv b).1, (kv b).2, upd_ne (ne b hb)]; exact ⟨rfl, rfl⟩) (by rw [(kv x).1, upd_eq]) (by rw [(kv x).2, upd_eq]), p3⟩

/-- the least taken out -/
theorem pop_args {l : BT} (h : PI D σ (.node a l .nil) kvs) : (σ a).left = l.hd ∧ Rep σ (some a) none l ∧ HO (fun b => (σ b).value) (σ a).value l ∧ (a :: l.ad).Nodup ∧ (∀ b ∈ l.ad, D b) ∧ D a := by
  obtain ⟨⟨a1, a2, a3, a4, a5, _⟩, _, nd, pv, ⟨h1, h2, _⟩⟩ := h.ti
  exact ⟨a1, a5, h2, by simpa [BT.ad] using nd, fun b hb => h.dom b (by simp [BT.ad, hb]), h.dom a (by simp [BT.ad])⟩
theorem pop_PI {l t' : BT} {σ' : Addr → Nd} (h : PI D σ (.node a l .nil) kvs) (g : MergeOut σ a l (σ a).value σ' t') : PI D σ' t' (without kvs (σ a).key) ∧ t'.ad.Perm l.ad ∧ (∀ b, (σ' b).key = (σ b).key ∧ (σ' b).value = (σ b).value) := by
  have nd := h.ti.nd
  obtain ⟨n1, n2, n3, n4, n5⟩ := nd_node nd
  have ks := h.ks
  simp only [BT.ad, List.append_nil, List.map_cons, List.nodup_cons] at ks
  have ev : (fun b => (σ' b).value) = fun b => (σ b).value := funext fun b => (g.kv b).2
  have e1 : (l.ad.map fun a => (σ' a).key) = l.ad.map fun a => (σ a).key := List.map_congr_left fun b _ => (g.kv b).1
  have e2 : (l.ad.map fun a => ((σ' a).key, Value.ref a)) = l.ad.map fun a => ((σ a).key, Value.ref a) := List.map_congr_left fun b _ => by rw [(g.kv b).1]
  refine ⟨⟨⟨g.rep, g.sh, g.perm.symm.nodup n3, (σ a).value, by rw [ev]; exact g.ho⟩, fun b hb => h.dom b (by simp [BT.ad, g.perm.subset hb]), ?_, ?_⟩, g.perm, g.kv⟩
  · exact (g.perm.map _).symm.nodup (e1 ▸ ks.2)
  · refine List.Perm.trans ?_ (g.perm.map _).symm
    rw [e2]
    have := h.pm.filter (fun kv => decide (kv.1 ≠ (σ a).key))
    unfold without
    refine this.trans ?_
    simp only [BT.ad, List.append_nil, List.map_cons]
    rw [List.filter_cons_of_neg (by simp)]
    rw [List.filter_eq_self.mpr]
    intro p hp
    obtain ⟨b, hb, rfl⟩ := List.mem_map.mp hp
    simp only [ne_eq, decide_eq_true_eq]
    intro e
    exact ks.1 (List.mem_map.mpr ⟨b, hb, e⟩)
end
end Mine
namespace Mine
theorem par_some {σ : Addr → Nd} {a : Addr} : ∀ {t : BT} {p : Addr} {pv : Option Addr}, Rep σ (some p) pv t → a ∈ t.ad → ∃ q, (σ a).parent = some q
  | .nil, _, _, _, h => by simp [BT.ad] at h
  | .node b l n, p, pv, ⟨r1, r2, r3, r4, r5, r6⟩, h => by
    by_cases e : a = b
    · subst e; exact ⟨p, r3⟩
    · simp only [BT.ad, List.mem_cons, List.mem_append, e, false_or] at h
      rcases h with h | h
      · exact par_some r5 h
      · exact par_some r6 h
theorem PI.par {D : Addr → Prop} {σ : Addr → Nd} {t : BT} {kvs : List (Int × Value)} {a r : Addr} {l : BT} {i : Int} {tk : Tok} (h : PI D σ t kvs) (e : t = .node r l .nil) (ha : a ∈ t.ad) (hr : a ≠ r) : (setVal σ a i tk a).get .parent = none → False := by
  intro z
  rw [setVal_get] at z
  subst e
  simp only [BT.ad, List.append_nil, List.mem_cons, hr, false_or] at ha
  obtain ⟨q, e⟩ := par_some h.ti.rep.2.2.2.2.1 ha
  rw [show (σ a).get .parent = (σ a).parent from rfl, e] at z
  cases z
end Mine
namespace Mine
theorem par_ne {σ : Addr → Nd} {a : Addr} : ∀ {t : BT} {p : Addr} {pv : Option Addr}, Rep σ (some p) pv t → a ∈ t.ad → (p :: t.ad).Nodup → (σ a).parent ≠ some a
  | .nil, _, _, _, h, _ => by simp [BT.ad] at h
  | .node b l n, p, pv, ⟨r1, r2, r3, r4, r5, r6⟩, h, nd => by
    obtain ⟨np, nd⟩ := List.nodup_cons.mp nd
    obtain ⟨n1, n2, n3, n4, n5⟩ := nd_node nd
    by_cases e : a = b
    · subst e; rw [r3]; intro z; cases z; exact np (by simp [BT.ad])
    · simp only [BT.ad, List.mem_cons, List.mem_append, e, false_or] at h
      rcases h with h | h
      · exact par_ne r5 h (List.nodup_cons.mpr ⟨n1, n3⟩)
      · exact par_ne r6 h (List.nodup_cons.mpr ⟨fun z => np (by simp [BT.ad, z]), n4⟩)
theorem ins_dec' {D : Addr → Prop} {σ : Addr → Nd} {kvs : List (Int × Value)} {k v : Int} {vt : Tok} {a r x : Addr} {lr : BT} {al : Bool} (h : PI D σ (.node r lr .nil) kvs) (ha : a ∈ (BT.node r lr .nil).ad) (hk : (σ a).key = k) (hv : v < (σ a).value) (hr : ¬ a = r)
    (hx : (setVal σ a v vt a).get .parent = some x) (hp : ¬ v < (setVal σ a v vt x).value) :
    PI D (setVal σ a v vt) (.node r lr .nil) kvs ∧ InsOut k v al σ (.node r lr .nil) (setVal σ a v vt) (.node r lr .nil) true := by
  rw [setVal_get] at hx
  refine ins_dec h ha hk hv (.inr ⟨x, hx, ?_⟩)
  have hxa : x ≠ a := by
    rintro rfl
    have ha' : x ∈ lr.ad := by simpa [BT.ad, hr] using ha
    exact par_ne h.ti.rep.2.2.2.2.1 ha' (by simpa [BT.ad] using h.ti.nd) hx
  rw [setVal_val, if_neg hxa] at hp
  exact hp
end Mine
end
section
open PySem PySem.W PyProof.Rows
namespace Mine

abbrev PR : Program := PySem.Challenge.rw_aw6015_01.row.prog
noncomputable abbrev KK (w : World) : Frag := hd.heap_39 w.params

def oref : Option Addr → Value
  | none => .none
  | some a => .ref a
def Fl.nm : Fl → Str
  | .left => Str.ofString "left" | .next => Str.ofString "next" | .parent => Str.ofString "parent" | .prev => Str.ofString "prev"
def Fl.ix : Fl → Nat
  | .left => 0 | .next => 1 | .parent => 2 | .prev => 3
def Fl.ds : Fl → Addr
  | .left => 84 | .next => 85 | .parent => 86 | .prev => 87

abbrev ndObj (n : Nd) (dx : Addr) : Obj :=
  ⟨.ref 83, some dx, .plain, #[some (oref n.left), some (oref n.next), some (oref n.parent), some (oref n.prev), some (.int n.key n.kt), some (.int n.value n.vt)]⟩

section
variable {w : World}
set_option maxRecDepth 100000
theorem k_plain (f : Fl) : plainGet (KK w) 83 f.nm = true := by cases f <;> kernel_rfl
theorem k_find (f : Fl) : findIn (KK w) (.ref 83) f.nm = some (some (.ref f.ds)) := by cases f <;> kernel_rfl
theorem k_getd (f : Fl) : specialIn (KK w) (.ref f.ds) "__get__" = some (some (.builtin "member_descriptor.__get__")) := by cases f <;> kernel_rfl
theorem k_takes (f : Fl) : takesIn (KK w) (.ref f.ds) = some true := by cases f <;> kernel_rfl
theorem k_slot (f : Fl) : slotIn (KK w) f.ds 83 = some f.ix := by cases f <;> kernel_rfl
theorem k_cls : isClsIn (KK w) 83 = true := by kernel_rfl
theorem k_sets : findIn (KK w) (.ref 83) "__setattr__" = some (some (.builtin "object.__setattr__")) := by kernel_rfl
theorem k_over : plainOver (KK w) 83 = true := by kernel_rfl
theorem k_taker (f : Fl) : takerIn (KK w) 83 f.nm = some (some (.ref f.ds)) := by cases f <;> kernel_rfl
theorem k_tyin (f : Fl) : typeIn (KK w) (.ref f.ds) = some (.type "member_descriptor") := by cases f <;> kernel_rfl
end
end Mine
namespace Mine
/-- a ledger with a hole at its end: ahead of the hole stands no node -/
def notNode (o : Obj) : Bool := match o.data with
  | .plain => (match o.cls with
    | .ref a => !(Nat.beq a 83)
    | _ => true)
  | _ => true
theorem cell_notNode {o : Obj} {v : Option Value} (h : o.data = .cell v) : notNode o = true := by unfold notNode; rw [h]
theorem ns_notNode {o : Obj} {m : Str → Option Value} (h : PyProof.Rows.LCg.NsObj o m) : notNode o = true := by
  obtain ⟨_, _, e, _⟩ := h
  unfold notNode; rw [e]
def PreOk (pre : List (Addr × Obj)) : Prop := ∀ p ∈ pre, notNode p.2 = true
theorem PreOk.nil : PreOk [] := fun _ h => (nomatch h)
inductive Hole (nl : List (Addr × Obj)) : List (Addr × Obj) → List (Addr × Obj) → Prop
  | here : Hole nl nl []
  | opq {pre} : PreOk pre → Hole nl (pre ++ nl) pre
  | cons {x l pre} : notNode x.2 = true → Hole nl l pre → Hole nl (x :: l) (x :: pre)
theorem Hole.is {nl l pre : List (Addr × Obj)} (h : Hole nl l pre) : l = pre ++ nl ∧ PreOk pre := by
  induction h with
  | here => exact ⟨rfl, PreOk.nil⟩
  | opq h => exact ⟨rfl, h⟩
  | cons hx _ ih =>
    refine ⟨by rw [ih.1]; rfl, fun p hp => ?_⟩
    rcases List.mem_cons.mp hp with rfl | hp
    · exact hx
    · exact ih.2 p hp
theorem Hole.mem {nl l pre : List (Addr × Obj)} (h : Hole nl l pre) {p : Addr × Obj} (hp : p ∈ nl) : p ∈ l := by
  rw [h.is.1]; exact List.mem_append_right _ hp

/-- the ledger bears the nodes -/
structure HS (nl : List (Addr × Obj)) (D : Addr → Prop) (σ : Addr → Nd) : Prop where
  at_ : ∀ a, D a → ∃ dx, (a, ndObj (σ a) dx) ∈ nl ∧ (dx, dictOf [] 0) ∈ nl
  cl : ∀ a f x, D a → (σ a).get f = some x → D x

section
variable {w : World} {A : Around} {E : Value → Shared → Prop} {s : Shared} {h₀ : Heap} {L a : Addr} {m : Str → Option Value} {nl : List (Addr × Obj)} {news pre : List (Addr × Obj)} {D : Addr → Prop} {σ : Addr → Nd}

theorem nd_get {expr : Bool} {Q : Value → Shared → Prop} (f : Fl) (F : Fr h₀ L s.heap m) (X : (KK w).In h₀) (N : News h₀ L s.heap news) (hc : Hole nl news pre) (H : HS nl D σ) (ha : D a)
    (hn : (σ a).get f = none → Q .none { s with toks := s.toks + 1 }) (hs : ∀ x, (σ a).get f = some x → D x → Q (.ref x) { s with toks := s.toks + 1 }) :
    wpAny (model PR w) A (getAttr (.ref a) f.nm expr) Q E s := by
  obtain ⟨dx, h1, h2⟩ := H.at_ a ha
  refine get_slot F X (InstAt.of_news N (hc.mem h1) (hc.mem h2)) (k_plain f) k_cls (k_find f) (k_getd f) (k_takes f) (k_slot f) (v := oref ((σ a).get f)) (by cases f <;> rfl) ?_ ?_
  · cases (σ a).get f <;> rfl
  · cases e : (σ a).get f with
    | none => exact hn e
    | some x => exact hs x e (H.cl a f x ha e)

theorem News.sub {h₀ h : Heap} {L : Addr} {l l' : List (Addr × Obj)} (N : News h₀ L h l) (hs : ∀ p ∈ l', p ∈ l) : News h₀ L h l' := fun p hp => N p (hs p hp)

/-- the rest of the hole stays, and no address comes -/
structure KS (D : Addr → Prop) (nl nl' : List (Addr × Obj)) : Prop where
  kept : ∀ p ∈ nl, ¬ D p.1 → p ∈ nl'
  sub : ∀ p ∈ nl', ∃ q ∈ nl, q.1 = p.1
theorem KS.refl : KS D nl nl := ⟨fun _ h _ => h, fun p h => ⟨p, h, rfl⟩⟩
theorem KS.trans {l2 l3 : List (Addr × Obj)} (x : KS D nl l2) (y : KS D l2 l3) : KS D nl l3 :=
  ⟨fun p hp hn => y.kept p (x.kept p hp hn) hn, fun p hp => by obtain ⟨q, hq, e⟩ := y.sub p hp; obtain ⟨r, hr, e'⟩ := x.sub q hq; exact ⟨r, hr, e'.trans e⟩⟩
/-- what a node's store does to the hole -/
theorem HS.set {h : Heap} (N : News h₀ L h news) (hc : Hole nl news pre) (H : HS nl D σ) (ha : D a) (n : Nd) (hcl : ∀ f x, n.get f = some x → D x) :
    ∃ dx nl₀, (a, ndObj (σ a) dx) ∈ nl ∧ (dx, dictOf [] 0) ∈ nl ∧ (∀ p ∈ pre ++ nl₀, p ∈ news) ∧ (∀ p ∈ pre ++ nl₀, p.1 ≠ a) ∧
      HS ((a, ndObj n dx) :: nl₀) D (upd σ a n) ∧ KS D nl ((a, ndObj n dx) :: nl₀) := by
  obtain ⟨dx, h1, h2⟩ := H.at_ a ha
  obtain ⟨p2, p1⟩ := hc.is
  have hget : h.get? a = some (ndObj (σ a) dx) := by
    refine (N (a, ndObj (σ a) dx) ?_).1
    rw [p2]; exact List.mem_append_right _ h1
  refine ⟨dx, nl.filter (fun p => p.1 ≠ a), h1, h2, fun p hp => ?_, fun p hp => ?_, ⟨fun b hb => ?_, fun b f x hb e => ?_⟩, fun p hp hn => ?_, fun p hp => ?_⟩
  · rw [p2]
    rcases List.mem_append.mp hp with q | q
    · exact List.mem_append_left _ q
    · exact List.mem_append_right _ (List.mem_filter.mp q).1
  · rcases List.mem_append.mp hp with q | q
    · intro e
      have := (N p (by rw [p2]; exact List.mem_append_left _ q)).1
      rw [e, hget] at this
      have z := p1 p q
      rw [← Option.some.inj this] at z; cases z
    · simpa using (List.mem_filter.mp q).2
  · by_cases e : b = a
    · subst e
      refine ⟨dx, ?_, ?_⟩
      · simp [upd]
      · refine List.mem_cons_of_mem _ (List.mem_filter.mpr ⟨h2, ?_⟩)
        have := (N _ (show (dx, dictOf [] 0) ∈ news by rw [p2]; exact List.mem_append_right _ h2)).1
        simp only [decide_eq_true_eq, ne_eq]
        intro e; dsimp only at this; rw [e, hget] at this; cases this
    · obtain ⟨dy, q1, q2⟩ := H.at_ b hb
      refine ⟨dy, ?_, ?_⟩
      · simp only [upd, if_neg e]
        exact List.mem_cons_of_mem _ (List.mem_filter.mpr ⟨q1, by simpa using e⟩)
      · refine List.mem_cons_of_mem _ (List.mem_filter.mpr ⟨q2, ?_⟩)
        have := (N _ (show (dy, dictOf [] 0) ∈ news by rw [p2]; exact List.mem_append_right _ q2)).1
        simp only [decide_eq_true_eq, ne_eq]
        intro e; dsimp only at this; rw [e, hget] at this; cases this
  · by_cases e' : b = a
    · simp only [upd, if_pos e'] at e; exact hcl f x e
    · simp only [upd, if_neg e'] at e; exact H.cl b f x hb e
  · by_cases e : p.1 = a
    · exact absurd (e ▸ ha) hn
    · exact List.mem_cons_of_mem _ (List.mem_filter.mpr ⟨hp, by simpa using e⟩)
  · rcases List.mem_cons.mp hp with rfl | hp
    · exact ⟨_, h1, rfl⟩
    · exact ⟨p, (List.mem_filter.mp hp).1, rfl⟩

theorem nd_set {v : Option Addr} {Q : Unit → Shared → Prop} (f : Fl) (F : Fr h₀ L s.heap m) (X : (KK w).In h₀) (N : News h₀ L s.heap news) (hc : Hole nl news pre) (H : HS nl D σ) (ha : D a) (hv : ∀ x, v = some x → D x)
    (h : ∀ h' nl', Fr h₀ L h' m → News h₀ L h' (pre ++ nl') → HS nl' D (setF σ a f v) → KS D nl nl' → Q () { s with heap := h', toks := s.toks + 1 }) :
    wpAny (model PR w) A (setAttr (.ref a) f.nm (oref v)) Q E s := by
  obtain ⟨dx, nl₀, h1, h2, q1, q2, H', hk⟩ := H.set N hc ha ((σ a).put f v) (fun g x e => by
    cases f <;> cases g <;> first | exact hv x e | exact H.cl a .left x ha e | exact H.cl a .next x ha e | exact H.cl a .parent x ha e | exact H.cl a .prev x ha e)
  have N' : News h₀ L s.heap ((a, ndObj (σ a) dx) :: (pre ++ nl₀)) := News.sub N (fun p hp => by
    rcases List.mem_cons.mp hp with rfl | hp
    · exact hc.mem h1
    · exact q1 p hp)
  refine set_slot F X N' (InstAt.of_news N (hc.mem h1) (hc.mem h2)) k_sets k_over (k_taker f) (k_tyin f) (k_slot f) (by cases f <;> decide) (ox' := ndObj ((σ a).put f v) dx) (by cases f <;> rfl) rfl (Upd.head q2) ?_
  intro h' F' N''
  refine h h' ((a, ndObj ((σ a).put f v) dx) :: nl₀) F' (News.sub N'' fun p hp => ?_) H' hk
  rcases List.mem_append.mp hp with q | q
  · exact List.mem_cons_of_mem _ (List.mem_append_left _ q)
  · rcases List.mem_cons.mp q with rfl | q
    · exact List.mem_cons_self
    · exact List.mem_cons_of_mem _ (List.mem_append_right _ q)

set_option maxRecDepth 100000 in
theorem k_plainv : plainGet (KK w) 83 "value" = true := by kernel_rfl
set_option maxRecDepth 100000 in
theorem k_plaink : plainGet (KK w) 83 "key" = true := by kernel_rfl
set_option maxRecDepth 100000 in
theorem k_slotv : slotIn (KK w) 60 83 = some 5 := by kernel_rfl
set_option maxRecDepth 100000 in
theorem k_slotk : slotIn (KK w) 59 83 = some 4 := by kernel_rfl
set_option maxRecDepth 100000 in
theorem k_findv : findIn (KK w) (.ref 83) "value" = some (some (.ref 60)) := by kernel_rfl
set_option maxRecDepth 100000 in
theorem k_findk : findIn (KK w) (.ref 83) "key" = some (some (.ref 59)) := by kernel_rfl
set_option maxRecDepth 100000 in
theorem k_getv : specialIn (KK w) (.ref 60) "__get__" = some (some (.builtin "member_descriptor.__get__")) := by kernel_rfl
set_option maxRecDepth 100000 in
theorem k_getk : specialIn (KK w) (.ref 59) "__get__" = some (some (.builtin "member_descriptor.__get__")) := by kernel_rfl
set_option maxRecDepth 100000 in
theorem k_takesv : takesIn (KK w) (.ref 60) = some true := by kernel_rfl
set_option maxRecDepth 100000 in
theorem k_takesk : takesIn (KK w) (.ref 59) = some true := by kernel_rfl
set_option maxRecDepth 100000 in
theorem k_takerv : takerIn (KK w) 83 "value" = some (some (.ref 60)) := by kernel_rfl
set_option maxRecDepth 100000 in
theorem k_tyinv : typeIn (KK w) (.ref 60) = some (.type "member_descriptor") := by kernel_rfl

theorem nd_value {expr : Bool} {Q : Value → Shared → Prop} (F : Fr h₀ L s.heap m) (X : (KK w).In h₀) (N : News h₀ L s.heap news) (hc : Hole nl news pre) (H : HS nl D σ) (ha : D a)
    (h : Q (.int (σ a).value (σ a).vt) { s with toks := s.toks + 1 }) : wpAny (model PR w) A (getAttr (.ref a) "value" expr) Q E s := by
  obtain ⟨dx, h1, h2⟩ := H.at_ a ha
  exact get_slot F X (InstAt.of_news N (hc.mem h1) (hc.mem h2)) k_plainv k_cls k_findv k_getv k_takesv k_slotv rfl rfl h
theorem nd_key {expr : Bool} {Q : Value → Shared → Prop} (F : Fr h₀ L s.heap m) (X : (KK w).In h₀) (N : News h₀ L s.heap news) (hc : Hole nl news pre) (H : HS nl D σ) (ha : D a)
    (h : Q (.int (σ a).key (σ a).kt) { s with toks := s.toks + 1 }) : wpAny (model PR w) A (getAttr (.ref a) "key" expr) Q E s := by
  obtain ⟨dx, h1, h2⟩ := H.at_ a ha
  exact get_slot F X (InstAt.of_news N (hc.mem h1) (hc.mem h2)) k_plaink k_cls k_findk k_getk k_takesk k_slotk rfl rfl h
theorem nd_setval {i : Int} {t : Tok} {Q : Unit → Shared → Prop} (F : Fr h₀ L s.heap m) (X : (KK w).In h₀) (N : News h₀ L s.heap news) (hc : Hole nl news pre) (H : HS nl D σ) (ha : D a)
    (h : ∀ h' nl', Fr h₀ L h' m → News h₀ L h' (pre ++ nl') → HS nl' D (setVal σ a i t) → KS D nl nl' → Q () { s with heap := h', toks := s.toks + 1 }) :
    wpAny (model PR w) A (setAttr (.ref a) "value" (.int i t)) Q E s := by
  obtain ⟨dx, nl₀, h1, h2, q1, q2, H', hk⟩ := H.set N hc ha { σ a with value := i, vt := t } (fun g x e => by
    cases g <;> first | exact H.cl a .left x ha e | exact H.cl a .next x ha e | exact H.cl a .parent x ha e | exact H.cl a .prev x ha e)
  have N' : News h₀ L s.heap ((a, ndObj (σ a) dx) :: (pre ++ nl₀)) := News.sub N (fun p hp => by
    rcases List.mem_cons.mp hp with rfl | hp
    · exact hc.mem h1
    · exact q1 p hp)
  refine set_slot F X N' (InstAt.of_news N (hc.mem h1) (hc.mem h2)) k_sets k_over k_takerv k_tyinv k_slotv (by decide) (ox' := ndObj { σ a with value := i, vt := t } dx) rfl rfl (Upd.head q2) ?_
  intro h' F' N''
  refine h h' ((a, ndObj { σ a with value := i, vt := t } dx) :: nl₀) F' (News.sub N'' fun p hp => ?_) H' hk
  rcases List.mem_append.mp hp with q | q
  · exact List.mem_cons_of_mem _ (List.mem_append_left _ q)
  · rcases List.mem_cons.mp q with rfl | q
    · exact List.mem_cons_self
    · exact List.mem_cons_of_mem _ (List.mem_append_right _ q)
end
end Mine

namespace Mine
def Stop (P : Prop) : Prop := P
theorem Stop.mk {P : Prop} (h : Stop P) : P := h
theorem mform {m m₀ : Str → Option Value} {y1 y2 : Str} {v1 v2 : Value} (stored : List Str) (h1 : m y1 = some v1) (h2 : m y2 = some v2) (h : ∀ x, stored.contains x = false → m x = m₀ x) :
    m = fun x => if x = y1 then some v1 else if x = y2 then some v2 else if stored.contains x then m x else m₀ x := by
  funext x
  by_cases e1 : x = y1
  · subst e1; simp [h1]
  · simp only [if_neg e1]
    by_cases e2 : x = y2
    · subst e2; simp [h2]
    · simp only [if_neg e2]
      cases e : stored.contains x with
      | true => simp
      | false => simp only [Bool.false_eq_true, if_false]; exact h x e
end Mine

namespace Mine
/-- a frame's locals: some told, the rest as u says -/
def lk (l : List (Str × Value)) (u : Str → Option Value) : Str → Option Value := fun x => match l.lookup x with
  | some v => some v
  | none => u x
theorem lookup_mem {x : Str} {v : Value} : ∀ {l : List (Str × Value)}, l.lookup x = some v → (x, v) ∈ l
  | [], h => by cases h
  | (y, z) :: r, h => by
    rw [List.lookup_cons] at h
    cases e : x == y with
    | true => rw [e] at h; cases h; rw [eq_of_beq e]; exact List.mem_cons_self
    | false => rw [e] at h; exact List.mem_cons_of_mem _ (lookup_mem h)
theorem lk_self {l : List (Str × Value)} {u : Str → Option Value} (h : ∀ p ∈ l, u p.1 = some p.2) : lk l u = u := by
  funext x
  unfold lk
  cases e : l.lookup x with
  | none => rfl
  | some v => exact (h _ (lookup_mem e)).symm
theorem fr_lk {h₀ h : Heap} {L : Addr} {u : Str → Option Value} {l : List (Str × Value)} (F : Fr h₀ L h u) (hh : ∀ p ∈ l, u p.1 = some p.2) : Fr h₀ L h (lk l u) := by
  rw [lk_self hh]; exact F
end Mine
namespace Mine
def RawMark : Prop := True
section
variable {w : World} {A : Around} {E : Value → Shared → Prop} {s : Shared} {h₀ : Heap} {L a : Addr} {m : Str → Option Value} {nl : List (Addr × Obj)} {news pre : List (Addr × Obj)} {D : Addr → Prop} {σ : Addr → Nd}
theorem nd_raw {expr : Bool} {Q : Value → Shared → Prop} (f : Fl) (F : Fr h₀ L s.heap m) (X : (KK w).In h₀) (N : News h₀ L s.heap news) (hc : Hole nl news pre) (H : HS nl D σ) (ha : D a)
    (h : Q (oref ((σ a).get f)) { s with toks := s.toks + 1 }) :
    wpAny (model PR w) A (getAttr (.ref a) f.nm expr) Q E s :=
  nd_get f F X N hc H ha (fun e => by rw [e] at h; exact h) (fun x e _ => by rw [e] at h; exact h)
end
end Mine
namespace Mine
theorem ks_off {D : Addr → Prop} {nl nl' pre : List (Addr × Obj)} {b : Addr} (h : KS D nl nl') (o : ∀ p ∈ pre ++ nl, p.1 ≠ b) : ∀ p ∈ pre ++ nl', p.1 ≠ b := fun p hp => by
  rcases List.mem_append.mp hp with hp | hp
  · exact o p (List.mem_append_left _ hp)
  · obtain ⟨q, hq, e⟩ := h.sub p hp
    rw [← e]; exact o q (List.mem_append_right _ hq)
section
variable {w : World} {A : Around} {E : Value → Shared → Prop} {s : Shared} {h₀ : Heap} {L dd : Addr} {m : Str → Option Value} {nl news pre : List (Addr × Obj)} {D : Addr → Prop} {σ : Addr → Nd} {oD : Obj} {kvs : List (Int × Value)} {t : BT} {k : Int} {kt : Tok}
theorem dget {Q : Value → Shared → Prop} (N : News h₀ L s.heap news) (hm : (dd, oD) ∈ news) (hd : oD.IsDictOf (intKind PR w) kvs) (lo : (dd == sysModules) = false) (P : PI D σ t kvs)
    (h0 : (∀ a ∈ t.ad, (σ a).key ≠ k) → Q .none { s with toks := s.toks + 1 }) (h1 : ∀ a, a ∈ t.ad → D a → (σ a).key = k → Q (.ref a) { s with toks := s.toks + 1 }) :
    wpAny (model PR w) A (call (.builtin "dict.get") [.ref dd, .int k kt]) Q E s := by
  refine kdg_get1 (knd := intKind PR w) N hm hd lo (intKind_is _ _ _ _) (valueAt kvs k) rfl ?_
  cases e : valueAt kvs k with
  | none => exact h0 (P.get_none e)
  | some v =>
    obtain ⟨a, ha, hk, rfl⟩ := P.get e
    exact h1 a ha (P.dom a ha) hk
end
end Mine
namespace Mine
theorem dict_notNode {w : World} {oD : Obj} {kvs : List (Int × Value)} (h : oD.IsDictOf (intKind PR w) kvs) : notNode oD = true := by
  obtain ⟨_, _, e, _⟩ := h
  unfold notNode
  split
  · rw [e.1]
  · rfl
end Mine
end
section
open PySem PySem.W PyProof.Rows
namespace Mine
/-- the heap's own objects stand apart from the rest -/
structure Off (pre nl : List (Addr × Obj)) (hx dd : Addr) : Prop where
  l : ∀ p ∈ pre ++ nl, p.1 ≠ hx
  r : ∀ p ∈ pre ++ nl, p.1 ≠ dd
theorem off_new {pre nl news : List (Addr × Obj)} {b x dx : Addr} {ob o1 o2 : Obj} (o : ∀ p ∈ pre ++ nl, p.1 ≠ b) (hm : (b, ob) ∈ news) (lt : ∀ p ∈ news, p.1 < dx) (lx : @LT.lt Nat _ dx x) : ∀ p ∈ pre ++ ((x, o1) :: (dx, o2) :: nl), p.1 ≠ b := fun p hp => by
  have hb : @LT.lt Nat _ b dx := lt _ hm
  rcases List.mem_append.mp hp with hp | hp
  · exact o p (List.mem_append_left _ hp)
  · rcases List.mem_cons.mp hp with rfl | hp
    · show x ≠ b
      intro e; subst e; exact absurd (Nat.lt_trans hb lx) (Nat.lt_irrefl _)
    · rcases List.mem_cons.mp hp with rfl | hp
      · show dx ≠ b
        intro e; subst e; exact absurd hb (Nat.lt_irrefl _)
      · exact o p (List.mem_append_right _ hp)
theorem Off.new {pre nl news : List (Addr × Obj)} {hx dd x dx : Addr} {oa ob o1 o2 : Obj} (o : Off pre nl hx dd) (h1 : (hx, oa) ∈ news) (h2 : (dd, ob) ∈ news) (lt : ∀ p ∈ news, p.1 < dx) (lx : @LT.lt Nat _ dx x) : Off pre ((x, o1) :: (dx, o2) :: nl) hx dd :=
  ⟨off_new o.l h1 lt lx, off_new o.r h2 lt lx⟩
theorem new_hole {h₀ h : Heap} {L x dx : Addr} {nl news pre : List (Addr × Obj)} {D : Addr → Prop} {σ : Addr → Nd} {k v : Int} {kt vt : Tok} (N : News h₀ L h ((x, ndObj (newNd k v kt vt) dx) :: (dx, dictOf [] 0) :: news)) (hc : Hole nl news pre) (H : HS nl D σ) (lt : ∀ p ∈ news, p.1 < dx) (lx : @LT.lt Nat _ dx x) :
    News h₀ L h (pre ++ ((x, ndObj (newNd k v kt vt) dx) :: (dx, dictOf [] 0) :: nl)) ∧ HS ((x, ndObj (newNd k v kt vt) dx) :: (dx, dictOf [] 0) :: nl) (fun b => b = x ∨ D b) (upd σ x (newNd k v kt vt)) ∧ ¬ D x ∧
      KS (fun b => b = x ∨ D b) ((x, ndObj (newNd k v kt vt) dx) :: (dx, dictOf [] 0) :: nl) ((x, ndObj (newNd k v kt vt) dx) :: (dx, dictOf [] 0) :: nl) ∧ (fun b => b = x ∨ D b) x := by
  have nD : ¬ D x := fun hD => by
    obtain ⟨dy, h1, _⟩ := H.at_ x hD
    have : @LT.lt Nat _ x dx := lt _ (hc.mem h1)
    exact absurd (Nat.lt_trans this lx) (Nat.lt_irrefl _)
  refine ⟨News.sub N fun p hp => ?_, ⟨fun b hb => ?_, fun b f y hb e => ?_⟩, nD, KS.refl, .inl rfl⟩
  · rw [hc.is.1]
    rcases List.mem_append.mp hp with hp | hp
    · exact List.mem_cons_of_mem _ (List.mem_cons_of_mem _ (List.mem_append_left _ hp))
    · rcases List.mem_cons.mp hp with rfl | hp
      · exact List.mem_cons_self
      · rcases List.mem_cons.mp hp with rfl | hp
        · exact List.mem_cons_of_mem _ List.mem_cons_self
        · exact List.mem_cons_of_mem _ (List.mem_cons_of_mem _ (List.mem_append_right _ hp))
  · rcases hb with rfl | hb
    · exact ⟨dx, by rw [upd_eq]; exact List.mem_cons_self, List.mem_cons_of_mem _ List.mem_cons_self⟩
    · have hbx : b ≠ x := fun e => nD (e ▸ hb)
      obtain ⟨dy, h1, h2⟩ := H.at_ b hb
      exact ⟨dy, by rw [upd_ne hbx]; exact List.mem_cons_of_mem _ (List.mem_cons_of_mem _ h1), List.mem_cons_of_mem _ (List.mem_cons_of_mem _ h2)⟩
  · rcases hb with rfl | hb
    · rw [upd_eq] at e; cases f <;> cases e
    · have hbx : b ≠ x := fun e => nD (e ▸ hb)
      rw [upd_ne hbx] at e
      exact .inr (H.cl b f y hb e)
/-- what stays and what comes, a new node being let: new addresses lie apart from what stands ahead -/
structure KN (D : Addr → Prop) (pre nl nl' : List (Addr × Obj)) : Prop where
  kept : ∀ p ∈ nl, ¬ D p.1 → p ∈ nl'
  sub : ∀ p ∈ nl', (∃ q ∈ nl, q.1 = p.1) ∨ ∀ r ∈ pre, p.1 ≠ r.1
theorem KS.kn {D : Addr → Prop} {pre nl nl' : List (Addr × Obj)} (k : KS D nl nl') : KN D pre nl nl' := ⟨k.kept, fun p hp => .inl (k.sub p hp)⟩
theorem KN.off {D : Addr → Prop} {pre nl nl' : List (Addr × Obj)} {b : Addr} {o : Obj} (k : KN D pre nl nl') (h : ∀ p ∈ nl, p.1 ≠ b) (hb : (b, o) ∈ pre) : ∀ p ∈ nl', p.1 ≠ b := fun p hp => by
  rcases k.sub p hp with ⟨q, hq, e⟩ | h2
  · rw [← e]; exact h q hq
  · exact h2 _ hb
theorem KN.new {D : Addr → Prop} {pre nl nl' news : List (Addr × Obj)} {x dx : Addr} {o1 o2 : Obj} (k : KS (fun b => b = x ∨ D b) ((x, o1) :: (dx, o2) :: nl) nl') (hp : ∀ p ∈ pre, p ∈ news) (hn : ∀ p ∈ nl, p ∈ news) (lt : ∀ p ∈ news, p.1 < dx) (lx : @LT.lt Nat _ dx x) : KN D pre nl nl' := by
  refine ⟨fun p hp hD => k.kept p (List.mem_cons_of_mem _ (List.mem_cons_of_mem _ hp)) ?_, fun p h => ?_⟩
  · rintro (e | h)
    · have : @LT.lt Nat _ p.1 dx := lt _ (hn p hp)
      rw [e] at this
      exact absurd (Nat.lt_trans this lx) (Nat.lt_irrefl _)
    · exact hD h
  · obtain ⟨q, hq, e⟩ := k.sub p h
    rcases List.mem_cons.mp hq with rfl | hq
    · right; intro r hr z
      have : @LT.lt Nat _ r.1 dx := lt _ (hp r hr)
      dsimp only at e
      rw [← z, ← e] at this
      exact absurd (Nat.lt_trans this lx) (Nat.lt_irrefl _)
    · rcases List.mem_cons.mp hq with rfl | hq
      · right; intro r hr z
        have : @LT.lt Nat _ r.1 dx := lt _ (hp r hr)
        dsimp only at e
        rw [← z, ← e] at this
        exact absurd this (Nat.lt_irrefl _)
      · exact .inl ⟨q, hq, e⟩

theorem new_hole2 {h₀ h : Heap} {L x dx hx dd : Addr} {nl news pre pre0 : List (Addr × Obj)} {D : Addr → Prop} {σ : Addr → Nd} {k v : Int} {kt vt : Tok} {oa ob : Obj} (N : News h₀ L h ((x, ndObj (newNd k v kt vt) dx) :: (dx, dictOf [] 0) :: news)) (hc : Hole nl news pre) (H : HS nl D σ) (lt : ∀ p ∈ news, p.1 < dx) (lx : @LT.lt Nat _ dx x)
    (off : Off pre0 nl hx dd) (m1 : (hx, oa) ∈ news) (m2 : (dd, ob) ∈ news) :
    News h₀ L h (pre ++ ((x, ndObj (newNd k v kt vt) dx) :: (dx, dictOf [] 0) :: nl)) ∧ HS ((x, ndObj (newNd k v kt vt) dx) :: (dx, dictOf [] 0) :: nl) (fun b => b = x ∨ D b) (upd σ x (newNd k v kt vt)) ∧ ¬ D x ∧
      KS (fun b => b = x ∨ D b) ((x, ndObj (newNd k v kt vt) dx) :: (dx, dictOf [] 0) :: nl) ((x, ndObj (newNd k v kt vt) dx) :: (dx, dictOf [] 0) :: nl) ∧ (fun b => b = x ∨ D b) x ∧ Off pre0 ((x, ndObj (newNd k v kt vt) dx) :: (dx, dictOf [] 0) :: nl) hx dd :=
  have q := new_hole N hc H lt lx
  ⟨q.1, q.2.1, q.2.2.1, q.2.2.2.1, q.2.2.2.2, off.new m1 m2 lt lx⟩
end Mine
namespace Mine
theorem KS.off {D : Addr → Prop} {pre nl nl' : List (Addr × Obj)} {hx dd : Addr} (h : KS D nl nl') (o : Off pre nl hx dd) : Off pre nl' hx dd := ⟨ks_off h o.l, ks_off h o.r⟩
end Mine
namespace Mine
section
variable {w : World} {A : Around} {E : Value → Shared → Prop} {s : Shared} {h₀ : Heap} {L a b : Addr} {nl : List (Addr × Obj)} {news pre : List (Addr × Obj)} {D : Addr → Prop} {σ : Addr → Nd}
theorem nd_is {Q : Value → Shared → Prop} (N : News h₀ L s.heap news) (hc : Hole nl news pre) (H : HS nl D σ) (ha : D a) (hb : D b) (h0 : a = b → Q (.bool true) s) (h1 : ¬ a = b → Q (.bool false) s) : wpAny (model PR w) A (compareOp .Is (.ref a) (.ref b)) Q E s := by
  by_cases e : a = b
  · subst e; exact wpAny_is_ref_self (h0 rfl)
  · obtain ⟨dx, h2, _⟩ := H.at_ a ha
    obtain ⟨dy, h3, _⟩ := H.at_ b hb
    exact wpAny_is_ref_other e (N _ (hc.mem h2)).1 (N _ (hc.mem h3)).1 (by intro z; cases z) (h1 e)
theorem nd_isNot {Q : Value → Shared → Prop} (N : News h₀ L s.heap news) (hc : Hole nl news pre) (H : HS nl D σ) (ha : D a) (hb : D b) (h0 : a = b → Q (.bool false) s) (h1 : ¬ a = b → Q (.bool true) s) : wpAny (model PR w) A (compareOp .IsNot (.ref a) (.ref b)) Q E s := by
  by_cases e : a = b
  · subst e; exact wpAny_isNot_ref_self (h0 rfl)
  · obtain ⟨dx, h2, _⟩ := H.at_ a ha
    obtain ⟨dy, h3, _⟩ := H.at_ b hb
    exact wpAny_isNot_ref_other e (N _ (hc.mem h2)).1 (N _ (hc.mem h3)).1 (by intro z; cases z) (h1 e)
end
end Mine
namespace Mine
theorem inc_nd {D : Addr → Prop} {σ : Addr → Nd} {t : BT} {kvs : List (Int × Value)} {a : Addr} (h : PI D σ t kvs) (ha : a ∈ t.ad) : (a :: (sb a t).ad).Nodup := (inc_args (v := 0) (vt := 0) h ha).2.2.2.1
theorem inc_dom {D : Addr → Prop} {σ : Addr → Nd} {t : BT} {kvs : List (Int × Value)} {a : Addr} (h : PI D σ t kvs) (ha : a ∈ t.ad) : ∀ b ∈ (sb a t).ad, D b := (inc_args (v := 0) (vt := 0) h ha).2.2.2.2
end Mine
namespace Mine
theorem mergeD {D : Addr → Prop} {σ σ₁ σ' : Addr → Nd} {t t' : BT} {kvs : List (Int × Value)} {a c : Addr} {pv : Int} (h : PI D σ t kvs) (ha : a ∈ t.ad) (g : MergeOut σ₁ a (sb a t) pv σ' t') (e : t'.hd = some c) : D c := inc_dom h ha c (g.perm.subset (hd_mem e))
end Mine
end
section
open PySem PySem.W PySem.Calls PyProof.Rows
namespace Mine
def kids : BT → List (Addr × BT)
  | .nil => []
  | .node a l n => (a, l) :: kids n
inductive Bfs : List (Addr × BT) → List Addr → List Addr → Prop
  | done (T : List Addr) : Bfs [] T T
  | step {a : Addr} {l : BT} {q : List (Addr × BT)} {T R : List Addr} (h : Bfs (q ++ kids l) (T ++ (kids l).map (·.1)) R) : Bfs ((a, l) :: q) T R
theorem Bfs.det {q : List (Addr × BT)} {T R : List Addr} (h : Bfs q T R) : ∀ {R' : List Addr}, Bfs q T R' → R = R' := by
  induction h with
  | done T => intro R' h'; cases h'; rfl
  | step h ih => intro R' h'; cases h' with | step h' => exact ih h'
def adq (q : List (Addr × BT)) : List Addr := q.flatMap fun p => p.2.ad
theorem adq_cons {p : Addr × BT} {q : List (Addr × BT)} : adq (p :: q) = p.2.ad ++ adq q := by simp [adq]
theorem adq_append {q r : List (Addr × BT)} : adq (q ++ r) = adq q ++ adq r := by simp [adq]
theorem adq_nil : adq [] = [] := rfl
theorem kids_perm : ∀ {t : BT}, ((kids t).map (·.1) ++ adq (kids t)).Perm t.ad
  | .nil => List.Perm.refl _
  | .node a l n => by
    simp only [kids, List.map_cons, adq_cons, BT.ad, List.cons_append]
    refine List.Perm.cons a ?_
    have h := kids_perm (t := n)
    refine List.Perm.trans ?_ (List.Perm.append_left l.ad h)
    rw [← List.append_assoc, ← List.append_assoc]
    exact List.Perm.append_right _ List.perm_append_comm
theorem Bfs.perm {q : List (Addr × BT)} {T R : List Addr} (h : Bfs q T R) : R.Perm (T ++ adq q) := by
  induction h with
  | done T => simp [adq]
  | @step a l q T R h ih =>
    refine ih.trans ?_
    rw [adq_append, adq_cons, List.append_assoc]
    refine List.Perm.append_left T ?_
    rw [← List.append_assoc]
    refine (List.Perm.append_right _ List.perm_append_comm).trans ?_
    rw [List.append_assoc]
    refine (List.Perm.append_left _ kids_perm).trans List.perm_append_comm
theorem Bfs.head {q : List (Addr × BT)} {a : Addr} {R T : List Addr} (h : Bfs q T R) : ∀ {r : List Addr}, T = a :: r → ∃ r', R = a :: r' := by
  induction h with
  | done T => intro r e; exact ⟨r, e⟩
  | @step b l q T R h ih =>
    intro r e
    subst e
    exact ih (r := r ++ (kids l).map (·.1)) rfl
section
variable {w : World} {A : Around} {E : Value → Shared → Prop} {s : Shared} {h₀ : Heap} {L a : Addr} {m : Str → Option Value} {news pre nl : List (Addr × Obj)} {D : Addr → Prop} {σ : Addr → Nd}
theorem nd_known {expr : Bool} {Q : Value → Shared → Prop} {v : Option Addr} (f : Fl) (F : Fr h₀ L s.heap m) (X : (KK w).In h₀) (N : News h₀ L s.heap news) (hc : Hole nl news pre) (H : HS nl D σ) (ha : D a) (e : (σ a).get f = v) (h : Q (oref v) { s with toks := s.toks + 1 }) :
    wpAny (model PR w) A (getAttr (.ref a) f.nm expr) Q E s := nd_raw f F X N hc H ha (by rw [e]; exact h)
theorem nd_isNot_same {Q : Value → Shared → Prop} (N : News h₀ L s.heap news) (hc : Hole nl news pre) (H : HS nl D σ) (ha : D a) (h : Q (.bool false) s) : wpAny (model PR w) A (compareOp .IsNot (.ref a) (.ref a)) Q E s :=
  nd_isNot N hc H ha ha (fun _ => h) (fun n => absurd rfl n)
end
/-- a queue's trees, as they lie in the heap -/
def QK (D : Addr → Prop) (σ : Addr → Nd) (q : List (Addr × BT)) : Prop := ∀ p ∈ q, D p.1 ∧ (∀ b ∈ p.2.ad, D b) ∧ (σ p.1).left = p.2.hd ∧ Rep σ (some p.1) none p.2 ∧ HO (fun b => (σ b).value) (σ p.1).value p.2
structure BO (D : Addr → Prop) (σ : Addr → Nd) (Q0 : List (Addr × BT)) (T0 : List Addr) (q : List (Addr × BT)) (T : List Addr) (n : Nat) : Prop where
  qk : QK D σ q
  bf : ∀ R, Bfs q T R → Bfs Q0 T0 R
  sz : T.length + (adq q).length ≤ 8
  sq : q.length ≤ T.length
  ms : n = q.length + (adq q).length
structure BI (D : Addr → Prop) (σ : Addr → Nd) (Q0 : List (Addr × BT)) (T0 : List Addr) (x : Addr) (pv : Option Addr) (F : BT) (q : List (Addr × BT)) (T : List Addr) (n : Nat) : Prop where
  dx : D x
  dF : ∀ b ∈ F.ad, D b
  rp : Rep σ (some x) pv F
  ho : HO (fun b => (σ b).value) (σ x).value F
  qk : QK D σ q
  bf : ∀ R, Bfs (q ++ kids F) (T ++ (kids F).map (·.1)) R → Bfs Q0 T0 R
  sz : T.length + F.ad.length + (adq q).length ≤ 8
  sq : q.length ≤ T.length
  ms : n = q.length + (adq q).length + F.ad.length
section
variable {D : Addr → Prop} {σ : Addr → Nd} {Q0 q : List (Addr × BT)} {T0 T : List Addr} {x c : Addr} {pv : Option Addr} {F cl l n : BT} {k : Nat}
theorem BI.step (h : BI D σ Q0 T0 x pv (.node c cl n) q T k) : BI D σ Q0 T0 x (some c) n (q ++ [(c, cl)]) (T ++ [c]) k where
  dx := h.dx
  dF := fun b hb => h.dF b (by simp [BT.ad, hb])
  rp := h.rp.2.2.2.2.2
  ho := h.ho.2.2
  qk := fun p hp => by
    rcases List.mem_append.mp hp with hp | hp
    · exact h.qk p hp
    · rw [List.mem_singleton.mp hp]
      exact ⟨h.dF c (by simp [BT.ad]), fun b hb => h.dF b (by simp [BT.ad, hb]), h.rp.1, h.rp.2.2.2.2.1, h.ho.2.1⟩
  bf := fun R hR => h.bf R (by simpa [kids] using hR)
  sz := by have := h.sz; simp only [BT.ad, List.length_cons, List.length_append, adq_append, adq_cons, adq_nil, List.length_nil, List.append_nil] at this ⊢; omega
  sq := by have := h.sq; simp only [List.length_append, List.length_cons, List.length_nil]; omega
  ms := by have := h.ms; simp only [BT.ad, List.length_cons, List.length_append, adq_append, adq_cons, adq_nil, List.length_nil, List.append_nil] at this ⊢; omega
theorem BI.facts (h : BI D σ Q0 T0 x pv (.node c cl n) q T k) : D c ∧ (σ c).get .parent = some x ∧ (σ c).get .prev = pv ∧ ¬ (σ c).value < (σ x).value ∧ T.length ≤ 7 ∧ (σ c).get .next = n.hd :=
  ⟨h.dF c (by simp [BT.ad]), h.rp.2.2.1, h.rp.2.2.2.1, Int.not_lt.mpr h.ho.1, by have := h.sz; simp only [BT.ad, List.length_cons] at this; omega, h.rp.2.1⟩
theorem BI.out (h : BI D σ Q0 T0 x pv .nil q T k) : BO D σ Q0 T0 q T k where
  qk := h.qk
  bf := fun R hR => h.bf R (by simpa [kids] using hR)
  sz := by have := h.sz; simpa [BT.ad] using this
  sq := h.sq
  ms := by have := h.ms; simpa [BT.ad] using this
theorem BO.inn (h : BO D σ Q0 T0 ((x, l) :: q) T k) : ∃ k', k = k' + 1 ∧ BI D σ Q0 T0 x none l q T k' ∧ (σ x).get .left = l.hd ∧ D x := by
  obtain ⟨h1, h2, h3, h4, h5⟩ := h.qk (x, l) (List.mem_cons_self ..)
  refine ⟨q.length + (adq q).length + l.ad.length, ?_, ⟨h1, h2, h4, h5, fun p hp => h.qk p (List.mem_cons_of_mem _ hp), fun R hR => h.bf R (.step hR), ?_, by have := h.sq; simp only [List.length_cons] at this; omega, rfl⟩, h3, h1⟩
  · have := h.ms; simp only [adq_cons, List.length_cons, List.length_append] at this; omega
  · have := h.sz; simp only [adq_cons, List.length_append] at this; omega
theorem BO.start (dx : D x) (dF : ∀ b ∈ l.ad, D b) (hl : (σ x).left = l.hd) (hR : Rep σ (some x) none l) (hO : HO (fun b => (σ b).value) (σ x).value l) (sz : l.ad.length ≤ 7) : BO D σ [(x, l)] [x] [(x, l)] [x] (1 + l.ad.length) where
  qk := fun p hp => by rw [List.mem_singleton.mp hp]; exact ⟨dx, dF, hl, hR, hO⟩
  bf := fun _ h => h
  sz := by simp only [adq_cons, adq_nil, List.length_cons, List.length_nil, List.append_nil]; omega
  sq := Nat.le_refl _
  ms := by simp only [adq_cons, adq_nil, List.length_cons, List.length_nil, List.append_nil]
theorem BO.fin (h : BO D σ Q0 T0 [] T k) : Bfs Q0 T0 T := h.bf T (.done T)
end
section
variable {w : World} {A : Around} {E : Value → Shared → Prop} {s : Shared} {h₀ : Heap} {L : Addr} {m : Str → Option Value} {news : List (Addr × Obj)} {a b : Addr} {vs r : List Value} {v : Value} {Q : Value → Shared → Prop} {k k2 : Nat}
theorem news_list (N : News h₀ L s.heap news) (hm : (a, listOf (List.toArray vs) k) ∈ news) : s.heap.IsList a (List.toArray vs) := News.isList N hm
theorem ne_nil_cons (N : News h₀ L s.heap news) (ha : (a, listOf (List.toArray (v :: r)) k) ∈ news) (hb : (b, listOf (List.toArray []) k2) ∈ news) (hu : A.units < cLine) (h : Q (.bool true) s) : wpAny (model PR w) A (compareOp .NotEq (.ref a) (.ref b)) Q E s :=
  PySem.SeqAt.RcNeAt.lists_lengths (news_list N ha) (news_list N hb) (by simp) hu _ _ _ _ h
theorem ne_nil_nil (N : News h₀ L s.heap news) (ha : (a, listOf (List.toArray []) k) ∈ news) (hb : (b, listOf (List.toArray []) k2) ∈ news) (hu : A.units < cLine) (h : Q (.bool false) s) : wpAny (model PR w) A (compareOp .NotEq (.ref a) (.ref b)) Q E s :=
  PySem.SeqAt.RcNeAt.lists (e := fun _ => true) (news_list N ha) (news_list N hb) rfl hu (fun j h1 _ => absurd h1 (by simp)) _ _ _ _ h
theorem ne_same (N : News h₀ L s.heap news) (ha : (a, listOf (List.toArray vs) k) ∈ news) (hb : (b, listOf (List.toArray vs) k2) ∈ news) (hu : A.units < cLine) (h : Q (.bool false) s) : wpAny (model PR w) A (compareOp .NotEq (.ref a) (.ref b)) Q E s :=
  PySem.SeqAt.RcNeAt.lists (e := fun _ => true) (news_list N ha) (news_list N hb) rfl hu (fun j h1 _ => PySem.SeqAt.EqAt.same _) _ _ _ _ (by
    rw [show (List.range (List.toArray vs).size).all (fun _ => true) = true from List.all_eq_true.mpr fun _ _ => rfl]; exact h)
theorem eq_nil_nil (N : News h₀ L s.heap news) (ha : (a, listOf (List.toArray []) k) ∈ news) (hb : (b, listOf (List.toArray []) k2) ∈ news) (hu : A.units < cLine) (h : Q (.bool true) s) : wpAny (model PR w) A (compareOp .Eq (.ref a) (.ref b)) Q E s :=
  PySem.SeqAt.RcAt.lists (e := fun _ => true) (news_list N ha) (news_list N hb) rfl hu (fun j h1 _ => absurd h1 (by simp)) _ _ _ _ h
theorem pick1 : (slicePick (List.toArray (v :: r)) (some 1) none none).toList = r := by
  rw [kmk_pick_nat (a := 1) (b := r.length + 1) _ (by simp [sliceBounds]; omega)]
  simp
theorem add_own {ws : List Value} (F : Fr h₀ L s.heap m) (N : News h₀ L s.heap news) (ha : (a, listOf (List.toArray vs) k) ∈ news) (hb : (b, listOf (List.toArray ws) k2) ∈ news)
    (h : ∀ D h', Fr h₀ L h' m → News h₀ L h' ((D, listOf (List.toArray (vs ++ ws)) 0) :: news) → (∀ p ∈ news, p.1 < D) → Q (.ref D) { s with heap := h' })
    (hz : vs.length + ws.length ≤ sizeLine) : wpAny (model PR w) A (binaryOp .Add (.ref a) (.ref b)) Q E s :=
  kmk_add_lit F N (news_list N ha) (news_list N hb) rfl h hz
theorem len_own (N : News h₀ L s.heap news) (ha : (a, listOf (List.toArray vs) k) ∈ news) (hz : vs.length ≤ 1000) (h : Q (.int (vs.length : Nat) (s.toks + 1)) { s with toks := s.toks + 1 + 1 }) :
    wpAny (model PR w) A (call (.builtin "len") [.ref a]) Q E s :=
  kun_lenL (news_list N ha) (k := (vs.length : Nat)) (by simp) (by omega) h
theorem item_own {value slice : PySem.Expr} {u : Tok} {i : Int} {x : Value} (N : News h₀ L s.heap news) (ha : (a, listOf (List.toArray vs) k) ∈ news) (h0 : 0 ≤ i) (hfit : i < 2 ^ 63) (hx : vs[i.toNat]? = some x) (h : Q x s)
    (hs : subscripted slice false (.ref a) (.int i u) = operate [.ref a, .int i u] (getItem (.ref a) (.int i u)) := by with_unfolding_all rfl) (hg : ∀ r, letTemporaryGo value (.ref a) r = pure () := by intro _; with_unfolding_all rfl) :
    wpAny (model PR w) A (subscriptTail value slice (.ref a) (.int i u)) Q E s := item_listL (news_list N ha) h0 hfit hx h hs hg
theorem tail_own {value slice : PySem.Expr} {x : Int} {t : Tok} (e : x = 1) (F : Fr h₀ L s.heap m) (N : News h₀ L s.heap news) (ha : (a, listOf (List.toArray (v :: r)) k) ∈ news) 
    (h : ∀ D h', Fr h₀ L h' m → News h₀ L h' ((D, listOf (List.toArray r) 0) :: news) → (∀ p ∈ news, p.1 < D) → Q (.ref D) { s with heap := h' })
    (hs : subscripted slice false (.ref a) (.ref s.heap.objs.size) = operate [.ref s.heap.objs.size, .ref a] (getItem (.ref a) (.ref s.heap.objs.size))) (ht : ∀ r, letTemporaryGo value (.ref a) r = pure ()) (hz : (v :: r).length ≤ sizeLine) :
    wpAny (model PR w) A (subscriptTail value slice (.ref a) (.ref s.heap.objs.size)) Q E { s with heap := s.heap.push { cls := .type "slice", data := .fields #[.int x t, .none, .none] } } := by
  subst e
  exact kmk_slice_lit F N (news_list N ha) (.int _ _) .none pick1 h hs ht hz
theorem news_one {h : Heap} {l base : List (Addr × Obj)} {e1 : Addr × Obj} (N : News h₀ L h l) (h1 : e1 ∈ l) (h3 : ∀ p ∈ base, p ∈ l) : News h₀ L h (e1 :: base) := News.sub N fun p hp => by
  rcases List.mem_cons.mp hp with rfl | hp
  · exact h1
  · exact h3 p hp
theorem news_two {h : Heap} {l base : List (Addr × Obj)} {e1 e2 : Addr × Obj} (N : News h₀ L h l) (h1 : e1 ∈ l) (h2 : e2 ∈ l) (h3 : ∀ p ∈ base, p ∈ l) : News h₀ L h (e1 :: e2 :: base) := News.sub N fun p hp => by
  rcases List.mem_cons.mp hp with rfl | hp
  · exact h1
  · rcases List.mem_cons.mp hp with rfl | hp
    · exact h2
    · exact h3 p hp
end
end Mine
end
section
open PySem PySem.W PySem.Calls PyProof.Rows
namespace Mine
section
variable {prog : Program} {w : World} {A : Around} {h₀ : Heap} {L : Addr} {m : Str → Option Value} {env : Env} {elt ct : PySem.Expr} {x : Str} {scope : Scope} {cl : List (Str × Addr)} {s : Shared} {S : List (Addr × Obj) → Prop} {P : Nat → Value → Prop} {Fin : List Value → List (Addr × Obj) → Prop} {news : List (Addr × Obj)}
theorem comp_ind {n : Nat} (J : Nat → List Value → Prop) (h0 : J 0 [])
    (step : ∀ k i ys, i + (k + 1) = n → J i ys → (∀ ys', J (i + 1) ys' → LCg.CompRest prog w A h₀ L m env elt x scope cl s S P Fin k (i + 1) ys' news) → LCg.CompRest prog w A h₀ L m env elt x scope cl s S P Fin (k + 1) i ys news)
    (fin : ∀ ys, J n ys → Fin ys news) : LCg.CompRest prog w A h₀ L m env elt x scope cl s S P Fin n 0 [] news := by
  have g : ∀ k i ys, i + k = n → J i ys → LCg.CompRest prog w A h₀ L m env elt x scope cl s S P Fin k i ys news := by
    intro k
    induction k with
    | zero => intro i ys e hJ; exact LCg.CompRest.zero (fin ys (by have : i = n := e; exact this ▸ hJ))
    | succ k ih => intro i ys e hJ; exact step k i ys e hJ fun ys' hJ' => ih (i + 1) ys' (by omega) hJ'
  exact g n 0 [] (by omega) h0
theorem comp_indT {n : Nat} (J : Nat → List Value → Prop) (h0 : J 0 [])
    (step : ∀ k i ys, i + (k + 1) = n → J i ys → (∀ ys', J (i + 1) ys' → LCt.CompRestT prog w A h₀ L m env ct elt x scope cl s S P Fin k (i + 1) ys' news) → LCt.CompRestT prog w A h₀ L m env ct elt x scope cl s S P Fin (k + 1) i ys news)
    (fin : ∀ ys, J n ys → Fin ys news) : LCt.CompRestT prog w A h₀ L m env ct elt x scope cl s S P Fin n 0 [] news := by
  have g : ∀ k i ys, i + k = n → J i ys → LCt.CompRestT prog w A h₀ L m env ct elt x scope cl s S P Fin k i ys news := by
    intro k
    induction k with
    | zero => intro i ys e hJ; exact LCt.CompRestT.zero (fin ys (by have : i = n := e; exact this ▸ hJ))
    | succ k ih => intro i ys e hJ; exact step k i ys e hJ fun ys' hJ' => ih (i + 1) ys' (by omega) hJ'
  exact g n 0 [] (by omega) h0
end
theorem at_ref {as : List Addr} {i : Nat} {v : Value} (h : (List.toArray (as.map Value.ref))[i]? = some v) : ∃ a, as[i]? = some a ∧ v = .ref a := by
  simp only [List.getElem?_toArray, List.getElem?_map, Option.map_eq_some_iff] at h
  obtain ⟨a, e, r⟩ := h
  exact ⟨a, e, r.symm⟩
theorem News.drop3 {h₀ h : Heap} {L : Addr} {a b c : Addr × Obj} {l : List (Addr × Obj)} (N : News h₀ L h (a :: b :: c :: l)) : News h₀ L h l := News.sub N fun p hp => by simp [hp]
def keyV (σ : Addr → Nd) (a : Addr) : Value := .int (σ a).key (σ a).kt
theorem keys_are {σ : Addr → Nd} : ∀ as : List Addr, IntsAre (as.map (keyV σ)) (as.map fun a => (σ a).key)
  | [] => .nil
  | a :: r => .cons _ _ (keys_are r)
theorem take_snoc {α β : Type} {f : α → β} {l : List α} {i : Nat} {a : α} (h : l[i]? = some a) : (l.take (i + 1)).map f = (l.take i).map f ++ [f a] := by
  rw [List.take_succ, h]; simp
end Mine
end
section
open PySem PySem.W PySem.Calls PyProof.Rows
namespace Mine
def ival : Value → Int
  | .int i _ => i
  | _ => 0
theorem keys_ints {prog : Program} {w : World} : ∀ {kvs : List (Int × Value)} {vs : List Value}, vs.length = kvs.length → (∀ (j : Nat) (v : Value), vs[j]? = some v → ∃ k x, kvs[j]? = some (k, x) ∧ (intKind prog w).is k v = true) → IntsAre vs (kvs.map (·.1))
  | [], [], _, _ => .nil
  | (k, x) :: r, v :: vs, hl, h => by
    obtain ⟨k', x', e, hk⟩ := h 0 v rfl
    cases e
    obtain ⟨t, rfl⟩ := Value.isInt_shape hk
    exact .cons _ _ (keys_ints (by simpa using hl) fun j u hu => h (j + 1) u hu)
section
variable {w : World} {A : Around} {E : Value → Shared → Prop} {s : Shared} {h₀ : Heap} {L D d : Addr} {m : Str → Option Value} {news : List (Addr × Obj)} {vs : List Value} {ns : List Int} {c : Nat} {Q : Value → Shared → Prop} {o : Obj} {kvs : List (Int × Value)}
theorem sort_front (F : Fr h₀ L s.heap m) (N : News h₀ L s.heap ((D, listOf (List.toArray vs) c) :: news)) (l1 : ∀ q ∈ news, q.1 < D) (hI : IntsAre vs ns) (h64 : vs.length < 64)
    (h : ∀ h' vs' ns' c', Fr h₀ L h' m → News h₀ L h' ((D, listOf (List.toArray vs') c') :: news) → IntsAre vs' ns' → ns'.Perm ns → ns'.Pairwise (· ≤ ·) → Q .none { s with heap := h' }) :
    wpAny (model PR w) A (call (.builtin "list.sort") [.ref D]) Q E s := by
  have z := N (D, listOf (List.toArray vs) c) (.head _)
  refine wpAny_call_entry PyProof.Rows.slot_list_sort ⟨_, z.1, rfl⟩ PyProof.Rows.entry_list_sort (list_sort_tree (n := c) z.1 hI h64 fun out ns' a1 a2 a3 => ⟨.none, rfl, ?_⟩) (PyProof.Rows.args_list_sort _)
  obtain ⟨e, he⟩ := sortedHeap_at (out := out) z.1
  have up : ∀ b x, b ≠ D → s.heap.get? b = some x → (sortedHeap s.heap D vs out).get? b = some x := fun b x hb hx => (sortedHeap_old hb (Heap.lt_size hx)).trans hx
  refine h _ out.toList ns' e ⟨F.ns.at' fun x hx => up _ _ (Ne.symm z.2.1) hx, fun b x e => up _ _ (fun q => by rw [q, z.2.2] at e; cases e) (F.keep b x e), F.above⟩ (fun p hp => ?_) a1 a2 a3
  rcases List.mem_cons.mp hp with rfl | hp
  · exact ⟨by rw [Array.toArray_toList]; exact he, z.2⟩
  · have y := N p (List.mem_cons_of_mem _ hp)
    exact ⟨up _ _ (Nat.ne_of_lt (l1 p hp)) y.1, y.2⟩
theorem sorted_dict (hh : A.handled = none) (F : Fr h₀ L s.heap m) (N : News h₀ L s.heap news) (hp : (d, o) ∈ news) (hd : o.IsDictOf (intKind PR w) kvs) (lo : (d == sysModules) = false) (hz : kvs.length ≤ 20)
    (h : ∀ D h' tk vs' ns' c', Fr h₀ L h' m → News h₀ L h' ((D, listOf (List.toArray vs') c') :: news) → (∀ p ∈ news, p.1 < D) → IntsAre vs' ns' → ns'.Perm (kvs.map (·.1)) → ns'.Pairwise (· ≤ ·) → Q (.ref D) { s with heap := h', toks := tk }) :
    wpAny (model PR w) A (call (.builtin "sorted") [.ref d]) Q E s := by
  obtain ⟨ep, hat⟩ := (kda_dict N hp hd).dictAt
  refine kdu_sorted (kdl_dict (knd := intKind PR w) (kvs := kvs) (ep := ep) lo) hh F N hat (kdl_size (by omega)) fun B h' tk vs F' N' l1 hl hv => ?_
  exact sort_front (c := 0) F' N' l1 (keys_ints hl hv) (by omega) fun h'' vs' ns' c' F'' N'' a1 a2 a3 => h B h'' tk vs' ns' c' F'' N'' l1 a1 a2 a3
theorem val_at {p : Int × Value} (hall : ∀ q ∈ kvs, ∃ i t, q.2 = Value.int i t) {i : Nat} (h : kvs[i]? = some p) : ∃ t, p.2 = Value.int (((kvs[i]?).map fun q => ival q.2).getD 0) t := by
  obtain ⟨j, t, e⟩ := hall p (List.mem_of_getElem? h)
  exact ⟨t, by rw [h]; simp [e, ival]⟩
theorem min_values {v : Addr} (hh : A.handled = none) (F : Fr h₀ L s.heap m) (N : News h₀ L s.heap news) (hv : (v, { cls := .type "dict_values", data := .fields #[.ref d] }) ∈ news) (hp : (d, o) ∈ news) (hd : o.IsDictOf (intKind PR w) kvs)
    (hall : ∀ q ∈ kvs, ∃ i t, q.2 = Value.int i t) (hn : 0 < kvs.length)
    (h : ∀ h' tk M t, Fr h₀ L h' m → News h₀ L h' news → (∃ q ∈ kvs, ival q.2 = M) → (∀ q ∈ kvs, M ≤ ival q.2) → Q (.int M t) { s with heap := h', toks := tk }) :
    wpAny (model PR w) A (call (.builtin "min") [.ref v]) Q E s := by
  obtain ⟨ep, hat⟩ := (kda_dict N hp hd).dictAt
  refine call_min_walk ?_
  have K := kdl_values (knd := intKind PR w) (kvs := kvs) (ep := ep) (r := v) (d := d)
  have hok : s.heap.IsValuesView v d ∧ s.heap.DictAt (intKind PR w) d kvs ep := ⟨⟨_, (N _ hv).1, rfl, rfl⟩, hat⟩
  obtain ⟨oI, St, hit, W, st⟩ := K.iter A.in1 s hh hok
  refine hit _ _ ⟨s.heap.objs.size, _, _, _, _, _, _, rfl, W, st, fun b hb => ?_, hn, CmpOf.ints_lt (fun i => ((kvs[i]?).map fun q => ival q.2).getD 0) (fun i u hu => ?_), fun u h' tk hP hk => ?_⟩
  · show b < (s.heap.push oI).objs.size
    rw [size_push']
    rcases List.mem_cons.mp hb with e | hb
    · rw [e]; exact Nat.lt_succ_self _
    · rw [List.mem_singleton.mp hb]; exact Nat.lt_succ_of_lt (K.there _ hok).2
  · obtain ⟨k, hx⟩ := hu
    exact val_at hall hx
  · obtain ⟨k, hx⟩ := hP
    obtain ⟨t, e⟩ := val_at hall hx
    dsimp only at e
    subst e
    obtain ⟨b1, b2⟩ := argBest_lt (fun i => ((kvs[i]?).map fun q => ival q.2).getD 0) (kvs.length - 1)
    have up : ∀ b x, s.heap.get? b = some x → h'.get? b = some x := fun b x e => hk b x (fun hI => absurd (Heap.lt_size e) (by rw [List.mem_singleton.mp hI]; exact Nat.lt_irrefl _)) (Heap.get?_push_of_some _ e)
    refine h h' tk _ t (F.keeps up) (N.grown up) ⟨_, List.mem_of_getElem? hx, by simp only [ival]⟩ fun q hq => ?_
    obtain ⟨j, hj⟩ := List.getElem?_of_mem hq
    have hlt : j < kvs.length := by
      rcases Nat.lt_or_ge j kvs.length with g | g
      · exact g
      · rw [List.getElem?_eq_none g] at hj; cases hj
    have := b2 j (by omega)
    rw [hj] at this
    simpa using this
theorem ne_empty {d2 : Addr} {o2 : Obj} (N : News h₀ L s.heap news) (hp : (d, o) ∈ news) (hd : o.IsDictOf (intKind PR w) kvs) (lo : (d == sysModules) = false) (hp2 : (d2, o2) ∈ news) (hd2 : o2.IsDictOf (intKind PR w) []) (lo2 : (d2 == sysModules) = false) (hu : A.units < cLine)
    (h0 : kvs = [] → Q (.bool false) s) (h1 : 0 < kvs.length → Q (.bool true) s) : wpAny (model PR w) A (compareOp .NotEq (.ref d) (.ref d2)) Q E s := by
  cases kvs with
  | nil => exact keq_ne (r := true) lo lo2 (kda_dict N hp hd) (kda_dict N hp2 hd2) hu (fun _ => .nil) (h0 rfl)
  | cons a r => exact keq_ne (r := false) lo lo2 (kda_dict N hp hd) (kda_dict N hp2 hd2) hu (fun e => absurd e (by simp)) (by rw [Bool.and_false]; exact h1 (by simp))
end
end Mine
end
section
open PySem PySem.W PySem.Calls PyProof.Rows
namespace Mine
structure TR (D : Addr → Prop) (σ : Addr → Nd) (a : Addr) (l : BT) : Prop where
  da : D a
  dl : ∀ b ∈ l.ad, D b
  lf : (σ a).left = l.hd
  rp : Rep σ (some a) none l
  ho : HO (fun b => (σ b).value) (σ a).value l
  sz : l.ad.length ≤ 7
theorem bfs_out {D : Addr → Prop} {σ : Addr → Nd} {a : Addr} {l : BT} {as : List Addr} (tr : TR D σ a l) (h : Bfs [(a, l)] [a] as) : (∀ b ∈ as, D b) ∧ as.length ≤ 8 ∧ (∃ r, as = a :: r) ∧ as.Perm (a :: l.ad) := by
  have p : as.Perm (a :: l.ad) := by have := h.perm; simpa [adq] using this
  refine ⟨fun b hb => ?_, ?_, h.head rfl, p⟩
  · rcases List.mem_cons.mp (p.subset hb) with rfl | hb
    · exact tr.da
    · exact tr.dl b hb
  · have := p.length_eq; have := tr.sz; simp only [List.length_cons] at *; omega
theorem PI.tr {D : Addr → Prop} {σ : Addr → Nd} {a : Addr} {l : BT} {kvs : List (Int × Value)} (P : PI D σ (.node a l .nil) kvs) (sz : (BT.node a l .nil).ad.length ≤ 8) : TR D σ a l := by
  obtain ⟨h1, h2, h3, h4, h5, h6⟩ := pop_args P
  exact ⟨h6, h5, h1, h2, h3, by simp only [BT.ad, List.length_cons, List.length_append, List.length_nil] at sz; omega⟩
theorem TI.free {σ : Addr → Nd} {a : Addr} {l : BT} (h : TI σ (.node a l .nil)) : (σ a).get .parent = none ∧ (σ a).get .prev = none ∧ (σ a).get .next = none :=
  ⟨h.rep.2.2.1, h.rep.2.2.2.1, h.rep.2.1⟩
/-- the law's table -/
def kpairs (kvt : List (Int × Value)) : List (Int × Int) := kvt.map fun p => (p.1, ival p.2)
def tpairs (σ : Addr → Nd) (as : List Addr) : List (Int × Int) := as.map fun a => ((σ a).key, (σ a).value)
structure TB (σ : Addr → Nd) (t : BT) (kvt : List (Int × Value)) : Prop where
  pm : (kpairs kvt).Perm (tpairs σ t.ad)
  al : ∀ p ∈ kvt, ∃ i u, p.2 = Value.int i u
section
variable {D : Addr → Prop} {σ σ' : Addr → Nd} {t t' : BT} {kvs kvt : List (Int × Value)} {k v : Int} {a : Addr} {b : Bool}
theorem TB.keys (h : TB σ t kvt) : (kvt.map (·.1)).Perm (t.ad.map fun a => (σ a).key) := by
  have := h.pm.map (·.1)
  simpa [kpairs, tpairs, Function.comp_def] using this
theorem TB.len (h : TB σ t kvt) : kvt.length = t.ad.length := by have := h.pm.length_eq; simpa [kpairs, tpairs] using this
theorem TB.at (h : TB σ t kvt) (nd : (t.ad.map fun a => (σ a).key).Nodup) (ha : a ∈ t.ad) : ∃ u, valueAt kvt (σ a).key = some (.int (σ a).value u) := by
  have hm : ((σ a).key, (σ a).value) ∈ kpairs kvt := h.pm.mem_iff.mpr (List.mem_map.mpr ⟨a, ha, rfl⟩)
  obtain ⟨p, hp, e⟩ := List.mem_map.mp hm
  obtain ⟨i, u, e2⟩ := h.al p hp
  obtain ⟨p1, p2⟩ := p
  dsimp only at e e2
  subst e2
  cases e
  exact ⟨u, mem_valueAt (h.keys.nodup_iff.mpr nd) hp⟩
theorem TB.none (h : TB σ t kvt) (hn : ∀ a ∈ t.ad, (σ a).key ≠ k) : valueAt kvt k = none := by
  cases e : valueAt kvt k with
  | none => rfl
  | some x =>
    have hm := h.keys.mem_iff.mp (List.mem_map.mpr ⟨_, valueAt_mem e, rfl⟩)
    obtain ⟨a, ha, e2⟩ := List.mem_map.mp hm
    exact absurd e2 (hn a ha)
theorem TB.congr (h : TB σ t kvt) (pm : t'.ad.Perm t.ad) (e : ∀ b ∈ t.ad, (σ' b).key = (σ b).key ∧ (σ' b).value = (σ b).value) : TB σ' t' kvt where
  pm := by
    refine h.pm.trans ?_
    have e2 : tpairs σ t.ad = tpairs σ' t.ad := List.map_congr_left fun b hb => by rw [(e b hb).1, (e b hb).2]
    rw [e2]; exact (pm.map _).symm
  al := h.al
theorem stored_set (hk : k ∈ kvt.map (·.1)) {y : Value} : stored kvt k y = kvt.map fun kv => if kv.1 = k then (kv.1, y) else kv := by
  unfold stored
  rw [if_pos]
  obtain ⟨p, hp, e⟩ := List.mem_map.mp hk
  exact List.any_eq_true.mpr ⟨p, hp, by simpa using e⟩
theorem stored_new (hn : valueAt kvt k = Option.none) {y : Value} : stored kvt k y = kvt ++ [(k, y)] := by
  unfold stored
  rw [if_neg]
  intro e
  obtain ⟨p, hp, e⟩ := List.any_eq_true.mp e
  exact valueAt_none hn p.2 (by have : p.1 = k := by simpa using e
                                rw [← this]; exact hp)
theorem TB.set (h : TB σ t kvt) {u : Tok} (hk : ∃ a ∈ t.ad, (σ a).key = k) (pm : t'.ad.Perm t.ad) (e : ∀ b ∈ t.ad, (σ' b).key = (σ b).key ∧ (σ' b).value = if (σ b).key = k then v else (σ b).value) : TB σ' t' (stored kvt k (.int v u)) := by
  obtain ⟨a, ha, hka⟩ := hk
  have hm : k ∈ kvt.map (·.1) := h.keys.mem_iff.mpr (List.mem_map.mpr ⟨a, ha, hka⟩)
  rw [stored_set hm]
  refine ⟨?_, fun p hp => ?_⟩
  · have e1 : kpairs (kvt.map fun kv => if kv.1 = k then (kv.1, Value.int v u) else kv) = (kpairs kvt).map fun q => if q.1 = k then (q.1, v) else q := by
      simp only [kpairs, List.map_map]
      refine List.map_congr_left fun p _ => ?_
      simp only [Function.comp_apply]
      split <;> simp_all [ival]
    have e2 : tpairs σ' t.ad = (tpairs σ t.ad).map fun q => if q.1 = k then (q.1, v) else q := by
      simp only [tpairs, List.map_map]
      refine List.map_congr_left fun b hb => ?_
      simp only [Function.comp_apply]
      rw [(e b hb).1, (e b hb).2]
      split <;> rfl
    rw [e1]
    refine (h.pm.map _).trans ?_
    rw [← e2]
    exact (pm.map _).symm
  · obtain ⟨q, hq, rfl⟩ := List.mem_map.mp hp
    split
    · exact ⟨v, u, rfl⟩
    · exact h.al q hq
theorem TB.new (h : TB σ t kvt) {u : Tok} {x : Addr} (hn : ∀ a ∈ t.ad, (σ a).key ≠ k) (pm : t'.ad.Perm (x :: t.ad)) (e : ∀ b ∈ t.ad, (σ' b).key = (σ b).key ∧ (σ' b).value = (σ b).value) (hk : (σ' x).key = k) (hv : (σ' x).value = v) : TB σ' t' (stored kvt k (.int v u)) := by
  rw [stored_new (h.none hn)]
  refine ⟨?_, fun p hp => ?_⟩
  · have e2 : tpairs σ' (x :: t.ad) = (k, v) :: tpairs σ t.ad := by
      simp only [tpairs, List.map_cons, hk, hv]
      congr 1
      exact List.map_congr_left fun b hb => by rw [(e b hb).1, (e b hb).2]
    have p2 : (tpairs σ' t'.ad).Perm ((k, v) :: tpairs σ t.ad) := e2 ▸ pm.map _
    refine List.Perm.trans ?_ p2.symm
    have e3 : kpairs (kvt ++ [(k, Value.int v u)]) = kpairs kvt ++ [(k, v)] := by simp [kpairs, ival]
    rw [e3]
    exact (List.perm_append_comm (l₂ := [(k, v)])).trans (List.Perm.cons _ h.pm)
  · rcases List.mem_append.mp hp with hp | hp
    · exact h.al p hp
    · rw [List.mem_singleton.mp hp]; exact ⟨v, u, rfl⟩
theorem TB.pop {l : BT} (h : TB σ (.node a l .nil) kvt) (nd : ((BT.node a l .nil).ad.map fun a => (σ a).key).Nodup) (pm : t'.ad.Perm l.ad) (e : KV σ σ') : TB σ' t' (without kvt (σ a).key) where
  pm := by
    have e1 : kpairs (without kvt (σ a).key) = (kpairs kvt).filter fun q => decide (q.1 ≠ (σ a).key) := by
      simp only [kpairs, without, List.filter_map, Function.comp_def]
    rw [e1]
    refine (h.pm.filter _).trans ?_
    have e2 : (tpairs σ (BT.node a l .nil).ad).filter (fun q => decide (q.1 ≠ (σ a).key)) = tpairs σ l.ad := by
      simp only [BT.ad, List.append_nil, List.map_cons, List.nodup_cons] at nd
      simp only [BT.ad, List.append_nil, tpairs, List.map_cons]
      rw [List.filter_cons_of_neg (by simp)]
      refine List.filter_eq_self.mpr fun q hq => ?_
      obtain ⟨b, hb, rfl⟩ := List.mem_map.mp hq
      simp only [decide_eq_true_eq]
      intro z
      exact nd.1 (List.mem_map.mpr ⟨b, hb, z⟩)
    rw [e2]
    have e3 : tpairs σ l.ad = tpairs σ' l.ad := List.map_congr_left fun b _ => by rw [(e b).1, (e b).2]
    rw [e3]; exact (pm.map _).symm
  al := fun p hp => h.al p (List.mem_filter.mp hp).1
theorem key_inj (nd : (t.ad.map fun a => (σ a).key).Nodup) {b : Addr} (ha : a ∈ t.ad) (hb : b ∈ t.ad) (e : (σ b).key = (σ a).key) : b = a := by
  have g : ∀ l : List Addr, (l.map fun a => (σ a).key).Nodup → a ∈ l → b ∈ l → b = a := by
    intro l
    induction l with
    | nil => intro _ h; simp at h
    | cons c r ih =>
      intro nd ha hb
      simp only [List.map_cons, List.nodup_cons] at nd
      rcases List.mem_cons.mp ha with e1 | h1
      · rcases List.mem_cons.mp hb with e2 | h2
        · rw [e1, e2]
        · exact (nd.1 (List.mem_map.mpr ⟨b, h2, by rw [e, e1]⟩)).elim
      · rcases List.mem_cons.mp hb with e2 | h2
        · exact (nd.1 (List.mem_map.mpr ⟨a, h1, by rw [← e, e2]⟩)).elim
        · exact ih nd.2 h1 h2
  exact g _ nd ha hb
theorem ins_tabF (h : PI D σ t kvs) (T : TB σ t kvt) (o : InsOut k v false σ t σ' t' b) :
    (valueAt kvt k = none ∧ b = true ∧ ∀ u, TB σ' t' (stored kvt k (.int v u))) ∨ (∃ i u, valueAt kvt k = some (.int i u) ∧ ((v < i ∧ b = true ∧ ∀ u, TB σ' t' (stored kvt k (.int v u))) ∨ (¬ v < i ∧ b = false ∧ TB σ' t' kvt))) := by
  cases o with
  | keep a ha hk hv _ pm e =>
    right
    obtain ⟨u, hu⟩ := T.at h.ks ha
    rw [hk] at hu
    exact ⟨_, u, hu, .inr ⟨by omega, rfl, T.congr pm e⟩⟩
  | put a r ha hk hr hal pm e hva =>
    right
    obtain ⟨u, hu⟩ := T.at h.ks ha
    rw [hk] at hu
    refine ⟨_, u, hu, ?_⟩
    by_cases hlt : v < (σ a).value
    · refine .inl ⟨hlt, hr.mpr hlt, fun u => T.set ⟨a, ha, hk⟩ pm fun c hc => ⟨(e c hc).1, ?_⟩⟩
      by_cases hca : c = a
      · subst hca; rw [if_pos hk, hva]
      · rw [if_neg (fun z => hca (key_inj h.ks ha hc (z.trans hk.symm)))]; exact (e c hc).2 hca
    · refine .inr ⟨hlt, ?_, T.congr pm fun c hc => ⟨(e c hc).1, ?_⟩⟩
      · cases b with
        | false => rfl
        | true => exact absurd (hr.mp rfl) hlt
      · by_cases hca : c = a
        · subst hca
          rw [hva]
          by_cases z : (σ c).value < v
          · exact nomatch hal z
          · omega
        · exact (e c hc).2 hca
  | new x hn _ pm e hk hv => exact .inl ⟨T.none hn, rfl, fun u => T.new hn pm e hk hv⟩
theorem ins_tabT (h : PI D σ t kvs) (T : TB σ t kvt) (o : InsOut k v true σ t σ' t' b) (u : Tok) : TB σ' t' (stored kvt k (.int v u)) := by
  cases o with
  | keep a ha hk hv hal pm e =>
    refine T.set ⟨a, ha, hk⟩ pm fun c hc => ⟨(e c hc).1, ?_⟩
    rw [(e c hc).2]
    by_cases z : (σ c).key = k
    · rw [if_pos z, key_inj h.ks ha hc (z.trans hk.symm)]; exact hal rfl
    · rw [if_neg z]
  | put a r ha hk hr hal pm e hva =>
    refine T.set ⟨a, ha, hk⟩ pm fun c hc => ⟨(e c hc).1, ?_⟩
    by_cases hca : c = a
    · subst hca; rw [if_pos hk, hva]
    · rw [if_neg (fun z => hca (key_inj h.ks ha hc (z.trans hk.symm)))]; exact (e c hc).2 hca
  | new x hn _ pm e hk hv => exact T.new hn pm e hk hv
theorem nodup_le : ∀ {l m : List Int}, l.Nodup → (∀ x ∈ l, x ∈ m) → l.length ≤ m.length
  | [], _, _, _ => Nat.zero_le _
  | x :: l, m, nd, h => by
    have hx := h x (List.mem_cons_self ..)
    have := nodup_le (l := l) (m := m.erase x) (List.nodup_cons.mp nd).2 fun y hy => (List.mem_erase_of_ne (fun e => (List.nodup_cons.mp nd).1 (by rw [← e]; exact hy))).mpr (h y (List.mem_cons_of_mem _ hy))
    rw [List.length_erase_of_mem hx] at this
    have := List.length_pos_of_mem hx
    simp only [List.length_cons]; omega
def K8 (σ : Addr → Nd) (t : BT) : Prop := ∀ a ∈ t.ad, 0 ≤ (σ a).key ∧ (σ a).key < 8
theorem K8.len (h : PI D σ t kvs) (k8 : K8 σ t) : t.ad.length ≤ 8 := by
  have := nodup_le (m := [0, 1, 2, 3, 4, 5, 6, 7]) h.ks fun x hx => by
    obtain ⟨a, ha, rfl⟩ := List.mem_map.mp hx
    have := k8 a ha
    simp only [List.mem_cons, List.not_mem_nil, or_false]; omega
  simpa using this
theorem K8.ins {al : Bool} (k8 : K8 σ t) (o : InsOut k v al σ t σ' t' b) (h0 : 0 ≤ k) (h1 : k < 8) : K8 σ' t' := by
  intro c hc
  cases o with
  | keep a ha hk hv hal pm e => rw [(e c (pm.subset hc)).1]; exact k8 c (pm.subset hc)
  | put a r ha hk hr hal pm e hva => rw [(e c (pm.subset hc)).1]; exact k8 c (pm.subset hc)
  | new x hn _ pm e hk hv =>
    rcases List.mem_cons.mp (pm.subset hc) with rfl | hc
    · rw [hk]; exact ⟨h0, h1⟩
    · rw [(e c hc).1]; exact k8 c hc
theorem K8.turn (k8 : K8 σ t) (pm : ∀ a ∈ t'.ad, a ∈ t.ad) (e : KV σ σ') : K8 σ' t' := fun c hc => by rw [(e c).1]; exact k8 c (pm c hc)
end
section
variable {w : World} {A : Around} {E : Value → Shared → Prop} {s : Shared} {h₀ : Heap} {L a b : Addr} {m : Str → Option Value} {news : List (Addr × Obj)} {vs ws : List Value} {ns ms xs ys : List Int} {k k2 : Nat} {Q : Value → Shared → Prop}
theorem ne_ints (N : News h₀ L s.heap news) (ha : (a, listOf (List.toArray vs) k) ∈ news) (hb : (b, listOf (List.toArray ws) k2) ∈ news) (hI : IntsAre vs ns) (hJ : IntsAre ws ms) (p : ns.Perm xs) (q : ms.Perm ys) (o1 : ns.Pairwise (· ≤ ·)) (o2 : ms.Pairwise (· ≤ ·)) (xy : xs.Perm ys)
    (hu : A.units + 64 < cLine) (h : Q (.bool false) s) : wpAny (model PR w) A (compareOp .NotEq (.ref a) (.ref b)) Q E s :=
  ke_ne_ints (news_list N ha) (news_list N hb) hI hJ hu (by rw [lks_uniq (p.trans (xy.trans q.symm)) o1 o2]; simpa using h)
end
theorem right_perm {σ : Addr → Nd} {a : Addr} {l : BT} {r : List Addr} {kvt : List (Int × Value)} (tb : TB σ (.node a l .nil) kvt) (pm : (a :: r).Perm (a :: l.ad)) : ((a :: r).map fun a => (σ a).key).Perm (kvt.map (·.1)) := by
  have := tb.keys
  simp only [BT.ad, List.append_nil] at this
  exact (pm.map _).trans this.symm
theorem getItem_own {w : World} {A : Around} {E : Value → Shared → Prop} {s : Shared} {h₀ : Heap} {L d : Addr} {news : List (Addr × Obj)} {o : Obj} {kvs : List (Int × Value)} {k : Int} {key v : Value} {Q : Value → Shared → Prop} (N : News h₀ L s.heap news) (hp : (d, o) ∈ news) (hd : o.IsDictOf (intKind PR w) kvs) (hkey : (intKind PR w).is k key = true) (hl : valueAt kvs k = some v)
    (h : Q v { s with toks := s.toks + 1 }) : wpAny (model PR w) A (getItem (.ref d) key) Q E s := wpAny_getItem_of hkey (kda_dict N hp hd).mapOf hl h
theorem pop_min {D : Addr → Prop} {σ : Addr → Nd} {a : Addr} {l : BT} {kvs kvt : List (Int × Value)} (P : PI D σ (.node a l .nil) kvs) (tb : TB σ (.node a l .nil) kvt) :
    (∃ u, valueAt kvt (σ a).key = some (.int (σ a).value u)) ∧ (∃ q ∈ kvt, ival q.2 = (σ a).value) ∧ (∀ q ∈ kvt, (σ a).value ≤ ival q.2) := by
  obtain ⟨u, hu⟩ := tb.at P.ks (a := a) (by simp [BT.ad])
  refine ⟨⟨u, hu⟩, ⟨_, valueAt_mem hu, rfl⟩, fun q hq => ?_⟩
  have hm : (q.1, ival q.2) ∈ tpairs σ (BT.node a l .nil).ad := tb.pm.mem_iff.mp (List.mem_map.mpr ⟨q, hq, rfl⟩)
  obtain ⟨b, hb, e⟩ := List.mem_map.mp hm
  have e2 : (σ b).value = ival q.2 := congrArg Prod.snd e
  rw [← e2]
  obtain ⟨_, _, h3, _, _, _⟩ := pop_args P
  simp only [BT.ad, List.append_nil, List.mem_cons] at hb
  rcases hb with rfl | hb
  · exact Int.le_refl _
  · exact h3.all b hb
end Mine
end
section
open PySem PySem.W PySem.Calls PyProof.Rows
namespace Mine
set_option maxRecDepth 100000
local macro_rules | `(tactic| ktr_unf) => `(tactic| (repeat (first | exact Hole.here | exact Hole.opq (by assumption) | (apply Hole.cons; (first | exact rfl | exact dict_notNode (by assumption) | exact cell_notNode (by assumption) | exact ns_notNode (by assumption))))))
local macro_rules | `(tactic| walk_at "getAttr ref") => `(tactic| (k_here; (with_reducible show wpAny _ _ (getAttr (Value.ref _) (Str.ofString "value") _) _ _ _); (rename HS _ _ _ => hs9); k_dflt (refine' nd_value ?F ?X ?N ?c hs9 ?D ?_; (case F => k_asm); (case X => k_asm); (case N => k_asm); (case c => ktr_unf); (case D => k_asm); k_whole)))
local macro_rules | `(tactic| walk_at "getAttr ref") => `(tactic| (k_here; (with_reducible show wpAny _ _ (getAttr (Value.ref _) (Str.ofString "key") _) _ _ _); (rename HS _ _ _ => hs9); k_dflt (refine' nd_key ?F ?X ?N ?c hs9 ?D ?_; (case F => k_asm); (case X => k_asm); (case N => k_asm); (case c => ktr_unf); (case D => k_asm); k_whole)))
local macro_rules | `(tactic| walk_at "getAttr ref") => `(tactic| (k_here; (with_reducible show wpAny _ _ (getAttr (Value.ref _) (Str.ofString "left") _) _ _ _); (rename HS _ _ _ => hs9); k_dflt (refine' nd_get .left ?F ?X ?N ?c hs9 ?D ?_ ?_; (case F => k_asm); (case X => k_asm); (case N => k_asm); (case c => ktr_unf); (case D => k_asm)); all_goals (intros; k_whole)))
local macro_rules | `(tactic| walk_at "setAttr ref") => `(tactic| (k_here; (with_reducible show wpAny _ _ (setAttr (Value.ref _) (Str.ofString "left") _) _ _ _); (rename HS _ _ _ => hs9); (rename KS _ _ _ => ks9); k_dflt ((first | refine' nd_set (v := none) .left ?F ?X ?N ?c hs9 ?D ?v ?_ | refine' nd_set (v := some _) .left ?F ?X ?N ?c hs9 ?D ?v ?_ | refine' nd_set .left ?F ?X ?N ?c hs9 ?D ?v ?_); (case F => k_asm); (case X => k_asm); (case N => k_asm); (case c => ktr_unf); (case D => k_asm); (case v => ktr_rel); k_whole); intro h' nl' F' N' H' kk9; (have ks' := KS.trans ks9 kk9); clear hs9 ks9 kk9; (try dsimp only [List.cons_append, List.nil_append] at N'); (try k_sweep)))
local macro_rules | `(tactic| walk_at "getAttr ref") => `(tactic| (k_here; (with_reducible show wpAny _ _ (getAttr (Value.ref _) (Str.ofString "next") _) _ _ _); (rename HS _ _ _ => hs9); k_dflt (refine' nd_get .next ?F ?X ?N ?c hs9 ?D ?_ ?_; (case F => k_asm); (case X => k_asm); (case N => k_asm); (case c => ktr_unf); (case D => k_asm)); all_goals (intros; k_whole)))
local macro_rules | `(tactic| walk_at "setAttr ref") => `(tactic| (k_here; (with_reducible show wpAny _ _ (setAttr (Value.ref _) (Str.ofString "next") _) _ _ _); (rename HS _ _ _ => hs9); (rename KS _ _ _ => ks9); k_dflt ((first | refine' nd_set (v := none) .next ?F ?X ?N ?c hs9 ?D ?v ?_ | refine' nd_set (v := some _) .next ?F ?X ?N ?c hs9 ?D ?v ?_ | refine' nd_set .next ?F ?X ?N ?c hs9 ?D ?v ?_); (case F => k_asm); (case X => k_asm); (case N => k_asm); (case c => ktr_unf); (case D => k_asm); (case v => ktr_rel); k_whole); intro h' nl' F' N' H' kk9; (have ks' := KS.trans ks9 kk9); clear hs9 ks9 kk9; (try dsimp only [List.cons_append, List.nil_append] at N'); (try k_sweep)))
local macro_rules | `(tactic| walk_at "getAttr ref") => `(tactic| (k_here; (with_reducible show wpAny _ _ (getAttr (Value.ref _) (Str.ofString "parent") _) _ _ _); (rename HS _ _ _ => hs9); k_dflt (refine' nd_get .parent ?F ?X ?N ?c hs9 ?D ?_ ?_; (case F => k_asm); (case X => k_asm); (case N => k_asm); (case c => ktr_unf); (case D => k_asm)); all_goals (intros; k_whole)))
local macro_rules | `(tactic| walk_at "setAttr ref") => `(tactic| (k_here; (with_reducible show wpAny _ _ (setAttr (Value.ref _) (Str.ofString "parent") _) _ _ _); (rename HS _ _ _ => hs9); (rename KS _ _ _ => ks9); k_dflt ((first | refine' nd_set (v := none) .parent ?F ?X ?N ?c hs9 ?D ?v ?_ | refine' nd_set (v := some _) .parent ?F ?X ?N ?c hs9 ?D ?v ?_ | refine' nd_set .parent ?F ?X ?N ?c hs9 ?D ?v ?_); (case F => k_asm); (case X => k_asm); (case N => k_asm); (case c => ktr_unf); (case D => k_asm); (case v => ktr_rel); k_whole); intro h' nl' F' N' H' kk9; (have ks' := KS.trans ks9 kk9); clear hs9 ks9 kk9; (try dsimp only [List.cons_append, List.nil_append] at N'); (try k_sweep)))
local macro_rules | `(tactic| walk_at "getAttr ref") => `(tactic| (k_here; (with_reducible show wpAny _ _ (getAttr (Value.ref _) (Str.ofString "prev") _) _ _ _); (rename HS _ _ _ => hs9); k_dflt (refine' nd_get .prev ?F ?X ?N ?c hs9 ?D ?_ ?_; (case F => k_asm); (case X => k_asm); (case N => k_asm); (case c => ktr_unf); (case D => k_asm)); all_goals (intros; k_whole)))
local macro_rules | `(tactic| walk_at "setAttr ref") => `(tactic| (k_here; (with_reducible show wpAny _ _ (setAttr (Value.ref _) (Str.ofString "prev") _) _ _ _); (rename HS _ _ _ => hs9); (rename KS _ _ _ => ks9); k_dflt ((first | refine' nd_set (v := none) .prev ?F ?X ?N ?c hs9 ?D ?v ?_ | refine' nd_set (v := some _) .prev ?F ?X ?N ?c hs9 ?D ?v ?_ | refine' nd_set .prev ?F ?X ?N ?c hs9 ?D ?v ?_); (case F => k_asm); (case X => k_asm); (case N => k_asm); (case c => ktr_unf); (case D => k_asm); (case v => ktr_rel); k_whole); intro h' nl' F' N' H' kk9; (have ks' := KS.trans ks9 kk9); clear hs9 ks9 kk9; (try dsimp only [List.cons_append, List.nil_append] at N'); (try k_sweep)))
local macro_rules | `(tactic| walk_at "getAttr ref") => `(tactic| (k_here; (rename RawMark => rm9); (with_reducible show wpAny _ _ (getAttr (Value.ref _) (Str.ofString "left") _) _ _ _); (rename HS _ _ _ => hs9); k_dflt (refine' nd_raw .left ?F ?X ?N ?c hs9 ?D ?_; (case F => k_asm); (case X => k_asm); (case N => k_asm); (case c => ktr_unf); (case D => k_asm); k_whole)))
local macro_rules | `(tactic| walk_at "getAttr ref") => `(tactic| (k_here; (rename RawMark => rm9); (with_reducible show wpAny _ _ (getAttr (Value.ref _) (Str.ofString "next") _) _ _ _); (rename HS _ _ _ => hs9); k_dflt (refine' nd_raw .next ?F ?X ?N ?c hs9 ?D ?_; (case F => k_asm); (case X => k_asm); (case N => k_asm); (case c => ktr_unf); (case D => k_asm); k_whole)))
local macro_rules | `(tactic| walk_at "getAttr ref") => `(tactic| (k_here; (rename RawMark => rm9); (with_reducible show wpAny _ _ (getAttr (Value.ref _) (Str.ofString "parent") _) _ _ _); (rename HS _ _ _ => hs9); k_dflt (refine' nd_raw .parent ?F ?X ?N ?c hs9 ?D ?_; (case F => k_asm); (case X => k_asm); (case N => k_asm); (case c => ktr_unf); (case D => k_asm); k_whole)))
local macro_rules | `(tactic| walk_at "getAttr ref") => `(tactic| (k_here; (rename RawMark => rm9); (with_reducible show wpAny _ _ (getAttr (Value.ref _) (Str.ofString "prev") _) _ _ _); (rename HS _ _ _ => hs9); k_dflt (refine' nd_raw .prev ?F ?X ?N ?c hs9 ?D ?_; (case F => k_asm); (case X => k_asm); (case N => k_asm); (case c => ktr_unf); (case D => k_asm); k_whole)))
local macro_rules | `(tactic| ktr_rel) => `(tactic| first | (with_reducible assumption) | (intro x9 e9; (first | (cases e9; done) | (cases e9; assumption))))
local macro_rules | `(tactic| tb_start) => `(tactic| first | assumption | exact News.sub (by assumption) (fun _ hp => List.mem_cons_of_mem _ hp) | exact News.sub (by assumption) (fun _ hp => List.mem_cons_of_mem _ (List.mem_cons_of_mem _ hp)) | exact News.sub (by assumption) (fun _ hp => List.mem_cons_of_mem _ (List.mem_cons_of_mem _ (List.mem_cons_of_mem _ hp))))
local macro_rules | `(tactic| walk_at "And") => `(tactic| ((with_reducible show MethP _ _ _ _ _ ∧ _); refine' And.intro ?mp ?_; (case mp => (refine' methP ?N ?q ?X; (case N => k_asm); (case q => first | exact List.Mem.head _ | k_mem); (case X => k_in))); (try dsimp only [List.nil_append, List.cons_append])))
local macro_rules | `(tactic| k_all) => `(tactic| first | exact ks_off (by assumption) (by assumption) | assumption)
local macro_rules | `(tactic| walk_at "setAttr ref") => `(tactic| (k_here; (with_reducible show wpAny _ _ (setAttr (Value.ref _) (Str.ofString "value") (Value.int _ _)) _ _ _); (rename HS _ _ _ => hs9); (rename KS _ _ _ => ks9); k_dflt (refine' nd_setval ?F ?X ?N ?c hs9 ?D ?_; (case F => k_asm); (case X => k_asm); (case N => k_asm); (case c => ktr_unf); (case D => k_asm); k_whole); intro h' nl' F' N' H' kk9; (have ks' := KS.trans ks9 kk9); clear hs9 ks9 kk9; (try dsimp only [List.cons_append, List.nil_append] at N'); (try k_sweep)))
local macro_rules | `(tactic| tb_rel) => `(tactic| first | assumption | exact Or.inl rfl | exact Or.inr (by assumption))
local macro_rules | `(tactic| kaf_pre) => `(tactic| (repeat (first | exact List.Mem.head _ | apply List.Mem.tail)))
local macro_rules | `(tactic| kaf_suf) => `(tactic| ((try simp only [List.size_toArray, List.length_cons, List.length_map, List.length_append, List.length_nil, sizeLine_eq]); omega))
local macro_rules | `(tactic| kat_tups) => `(tactic| (intro p9 hp9; repeat (first | exact hp9 | apply List.mem_cons_of_mem)))
section
variable {w : World} {dp un : Nat} {gd : Option (List Code)} {cn : Str} {cs : Scope} {fa : Addr} {ccd : Value} {cl : List (Str × Addr)} {outer : List Env} {A₀ : Around} {base h₀ : Heap} {L : Addr} {m : Str → Option Value} {s : Shared}
  {R : Result → Shared → Prop} {p : Program} {loose : List Str} {mean : ExcName → Option Value} {mg mb : Str → Option Value} {nl : List (Addr × Obj)} {pre : List (Addr × Obj)} {D : Addr → Prop} {σ : Addr → Nd}

set_option maxHeartbeats 8000000 in
theorem link_code {r o self : Addr} (B : Below A₀ base outer h₀) (F : Fr h₀ L s.heap m) (X : (hd.heap_39 w.params).In h₀) (N : News h₀ L s.heap (pre ++ nl)) (T : Top p loose mean mg mb h₀) (hk : cs.kind = .function)
    (hd : dp + 10 < recursionLimit) (hc : PreOk pre) (H : HS nl D σ) (hr : D r) (ho : D o)
    (hret : ∀ h' tk' nl' w l, WL σ r o w l → Fr h₀ L h' m → News h₀ L h' (pre ++ nl') → HS nl' D (linkT σ w l) → KS D nl nl' → R (.ok (.ret (.ref w))) { s with heap := h', toks := tk' }) :
    codeAny (model PySem.Challenge.rw_aw6015_01.row.prog w) (ktrTop dp un gd cn cs L fa ccd cl outer) (.call (.ref 184) ⟨[.ref self, .ref r, .ref o], []⟩) R s := by
  revert X
  w_top off
  k_fill
  intro X
  have ks0 : KS D nl nl := KS.refl
  k_dflt ktr_enter
  k_steps
  all_goals (
    (first | refine' hret _ _ _ _ _ (.inl ⟨?c, rfl, rfl⟩) ?F ?N ?H ?K | refine' hret _ _ _ _ _ (.inr ⟨?c, rfl, rfl⟩) ?F ?N ?H ?K)
    case c => assumption
    case H => (first | (rw [linkT_none (by assumption)]; assumption) | (rw [linkT_some (by assumption)]; assumption))
    case K => assumption
    case F => assumption
    case N => tb_start)
theorem link_codeH {news : List (Addr × Obj)} {r o self : Addr} (B : Below A₀ base outer h₀) (F : Fr h₀ L s.heap m) (X : (hd.heap_39 w.params).In h₀) (N : News h₀ L s.heap news) (T : Top p loose mean mg mb h₀) (hk : cs.kind = .function)
    (hd : dp + 10 < recursionLimit) (hc : Hole nl news pre) (H : HS nl D σ) (hr : D r) (ho : D o)
    (hret : ∀ h' tk' nl' w l, WL σ r o w l → Fr h₀ L h' m → News h₀ L h' (pre ++ nl') → HS nl' D (linkT σ w l) → KS D nl nl' → R (.ok (.ret (.ref w))) { s with heap := h', toks := tk' }) :
    codeAny (model PySem.Challenge.rw_aw6015_01.row.prog w) (ktrTop dp un gd cn cs L fa ccd cl outer) (.call (.ref 184) ⟨[.ref self, .ref r, .ref o], []⟩) R s := by
  obtain ⟨e, hp⟩ := hc.is
  subst e
  exact link_code B F X N T hk hd hp H hr ho hret
end

end Mine
end
section
open PySem PySem.W PySem.Calls PyProof.Rows
namespace Mine
set_option maxRecDepth 100000
local macro_rules | `(tactic| ktr_unf) => `(tactic| (repeat (first | exact Hole.here | exact Hole.opq (by assumption) | (apply Hole.cons; (first | exact rfl | exact dict_notNode (by assumption) | exact cell_notNode (by assumption) | exact ns_notNode (by assumption))))))
local macro_rules | `(tactic| walk_at "getAttr ref") => `(tactic| (k_here; (with_reducible show wpAny _ _ (getAttr (Value.ref _) (Str.ofString "value") _) _ _ _); (rename HS _ _ _ => hs9); k_dflt (refine' nd_value ?F ?X ?N ?c hs9 ?D ?_; (case F => k_asm); (case X => k_asm); (case N => k_asm); (case c => ktr_unf); (case D => k_asm); k_whole)))
local macro_rules | `(tactic| walk_at "getAttr ref") => `(tactic| (k_here; (with_reducible show wpAny _ _ (getAttr (Value.ref _) (Str.ofString "key") _) _ _ _); (rename HS _ _ _ => hs9); k_dflt (refine' nd_key ?F ?X ?N ?c hs9 ?D ?_; (case F => k_asm); (case X => k_asm); (case N => k_asm); (case c => ktr_unf); (case D => k_asm); k_whole)))
local macro_rules | `(tactic| walk_at "getAttr ref") => `(tactic| (k_here; (with_reducible show wpAny _ _ (getAttr (Value.ref _) (Str.ofString "left") _) _ _ _); (rename HS _ _ _ => hs9); k_dflt (refine' nd_get .left ?F ?X ?N ?c hs9 ?D ?_ ?_; (case F => k_asm); (case X => k_asm); (case N => k_asm); (case c => ktr_unf); (case D => k_asm)); all_goals (intros; k_whole)))
local macro_rules | `(tactic| walk_at "setAttr ref") => `(tactic| (k_here; (with_reducible show wpAny _ _ (setAttr (Value.ref _) (Str.ofString "left") _) _ _ _); (rename HS _ _ _ => hs9); (rename KS _ _ _ => ks9); k_dflt ((first | refine' nd_set (v := none) .left ?F ?X ?N ?c hs9 ?D ?v ?_ | refine' nd_set (v := some _) .left ?F ?X ?N ?c hs9 ?D ?v ?_ | refine' nd_set .left ?F ?X ?N ?c hs9 ?D ?v ?_); (case F => k_asm); (case X => k_asm); (case N => k_asm); (case c => ktr_unf); (case D => k_asm); (case v => ktr_rel); k_whole); intro h' nl' F' N' H' kk9; (have ks' := KS.trans ks9 kk9); clear hs9 ks9 kk9; (try dsimp only [List.cons_append, List.nil_append] at N'); (try k_sweep)))
local macro_rules | `(tactic| walk_at "getAttr ref") => `(tactic| (k_here; (with_reducible show wpAny _ _ (getAttr (Value.ref _) (Str.ofString "next") _) _ _ _); (rename HS _ _ _ => hs9); k_dflt (refine' nd_get .next ?F ?X ?N ?c hs9 ?D ?_ ?_; (case F => k_asm); (case X => k_asm); (case N => k_asm); (case c => ktr_unf); (case D => k_asm)); all_goals (intros; k_whole)))
local macro_rules | `(tactic| walk_at "setAttr ref") => `(tactic| (k_here; (with_reducible show wpAny _ _ (setAttr (Value.ref _) (Str.ofString "next") _) _ _ _); (rename HS _ _ _ => hs9); (rename KS _ _ _ => ks9); k_dflt ((first | refine' nd_set (v := none) .next ?F ?X ?N ?c hs9 ?D ?v ?_ | refine' nd_set (v := some _) .next ?F ?X ?N ?c hs9 ?D ?v ?_ | refine' nd_set .next ?F ?X ?N ?c hs9 ?D ?v ?_); (case F => k_asm); (case X => k_asm); (case N => k_asm); (case c => ktr_unf); (case D => k_asm); (case v => ktr_rel); k_whole); intro h' nl' F' N' H' kk9; (have ks' := KS.trans ks9 kk9); clear hs9 ks9 kk9; (try dsimp only [List.cons_append, List.nil_append] at N'); (try k_sweep)))
local macro_rules | `(tactic| walk_at "getAttr ref") => `(tactic| (k_here; (with_reducible show wpAny _ _ (getAttr (Value.ref _) (Str.ofString "parent") _) _ _ _); (rename HS _ _ _ => hs9); k_dflt (refine' nd_get .parent ?F ?X ?N ?c hs9 ?D ?_ ?_; (case F => k_asm); (case X => k_asm); (case N => k_asm); (case c => ktr_unf); (case D => k_asm)); all_goals (intros; k_whole)))
local macro_rules | `(tactic| walk_at "setAttr ref") => `(tactic| (k_here; (with_reducible show wpAny _ _ (setAttr (Value.ref _) (Str.ofString "parent") _) _ _ _); (rename HS _ _ _ => hs9); (rename KS _ _ _ => ks9); k_dflt ((first | refine' nd_set (v := none) .parent ?F ?X ?N ?c hs9 ?D ?v ?_ | refine' nd_set (v := some _) .parent ?F ?X ?N ?c hs9 ?D ?v ?_ | refine' nd_set .parent ?F ?X ?N ?c hs9 ?D ?v ?_); (case F => k_asm); (case X => k_asm); (case N => k_asm); (case c => ktr_unf); (case D => k_asm); (case v => ktr_rel); k_whole); intro h' nl' F' N' H' kk9; (have ks' := KS.trans ks9 kk9); clear hs9 ks9 kk9; (try dsimp only [List.cons_append, List.nil_append] at N'); (try k_sweep)))
local macro_rules | `(tactic| walk_at "getAttr ref") => `(tactic| (k_here; (with_reducible show wpAny _ _ (getAttr (Value.ref _) (Str.ofString "prev") _) _ _ _); (rename HS _ _ _ => hs9); k_dflt (refine' nd_get .prev ?F ?X ?N ?c hs9 ?D ?_ ?_; (case F => k_asm); (case X => k_asm); (case N => k_asm); (case c => ktr_unf); (case D => k_asm)); all_goals (intros; k_whole)))
local macro_rules | `(tactic| walk_at "setAttr ref") => `(tactic| (k_here; (with_reducible show wpAny _ _ (setAttr (Value.ref _) (Str.ofString "prev") _) _ _ _); (rename HS _ _ _ => hs9); (rename KS _ _ _ => ks9); k_dflt ((first | refine' nd_set (v := none) .prev ?F ?X ?N ?c hs9 ?D ?v ?_ | refine' nd_set (v := some _) .prev ?F ?X ?N ?c hs9 ?D ?v ?_ | refine' nd_set .prev ?F ?X ?N ?c hs9 ?D ?v ?_); (case F => k_asm); (case X => k_asm); (case N => k_asm); (case c => ktr_unf); (case D => k_asm); (case v => ktr_rel); k_whole); intro h' nl' F' N' H' kk9; (have ks' := KS.trans ks9 kk9); clear hs9 ks9 kk9; (try dsimp only [List.cons_append, List.nil_append] at N'); (try k_sweep)))
local macro_rules | `(tactic| walk_at "getAttr ref") => `(tactic| (k_here; (rename RawMark => rm9); (with_reducible show wpAny _ _ (getAttr (Value.ref _) (Str.ofString "left") _) _ _ _); (rename HS _ _ _ => hs9); k_dflt (refine' nd_raw .left ?F ?X ?N ?c hs9 ?D ?_; (case F => k_asm); (case X => k_asm); (case N => k_asm); (case c => ktr_unf); (case D => k_asm); k_whole)))
local macro_rules | `(tactic| walk_at "getAttr ref") => `(tactic| (k_here; (rename RawMark => rm9); (with_reducible show wpAny _ _ (getAttr (Value.ref _) (Str.ofString "next") _) _ _ _); (rename HS _ _ _ => hs9); k_dflt (refine' nd_raw .next ?F ?X ?N ?c hs9 ?D ?_; (case F => k_asm); (case X => k_asm); (case N => k_asm); (case c => ktr_unf); (case D => k_asm); k_whole)))
local macro_rules | `(tactic| walk_at "getAttr ref") => `(tactic| (k_here; (rename RawMark => rm9); (with_reducible show wpAny _ _ (getAttr (Value.ref _) (Str.ofString "parent") _) _ _ _); (rename HS _ _ _ => hs9); k_dflt (refine' nd_raw .parent ?F ?X ?N ?c hs9 ?D ?_; (case F => k_asm); (case X => k_asm); (case N => k_asm); (case c => ktr_unf); (case D => k_asm); k_whole)))
local macro_rules | `(tactic| walk_at "getAttr ref") => `(tactic| (k_here; (rename RawMark => rm9); (with_reducible show wpAny _ _ (getAttr (Value.ref _) (Str.ofString "prev") _) _ _ _); (rename HS _ _ _ => hs9); k_dflt (refine' nd_raw .prev ?F ?X ?N ?c hs9 ?D ?_; (case F => k_asm); (case X => k_asm); (case N => k_asm); (case c => ktr_unf); (case D => k_asm); k_whole)))
local macro_rules | `(tactic| ktr_rel) => `(tactic| first | (with_reducible assumption) | (intro x9 e9; (first | (cases e9; done) | (cases e9; assumption))))
local macro_rules | `(tactic| tb_start) => `(tactic| first | assumption | exact News.sub (by assumption) (fun _ hp => List.mem_cons_of_mem _ hp) | exact News.sub (by assumption) (fun _ hp => List.mem_cons_of_mem _ (List.mem_cons_of_mem _ hp)) | exact News.sub (by assumption) (fun _ hp => List.mem_cons_of_mem _ (List.mem_cons_of_mem _ (List.mem_cons_of_mem _ hp))))
local macro_rules | `(tactic| walk_at "And") => `(tactic| ((with_reducible show MethP _ _ _ _ _ ∧ _); refine' And.intro ?mp ?_; (case mp => (refine' methP ?N ?q ?X; (case N => k_asm); (case q => first | exact List.Mem.head _ | k_mem); (case X => k_in))); (try dsimp only [List.nil_append, List.cons_append])))
local macro_rules | `(tactic| k_all) => `(tactic| first | exact ks_off (by assumption) (by assumption) | assumption)
local macro_rules | `(tactic| walk_at "setAttr ref") => `(tactic| (k_here; (with_reducible show wpAny _ _ (setAttr (Value.ref _) (Str.ofString "value") (Value.int _ _)) _ _ _); (rename HS _ _ _ => hs9); (rename KS _ _ _ => ks9); k_dflt (refine' nd_setval ?F ?X ?N ?c hs9 ?D ?_; (case F => k_asm); (case X => k_asm); (case N => k_asm); (case c => ktr_unf); (case D => k_asm); k_whole); intro h' nl' F' N' H' kk9; (have ks' := KS.trans ks9 kk9); clear hs9 ks9 kk9; (try dsimp only [List.cons_append, List.nil_append] at N'); (try k_sweep)))
local macro_rules | `(tactic| tb_rel) => `(tactic| first | assumption | exact Or.inl rfl | exact Or.inr (by assumption))
local macro_rules | `(tactic| kaf_pre) => `(tactic| (repeat (first | exact List.Mem.head _ | apply List.Mem.tail)))
local macro_rules | `(tactic| kaf_suf) => `(tactic| ((try simp only [List.size_toArray, List.length_cons, List.length_map, List.length_append, List.length_nil, sizeLine_eq]); omega))
local macro_rules | `(tactic| kat_tups) => `(tactic| (intro p9 hp9; repeat (first | exact hp9 | apply List.mem_cons_of_mem)))
section
variable {w : World} {dp un : Nat} {gd : Option (List Code)} {cn : Str} {cs : Scope} {fa : Addr} {ccd : Value} {cl : List (Str × Addr)} {outer : List Env} {A₀ : Around} {base h₀ : Heap} {L : Addr} {m : Str → Option Value} {s : Shared}
  {R : Result → Shared → Prop} {p : Program} {loose : List Str} {mean : ExcName → Option Value} {mg mb : Str → Option Value} {nl : List (Addr × Obj)} {pre : List (Addr × Obj)} {D : Addr → Prop} {σ : Addr → Nd}

local macro_rules | `(tactic| walk_at "setAttr none") => `(tactic| (exfalso; (rename (_ = none → _ = none → False) => hp9); exact hp9 (by assumption) (by assumption)))
set_option maxHeartbeats 8000000 in
theorem cut_code {x self : Addr} (B : Below A₀ base outer h₀) (F : Fr h₀ L s.heap m) (X : (hd.heap_39 w.params).In h₀) (N : News h₀ L s.heap (pre ++ nl)) (T : Top p loose mean mg mb h₀) (hk : cs.kind = .function)
    (hd : dp + 10 < recursionLimit) (hc : PreOk pre) (H : HS nl D σ) (hx : D x) (hp : (σ x).get .prev = none → (σ x).get .parent = none → False)
    (hret : ∀ h' tk' nl', Fr h₀ L h' m → News h₀ L h' (pre ++ nl') → HS nl' D (cutT σ x) → KS D nl nl' → R (.ok (.ret .none)) { s with heap := h', toks := tk' }) :
    codeAny (model PySem.Challenge.rw_aw6015_01.row.prog w) (ktrTop dp un gd cn cs L fa ccd cl outer) (.call (.ref 198) ⟨[.ref self, .ref x], []⟩) R s := by
  revert X
  w_top off
  k_fill
  intro X
  have ks0 : KS D nl nl := KS.refl
  k_dflt ktr_enter
  k_steps
  all_goals (
    refine' hret _ _ _ ?F ?N ?H ?K
    case H => (first
      | (rw [cutT_n (by assumption) (by assumption) (cut1_q (by assumption) (by assumption))]; assumption)
      | (rw [cutT_n (by assumption) (by assumption) (cut1_p (by assumption) (by assumption) (by assumption))]; assumption)
      | (rw [cutT_0 (by assumption) (cut1_q (by assumption) (by assumption))]; assumption)
      | (rw [cutT_0 (by assumption) (cut1_p (by assumption) (by assumption) (by assumption))]; assumption))
    case K => assumption
    case F => assumption
    case N => tb_start)
theorem cut_codeH {news : List (Addr × Obj)} {x self : Addr} (B : Below A₀ base outer h₀) (F : Fr h₀ L s.heap m) (X : (hd.heap_39 w.params).In h₀) (N : News h₀ L s.heap news) (T : Top p loose mean mg mb h₀) (hk : cs.kind = .function)
    (hd : dp + 10 < recursionLimit) (hc : Hole nl news pre) (H : HS nl D σ) (hx : D x) (hp : (σ x).get .prev = none → (σ x).get .parent = none → False)
    (hret : ∀ h' tk' nl', Fr h₀ L h' m → News h₀ L h' (pre ++ nl') → HS nl' D (cutT σ x) → KS D nl nl' → R (.ok (.ret .none)) { s with heap := h', toks := tk' }) :
    codeAny (model PySem.Challenge.rw_aw6015_01.row.prog w) (ktrTop dp un gd cn cs L fa ccd cl outer) (.call (.ref 198) ⟨[.ref self, .ref x], []⟩) R s := by
  obtain ⟨e, hq⟩ := hc.is
  subst e
  exact cut_code B F X N T hk hd hq H hx hp hret
end

end Mine
end
section
open PySem PySem.W PySem.Calls PyProof.Rows
namespace Mine
set_option maxRecDepth 100000
local macro_rules | `(tactic| ktr_unf) => `(tactic| (repeat (first | exact Hole.here | exact Hole.opq (by assumption) | (apply Hole.cons; (first | exact rfl | exact dict_notNode (by assumption) | exact cell_notNode (by assumption) | exact ns_notNode (by assumption))))))
local macro_rules | `(tactic| walk_at "getAttr ref") => `(tactic| (k_here; (with_reducible show wpAny _ _ (getAttr (Value.ref _) (Str.ofString "value") _) _ _ _); (rename HS _ _ _ => hs9); k_dflt (refine' nd_value ?F ?X ?N ?c hs9 ?D ?_; (case F => k_asm); (case X => k_asm); (case N => k_asm); (case c => ktr_unf); (case D => k_asm); k_whole)))
local macro_rules | `(tactic| walk_at "getAttr ref") => `(tactic| (k_here; (with_reducible show wpAny _ _ (getAttr (Value.ref _) (Str.ofString "key") _) _ _ _); (rename HS _ _ _ => hs9); k_dflt (refine' nd_key ?F ?X ?N ?c hs9 ?D ?_; (case F => k_asm); (case X => k_asm); (case N => k_asm); (case c => ktr_unf); (case D => k_asm); k_whole)))
local macro_rules | `(tactic| walk_at "getAttr ref") => `(tactic| (k_here; (with_reducible show wpAny _ _ (getAttr (Value.ref _) (Str.ofString "left") _) _ _ _); (rename HS _ _ _ => hs9); k_dflt (refine' nd_get .left ?F ?X ?N ?c hs9 ?D ?_ ?_; (case F => k_asm); (case X => k_asm); (case N => k_asm); (case c => ktr_unf); (case D => k_asm)); all_goals (intros; k_whole)))
local macro_rules | `(tactic| walk_at "setAttr ref") => `(tactic| (k_here; (with_reducible show wpAny _ _ (setAttr (Value.ref _) (Str.ofString "left") _) _ _ _); (rename HS _ _ _ => hs9); (rename KS _ _ _ => ks9); k_dflt ((first | refine' nd_set (v := none) .left ?F ?X ?N ?c hs9 ?D ?v ?_ | refine' nd_set (v := some _) .left ?F ?X ?N ?c hs9 ?D ?v ?_ | refine' nd_set .left ?F ?X ?N ?c hs9 ?D ?v ?_); (case F => k_asm); (case X => k_asm); (case N => k_asm); (case c => ktr_unf); (case D => k_asm); (case v => ktr_rel); k_whole); intro h' nl' F' N' H' kk9; (have ks' := KS.trans ks9 kk9); clear hs9 ks9 kk9; (try dsimp only [List.cons_append, List.nil_append] at N'); (try k_sweep)))
local macro_rules | `(tactic| walk_at "getAttr ref") => `(tactic| (k_here; (with_reducible show wpAny _ _ (getAttr (Value.ref _) (Str.ofString "next") _) _ _ _); (rename HS _ _ _ => hs9); k_dflt (refine' nd_get .next ?F ?X ?N ?c hs9 ?D ?_ ?_; (case F => k_asm); (case X => k_asm); (case N => k_asm); (case c => ktr_unf); (case D => k_asm)); all_goals (intros; k_whole)))
local macro_rules | `(tactic| walk_at "setAttr ref") => `(tactic| (k_here; (with_reducible show wpAny _ _ (setAttr (Value.ref _) (Str.ofString "next") _) _ _ _); (rename HS _ _ _ => hs9); (rename KS _ _ _ => ks9); k_dflt ((first | refine' nd_set (v := none) .next ?F ?X ?N ?c hs9 ?D ?v ?_ | refine' nd_set (v := some _) .next ?F ?X ?N ?c hs9 ?D ?v ?_ | refine' nd_set .next ?F ?X ?N ?c hs9 ?D ?v ?_); (case F => k_asm); (case X => k_asm); (case N => k_asm); (case c => ktr_unf); (case D => k_asm); (case v => ktr_rel); k_whole); intro h' nl' F' N' H' kk9; (have ks' := KS.trans ks9 kk9); clear hs9 ks9 kk9; (try dsimp only [List.cons_append, List.nil_append] at N'); (try k_sweep)))
local macro_rules | `(tactic| walk_at "getAttr ref") => `(tactic| (k_here; (with_reducible show wpAny _ _ (getAttr (Value.ref _) (Str.ofString "parent") _) _ _ _); (rename HS _ _ _ => hs9); k_dflt (refine' nd_get .parent ?F ?X ?N ?c hs9 ?D ?_ ?_; (case F => k_asm); (case X => k_asm); (case N => k_asm); (case c => ktr_unf); (case D => k_asm)); all_goals (intros; k_whole)))
local macro_rules | `(tactic| walk_at "setAttr ref") => `(tactic| (k_here; (with_reducible show wpAny _ _ (setAttr (Value.ref _) (Str.ofString "parent") _) _ _ _); (rename HS _ _ _ => hs9); (rename KS _ _ _ => ks9); k_dflt ((first | refine' nd_set (v := none) .parent ?F ?X ?N ?c hs9 ?D ?v ?_ | refine' nd_set (v := some _) .parent ?F ?X ?N ?c hs9 ?D ?v ?_ | refine' nd_set .parent ?F ?X ?N ?c hs9 ?D ?v ?_); (case F => k_asm); (case X => k_asm); (case N => k_asm); (case c => ktr_unf); (case D => k_asm); (case v => ktr_rel); k_whole); intro h' nl' F' N' H' kk9; (have ks' := KS.trans ks9 kk9); clear hs9 ks9 kk9; (try dsimp only [List.cons_append, List.nil_append] at N'); (try k_sweep)))
local macro_rules | `(tactic| walk_at "getAttr ref") => `(tactic| (k_here; (with_reducible show wpAny _ _ (getAttr (Value.ref _) (Str.ofString "prev") _) _ _ _); (rename HS _ _ _ => hs9); k_dflt (refine' nd_get .prev ?F ?X ?N ?c hs9 ?D ?_ ?_; (case F => k_asm); (case X => k_asm); (case N => k_asm); (case c => ktr_unf); (case D => k_asm)); all_goals (intros; k_whole)))
local macro_rules | `(tactic| walk_at "setAttr ref") => `(tactic| (k_here; (with_reducible show wpAny _ _ (setAttr (Value.ref _) (Str.ofString "prev") _) _ _ _); (rename HS _ _ _ => hs9); (rename KS _ _ _ => ks9); k_dflt ((first | refine' nd_set (v := none) .prev ?F ?X ?N ?c hs9 ?D ?v ?_ | refine' nd_set (v := some _) .prev ?F ?X ?N ?c hs9 ?D ?v ?_ | refine' nd_set .prev ?F ?X ?N ?c hs9 ?D ?v ?_); (case F => k_asm); (case X => k_asm); (case N => k_asm); (case c => ktr_unf); (case D => k_asm); (case v => ktr_rel); k_whole); intro h' nl' F' N' H' kk9; (have ks' := KS.trans ks9 kk9); clear hs9 ks9 kk9; (try dsimp only [List.cons_append, List.nil_append] at N'); (try k_sweep)))
local macro_rules | `(tactic| walk_at "getAttr ref") => `(tactic| (k_here; (rename RawMark => rm9); (with_reducible show wpAny _ _ (getAttr (Value.ref _) (Str.ofString "left") _) _ _ _); (rename HS _ _ _ => hs9); k_dflt (refine' nd_raw .left ?F ?X ?N ?c hs9 ?D ?_; (case F => k_asm); (case X => k_asm); (case N => k_asm); (case c => ktr_unf); (case D => k_asm); k_whole)))
local macro_rules | `(tactic| walk_at "getAttr ref") => `(tactic| (k_here; (rename RawMark => rm9); (with_reducible show wpAny _ _ (getAttr (Value.ref _) (Str.ofString "next") _) _ _ _); (rename HS _ _ _ => hs9); k_dflt (refine' nd_raw .next ?F ?X ?N ?c hs9 ?D ?_; (case F => k_asm); (case X => k_asm); (case N => k_asm); (case c => ktr_unf); (case D => k_asm); k_whole)))
local macro_rules | `(tactic| walk_at "getAttr ref") => `(tactic| (k_here; (rename RawMark => rm9); (with_reducible show wpAny _ _ (getAttr (Value.ref _) (Str.ofString "parent") _) _ _ _); (rename HS _ _ _ => hs9); k_dflt (refine' nd_raw .parent ?F ?X ?N ?c hs9 ?D ?_; (case F => k_asm); (case X => k_asm); (case N => k_asm); (case c => ktr_unf); (case D => k_asm); k_whole)))
local macro_rules | `(tactic| walk_at "getAttr ref") => `(tactic| (k_here; (rename RawMark => rm9); (with_reducible show wpAny _ _ (getAttr (Value.ref _) (Str.ofString "prev") _) _ _ _); (rename HS _ _ _ => hs9); k_dflt (refine' nd_raw .prev ?F ?X ?N ?c hs9 ?D ?_; (case F => k_asm); (case X => k_asm); (case N => k_asm); (case c => ktr_unf); (case D => k_asm); k_whole)))
local macro_rules | `(tactic| ktr_rel) => `(tactic| first | (with_reducible assumption) | (intro x9 e9; (first | (cases e9; done) | (cases e9; assumption))))
local macro_rules | `(tactic| tb_start) => `(tactic| first | assumption | exact News.sub (by assumption) (fun _ hp => List.mem_cons_of_mem _ hp) | exact News.sub (by assumption) (fun _ hp => List.mem_cons_of_mem _ (List.mem_cons_of_mem _ hp)) | exact News.sub (by assumption) (fun _ hp => List.mem_cons_of_mem _ (List.mem_cons_of_mem _ (List.mem_cons_of_mem _ hp))))
local macro_rules | `(tactic| walk_at "And") => `(tactic| ((with_reducible show MethP _ _ _ _ _ ∧ _); refine' And.intro ?mp ?_; (case mp => (refine' methP ?N ?q ?X; (case N => k_asm); (case q => first | exact List.Mem.head _ | k_mem); (case X => k_in))); (try dsimp only [List.nil_append, List.cons_append])))
local macro_rules | `(tactic| k_all) => `(tactic| first | exact ks_off (by assumption) (by assumption) | assumption)
local macro_rules | `(tactic| walk_at "setAttr ref") => `(tactic| (k_here; (with_reducible show wpAny _ _ (setAttr (Value.ref _) (Str.ofString "value") (Value.int _ _)) _ _ _); (rename HS _ _ _ => hs9); (rename KS _ _ _ => ks9); k_dflt (refine' nd_setval ?F ?X ?N ?c hs9 ?D ?_; (case F => k_asm); (case X => k_asm); (case N => k_asm); (case c => ktr_unf); (case D => k_asm); k_whole); intro h' nl' F' N' H' kk9; (have ks' := KS.trans ks9 kk9); clear hs9 ks9 kk9; (try dsimp only [List.cons_append, List.nil_append] at N'); (try k_sweep)))
local macro_rules | `(tactic| tb_rel) => `(tactic| first | assumption | exact Or.inl rfl | exact Or.inr (by assumption))
local macro_rules | `(tactic| kaf_pre) => `(tactic| (repeat (first | exact List.Mem.head _ | apply List.Mem.tail)))
local macro_rules | `(tactic| kaf_suf) => `(tactic| ((try simp only [List.size_toArray, List.length_cons, List.length_map, List.length_append, List.length_nil, sizeLine_eq]); omega))
local macro_rules | `(tactic| kat_tups) => `(tactic| (intro p9 hp9; repeat (first | exact hp9 | apply List.mem_cons_of_mem)))
section
variable {w : World} {dp un : Nat} {gd : Option (List Code)} {cn : Str} {cs : Scope} {fa : Addr} {ccd : Value} {cl : List (Str × Addr)} {outer : List Env} {A₀ : Around} {base h₀ : Heap} {L : Addr} {m : Str → Option Value} {s : Shared}
  {R : Result → Shared → Prop} {p : Program} {loose : List Str} {mean : ExcName → Option Value} {mg mb : Str → Option Value} {nl : List (Addr × Obj)} {pre : List (Addr × Obj)} {D : Addr → Prop} {σ : Addr → Nd}

local macro_rules | `(tactic| walk_at "call ref") => `(tactic| (k_here; (with_reducible show wpAny _ _ (call (Value.ref _) [Value.ref _, Value.ref _] _) _ _ _); (rename HS _ _ _ => hs9); (rename KS _ _ _ => ks9); k_dflt (refine' call_meth ?N ?q (link_codeH ?B ?F ?X ?N2 ?T ?k ?d ?c hs9 ?r ?o ?_); (case N => k_asm); (case q => k_mem); (case B => k_asm); (case F => k_asm); (case X => k_asm); (case N2 => k_asm); (case T => k_asm); (case k => exact rfl); (case d => ktr_room); (case c => ktr_unf); (case r => k_asm); (case o => k_asm); k_whole); intro h' tk' nl' w' l' wl' F' N' H' kk9; (have ks' := KS.trans ks9 kk9); clear hs9 ks9 kk9; (have wd' := WL.dom wl' (by assumption) (by assumption)); (obtain ⟨hDw', hDl'⟩ := wd'); (try dsimp only [List.cons_append, List.nil_append] at N'); (try dsimp only); (try k_sweep)))
local macro_rules | `(tactic| walk_at "exec While Constant cons nil") => `(tactic| (refine Stop.mk ?_))
local macro_rules | `(tactic| walk_at "exec While Compare cons nil") => `(tactic| (refine Stop.mk ?_))
set_option maxHeartbeats 8000000 in
theorem merge_code {hp hx root : Addr} {t1 t2 : Tok} {v1 v2 : Value} {k : Nat} {h1 h2 : Int} (B : Below A₀ base outer h₀) (F : Fr h₀ L s.heap m) (X : (hd.heap_39 w.params).In h₀)
    (N : News h₀ L s.heap ((hp, instObj 201 hx) :: (hx, dictOf [⟨h1, .str (Str.ofString "_dict") t1, v1⟩, ⟨h2, .str (Str.ofString "_root") t2, v2⟩] k) :: (pre ++ nl))) (T : Top p loose mean mg mb h₀) (hk : cs.kind = .function)
    (hd : dp + 20 < recursionLimit) (hc : PreOk pre) (H : HS nl D σ) (hr : D root) {F0 : BT} {pv : Int} (hl : (σ root).left = F0.hd) (hR : Rep σ (some root) none F0) (hO : HO (fun b => (σ b).value) pv F0) (nd : (root :: F0.ad).Nodup) (hD : ∀ b ∈ F0.ad, D b)
    (hret : ∀ h' tk' nl' σ' t, Fr h₀ L h' m → News h₀ L h' ((hp, instObj 201 hx) :: (hx, dictOf [⟨h1, .str (Str.ofString "_dict") t1, v1⟩, ⟨h2, .str (Str.ofString "_root") t2, v2⟩] k) :: (pre ++ nl')) → HS nl' D σ' → KS D nl nl' → MergeOut σ root F0 pv σ' t →
      R (.ok (.ret (oref t.hd))) { s with heap := h', toks := tk' }) :
    codeAny (model PySem.Challenge.rw_aw6015_01.row.prog w) (ktrTop dp un gd cn cs L fa ccd cl outer) (.call (.ref 191) ⟨[.ref hp, .ref root], []⟩) R s := by
  revert X
  w_top off
  k_fill
  intro X
  have ks0 : KS D nl nl := KS.refl
  k_dflt ktr_enter
  rename_i g1 L1 hh1 FG1 F1 N1 B1 X1 T1
  k_steps
  · rename ((σ root).get Fl.left = none) => e1
    obtain rfl := hd_none (hl.symm.trans e1)
    exact hret _ _ _ _ .nil (by assumption) (by assumption) (by assumption) (by assumption) MergeOut.nil
  · rename_i x1 e1 hDx h1' h2' nl1 H1 ks1 q1 h3' l1 h4' h5' F1 N1
    obtain ⟨l0, n0, rfl⟩ := hd_some (hl.symm.trans e1)
    have hroot : root ∉ (BT.node x1 l0 n0).ad := (List.nodup_cons.mp nd).1
    have hRa : Rep (setF σ root .left none) (some root) none (.node x1 l0 n0) := Rep.congr (fun b hb => setF_ne (fun e => hroot (e ▸ hb))) hR
    have hOa : HO (fun b => (setF σ root .left none b).value) pv (.node x1 l0 n0) := by
      rw [show (fun b => (setF σ root .left none b).value) = fun b => (σ b).value from funext fun b => (KV.setF b).2]; exact hO
    have g0 := MG.start hRa hOa
    have nd0 := (List.nodup_cons.mp nd).2
    clear hRa hOa hR
    unfold Stop
    refine wpAny_mono (Q := fun f s' => f = .next ∧ ∃ h' tk' m' nl₁ σ₁ a l S, s' = { s with heap := h', toks := tk' } ∧ Fr g1 L1 h' m' ∧ News g1 L1 h' ((q1, methodObj (.ref 184) (.ref hp)) :: (hp, instObj 201 hx) :: (hx, dictOf [⟨h1, .str (Str.ofString "_dict") t1, v1⟩, ⟨h2, .str (Str.ofString "_root") t2, v2⟩] k) :: (pre ++ nl₁)) ∧
        HS nl₁ D σ₁ ∧ KS D nl nl₁ ∧ MG (setF σ root .left none) σ₁ (BT.node x1 l0 n0).ad .nil ((a, l) :: S) ∧ m' (Str.ofString "node") = some (.ref a) ∧ m' (Str.ofString "link") = some (.ref q1)) ?loop ?rest (fun _ _ e => e)
    case loop =>
      refine While_inv2 (n₀ := (BT.node x1 l0 n0).len) (fun n m' nx => ∃ nl₁ σ₁ c l F S, nx = ((q1, methodObj (.ref 184) (.ref hp)) :: (hp, instObj 201 hx) :: (hx, dictOf [⟨h1, .str (Str.ofString "_dict") t1, v1⟩, ⟨h2, .str (Str.ofString "_root") t2, v2⟩] k) :: (pre ++ nl₁)) ∧
        HS nl₁ D σ₁ ∧ KS D nl nl₁ ∧ MG (setF σ root .left none) σ₁ (BT.node x1 l0 n0).ad (.node c l F) S ∧ n = (BT.node c l F).len ∧ m' (Str.ofString "node") = some (.ref c) ∧ m' (Str.ofString "prev") = some (oref (hdS S)) ∧ m' (Str.ofString "link") = some (.ref q1)) F1 N1 ⟨_, _, _, _, _, [], rfl, H1, ks1, g0, rfl, rfl, rfl, rfl⟩ ?_
      rintro n m₁ news₁ h₁ tk₁ F2 N2 ⟨nl₁, σ₁, c, l, F, S, rfl, H2, ks2, g2, rfl, e2, e3, e4⟩
      have F3 := fr_lk (l := [(Str.ofString "node", .ref c), (Str.ofString "prev", oref (hdS S)), (Str.ofString "link", .ref q1)]) F2 (by
        intro p hp; simp only [List.mem_cons, List.not_mem_nil, or_false] at hp; rcases hp with rfl | rfl | rfl <;> assumption)
      have hDc : D c := hD c (g2.memF c (by simp [BT.ad]))
      have hDS : ∀ y, hdS S = some y → D y := fun y hy => hD y (g2.memS hy)
      clear F1 N1 F2 H1 ks1
      k_steps
      all_goals (try dsimp only)
      · rename ((σ₁ c).get Fl.next = none) => e5
        obtain rfl := hd_none (g2.ch.2.1.symm.trans e5)
        exact ⟨rfl, _, _, _, _, _, _, _, _, rfl, by assumption, by assumption, by assumption, by assumption, MG.odd nd0 g2, rfl, rfl⟩
      · rename ((σ₁ c).get Fl.next = some _) => e5
        obtain ⟨l2, n2, rfl⟩ := hd_some (g2.ch.2.1.symm.trans e5)
        rename ((σ₁ _).get Fl.next = none) => e6
        obtain rfl := hd_none (g2.ch.2.2.2.2.1.symm.trans e6)
        obtain ⟨l', g3⟩ := MG.pair nd0 g2 (by assumption)
        exact ⟨rfl, _, _, _, _, _, _, _, _, rfl, by assumption, by assumption, by assumption, by assumption, g3, rfl, rfl⟩
      · rename ((σ₁ c).get Fl.next = some _) => e5
        obtain ⟨l2, n2, rfl⟩ := hd_some (g2.ch.2.1.symm.trans e5)
        rename ((σ₁ _).get Fl.next = some _) => e6
        obtain ⟨l3, n3, rfl⟩ := hd_some (g2.ch.2.2.2.2.1.symm.trans e6)
        obtain ⟨l', g3⟩ := MG.pair nd0 g2 (by assumption)
        exact ⟨_, _, _, _, _, rfl, by assumption, by assumption, by simp only [BT.len]; omega, _, _, _, _, _, _, rfl, by assumption, by assumption, g3, rfl, rfl, rfl, rfl⟩
    case rest =>
      rintro f0 s0 ⟨rfl, h₁, tk₁, m₁, nl₁, σ₁, a, l, S, rfl, F2, N2, H2, ks2, g2, e2, e4⟩
      have F3 := fr_lk (l := [(Str.ofString "node", .ref a), (Str.ofString "link", .ref q1)]) F2 (by
        intro p hp; simp only [List.mem_cons, List.not_mem_nil, or_false] at hp; rcases hp with rfl | rfl <;> assumption)
      obtain ⟨g3, e5⟩ := g2.turn
      have hDa : D a := hD a g3.mem
      have rm : RawMark := trivial
      clear F1 N1 F2 H1 ks1
      dsimp only
      k_steps
      unfold Stop
      rename Fr _ _ _ _ => F4
      rename News _ _ _ _ => N4
      rename HS _ _ _ => H4
      refine While_inv2 (n₀ := S.length) (fun n m' nx => ∃ nl₂ σ₂ a l S, nx = ((q1, methodObj (.ref 184) (.ref hp)) :: (hp, instObj 201 hx) :: (hx, dictOf [⟨h1, .str (Str.ofString "_dict") t1, v1⟩, ⟨h2, .str (Str.ofString "_root") t2, v2⟩] k) :: (pre ++ nl₂)) ∧
        HS nl₂ D σ₂ ∧ KS D nl nl₂ ∧ MH (setF σ root .left none) σ₂ (BT.node x1 l0 n0).ad a l S ∧ n = S.length ∧ m' (Str.ofString "node") = some (.ref a) ∧ m' (Str.ofString "prev") = some (oref (hdS S)) ∧ m' (Str.ofString "link") = some (.ref q1)) F4 N4
        ⟨_, _, _, _, _, rfl, H4, ks2, g3, rfl, rfl, congrArg (fun x => some (oref x)) e5, rfl⟩ ?_
      clear F4 N4 H4 ks2 g3 g2 e2 e4 e5 hDa
      rintro n m₂ news₂ h₂ tk₂ F2 N2 ⟨nl₂, σ₂, a, l, S, rfl, H2, ks2, g3, rfl, e2, e3, e4⟩
      have hDa : D a := hD a g3.mem
      cases S with
      | nil =>
        have F3 := fr_lk (l := [(Str.ofString "node", .ref a), (Str.ofString "prev", .none)]) F2 (by
          intro p hp; simp only [List.mem_cons, List.not_mem_nil, or_false] at hp; rcases hp with rfl | rfl <;> assumption)
        clear F2
        k_steps
        all_goals (exact hret _ _ _ _ (.node a l .nil) (by assumption) (by tb_start) (by assumption) (by assumption) (MergeOut.of nd hO g3))
      | cons b S =>
        obtain ⟨b, l2⟩ := b
        have hDb : D b := hD b (g3.memS rfl)
        have F3 := fr_lk (l := [(Str.ofString "node", .ref a), (Str.ofString "prev", .ref b), (Str.ofString "link", .ref q1)]) F2 (by
          intro p hp; simp only [List.mem_cons, List.not_mem_nil, or_false] at hp; rcases hp with rfl | rfl | rfl <;> assumption)
        clear F2
        k_steps
        all_goals (try dsimp only)
        obtain ⟨l', g4⟩ := MH.step nd0 g3 (by assumption)
        exact ⟨_, _, _, _, _, rfl, by assumption, by assumption, Nat.lt_succ_self _, _, _, _, _, _, rfl, by assumption, by assumption, g4, rfl, rfl, congrArg (fun x => some (oref x)) g3.st.2.2.1, rfl⟩

theorem merge_codeH {news : List (Addr × Obj)} {hp hx root : Addr} {t1 t2 : Tok} {v1 v2 : Value} {k : Nat} {h1 h2 : Int} (B : Below A₀ base outer h₀) (F : Fr h₀ L s.heap m) (X : (hd.heap_39 w.params).In h₀)
    (N : News h₀ L s.heap news) (T : Top p loose mean mg mb h₀) (hk : cs.kind = .function)
    (hd : dp + 20 < recursionLimit) (hc : Hole nl news pre) (m1 : (hp, instObj 201 hx) ∈ news) (m2 : (hx, dictOf [⟨h1, .str (Str.ofString "_dict") t1, v1⟩, ⟨h2, .str (Str.ofString "_root") t2, v2⟩] k) ∈ news)
    (H : HS nl D σ) (hr : D root) {F0 : BT} {pv : Int} (hl : (σ root).left = F0.hd) (hR : Rep σ (some root) none F0) (hO : HO (fun b => (σ b).value) pv F0) (nd : (root :: F0.ad).Nodup) (hD : ∀ b ∈ F0.ad, D b)
    (hret : ∀ h' tk' nl' σ' t, Fr h₀ L h' m → News h₀ L h' (pre ++ nl') → HS nl' D σ' → KS D nl nl' → MergeOut σ root F0 pv σ' t →
      R (.ok (.ret (oref t.hd))) { s with heap := h', toks := tk' }) :
    codeAny (model PySem.Challenge.rw_aw6015_01.row.prog w) (ktrTop dp un gd cn cs L fa ccd cl outer) (.call (.ref 191) ⟨[.ref hp, .ref root], []⟩) R s := by
  obtain ⟨e, hq⟩ := hc.is
  subst e
  refine merge_code (hx := hx) (t1 := t1) (t2 := t2) (v1 := v1) (v2 := v2) (k := k) (h1 := h1) (h2 := h2) B F X (News.sub N fun p hp => ?_) T hk hd hq H hr hl hR hO nd hD (fun h' tk' nl' σ' t F' N' H' K' g => hret h' tk' nl' σ' t F' (News.sub N' fun p hp => List.mem_cons_of_mem _ (List.mem_cons_of_mem _ hp)) H' K' g)
  rcases List.mem_cons.mp hp with rfl | hp
  · exact m1
  · rcases List.mem_cons.mp hp with rfl | hp
    · exact m2
    · exact hp
end

end Mine
end
section
open PySem PySem.W PySem.Calls PyProof.Rows
namespace Mine
local macro_rules | `(tactic| walk_at "none at all Nn 0") => `(tactic| (fail))
local macro_rules | `(tactic| walk_at "none at all Nn 1") => `(tactic| (fail))
set_option maxRecDepth 100000
local macro_rules | `(tactic| ktr_unf) => `(tactic| (repeat (first | exact Hole.here | exact Hole.opq (by assumption) | (apply Hole.cons; (first | exact rfl | exact dict_notNode (by assumption) | exact cell_notNode (by assumption) | exact ns_notNode (by assumption))))))
local macro_rules | `(tactic| walk_at "getAttr ref") => `(tactic| (k_here; (with_reducible show wpAny _ _ (getAttr (Value.ref _) (Str.ofString "value") _) _ _ _); (rename HS _ _ _ => hs9); k_dflt (refine' nd_value ?F ?X ?N ?c hs9 ?D ?_; (case F => k_asm); (case X => k_asm); (case N => k_asm); (case c => ktr_unf); (case D => k_asm); k_whole)))
local macro_rules | `(tactic| walk_at "getAttr ref") => `(tactic| (k_here; (with_reducible show wpAny _ _ (getAttr (Value.ref _) (Str.ofString "key") _) _ _ _); (rename HS _ _ _ => hs9); k_dflt (refine' nd_key ?F ?X ?N ?c hs9 ?D ?_; (case F => k_asm); (case X => k_asm); (case N => k_asm); (case c => ktr_unf); (case D => k_asm); k_whole)))
local macro_rules | `(tactic| walk_at "getAttr ref") => `(tactic| (k_here; (with_reducible show wpAny _ _ (getAttr (Value.ref _) (Str.ofString "left") _) _ _ _); (rename HS _ _ _ => hs9); k_dflt (refine' nd_get .left ?F ?X ?N ?c hs9 ?D ?_ ?_; (case F => k_asm); (case X => k_asm); (case N => k_asm); (case c => ktr_unf); (case D => k_asm)); all_goals (intros; k_whole)))
local macro_rules | `(tactic| walk_at "setAttr ref") => `(tactic| (k_here; (with_reducible show wpAny _ _ (setAttr (Value.ref _) (Str.ofString "left") _) _ _ _); (rename HS _ _ _ => hs9); (rename KS _ _ _ => ks9); k_dflt ((first | refine' nd_set (v := none) .left ?F ?X ?N ?c hs9 ?D ?v ?_ | refine' nd_set (v := some _) .left ?F ?X ?N ?c hs9 ?D ?v ?_ | refine' nd_set .left ?F ?X ?N ?c hs9 ?D ?v ?_); (case F => k_asm); (case X => k_asm); (case N => k_asm); (case c => ktr_unf); (case D => k_asm); (case v => ktr_rel); k_whole); intro h' nl' F' N' H' kk9; (have ks' := KS.trans ks9 kk9); clear hs9 ks9 kk9; (try dsimp only [List.cons_append, List.nil_append] at N'); (try k_sweep)))
local macro_rules | `(tactic| walk_at "getAttr ref") => `(tactic| (k_here; (with_reducible show wpAny _ _ (getAttr (Value.ref _) (Str.ofString "next") _) _ _ _); (rename HS _ _ _ => hs9); k_dflt (refine' nd_get .next ?F ?X ?N ?c hs9 ?D ?_ ?_; (case F => k_asm); (case X => k_asm); (case N => k_asm); (case c => ktr_unf); (case D => k_asm)); all_goals (intros; k_whole)))
local macro_rules | `(tactic| walk_at "setAttr ref") => `(tactic| (k_here; (with_reducible show wpAny _ _ (setAttr (Value.ref _) (Str.ofString "next") _) _ _ _); (rename HS _ _ _ => hs9); (rename KS _ _ _ => ks9); k_dflt ((first | refine' nd_set (v := none) .next ?F ?X ?N ?c hs9 ?D ?v ?_ | refine' nd_set (v := some _) .next ?F ?X ?N ?c hs9 ?D ?v ?_ | refine' nd_set .next ?F ?X ?N ?c hs9 ?D ?v ?_); (case F => k_asm); (case X => k_asm); (case N => k_asm); (case c => ktr_unf); (case D => k_asm); (case v => ktr_rel); k_whole); intro h' nl' F' N' H' kk9; (have ks' := KS.trans ks9 kk9); clear hs9 ks9 kk9; (try dsimp only [List.cons_append, List.nil_append] at N'); (try k_sweep)))
local macro_rules | `(tactic| walk_at "getAttr ref") => `(tactic| (k_here; (with_reducible show wpAny _ _ (getAttr (Value.ref _) (Str.ofString "parent") _) _ _ _); (rename HS _ _ _ => hs9); k_dflt (refine' nd_get .parent ?F ?X ?N ?c hs9 ?D ?_ ?_; (case F => k_asm); (case X => k_asm); (case N => k_asm); (case c => ktr_unf); (case D => k_asm)); all_goals (intros; k_whole)))
local macro_rules | `(tactic| walk_at "setAttr ref") => `(tactic| (k_here; (with_reducible show wpAny _ _ (setAttr (Value.ref _) (Str.ofString "parent") _) _ _ _); (rename HS _ _ _ => hs9); (rename KS _ _ _ => ks9); k_dflt ((first | refine' nd_set (v := none) .parent ?F ?X ?N ?c hs9 ?D ?v ?_ | refine' nd_set (v := some _) .parent ?F ?X ?N ?c hs9 ?D ?v ?_ | refine' nd_set .parent ?F ?X ?N ?c hs9 ?D ?v ?_); (case F => k_asm); (case X => k_asm); (case N => k_asm); (case c => ktr_unf); (case D => k_asm); (case v => ktr_rel); k_whole); intro h' nl' F' N' H' kk9; (have ks' := KS.trans ks9 kk9); clear hs9 ks9 kk9; (try dsimp only [List.cons_append, List.nil_append] at N'); (try k_sweep)))
local macro_rules | `(tactic| walk_at "getAttr ref") => `(tactic| (k_here; (with_reducible show wpAny _ _ (getAttr (Value.ref _) (Str.ofString "prev") _) _ _ _); (rename HS _ _ _ => hs9); k_dflt (refine' nd_get .prev ?F ?X ?N ?c hs9 ?D ?_ ?_; (case F => k_asm); (case X => k_asm); (case N => k_asm); (case c => ktr_unf); (case D => k_asm)); all_goals (intros; k_whole)))
local macro_rules | `(tactic| walk_at "setAttr ref") => `(tactic| (k_here; (with_reducible show wpAny _ _ (setAttr (Value.ref _) (Str.ofString "prev") _) _ _ _); (rename HS _ _ _ => hs9); (rename KS _ _ _ => ks9); k_dflt ((first | refine' nd_set (v := none) .prev ?F ?X ?N ?c hs9 ?D ?v ?_ | refine' nd_set (v := some _) .prev ?F ?X ?N ?c hs9 ?D ?v ?_ | refine' nd_set .prev ?F ?X ?N ?c hs9 ?D ?v ?_); (case F => k_asm); (case X => k_asm); (case N => k_asm); (case c => ktr_unf); (case D => k_asm); (case v => ktr_rel); k_whole); intro h' nl' F' N' H' kk9; (have ks' := KS.trans ks9 kk9); clear hs9 ks9 kk9; (try dsimp only [List.cons_append, List.nil_append] at N'); (try k_sweep)))
local macro_rules | `(tactic| walk_at "getAttr ref") => `(tactic| (k_here; (rename RawMark => rm9); (with_reducible show wpAny _ _ (getAttr (Value.ref _) (Str.ofString "left") _) _ _ _); (rename HS _ _ _ => hs9); k_dflt (refine' nd_raw .left ?F ?X ?N ?c hs9 ?D ?_; (case F => k_asm); (case X => k_asm); (case N => k_asm); (case c => ktr_unf); (case D => k_asm); k_whole)))
local macro_rules | `(tactic| walk_at "getAttr ref") => `(tactic| (k_here; (rename RawMark => rm9); (with_reducible show wpAny _ _ (getAttr (Value.ref _) (Str.ofString "next") _) _ _ _); (rename HS _ _ _ => hs9); k_dflt (refine' nd_raw .next ?F ?X ?N ?c hs9 ?D ?_; (case F => k_asm); (case X => k_asm); (case N => k_asm); (case c => ktr_unf); (case D => k_asm); k_whole)))
local macro_rules | `(tactic| walk_at "getAttr ref") => `(tactic| (k_here; (rename RawMark => rm9); (with_reducible show wpAny _ _ (getAttr (Value.ref _) (Str.ofString "parent") _) _ _ _); (rename HS _ _ _ => hs9); k_dflt (refine' nd_raw .parent ?F ?X ?N ?c hs9 ?D ?_; (case F => k_asm); (case X => k_asm); (case N => k_asm); (case c => ktr_unf); (case D => k_asm); k_whole)))
local macro_rules | `(tactic| walk_at "getAttr ref") => `(tactic| (k_here; (rename RawMark => rm9); (with_reducible show wpAny _ _ (getAttr (Value.ref _) (Str.ofString "prev") _) _ _ _); (rename HS _ _ _ => hs9); k_dflt (refine' nd_raw .prev ?F ?X ?N ?c hs9 ?D ?_; (case F => k_asm); (case X => k_asm); (case N => k_asm); (case c => ktr_unf); (case D => k_asm); k_whole)))
local macro_rules | `(tactic| ktr_rel) => `(tactic| first | (with_reducible assumption) | (intro x9 e9; (first | (cases e9; done) | (cases e9; assumption))))
local macro_rules | `(tactic| tb_start) => `(tactic| first | assumption | exact News.sub (by assumption) (fun _ hp => List.mem_cons_of_mem _ hp) | exact News.sub (by assumption) (fun _ hp => List.mem_cons_of_mem _ (List.mem_cons_of_mem _ hp)) | exact News.sub (by assumption) (fun _ hp => List.mem_cons_of_mem _ (List.mem_cons_of_mem _ (List.mem_cons_of_mem _ hp))))
local macro_rules | `(tactic| walk_at "And") => `(tactic| ((with_reducible show MethP _ _ _ _ _ ∧ _); refine' And.intro ?mp ?_; (case mp => (refine' methP ?N ?q ?X; (case N => k_asm); (case q => first | exact List.Mem.head _ | k_mem); (case X => k_in))); (try dsimp only [List.nil_append, List.cons_append])))
local macro_rules | `(tactic| k_all) => `(tactic| first | exact ks_off (by assumption) (by assumption) | assumption)
local macro_rules | `(tactic| walk_at "setAttr ref") => `(tactic| (k_here; (with_reducible show wpAny _ _ (setAttr (Value.ref _) (Str.ofString "value") (Value.int _ _)) _ _ _); (rename HS _ _ _ => hs9); (rename KS _ _ _ => ks9); k_dflt (refine' nd_setval ?F ?X ?N ?c hs9 ?D ?_; (case F => k_asm); (case X => k_asm); (case N => k_asm); (case c => ktr_unf); (case D => k_asm); k_whole); intro h' nl' F' N' H' kk9; (have ks' := KS.trans ks9 kk9); clear hs9 ks9 kk9; (try dsimp only [List.cons_append, List.nil_append] at N'); (try k_sweep)))
local macro_rules | `(tactic| tb_rel) => `(tactic| first | assumption | exact Or.inl rfl | exact Or.inr (by assumption))
local macro_rules | `(tactic| kaf_pre) => `(tactic| (repeat (first | exact List.Mem.head _ | apply List.Mem.tail)))
local macro_rules | `(tactic| kaf_suf) => `(tactic| ((try simp only [List.size_toArray, List.length_cons, List.length_map, List.length_append, List.length_nil, sizeLine_eq]); omega))
local macro_rules | `(tactic| kat_tups) => `(tactic| (intro p9 hp9; repeat (first | exact hp9 | apply List.mem_cons_of_mem)))
theorem allLt_mem {d : Addr} {l : List (Addr × Obj)} (h : AllLt d l) : ∀ p ∈ l, @LT.lt Nat _ p.1 d := by
  induction l with
  | nil => intro p hp; cases hp
  | cons x r ih =>
    intro p hp
    rcases List.mem_cons.mp hp with rfl | hp
    · exact h.1
    · exact ih h.2 p hp
theorem allLt_ne {d x : Addr} {l : List (Addr × Obj)} (h : AllLt d l) (hx : @LE.le Nat _ d x) : ∀ p ∈ l, p.1 ≠ x := fun p hp => Nat.ne_of_lt (Nat.lt_of_lt_of_le (allLt_mem h p hp) hx)
theorem lt_ne {d x : Addr} {l : List (Addr × Obj)} (h : ∀ p ∈ l, p.1 < d) (hx : @LE.le Nat _ d x) : ∀ p ∈ l, p.1 ≠ x := fun p hp => Nat.ne_of_lt (Nat.lt_of_lt_of_le (h p hp) hx)
local macro_rules | `(tactic| k_all) => `(tactic| first | exact allLt_ne (by assumption) (by (try dsimp only); omega) | exact lt_ne (by assumption) (by (try dsimp only); omega))
local macro_rules | `(tactic| k_room) => `(tactic| ktr_room)
local macro_rules | `(tactic| k_units) => `(tactic| ktr_units)
section
variable {w : World} {dp un : Nat} {gd : Option (List Code)} {cn : Str} {cs : Scope} {fa : Addr} {ccd : Value} {cl : List (Str × Addr)} {outer : List Env} {A₀ : Around} {base h₀ : Heap} {L : Addr} {m : Str → Option Value} {s : Shared}
  {Q E : Value → Shared → Prop} {p : Program} {loose : List Str} {mean : ExcName → Option Value} {mg mb : Str → Option Value} {news : List (Addr × Obj)}

set_option maxHeartbeats 8000000 in
theorem node_new {k v : Int} {kt vt : Tok} (B : Below A₀ base outer h₀) (F : Fr h₀ L s.heap m) (X : (hd.heap_39 w.params).In h₀) (N : News h₀ L s.heap news) (T : Top p loose mean mg mb h₀) (hk : cs.kind = .function)
    (hd : dp + 20 < recursionLimit) (hu : un + 100 < cLine)
    (hret : ∀ h' tk' x dx, Fr h₀ L h' m → News h₀ L h' ((x, ndObj ⟨none, none, none, none, k, kt, v, vt⟩ dx) :: (dx, dictOf [] 0) :: news) → (∀ p ∈ news, p.1 < dx) → @LT.lt Nat _ dx x → Q (.ref x) { s with heap := h', toks := tk' }) :
    wpAny (model PySem.Challenge.rw_aw6015_01.row.prog w) (ktrTop dp un gd cn cs L fa ccd cl outer) (call (.ref 83) [.int k kt, .int v vt]) Q E s := by
  revert X
  w_top off
  k_fill
  intro X
  obtain ⟨ck, cnm, cg, cco, cmo⟩ := cs
  have hk' : ck = .function := hk
  subst hk'
  k_steps
  exact hret _ _ _ _ (by assumption) (by tb_start) (by assumption) (by assumption)
end

end Mine
end
section
open PySem PySem.W PySem.Calls PyProof.Rows
namespace Mine
local macro_rules | `(tactic| walk_at "none at all Pp 0") => `(tactic| (fail))
local macro_rules | `(tactic| walk_at "none at all Pp 1") => `(tactic| (fail))
set_option maxRecDepth 100000
local macro_rules | `(tactic| ktr_unf) => `(tactic| (repeat (first | exact Hole.here | exact Hole.opq (by assumption) | (apply Hole.cons; (first | exact rfl | exact dict_notNode (by assumption) | exact cell_notNode (by assumption) | exact ns_notNode (by assumption))))))
local macro_rules | `(tactic| walk_at "getAttr ref") => `(tactic| (k_here; (with_reducible show wpAny _ _ (getAttr (Value.ref _) (Str.ofString "value") _) _ _ _); (rename HS _ _ _ => hs9); k_dflt (refine' nd_value ?F ?X ?N ?c hs9 ?D ?_; (case F => k_asm); (case X => k_asm); (case N => k_asm); (case c => ktr_unf); (case D => k_asm); k_whole)))
local macro_rules | `(tactic| walk_at "getAttr ref") => `(tactic| (k_here; (with_reducible show wpAny _ _ (getAttr (Value.ref _) (Str.ofString "key") _) _ _ _); (rename HS _ _ _ => hs9); k_dflt (refine' nd_key ?F ?X ?N ?c hs9 ?D ?_; (case F => k_asm); (case X => k_asm); (case N => k_asm); (case c => ktr_unf); (case D => k_asm); k_whole)))
local macro_rules | `(tactic| walk_at "getAttr ref") => `(tactic| (k_here; (with_reducible show wpAny _ _ (getAttr (Value.ref _) (Str.ofString "left") _) _ _ _); (rename HS _ _ _ => hs9); k_dflt (refine' nd_get .left ?F ?X ?N ?c hs9 ?D ?_ ?_; (case F => k_asm); (case X => k_asm); (case N => k_asm); (case c => ktr_unf); (case D => k_asm)); all_goals (intros; k_whole)))
local macro_rules | `(tactic| walk_at "setAttr ref") => `(tactic| (k_here; (with_reducible show wpAny _ _ (setAttr (Value.ref _) (Str.ofString "left") _) _ _ _); (rename HS _ _ _ => hs9); (rename KS _ _ _ => ks9); k_dflt ((first | refine' nd_set (v := none) .left ?F ?X ?N ?c hs9 ?D ?v ?_ | refine' nd_set (v := some _) .left ?F ?X ?N ?c hs9 ?D ?v ?_ | refine' nd_set .left ?F ?X ?N ?c hs9 ?D ?v ?_); (case F => k_asm); (case X => k_asm); (case N => k_asm); (case c => ktr_unf); (case D => k_asm); (case v => ktr_rel); k_whole); intro h' nl' F' N' H' kk9; (have ks' := KS.trans ks9 kk9); clear hs9 ks9 kk9; (try dsimp only [List.cons_append, List.nil_append] at N'); (try k_sweep)))
local macro_rules | `(tactic| walk_at "getAttr ref") => `(tactic| (k_here; (with_reducible show wpAny _ _ (getAttr (Value.ref _) (Str.ofString "next") _) _ _ _); (rename HS _ _ _ => hs9); k_dflt (refine' nd_get .next ?F ?X ?N ?c hs9 ?D ?_ ?_; (case F => k_asm); (case X => k_asm); (case N => k_asm); (case c => ktr_unf); (case D => k_asm)); all_goals (intros; k_whole)))
local macro_rules | `(tactic| walk_at "setAttr ref") => `(tactic| (k_here; (with_reducible show wpAny _ _ (setAttr (Value.ref _) (Str.ofString "next") _) _ _ _); (rename HS _ _ _ => hs9); (rename KS _ _ _ => ks9); k_dflt ((first | refine' nd_set (v := none) .next ?F ?X ?N ?c hs9 ?D ?v ?_ | refine' nd_set (v := some _) .next ?F ?X ?N ?c hs9 ?D ?v ?_ | refine' nd_set .next ?F ?X ?N ?c hs9 ?D ?v ?_); (case F => k_asm); (case X => k_asm); (case N => k_asm); (case c => ktr_unf); (case D => k_asm); (case v => ktr_rel); k_whole); intro h' nl' F' N' H' kk9; (have ks' := KS.trans ks9 kk9); clear hs9 ks9 kk9; (try dsimp only [List.cons_append, List.nil_append] at N'); (try k_sweep)))
local macro_rules | `(tactic| walk_at "getAttr ref") => `(tactic| (k_here; (with_reducible show wpAny _ _ (getAttr (Value.ref _) (Str.ofString "parent") _) _ _ _); (rename HS _ _ _ => hs9); k_dflt (refine' nd_get .parent ?F ?X ?N ?c hs9 ?D ?_ ?_; (case F => k_asm); (case X => k_asm); (case N => k_asm); (case c => ktr_unf); (case D => k_asm)); all_goals (intros; k_whole)))
local macro_rules | `(tactic| walk_at "setAttr ref") => `(tactic| (k_here; (with_reducible show wpAny _ _ (setAttr (Value.ref _) (Str.ofString "parent") _) _ _ _); (rename HS _ _ _ => hs9); (rename KS _ _ _ => ks9); k_dflt ((first | refine' nd_set (v := none) .parent ?F ?X ?N ?c hs9 ?D ?v ?_ | refine' nd_set (v := some _) .parent ?F ?X ?N ?c hs9 ?D ?v ?_ | refine' nd_set .parent ?F ?X ?N ?c hs9 ?D ?v ?_); (case F => k_asm); (case X => k_asm); (case N => k_asm); (case c => ktr_unf); (case D => k_asm); (case v => ktr_rel); k_whole); intro h' nl' F' N' H' kk9; (have ks' := KS.trans ks9 kk9); clear hs9 ks9 kk9; (try dsimp only [List.cons_append, List.nil_append] at N'); (try k_sweep)))
local macro_rules | `(tactic| walk_at "getAttr ref") => `(tactic| (k_here; (with_reducible show wpAny _ _ (getAttr (Value.ref _) (Str.ofString "prev") _) _ _ _); (rename HS _ _ _ => hs9); k_dflt (refine' nd_get .prev ?F ?X ?N ?c hs9 ?D ?_ ?_; (case F => k_asm); (case X => k_asm); (case N => k_asm); (case c => ktr_unf); (case D => k_asm)); all_goals (intros; k_whole)))
local macro_rules | `(tactic| walk_at "setAttr ref") => `(tactic| (k_here; (with_reducible show wpAny _ _ (setAttr (Value.ref _) (Str.ofString "prev") _) _ _ _); (rename HS _ _ _ => hs9); (rename KS _ _ _ => ks9); k_dflt ((first | refine' nd_set (v := none) .prev ?F ?X ?N ?c hs9 ?D ?v ?_ | refine' nd_set (v := some _) .prev ?F ?X ?N ?c hs9 ?D ?v ?_ | refine' nd_set .prev ?F ?X ?N ?c hs9 ?D ?v ?_); (case F => k_asm); (case X => k_asm); (case N => k_asm); (case c => ktr_unf); (case D => k_asm); (case v => ktr_rel); k_whole); intro h' nl' F' N' H' kk9; (have ks' := KS.trans ks9 kk9); clear hs9 ks9 kk9; (try dsimp only [List.cons_append, List.nil_append] at N'); (try k_sweep)))
local macro_rules | `(tactic| walk_at "getAttr ref") => `(tactic| (k_here; (rename RawMark => rm9); (with_reducible show wpAny _ _ (getAttr (Value.ref _) (Str.ofString "left") _) _ _ _); (rename HS _ _ _ => hs9); k_dflt (refine' nd_raw .left ?F ?X ?N ?c hs9 ?D ?_; (case F => k_asm); (case X => k_asm); (case N => k_asm); (case c => ktr_unf); (case D => k_asm); k_whole)))
local macro_rules | `(tactic| walk_at "getAttr ref") => `(tactic| (k_here; (rename RawMark => rm9); (with_reducible show wpAny _ _ (getAttr (Value.ref _) (Str.ofString "next") _) _ _ _); (rename HS _ _ _ => hs9); k_dflt (refine' nd_raw .next ?F ?X ?N ?c hs9 ?D ?_; (case F => k_asm); (case X => k_asm); (case N => k_asm); (case c => ktr_unf); (case D => k_asm); k_whole)))
local macro_rules | `(tactic| walk_at "getAttr ref") => `(tactic| (k_here; (rename RawMark => rm9); (with_reducible show wpAny _ _ (getAttr (Value.ref _) (Str.ofString "parent") _) _ _ _); (rename HS _ _ _ => hs9); k_dflt (refine' nd_raw .parent ?F ?X ?N ?c hs9 ?D ?_; (case F => k_asm); (case X => k_asm); (case N => k_asm); (case c => ktr_unf); (case D => k_asm); k_whole)))
local macro_rules | `(tactic| walk_at "getAttr ref") => `(tactic| (k_here; (rename RawMark => rm9); (with_reducible show wpAny _ _ (getAttr (Value.ref _) (Str.ofString "prev") _) _ _ _); (rename HS _ _ _ => hs9); k_dflt (refine' nd_raw .prev ?F ?X ?N ?c hs9 ?D ?_; (case F => k_asm); (case X => k_asm); (case N => k_asm); (case c => ktr_unf); (case D => k_asm); k_whole)))
local macro_rules | `(tactic| ktr_rel) => `(tactic| first | (with_reducible assumption) | (intro x9 e9; (first | (cases e9; done) | (cases e9; assumption))))
local macro_rules | `(tactic| tb_start) => `(tactic| first | assumption | exact News.sub (by assumption) (fun _ hp => List.mem_cons_of_mem _ hp) | exact News.sub (by assumption) (fun _ hp => List.mem_cons_of_mem _ (List.mem_cons_of_mem _ hp)) | exact News.sub (by assumption) (fun _ hp => List.mem_cons_of_mem _ (List.mem_cons_of_mem _ (List.mem_cons_of_mem _ hp))))
local macro_rules | `(tactic| walk_at "And") => `(tactic| ((with_reducible show MethP _ _ _ _ _ ∧ _); refine' And.intro ?mp ?_; (case mp => (refine' methP ?N ?q ?X; (case N => k_asm); (case q => first | exact List.Mem.head _ | k_mem); (case X => k_in))); (try dsimp only [List.nil_append, List.cons_append])))
local macro_rules | `(tactic| k_all) => `(tactic| first | exact ks_off (by assumption) (by assumption) | assumption)
local macro_rules | `(tactic| walk_at "setAttr ref") => `(tactic| (k_here; (with_reducible show wpAny _ _ (setAttr (Value.ref _) (Str.ofString "value") (Value.int _ _)) _ _ _); (rename HS _ _ _ => hs9); (rename KS _ _ _ => ks9); k_dflt (refine' nd_setval ?F ?X ?N ?c hs9 ?D ?_; (case F => k_asm); (case X => k_asm); (case N => k_asm); (case c => ktr_unf); (case D => k_asm); k_whole); intro h' nl' F' N' H' kk9; (have ks' := KS.trans ks9 kk9); clear hs9 ks9 kk9; (try dsimp only [List.cons_append, List.nil_append] at N'); (try k_sweep)))
local macro_rules | `(tactic| tb_rel) => `(tactic| first | assumption | exact Or.inl rfl | exact Or.inr (by assumption))
local macro_rules | `(tactic| kaf_pre) => `(tactic| (repeat (first | exact List.Mem.head _ | apply List.Mem.tail)))
local macro_rules | `(tactic| kaf_suf) => `(tactic| ((try simp only [List.size_toArray, List.length_cons, List.length_map, List.length_append, List.length_nil, sizeLine_eq]); omega))
local macro_rules | `(tactic| kat_tups) => `(tactic| (intro p9 hp9; repeat (first | exact hp9 | apply List.mem_cons_of_mem)))

local macro_rules | `(tactic| walk_at "call ref") => `(tactic| (k_here; (with_reducible show wpAny _ _ (call (Value.ref 191) _ _) _ _ _); (rename HS _ _ _ => hs9); (rename KS _ _ _ => ks9); (rename PI _ _ _ _ => pi9); k_dflt (refine' wpAny_call (merge_codeH ?B ?F ?X ?N ?T ?k ?d ?c ?m1 ?m2 hs9 (pop_args pi9).2.2.2.2.2 (pop_args pi9).1 (pop_args pi9).2.1 (pop_args pi9).2.2.1 (pop_args pi9).2.2.2.1 (pop_args pi9).2.2.2.2.1 ?_); (case B => k_asm); (case F => k_asm); (case X => k_asm); (case N => k_asm); (case T => k_asm); (case k => exact rfl); (case d => ktr_room); (case c => ktr_unf); (case m1 => k_mem); (case m2 => k_mem); k_whole); intro h' tk' nl' s' t' F' N' H' kk9 mo'; (have ks' := KS.trans ks9 kk9); clear hs9 ks9 kk9; (try dsimp only [List.cons_append, List.nil_append] at N'); (try dsimp only); (try k_sweep)))
local macro_rules | `(tactic| walk_at "delItem ref int") => `(tactic| (k_here; (rename PI _ _ _ _ => pi9); (rename MergeOut _ _ _ _ _ _ => mo9); k_dflt (refine' kob_del (knd := PySem.intKind _ _) ?F ?N ?U ?d (intKind_is _ _ _ _) ?l ?z ?_; (case F => k_asm); (case N => k_asm); (case U => k_updF); (case d => k_asm); (case l => (rw [(mo9.kv _).1, pi9.at (by simp [BT.ad])]; rfl)); (case z => (rw [pi9.len, sizeLine_eq]; omega))); intro h' o' F' N' hd'; (try dsimp only at N')))
section
variable {w : World} {dp un : Nat} {gd : Option (List Code)} {cn : Str} {cs : Scope} {fa : Addr} {ccd : Value} {cl : List (Str × Addr)} {outer : List Env} {A₀ : Around} {base h₀ : Heap} {L : Addr} {m : Str → Option Value} {s : Shared}
  {R : Result → Shared → Prop} {p : Program} {loose : List Str} {mean : ExcName → Option Value} {mg mb : Str → Option Value} {nl : List (Addr × Obj)} {pre : List (Addr × Obj)} {D : Addr → Prop} {σ : Addr → Nd}

set_option maxHeartbeats 8000000 in
theorem pop_code {hp hx dd a : Addr} {t1 t2 : Tok} {h1 h2 : Int} {oD : Obj} {kvs : List (Int × Value)} {l : BT} (B : Below A₀ base outer h₀) (F : Fr h₀ L s.heap m) (X : (hd.heap_39 w.params).In h₀)
    (N : News h₀ L s.heap ((hp, instObj 201 hx) :: (hx, dictOf [⟨h1, .str (Str.ofString "_dict") t1, .ref dd⟩, ⟨h2, .str (Str.ofString "_root") t2, .ref a⟩] 2) :: (dd, oD) :: (pre ++ nl))) (T : Top p loose mean mg mb h₀) (hk : cs.kind = .function)
    (hd : dp + 30 < recursionLimit) (hu : un + 100 < cLine) (hc : PreOk pre) (H : HS nl D σ) (hoD : oD.IsDictOf (intKind PySem.Challenge.rw_aw6015_01.row.prog w) kvs) (lo : (dd == sysModules) = false)
    (P : PI D σ (.node a l .nil) kvs) (o1 : ∀ p ∈ pre ++ nl, p.1 ≠ hx) (o2 : ∀ p ∈ pre ++ nl, p.1 ≠ dd) (ne1 : @Ne Nat hp hx) (ne2 : @Ne Nat hp dd) (ne3 : @Ne Nat hx dd) (hz : (BT.node a l .nil).ad.length ≤ 100)
    (hret : ∀ h' tk' nl' σ' t' oD' q kt vt, Fr h₀ L h' m → News h₀ L h' ((q, { cls := .type "tuple", data := .seq #[.int (σ a).key kt, .int (σ a).value vt] }) :: (hp, instObj 201 hx) :: (hx, dictOf [⟨h1, .str (Str.ofString "_dict") t1, .ref dd⟩, ⟨h2, .str (Str.ofString "_root") t2, oref (BT.hd t')⟩] 2) :: (dd, oD') :: (pre ++ nl')) →
      oD'.IsDictOf (intKind PySem.Challenge.rw_aw6015_01.row.prog w) (without kvs (σ a).key) → HS nl' D σ' → KS D nl nl' → PI D σ' t' (without kvs (σ a).key) → t'.ad.Perm l.ad → KV σ σ' → R (.ok (.ret (.ref q))) { s with heap := h', toks := tk' }) :
    codeAny (model PySem.Challenge.rw_aw6015_01.row.prog w) (ktrTop dp un gd cn cs L fa ccd cl outer) (.call (.ref 161) ⟨[.ref hp], []⟩) R s := by
  revert X
  w_top off
  k_fill
  intro X
  have ks0 : KS D nl nl := KS.refl
  have hDa : D a := (pop_args P).2.2.2.2.2
  k_dflt ktr_enter
  k_steps
  rename MergeOut _ _ _ _ _ _ => mo9
  rename News _ _ _ _ => kN9
  rename Fr _ _ _ _ => kF9
  rename Obj.IsDictOf _ _ _ => hd9
  rename PI _ _ _ _ => P9
  obtain ⟨q1, q2, q3⟩ := pop_PI P9 mo9
  rw [(mo9.kv a).1, (mo9.kv a).2] at kN9
  rw [(mo9.kv a).1] at hd9
  exact hret _ _ _ _ _ _ _ _ _ kF9 kN9 hd9 (by assumption) (by assumption) q1 q2 q3
end

end Mine
end
section
open PySem PySem.W PySem.Calls PyProof.Rows
namespace Mine
set_option maxRecDepth 100000
local macro_rules | `(tactic| ktr_unf) => `(tactic| (repeat (first | exact Hole.here | exact Hole.opq (by assumption) | (apply Hole.cons; (first | exact rfl | exact dict_notNode (by assumption) | exact cell_notNode (by assumption) | exact ns_notNode (by assumption))))))
local macro_rules | `(tactic| walk_at "getAttr ref") => `(tactic| (k_here; (with_reducible show wpAny _ _ (getAttr (Value.ref _) (Str.ofString "value") _) _ _ _); (rename HS _ _ _ => hs9); k_dflt (refine' nd_value ?F ?X ?N ?c hs9 ?D ?_; (case F => k_asm); (case X => k_asm); (case N => k_asm); (case c => ktr_unf); (case D => k_asm); k_whole)))
local macro_rules | `(tactic| walk_at "getAttr ref") => `(tactic| (k_here; (with_reducible show wpAny _ _ (getAttr (Value.ref _) (Str.ofString "key") _) _ _ _); (rename HS _ _ _ => hs9); k_dflt (refine' nd_key ?F ?X ?N ?c hs9 ?D ?_; (case F => k_asm); (case X => k_asm); (case N => k_asm); (case c => ktr_unf); (case D => k_asm); k_whole)))
local macro_rules | `(tactic| walk_at "getAttr ref") => `(tactic| (k_here; (with_reducible show wpAny _ _ (getAttr (Value.ref _) (Str.ofString "left") _) _ _ _); (rename HS _ _ _ => hs9); k_dflt (refine' nd_get .left ?F ?X ?N ?c hs9 ?D ?_ ?_; (case F => k_asm); (case X => k_asm); (case N => k_asm); (case c => ktr_unf); (case D => k_asm)); all_goals (intros; k_whole)))
local macro_rules | `(tactic| walk_at "setAttr ref") => `(tactic| (k_here; (with_reducible show wpAny _ _ (setAttr (Value.ref _) (Str.ofString "left") _) _ _ _); (rename HS _ _ _ => hs9); (rename KS _ _ _ => ks9); k_dflt ((first | refine' nd_set (v := none) .left ?F ?X ?N ?c hs9 ?D ?v ?_ | refine' nd_set (v := some _) .left ?F ?X ?N ?c hs9 ?D ?v ?_ | refine' nd_set .left ?F ?X ?N ?c hs9 ?D ?v ?_); (case F => k_asm); (case X => k_asm); (case N => k_asm); (case c => ktr_unf); (case D => k_asm); (case v => ktr_rel); k_whole); intro h' nl' F' N' H' kk9; (have ks' := KS.trans ks9 kk9); clear hs9 ks9 kk9; (try dsimp only [List.cons_append, List.nil_append] at N'); (try k_sweep)))
local macro_rules | `(tactic| walk_at "getAttr ref") => `(tactic| (k_here; (with_reducible show wpAny _ _ (getAttr (Value.ref _) (Str.ofString "next") _) _ _ _); (rename HS _ _ _ => hs9); k_dflt (refine' nd_get .next ?F ?X ?N ?c hs9 ?D ?_ ?_; (case F => k_asm); (case X => k_asm); (case N => k_asm); (case c => ktr_unf); (case D => k_asm)); all_goals (intros; k_whole)))
local macro_rules | `(tactic| walk_at "setAttr ref") => `(tactic| (k_here; (with_reducible show wpAny _ _ (setAttr (Value.ref _) (Str.ofString "next") _) _ _ _); (rename HS _ _ _ => hs9); (rename KS _ _ _ => ks9); k_dflt ((first | refine' nd_set (v := none) .next ?F ?X ?N ?c hs9 ?D ?v ?_ | refine' nd_set (v := some _) .next ?F ?X ?N ?c hs9 ?D ?v ?_ | refine' nd_set .next ?F ?X ?N ?c hs9 ?D ?v ?_); (case F => k_asm); (case X => k_asm); (case N => k_asm); (case c => ktr_unf); (case D => k_asm); (case v => ktr_rel); k_whole); intro h' nl' F' N' H' kk9; (have ks' := KS.trans ks9 kk9); clear hs9 ks9 kk9; (try dsimp only [List.cons_append, List.nil_append] at N'); (try k_sweep)))
local macro_rules | `(tactic| walk_at "getAttr ref") => `(tactic| (k_here; (with_reducible show wpAny _ _ (getAttr (Value.ref _) (Str.ofString "parent") _) _ _ _); (rename HS _ _ _ => hs9); k_dflt (refine' nd_get .parent ?F ?X ?N ?c hs9 ?D ?_ ?_; (case F => k_asm); (case X => k_asm); (case N => k_asm); (case c => ktr_unf); (case D => k_asm)); all_goals (intros; k_whole)))
local macro_rules | `(tactic| walk_at "setAttr ref") => `(tactic| (k_here; (with_reducible show wpAny _ _ (setAttr (Value.ref _) (Str.ofString "parent") _) _ _ _); (rename HS _ _ _ => hs9); (rename KS _ _ _ => ks9); k_dflt ((first | refine' nd_set (v := none) .parent ?F ?X ?N ?c hs9 ?D ?v ?_ | refine' nd_set (v := some _) .parent ?F ?X ?N ?c hs9 ?D ?v ?_ | refine' nd_set .parent ?F ?X ?N ?c hs9 ?D ?v ?_); (case F => k_asm); (case X => k_asm); (case N => k_asm); (case c => ktr_unf); (case D => k_asm); (case v => ktr_rel); k_whole); intro h' nl' F' N' H' kk9; (have ks' := KS.trans ks9 kk9); clear hs9 ks9 kk9; (try dsimp only [List.cons_append, List.nil_append] at N'); (try k_sweep)))
local macro_rules | `(tactic| walk_at "getAttr ref") => `(tactic| (k_here; (with_reducible show wpAny _ _ (getAttr (Value.ref _) (Str.ofString "prev") _) _ _ _); (rename HS _ _ _ => hs9); k_dflt (refine' nd_get .prev ?F ?X ?N ?c hs9 ?D ?_ ?_; (case F => k_asm); (case X => k_asm); (case N => k_asm); (case c => ktr_unf); (case D => k_asm)); all_goals (intros; k_whole)))
local macro_rules | `(tactic| walk_at "setAttr ref") => `(tactic| (k_here; (with_reducible show wpAny _ _ (setAttr (Value.ref _) (Str.ofString "prev") _) _ _ _); (rename HS _ _ _ => hs9); (rename KS _ _ _ => ks9); k_dflt ((first | refine' nd_set (v := none) .prev ?F ?X ?N ?c hs9 ?D ?v ?_ | refine' nd_set (v := some _) .prev ?F ?X ?N ?c hs9 ?D ?v ?_ | refine' nd_set .prev ?F ?X ?N ?c hs9 ?D ?v ?_); (case F => k_asm); (case X => k_asm); (case N => k_asm); (case c => ktr_unf); (case D => k_asm); (case v => ktr_rel); k_whole); intro h' nl' F' N' H' kk9; (have ks' := KS.trans ks9 kk9); clear hs9 ks9 kk9; (try dsimp only [List.cons_append, List.nil_append] at N'); (try k_sweep)))
local macro_rules | `(tactic| walk_at "getAttr ref") => `(tactic| (k_here; (rename RawMark => rm9); (with_reducible show wpAny _ _ (getAttr (Value.ref _) (Str.ofString "left") _) _ _ _); (rename HS _ _ _ => hs9); k_dflt (refine' nd_raw .left ?F ?X ?N ?c hs9 ?D ?_; (case F => k_asm); (case X => k_asm); (case N => k_asm); (case c => ktr_unf); (case D => k_asm); k_whole)))
local macro_rules | `(tactic| walk_at "getAttr ref") => `(tactic| (k_here; (rename RawMark => rm9); (with_reducible show wpAny _ _ (getAttr (Value.ref _) (Str.ofString "next") _) _ _ _); (rename HS _ _ _ => hs9); k_dflt (refine' nd_raw .next ?F ?X ?N ?c hs9 ?D ?_; (case F => k_asm); (case X => k_asm); (case N => k_asm); (case c => ktr_unf); (case D => k_asm); k_whole)))
local macro_rules | `(tactic| walk_at "getAttr ref") => `(tactic| (k_here; (rename RawMark => rm9); (with_reducible show wpAny _ _ (getAttr (Value.ref _) (Str.ofString "parent") _) _ _ _); (rename HS _ _ _ => hs9); k_dflt (refine' nd_raw .parent ?F ?X ?N ?c hs9 ?D ?_; (case F => k_asm); (case X => k_asm); (case N => k_asm); (case c => ktr_unf); (case D => k_asm); k_whole)))
local macro_rules | `(tactic| walk_at "getAttr ref") => `(tactic| (k_here; (rename RawMark => rm9); (with_reducible show wpAny _ _ (getAttr (Value.ref _) (Str.ofString "prev") _) _ _ _); (rename HS _ _ _ => hs9); k_dflt (refine' nd_raw .prev ?F ?X ?N ?c hs9 ?D ?_; (case F => k_asm); (case X => k_asm); (case N => k_asm); (case c => ktr_unf); (case D => k_asm); k_whole)))
local macro_rules | `(tactic| ktr_rel) => `(tactic| first | (with_reducible assumption) | (intro x9 e9; (first | (cases e9; done) | (cases e9; assumption))))
local macro_rules | `(tactic| tb_start) => `(tactic| first | assumption | exact News.sub (by assumption) (fun _ hp => List.mem_cons_of_mem _ hp) | exact News.sub (by assumption) (fun _ hp => List.mem_cons_of_mem _ (List.mem_cons_of_mem _ hp)) | exact News.sub (by assumption) (fun _ hp => List.mem_cons_of_mem _ (List.mem_cons_of_mem _ (List.mem_cons_of_mem _ hp))))
local macro_rules | `(tactic| walk_at "And") => `(tactic| ((with_reducible show MethP _ _ _ _ _ ∧ _); refine' And.intro ?mp ?_; (case mp => (refine' methP ?N ?q ?X; (case N => k_asm); (case q => first | exact List.Mem.head _ | k_mem); (case X => k_in))); (try dsimp only [List.nil_append, List.cons_append])))
local macro_rules | `(tactic| k_all) => `(tactic| first | exact ks_off (by assumption) (by assumption) | assumption)
local macro_rules | `(tactic| walk_at "setAttr ref") => `(tactic| (k_here; (with_reducible show wpAny _ _ (setAttr (Value.ref _) (Str.ofString "value") (Value.int _ _)) _ _ _); (rename HS _ _ _ => hs9); (rename KS _ _ _ => ks9); k_dflt (refine' nd_setval ?F ?X ?N ?c hs9 ?D ?_; (case F => k_asm); (case X => k_asm); (case N => k_asm); (case c => ktr_unf); (case D => k_asm); k_whole); intro h' nl' F' N' H' kk9; (have ks' := KS.trans ks9 kk9); clear hs9 ks9 kk9; (try dsimp only [List.cons_append, List.nil_append] at N'); (try k_sweep)))
local macro_rules | `(tactic| tb_rel) => `(tactic| first | assumption | exact Or.inl rfl | exact Or.inr (by assumption))
local macro_rules | `(tactic| kaf_pre) => `(tactic| (repeat (first | exact List.Mem.head _ | apply List.Mem.tail)))
local macro_rules | `(tactic| kaf_suf) => `(tactic| ((try simp only [List.size_toArray, List.length_cons, List.length_map, List.length_append, List.length_nil, sizeLine_eq]); omega))
local macro_rules | `(tactic| kat_tups) => `(tactic| (intro p9 hp9; repeat (first | exact hp9 | apply List.mem_cons_of_mem)))

local macro_rules | `(tactic| k_room) => `(tactic| ktr_room)
local macro_rules | `(tactic| k_units) => `(tactic| ktr_units)
local macro_rules | `(tactic| k_all) => `(tactic| first | exact ks_off (by assumption) (Off.l (by assumption)) | exact ks_off (by assumption) (Off.r (by assumption)))
local macro_rules | `(tactic| walk_at "call builtin:dict.get") => `(tactic| (k_here; (with_reducible show wpAny _ _ (call (Value.builtin "dict.get") [Value.ref _, Value.int _ _]) _ _ _); (rename PI _ _ _ _ => pi9); k_dflt (refine' dget ?N ?m ?d ?lo pi9 ?_ ?_; (case N => k_asm); (case m => k_mem); (case d => k_asm); (case lo => k_asm)); (all_goals (first | ((with_reducible show ∀ a : Addr, a ∈ BT.ad _ → _ → _ → _); intro a' ha' hDa' hk'; (first | (exfalso; simp [BT.ad] at ha'; done) | skip)) | intro hno'))))
local macro_rules | `(tactic| walk_at "call ref") => `(tactic| (k_here; (with_reducible show wpAny _ _ (call (Value.ref 184) _ _) _ _ _); (rename HS _ _ _ => hs9); (rename KS _ _ _ => ks9); k_dflt (refine' wpAny_call (link_codeH ?B ?F ?X ?N2 ?T ?k ?d ?c hs9 ?r ?o ?_); (case B => k_asm); (case F => k_asm); (case X => k_asm); (case N2 => k_asm); (case T => k_asm); (case k => exact rfl); (case d => ktr_room); (case c => ktr_unf); (case r => tb_rel); (case o => tb_rel); k_whole); intro h' tk' nl' w' l' wl' F' N' H' kk9; (have ks' := KS.trans ks9 kk9); clear hs9 ks9 kk9; (try dsimp only [List.cons_append, List.nil_append] at N'); (try dsimp only); (try k_sweep)))
local macro_rules | `(tactic| walk_at "call ref") => `(tactic| (k_here; (with_reducible show wpAny _ _ (call (Value.ref 198) _ _) _ _ _); (rename HS _ _ _ => hs9); (rename KS _ _ _ => ks9); (rename PI _ _ _ _ => pi9); k_dflt (refine' wpAny_call (cut_codeH ?B ?F ?X ?N2 ?T ?k ?d ?c hs9 ?x ?p ?_); (case B => k_asm); (case F => k_asm); (case X => k_asm); (case N2 => k_asm); (case T => k_asm); (case k => exact rfl); (case d => ktr_room); (case c => ktr_unf); (case x => k_asm); (case p => exact fun _ e9 => PI.par pi9 rfl (by assumption) (by assumption) e9); k_whole); intro h' tk' nl' F' N' H' kk9; (have ks' := KS.trans ks9 kk9); clear hs9 ks9 kk9; (try dsimp only [List.cons_append, List.nil_append] at N'); (try dsimp only); (try k_sweep)))
local macro_rules | `(tactic| walk_at "call ref") => `(tactic| (k_here; (with_reducible show wpAny _ _ (call (Value.ref 191) _ _) _ _ _); (rename HS _ _ _ => hs9); (rename KS _ _ _ => ks9); (rename PI _ _ _ _ => pi9); (rename (_ ∈ BT.ad _) => ha9); k_dflt (refine' wpAny_call (merge_codeH ?B ?F ?X ?N ?T ?k ?d ?c ?m1 ?m2 hs9 (pi9.dom _ ha9) (inc_args pi9 ha9).1 (inc_args pi9 ha9).2.1 (inc_args pi9 ha9).2.2.1 (inc_nd pi9 ha9) (inc_dom pi9 ha9) ?_); (case B => k_asm); (case F => k_asm); (case X => k_asm); (case N => k_asm); (case T => k_asm); (case k => exact rfl); (case d => ktr_room); (case c => ktr_unf); (case m1 => k_mem); (case m2 => k_mem); k_whole); intro h' tk' nl' s' t' F' N' H' kk9 mo'; (have ks' := KS.trans ks9 kk9); clear hs9 ks9 kk9; (try dsimp only [List.cons_append, List.nil_append] at N'); (try dsimp only); (try k_sweep); (generalize hq' : BT.hd t' = q'; cases q' <;> dsimp only [oref]); (all_goals (try (have hDc9 := mergeD pi9 ha9 mo' hq')))))
local macro_rules | `(tactic| walk_at "call ref") => `(tactic| (k_here; (with_reducible show wpAny _ _ (call (Value.ref 83) _ _) _ _ _); (rename HS _ _ _ => hs9); (rename KS _ _ _ => ks9); (rename Off _ _ _ _ => off9); k_dflt (refine' node_new ?B ?F ?X ?N ?T ?k ?d ?u ?_; (case B => k_asm); (case F => k_asm); (case X => k_asm); (case N => k_asm); (case T => k_asm); (case k => exact rfl); (case d => ktr_room); (case u => ktr_units); k_whole); intro h' tk' x' dx' F' N' lt' lx'; k_dflt (obtain ⟨N9, H', nD', ks', hDx', off'⟩ := new_hole2 N' (by ktr_unf) hs9 lt' lx' off9 (by k_mem) (by k_mem)); clear N' hs9 ks9 off9; (dsimp only [List.cons_append, List.nil_append] at N9); (try dsimp only)))
local macro_rules | `(tactic| walk_at "setItem ref int") => `(tactic| (k_here; (rename PI _ _ _ _ => pi9); k_dflt (refine' kda_set (knd := PySem.intKind _ _) ?F ?N ?U ?d (intKind_is _ _ _ _) ?z ?_; (case F => k_asm); (case N => k_asm); (case U => k_updF); (case d => k_asm); (case z => (rw [pi9.len, sizeLine_eq]; omega))); intro h' o' F' N' hd'; (try dsimp only at N')))
local macro_rules | `(tactic| walk_at "compareOp IsNot ref ref") => `(tactic| (k_here; (with_reducible show wpAny _ _ (compareOp CmpOp.IsNot (Value.ref _) (Value.ref _)) _ _ _); (rename HS _ _ _ => hs9); k_dflt (refine' nd_isNot ?N ?c hs9 ?a ?b ?_ ?_; (case N => k_asm); (case c => ktr_unf); (case a => k_asm); (case b => k_asm)); (all_goals intro eq9)))
local macro_rules | `(tactic| walk_at "getAttr none") => `(tactic| (exfalso; (rename PI _ _ _ _ => pi9); exact PI.par pi9 rfl (by assumption) (by assumption) (by assumption)))
section
variable {w : World} {dp un : Nat} {gd : Option (List Code)} {cn : Str} {cs : Scope} {fa : Addr} {ccd : Value} {cl : List (Str × Addr)} {outer : List Env} {A₀ : Around} {base h₀ : Heap} {L : Addr} {m : Str → Option Value} {s : Shared}
  {R : Result → Shared → Prop} {p : Program} {loose : List Str} {mean : ExcName → Option Value} {mg mb : Str → Option Value} {nl : List (Addr × Obj)} {pre : List (Addr × Obj)} {D : Addr → Prop} {σ : Addr → Nd}

set_option maxHeartbeats 8000000 in
theorem ins0F {hp hx dd : Addr} {t1 t2 : Tok} {h1 h2 : Int} {oD : Obj} {kvs : List (Int × Value)} {k v : Int} {kt vt : Tok} (B : Below A₀ base outer h₀) (F : Fr h₀ L s.heap m) (X : (hd.heap_39 w.params).In h₀)
    (N : News h₀ L s.heap ((hp, instObj 201 hx) :: (hx, dictOf [⟨h1, .str (Str.ofString "_dict") t1, .ref dd⟩, ⟨h2, .str (Str.ofString "_root") t2, .none⟩] 2) :: (dd, oD) :: (pre ++ nl))) (T : Top p loose mean mg mb h₀) (hk : cs.kind = .function)
    (hd : dp + 30 < recursionLimit) (hu : un + 200 < cLine) (hc : PreOk pre) (H : HS nl D σ) (hoD : oD.IsDictOf (intKind PySem.Challenge.rw_aw6015_01.row.prog w) kvs) (lo : (dd == sysModules) = false)
    (P : PI D σ .nil kvs) (off : Off pre nl hx dd) (ne1 : @Ne Nat hp hx) (ne2 : @Ne Nat hp dd) (ne3 : @Ne Nat hx dd) (hz : (BT.nil).ad.length ≤ 100)
    (hret : ∀ h' tk' nl' D' σ' t' kvs' oD' r, Fr h₀ L h' m → News h₀ L h' ((hp, instObj 201 hx) :: (hx, dictOf [⟨h1, .str (Str.ofString "_dict") t1, .ref dd⟩, ⟨h2, .str (Str.ofString "_root") t2, oref (BT.hd t')⟩] 2) :: (dd, oD') :: (pre ++ nl')) →
      oD'.IsDictOf (intKind PySem.Challenge.rw_aw6015_01.row.prog w) kvs' → HS nl' D' σ' → KN D pre nl nl' → Off pre nl' hx dd → PI D' σ' t' kvs' → InsOut k v false σ .nil σ' t' r → (∀ b, D b → D' b) → R (.ok (.ret (.bool r))) { s with heap := h', toks := tk' }) :
    codeAny (model PySem.Challenge.rw_aw6015_01.row.prog w) (ktrTop dp un gd cn cs L fa ccd cl outer) (.call (.ref 177) ⟨[.ref hp, .int k kt, .int v vt], []⟩) R s := by
  revert X
  w_top off
  k_fill
  intro X
  obtain ⟨ck, cnm, cg, cco, cmo⟩ := cs
  have hk' : ck = .function := hk
  subst hk'
  have ks0 : KS D nl nl := KS.refl
  k_dflt k_enter
  k_steps
  rename_i x9 dx9 lt9 lx9 H9 nD9 ks9 hDx9 off9 e1 e2 o9 hd9 e3 F9 N9 kF9 kN9 T9 X9
  rename PI _ _ _ _ => P9
  obtain ⟨q1, q2⟩ := ins_new0 (al := false) (k := k) (v := v) (kt := kt) (vt := vt) (x := x9) (D' := fun b => b = x9 ∨ D b) P9 (fun _ h => Or.inr h) (Or.inl rfl)
  exact hret _ _ _ _ _ (.node x9 .nil .nil) _ _ _ kF9 kN9 hd9 H9 (KN.new ks9 (fun p h => by simp [h]) (fun p h => by simp [h]) lt9 lx9) off9 q1 q2 (fun _ h => Or.inr h)

set_option maxHeartbeats 8000000 in
theorem ins0T {hp hx dd : Addr} {t1 t2 : Tok} {h1 h2 : Int} {oD : Obj} {kvs : List (Int × Value)} {k v : Int} {kt vt : Tok} (B : Below A₀ base outer h₀) (F : Fr h₀ L s.heap m) (X : (hd.heap_39 w.params).In h₀)
    (N : News h₀ L s.heap ((hp, instObj 201 hx) :: (hx, dictOf [⟨h1, .str (Str.ofString "_dict") t1, .ref dd⟩, ⟨h2, .str (Str.ofString "_root") t2, .none⟩] 2) :: (dd, oD) :: (pre ++ nl))) (T : Top p loose mean mg mb h₀) (hk : cs.kind = .function)
    (hd : dp + 30 < recursionLimit) (hu : un + 200 < cLine) (hc : PreOk pre) (H : HS nl D σ) (hoD : oD.IsDictOf (intKind PySem.Challenge.rw_aw6015_01.row.prog w) kvs) (lo : (dd == sysModules) = false)
    (P : PI D σ .nil kvs) (off : Off pre nl hx dd) (ne1 : @Ne Nat hp hx) (ne2 : @Ne Nat hp dd) (ne3 : @Ne Nat hx dd) (hz : (BT.nil).ad.length ≤ 100)
    (hret : ∀ h' tk' nl' D' σ' t' kvs' oD' r, Fr h₀ L h' m → News h₀ L h' ((hp, instObj 201 hx) :: (hx, dictOf [⟨h1, .str (Str.ofString "_dict") t1, .ref dd⟩, ⟨h2, .str (Str.ofString "_root") t2, oref (BT.hd t')⟩] 2) :: (dd, oD') :: (pre ++ nl')) →
      oD'.IsDictOf (intKind PySem.Challenge.rw_aw6015_01.row.prog w) kvs' → HS nl' D' σ' → KN D pre nl nl' → Off pre nl' hx dd → PI D' σ' t' kvs' → InsOut k v true σ .nil σ' t' r → (∀ b, D b → D' b) → R (.ok (.ret (.bool r))) { s with heap := h', toks := tk' }) :
    codeAny (model PySem.Challenge.rw_aw6015_01.row.prog w) (ktrTop dp un gd cn cs L fa ccd cl outer) (.call (.ref 177) ⟨[.ref hp, .int k kt, .int v vt], [(Str.ofString "allow_increase", .bool true)]⟩) R s := by
  revert X
  w_top off
  k_fill
  intro X
  obtain ⟨ck, cnm, cg, cco, cmo⟩ := cs
  have hk' : ck = .function := hk
  subst hk'
  have ks0 : KS D nl nl := KS.refl
  k_dflt k_enter
  k_steps
  rename_i x9 dx9 lt9 lx9 H9 nD9 ks9 hDx9 off9 e1 e2 o9 hd9 e3 F9 N9 kF9 kN9 T9 X9
  rename PI _ _ _ _ => P9
  obtain ⟨q1, q2⟩ := ins_new0 (al := true) (k := k) (v := v) (kt := kt) (vt := vt) (x := x9) (D' := fun b => b = x9 ∨ D b) P9 (fun _ h => Or.inr h) (Or.inl rfl)
  exact hret _ _ _ _ _ (.node x9 .nil .nil) _ _ _ kF9 kN9 hd9 H9 (KN.new ks9 (fun p h => by simp [h]) (fun p h => by simp [h]) lt9 lx9) off9 q1 q2 (fun _ h => Or.inr h)

end

end Mine
end
section
open PySem PySem.W PySem.Calls PyProof.Rows
namespace Mine
local macro_rules | `(tactic| walk_at "none at all In1F 0") => `(tactic| (fail))
set_option maxRecDepth 100000
local macro_rules | `(tactic| ktr_unf) => `(tactic| (repeat (first | exact Hole.here | exact Hole.opq (by assumption) | (apply Hole.cons; (first | exact rfl | exact dict_notNode (by assumption) | exact cell_notNode (by assumption) | exact ns_notNode (by assumption))))))
local macro_rules | `(tactic| walk_at "getAttr ref") => `(tactic| (k_here; (with_reducible show wpAny _ _ (getAttr (Value.ref _) (Str.ofString "value") _) _ _ _); (rename HS _ _ _ => hs9); k_dflt (refine' nd_value ?F ?X ?N ?c hs9 ?D ?_; (case F => k_asm); (case X => k_asm); (case N => k_asm); (case c => ktr_unf); (case D => k_asm); k_whole)))
local macro_rules | `(tactic| walk_at "getAttr ref") => `(tactic| (k_here; (with_reducible show wpAny _ _ (getAttr (Value.ref _) (Str.ofString "key") _) _ _ _); (rename HS _ _ _ => hs9); k_dflt (refine' nd_key ?F ?X ?N ?c hs9 ?D ?_; (case F => k_asm); (case X => k_asm); (case N => k_asm); (case c => ktr_unf); (case D => k_asm); k_whole)))
local macro_rules | `(tactic| walk_at "getAttr ref") => `(tactic| (k_here; (with_reducible show wpAny _ _ (getAttr (Value.ref _) (Str.ofString "left") _) _ _ _); (rename HS _ _ _ => hs9); k_dflt (refine' nd_get .left ?F ?X ?N ?c hs9 ?D ?_ ?_; (case F => k_asm); (case X => k_asm); (case N => k_asm); (case c => ktr_unf); (case D => k_asm)); all_goals (intros; k_whole)))
local macro_rules | `(tactic| walk_at "setAttr ref") => `(tactic| (k_here; (with_reducible show wpAny _ _ (setAttr (Value.ref _) (Str.ofString "left") _) _ _ _); (rename HS _ _ _ => hs9); (rename KS _ _ _ => ks9); k_dflt ((first | refine' nd_set (v := none) .left ?F ?X ?N ?c hs9 ?D ?v ?_ | refine' nd_set (v := some _) .left ?F ?X ?N ?c hs9 ?D ?v ?_ | refine' nd_set .left ?F ?X ?N ?c hs9 ?D ?v ?_); (case F => k_asm); (case X => k_asm); (case N => k_asm); (case c => ktr_unf); (case D => k_asm); (case v => ktr_rel); k_whole); intro h' nl' F' N' H' kk9; (have ks' := KS.trans ks9 kk9); clear hs9 ks9 kk9; (try dsimp only [List.cons_append, List.nil_append] at N'); (try k_sweep)))
local macro_rules | `(tactic| walk_at "getAttr ref") => `(tactic| (k_here; (with_reducible show wpAny _ _ (getAttr (Value.ref _) (Str.ofString "next") _) _ _ _); (rename HS _ _ _ => hs9); k_dflt (refine' nd_get .next ?F ?X ?N ?c hs9 ?D ?_ ?_; (case F => k_asm); (case X => k_asm); (case N => k_asm); (case c => ktr_unf); (case D => k_asm)); all_goals (intros; k_whole)))
local macro_rules | `(tactic| walk_at "setAttr ref") => `(tactic| (k_here; (with_reducible show wpAny _ _ (setAttr (Value.ref _) (Str.ofString "next") _) _ _ _); (rename HS _ _ _ => hs9); (rename KS _ _ _ => ks9); k_dflt ((first | refine' nd_set (v := none) .next ?F ?X ?N ?c hs9 ?D ?v ?_ | refine' nd_set (v := some _) .next ?F ?X ?N ?c hs9 ?D ?v ?_ | refine' nd_set .next ?F ?X ?N ?c hs9 ?D ?v ?_); (case F => k_asm); (case X => k_asm); (case N => k_asm); (case c => ktr_unf); (case D => k_asm); (case v => ktr_rel); k_whole); intro h' nl' F' N' H' kk9; (have ks' := KS.trans ks9 kk9); clear hs9 ks9 kk9; (try dsimp only [List.cons_append, List.nil_append] at N'); (try k_sweep)))
local macro_rules | `(tactic| walk_at "getAttr ref") => `(tactic| (k_here; (with_reducible show wpAny _ _ (getAttr (Value.ref _) (Str.ofString "parent") _) _ _ _); (rename HS _ _ _ => hs9); k_dflt (refine' nd_get .parent ?F ?X ?N ?c hs9 ?D ?_ ?_; (case F => k_asm); (case X => k_asm); (case N => k_asm); (case c => ktr_unf); (case D => k_asm)); all_goals (intros; k_whole)))
local macro_rules | `(tactic| walk_at "setAttr ref") => `(tactic| (k_here; (with_reducible show wpAny _ _ (setAttr (Value.ref _) (Str.ofString "parent") _) _ _ _); (rename HS _ _ _ => hs9); (rename KS _ _ _ => ks9); k_dflt ((first | refine' nd_set (v := none) .parent ?F ?X ?N ?c hs9 ?D ?v ?_ | refine' nd_set (v := some _) .parent ?F ?X ?N ?c hs9 ?D ?v ?_ | refine' nd_set .parent ?F ?X ?N ?c hs9 ?D ?v ?_); (case F => k_asm); (case X => k_asm); (case N => k_asm); (case c => ktr_unf); (case D => k_asm); (case v => ktr_rel); k_whole); intro h' nl' F' N' H' kk9; (have ks' := KS.trans ks9 kk9); clear hs9 ks9 kk9; (try dsimp only [List.cons_append, List.nil_append] at N'); (try k_sweep)))
local macro_rules | `(tactic| walk_at "getAttr ref") => `(tactic| (k_here; (with_reducible show wpAny _ _ (getAttr (Value.ref _) (Str.ofString "prev") _) _ _ _); (rename HS _ _ _ => hs9); k_dflt (refine' nd_get .prev ?F ?X ?N ?c hs9 ?D ?_ ?_; (case F => k_asm); (case X => k_asm); (case N => k_asm); (case c => ktr_unf); (case D => k_asm)); all_goals (intros; k_whole)))
local macro_rules | `(tactic| walk_at "setAttr ref") => `(tactic| (k_here; (with_reducible show wpAny _ _ (setAttr (Value.ref _) (Str.ofString "prev") _) _ _ _); (rename HS _ _ _ => hs9); (rename KS _ _ _ => ks9); k_dflt ((first | refine' nd_set (v := none) .prev ?F ?X ?N ?c hs9 ?D ?v ?_ | refine' nd_set (v := some _) .prev ?F ?X ?N ?c hs9 ?D ?v ?_ | refine' nd_set .prev ?F ?X ?N ?c hs9 ?D ?v ?_); (case F => k_asm); (case X => k_asm); (case N => k_asm); (case c => ktr_unf); (case D => k_asm); (case v => ktr_rel); k_whole); intro h' nl' F' N' H' kk9; (have ks' := KS.trans ks9 kk9); clear hs9 ks9 kk9; (try dsimp only [List.cons_append, List.nil_append] at N'); (try k_sweep)))
local macro_rules | `(tactic| walk_at "getAttr ref") => `(tactic| (k_here; (rename RawMark => rm9); (with_reducible show wpAny _ _ (getAttr (Value.ref _) (Str.ofString "left") _) _ _ _); (rename HS _ _ _ => hs9); k_dflt (refine' nd_raw .left ?F ?X ?N ?c hs9 ?D ?_; (case F => k_asm); (case X => k_asm); (case N => k_asm); (case c => ktr_unf); (case D => k_asm); k_whole)))
local macro_rules | `(tactic| walk_at "getAttr ref") => `(tactic| (k_here; (rename RawMark => rm9); (with_reducible show wpAny _ _ (getAttr (Value.ref _) (Str.ofString "next") _) _ _ _); (rename HS _ _ _ => hs9); k_dflt (refine' nd_raw .next ?F ?X ?N ?c hs9 ?D ?_; (case F => k_asm); (case X => k_asm); (case N => k_asm); (case c => ktr_unf); (case D => k_asm); k_whole)))
local macro_rules | `(tactic| walk_at "getAttr ref") => `(tactic| (k_here; (rename RawMark => rm9); (with_reducible show wpAny _ _ (getAttr (Value.ref _) (Str.ofString "parent") _) _ _ _); (rename HS _ _ _ => hs9); k_dflt (refine' nd_raw .parent ?F ?X ?N ?c hs9 ?D ?_; (case F => k_asm); (case X => k_asm); (case N => k_asm); (case c => ktr_unf); (case D => k_asm); k_whole)))
local macro_rules | `(tactic| walk_at "getAttr ref") => `(tactic| (k_here; (rename RawMark => rm9); (with_reducible show wpAny _ _ (getAttr (Value.ref _) (Str.ofString "prev") _) _ _ _); (rename HS _ _ _ => hs9); k_dflt (refine' nd_raw .prev ?F ?X ?N ?c hs9 ?D ?_; (case F => k_asm); (case X => k_asm); (case N => k_asm); (case c => ktr_unf); (case D => k_asm); k_whole)))
local macro_rules | `(tactic| ktr_rel) => `(tactic| first | (with_reducible assumption) | (intro x9 e9; (first | (cases e9; done) | (cases e9; assumption))))
local macro_rules | `(tactic| tb_start) => `(tactic| first | assumption | exact News.sub (by assumption) (fun _ hp => List.mem_cons_of_mem _ hp) | exact News.sub (by assumption) (fun _ hp => List.mem_cons_of_mem _ (List.mem_cons_of_mem _ hp)) | exact News.sub (by assumption) (fun _ hp => List.mem_cons_of_mem _ (List.mem_cons_of_mem _ (List.mem_cons_of_mem _ hp))))
local macro_rules | `(tactic| walk_at "And") => `(tactic| ((with_reducible show MethP _ _ _ _ _ ∧ _); refine' And.intro ?mp ?_; (case mp => (refine' methP ?N ?q ?X; (case N => k_asm); (case q => first | exact List.Mem.head _ | k_mem); (case X => k_in))); (try dsimp only [List.nil_append, List.cons_append])))
local macro_rules | `(tactic| k_all) => `(tactic| first | exact ks_off (by assumption) (by assumption) | assumption)
local macro_rules | `(tactic| walk_at "setAttr ref") => `(tactic| (k_here; (with_reducible show wpAny _ _ (setAttr (Value.ref _) (Str.ofString "value") (Value.int _ _)) _ _ _); (rename HS _ _ _ => hs9); (rename KS _ _ _ => ks9); k_dflt (refine' nd_setval ?F ?X ?N ?c hs9 ?D ?_; (case F => k_asm); (case X => k_asm); (case N => k_asm); (case c => ktr_unf); (case D => k_asm); k_whole); intro h' nl' F' N' H' kk9; (have ks' := KS.trans ks9 kk9); clear hs9 ks9 kk9; (try dsimp only [List.cons_append, List.nil_append] at N'); (try k_sweep)))
local macro_rules | `(tactic| tb_rel) => `(tactic| first | assumption | exact Or.inl rfl | exact Or.inr (by assumption))
local macro_rules | `(tactic| kaf_pre) => `(tactic| (repeat (first | exact List.Mem.head _ | apply List.Mem.tail)))
local macro_rules | `(tactic| kaf_suf) => `(tactic| ((try simp only [List.size_toArray, List.length_cons, List.length_map, List.length_append, List.length_nil, sizeLine_eq]); omega))
local macro_rules | `(tactic| kat_tups) => `(tactic| (intro p9 hp9; repeat (first | exact hp9 | apply List.mem_cons_of_mem)))

local macro_rules | `(tactic| k_room) => `(tactic| ktr_room)
local macro_rules | `(tactic| k_units) => `(tactic| ktr_units)
local macro_rules | `(tactic| k_all) => `(tactic| first | exact ks_off (by assumption) (Off.l (by assumption)) | exact ks_off (by assumption) (Off.r (by assumption)))
local macro_rules | `(tactic| walk_at "call builtin:dict.get") => `(tactic| (k_here; (with_reducible show wpAny _ _ (call (Value.builtin "dict.get") [Value.ref _, Value.int _ _]) _ _ _); (rename PI _ _ _ _ => pi9); k_dflt (refine' dget ?N ?m ?d ?lo pi9 ?_ ?_; (case N => k_asm); (case m => k_mem); (case d => k_asm); (case lo => k_asm)); (all_goals (first | ((with_reducible show ∀ a : Addr, a ∈ BT.ad _ → _ → _ → _); intro a' ha' hDa' hk'; (first | (exfalso; simp [BT.ad] at ha'; done) | skip)) | intro hno'))))
local macro_rules | `(tactic| walk_at "call ref") => `(tactic| (k_here; (with_reducible show wpAny _ _ (call (Value.ref 184) _ _) _ _ _); (rename HS _ _ _ => hs9); (rename KS _ _ _ => ks9); k_dflt (refine' wpAny_call (link_codeH ?B ?F ?X ?N2 ?T ?k ?d ?c hs9 ?r ?o ?_); (case B => k_asm); (case F => k_asm); (case X => k_asm); (case N2 => k_asm); (case T => k_asm); (case k => exact rfl); (case d => ktr_room); (case c => ktr_unf); (case r => tb_rel); (case o => tb_rel); k_whole); intro h' tk' nl' w' l' wl' F' N' H' kk9; (have ks' := KS.trans ks9 kk9); clear hs9 ks9 kk9; (try dsimp only [List.cons_append, List.nil_append] at N'); (try dsimp only); (try k_sweep)))
local macro_rules | `(tactic| walk_at "call ref") => `(tactic| (k_here; (with_reducible show wpAny _ _ (call (Value.ref 198) _ _) _ _ _); (rename HS _ _ _ => hs9); (rename KS _ _ _ => ks9); (rename PI _ _ _ _ => pi9); k_dflt (refine' wpAny_call (cut_codeH ?B ?F ?X ?N2 ?T ?k ?d ?c hs9 ?x ?p ?_); (case B => k_asm); (case F => k_asm); (case X => k_asm); (case N2 => k_asm); (case T => k_asm); (case k => exact rfl); (case d => ktr_room); (case c => ktr_unf); (case x => k_asm); (case p => exact fun _ e9 => PI.par pi9 rfl (by assumption) (by assumption) e9); k_whole); intro h' tk' nl' F' N' H' kk9; (have ks' := KS.trans ks9 kk9); clear hs9 ks9 kk9; (try dsimp only [List.cons_append, List.nil_append] at N'); (try dsimp only); (try k_sweep)))
local macro_rules | `(tactic| walk_at "call ref") => `(tactic| (k_here; (with_reducible show wpAny _ _ (call (Value.ref 191) _ _) _ _ _); (rename HS _ _ _ => hs9); (rename KS _ _ _ => ks9); (rename PI _ _ _ _ => pi9); (rename (_ ∈ BT.ad _) => ha9); k_dflt (refine' wpAny_call (merge_codeH ?B ?F ?X ?N ?T ?k ?d ?c ?m1 ?m2 hs9 (pi9.dom _ ha9) (inc_args pi9 ha9).1 (inc_args pi9 ha9).2.1 (inc_args pi9 ha9).2.2.1 (inc_nd pi9 ha9) (inc_dom pi9 ha9) ?_); (case B => k_asm); (case F => k_asm); (case X => k_asm); (case N => k_asm); (case T => k_asm); (case k => exact rfl); (case d => ktr_room); (case c => ktr_unf); (case m1 => k_mem); (case m2 => k_mem); k_whole); intro h' tk' nl' s' t' F' N' H' kk9 mo'; (have ks' := KS.trans ks9 kk9); clear hs9 ks9 kk9; (try dsimp only [List.cons_append, List.nil_append] at N'); (try dsimp only); (try k_sweep); (generalize hq' : BT.hd t' = q'; cases q' <;> dsimp only [oref]); (all_goals (try (have hDc9 := mergeD pi9 ha9 mo' hq')))))
local macro_rules | `(tactic| walk_at "call ref") => `(tactic| (k_here; (with_reducible show wpAny _ _ (call (Value.ref 83) _ _) _ _ _); (rename HS _ _ _ => hs9); (rename KS _ _ _ => ks9); (rename Off _ _ _ _ => off9); k_dflt (refine' node_new ?B ?F ?X ?N ?T ?k ?d ?u ?_; (case B => k_asm); (case F => k_asm); (case X => k_asm); (case N => k_asm); (case T => k_asm); (case k => exact rfl); (case d => ktr_room); (case u => ktr_units); k_whole); intro h' tk' x' dx' F' N' lt' lx'; k_dflt (obtain ⟨N9, H', nD', ks', hDx', off'⟩ := new_hole2 N' (by ktr_unf) hs9 lt' lx' off9 (by k_mem) (by k_mem)); clear N' hs9 ks9 off9; (dsimp only [List.cons_append, List.nil_append] at N9); (try dsimp only)))
local macro_rules | `(tactic| walk_at "setItem ref int") => `(tactic| (k_here; (rename PI _ _ _ _ => pi9); k_dflt (refine' kda_set (knd := PySem.intKind _ _) ?F ?N ?U ?d (intKind_is _ _ _ _) ?z ?_; (case F => k_asm); (case N => k_asm); (case U => k_updF); (case d => k_asm); (case z => (rw [pi9.len, sizeLine_eq]; omega))); intro h' o' F' N' hd'; (try dsimp only at N')))
local macro_rules | `(tactic| walk_at "compareOp IsNot ref ref") => `(tactic| (k_here; (with_reducible show wpAny _ _ (compareOp CmpOp.IsNot (Value.ref _) (Value.ref _)) _ _ _); (rename HS _ _ _ => hs9); k_dflt (refine' nd_isNot ?N ?c hs9 ?a ?b ?_ ?_; (case N => k_asm); (case c => ktr_unf); (case a => k_asm); (case b => k_asm)); (all_goals intro eq9)))
local macro_rules | `(tactic| walk_at "getAttr none") => `(tactic| (exfalso; (rename PI _ _ _ _ => pi9); exact PI.par pi9 rfl (by assumption) (by assumption) (by assumption)))
section
variable {w : World} {dp un : Nat} {gd : Option (List Code)} {cn : Str} {cs : Scope} {fa : Addr} {ccd : Value} {cl : List (Str × Addr)} {outer : List Env} {A₀ : Around} {base h₀ : Heap} {L : Addr} {m : Str → Option Value} {s : Shared}
  {R : Result → Shared → Prop} {p : Program} {loose : List Str} {mean : ExcName → Option Value} {mg mb : Str → Option Value} {nl : List (Addr × Obj)} {pre : List (Addr × Obj)} {D : Addr → Prop} {σ : Addr → Nd}

set_option maxHeartbeats 8000000 in
theorem ins1F {hp hx dd r : Addr} {t1 t2 : Tok} {h1 h2 : Int} {oD : Obj} {kvs : List (Int × Value)} {lr : BT} {k v : Int} {kt vt : Tok} (B : Below A₀ base outer h₀) (F : Fr h₀ L s.heap m) (X : (hd.heap_39 w.params).In h₀)
    (N : News h₀ L s.heap ((hp, instObj 201 hx) :: (hx, dictOf [⟨h1, .str (Str.ofString "_dict") t1, .ref dd⟩, ⟨h2, .str (Str.ofString "_root") t2, .ref r⟩] 2) :: (dd, oD) :: (pre ++ nl))) (T : Top p loose mean mg mb h₀) (hk : cs.kind = .function)
    (hd : dp + 30 < recursionLimit) (hu : un + 200 < cLine) (hc : PreOk pre) (H : HS nl D σ) (hoD : oD.IsDictOf (intKind PySem.Challenge.rw_aw6015_01.row.prog w) kvs) (lo : (dd == sysModules) = false)
    (P : PI D σ (.node r lr .nil) kvs) (off : Off pre nl hx dd) (ne1 : @Ne Nat hp hx) (ne2 : @Ne Nat hp dd) (ne3 : @Ne Nat hx dd) (hz : (BT.node r lr .nil).ad.length ≤ 100)
    (hret : ∀ h' tk' nl' D' σ' t' kvs' oD' b, Fr h₀ L h' m → News h₀ L h' ((hp, instObj 201 hx) :: (hx, dictOf [⟨h1, .str (Str.ofString "_dict") t1, .ref dd⟩, ⟨h2, .str (Str.ofString "_root") t2, oref (BT.hd t')⟩] 2) :: (dd, oD') :: (pre ++ nl')) →
      oD'.IsDictOf (intKind PySem.Challenge.rw_aw6015_01.row.prog w) kvs' → HS nl' D' σ' → KN D pre nl nl' → Off pre nl' hx dd → PI D' σ' t' kvs' → InsOut k v false σ (.node r lr .nil) σ' t' b → (∀ b, D b → D' b) → R (.ok (.ret (.bool b))) { s with heap := h', toks := tk' }) :
    codeAny (model PySem.Challenge.rw_aw6015_01.row.prog w) (ktrTop dp un gd cn cs L fa ccd cl outer) (.call (.ref 177) ⟨[.ref hp, .int k kt, .int v vt], []⟩) R s := by
  revert X
  w_top off
  k_fill
  intro X
  obtain ⟨ck, cnm, cg, cco, cmo⟩ := cs
  have hk' : ck = .function := hk
  subst hk'
  have ks0 : KS D nl nl := KS.refl
  have hDr : D r := P.dom r (by simp [BT.ad])
  k_dflt k_enter
  k_steps
  · rename_i x9 dx9 lt9 lx9 nD9 hDx9 off9 a1 a2 a3 o9 hd9 a4 a5 nl9 w9 l9 wl9 H9 ks9 a6 F9 N9 kF9 kN9 T9 X9
    rename PI _ _ _ _ => P9
    rename (∀ a ∈ (BT.node r lr BT.nil).ad, (σ a).key ≠ k) => hn9
    obtain ⟨t', q1, q2, q3⟩ := ins_new1 (al := false) (D' := fun b => b = x9 ∨ D b) P9 rfl hn9 (fun h => nD9 (P9.dom _ h)) (fun _ h => Or.inr h) hDx9 wl9
    exact hret _ _ _ _ _ t' _ _ _ kF9 (by rw [q3]; exact kN9) hd9 H9 (KN.new ks9 (fun p h => by simp [h]) (fun p h => by simp [h]) lt9 lx9) (ks9.off off9) q1 q2 (fun _ h => Or.inr h)
  · rename PI _ _ _ _ => P9; rename News _ _ _ _ => kN9; rename Fr _ _ _ _ => kF9; rename HS _ _ _ => H9; rename KS _ _ _ => ks9; rename Off _ _ _ _ => off9
    rename (_ ∈ BT.ad _) => ha9; rename ((σ _).key = k) => hk9; rename (v < (σ _).value) => hv9; rename (_ = r) => e9
    obtain ⟨q1, q2⟩ := ins_dec (vt := vt) (al := false) P9 ha9 hk9 hv9 (.inl (by rw [e9]; rfl))
    exact hret _ _ _ _ _ (.node r lr .nil) _ _ _ kF9 kN9 hoD H9 ks9.kn (ks9.off off9) q1 q2 (fun _ h => h)
  · rename PI _ _ _ _ => P9; rename News _ _ _ _ => kN9; rename Fr _ _ _ _ => kF9; rename HS _ _ _ => H9; rename KS _ _ _ => ks9; rename Off _ _ _ _ => off9
    rename (_ ∈ BT.ad _) => ha9; rename ((σ _).key = k) => hk9; rename (v < (σ _).value) => hv9; rename (¬ _ = r) => e9; rename WL _ _ _ _ _ => wl9
    obtain ⟨t', q1, q2, q3⟩ := ins_cut (vt := vt) (al := false) P9 rfl ha9 e9 hk9 hv9 wl9
    exact hret _ _ _ _ _ t' _ _ _ kF9 (by rw [q3]; exact kN9) hoD H9 ks9.kn (ks9.off off9) q1 q2 (fun _ h => h)
  · rename PI _ _ _ _ => P9; rename News _ _ _ _ => kN9; rename Fr _ _ _ _ => kF9; rename HS _ _ _ => H9; rename KS _ _ _ => ks9; rename Off _ _ _ _ => off9
    rename (_ ∈ BT.ad _) => ha9; rename ((σ _).key = k) => hk9; rename (v < (σ _).value) => hv9; rename (¬ _ = r) => e9; rename (¬ v < (setVal σ _ v vt _).value) => hp9; rename ((setVal σ _ v vt _).get Fl.parent = some _) => hx9
    obtain ⟨q1, q2⟩ := ins_dec' (vt := vt) (al := false) P9 ha9 hk9 hv9 e9 hx9 hp9
    exact hret _ _ _ _ _ (.node r lr .nil) _ _ _ kF9 kN9 hoD H9 ks9.kn (ks9.off off9) q1 q2 (fun _ h => h)
  · rename PI _ _ _ _ => P9; rename News _ _ _ _ => kN9; rename Fr _ _ _ _ => kF9; rename HS _ _ _ => H9; rename KS _ _ _ => ks9; rename Off _ _ _ _ => off9
    rename (_ ∈ BT.ad _) => ha9; rename ((σ _).key = k) => hk9; rename (¬ v < (σ _).value) => hv9
    obtain ⟨q1, q2⟩ := ins_keep (al := false) P9 ha9 hk9 hv9 (by rintro ⟨⟩)
    exact hret _ _ _ _ _ (.node r lr .nil) _ _ _ kF9 kN9 hoD H9 ks9.kn (ks9.off off9) q1 q2 (fun _ h => h)

end

end Mine
end
section
open PySem PySem.W PySem.Calls PyProof.Rows
namespace Mine
local macro_rules | `(tactic| walk_at "none at all In1T 0") => `(tactic| (fail))
local macro_rules | `(tactic| walk_at "none at all In1T 1") => `(tactic| (fail))
set_option maxRecDepth 100000
local macro_rules | `(tactic| ktr_unf) => `(tactic| (repeat (first | exact Hole.here | exact Hole.opq (by assumption) | (apply Hole.cons; (first | exact rfl | exact dict_notNode (by assumption) | exact cell_notNode (by assumption) | exact ns_notNode (by assumption))))))
local macro_rules | `(tactic| walk_at "getAttr ref") => `(tactic| (k_here; (with_reducible show wpAny _ _ (getAttr (Value.ref _) (Str.ofString "value") _) _ _ _); (rename HS _ _ _ => hs9); k_dflt (refine' nd_value ?F ?X ?N ?c hs9 ?D ?_; (case F => k_asm); (case X => k_asm); (case N => k_asm); (case c => ktr_unf); (case D => k_asm); k_whole)))
local macro_rules | `(tactic| walk_at "getAttr ref") => `(tactic| (k_here; (with_reducible show wpAny _ _ (getAttr (Value.ref _) (Str.ofString "key") _) _ _ _); (rename HS _ _ _ => hs9); k_dflt (refine' nd_key ?F ?X ?N ?c hs9 ?D ?_; (case F => k_asm); (case X => k_asm); (case N => k_asm); (case c => ktr_unf); (case D => k_asm); k_whole)))
local macro_rules | `(tactic| walk_at "getAttr ref") => `(tactic| (k_here; (with_reducible show wpAny _ _ (getAttr (Value.ref _) (Str.ofString "left") _) _ _ _); (rename HS _ _ _ => hs9); k_dflt (refine' nd_get .left ?F ?X ?N ?c hs9 ?D ?_ ?_; (case F => k_asm); (case X => k_asm); (case N => k_asm); (case c => ktr_unf); (case D => k_asm)); all_goals (intros; k_whole)))
local macro_rules | `(tactic| walk_at "setAttr ref") => `(tactic| (k_here; (with_reducible show wpAny _ _ (setAttr (Value.ref _) (Str.ofString "left") _) _ _ _); (rename HS _ _ _ => hs9); (rename KS _ _ _ => ks9); k_dflt ((first | refine' nd_set (v := none) .left ?F ?X ?N ?c hs9 ?D ?v ?_ | refine' nd_set (v := some _) .left ?F ?X ?N ?c hs9 ?D ?v ?_ | refine' nd_set .left ?F ?X ?N ?c hs9 ?D ?v ?_); (case F => k_asm); (case X => k_asm); (case N => k_asm); (case c => ktr_unf); (case D => k_asm); (case v => ktr_rel); k_whole); intro h' nl' F' N' H' kk9; (have ks' := KS.trans ks9 kk9); clear hs9 ks9 kk9; (try dsimp only [List.cons_append, List.nil_append] at N'); (try k_sweep)))
local macro_rules | `(tactic| walk_at "getAttr ref") => `(tactic| (k_here; (with_reducible show wpAny _ _ (getAttr (Value.ref _) (Str.ofString "next") _) _ _ _); (rename HS _ _ _ => hs9); k_dflt (refine' nd_get .next ?F ?X ?N ?c hs9 ?D ?_ ?_; (case F => k_asm); (case X => k_asm); (case N => k_asm); (case c => ktr_unf); (case D => k_asm)); all_goals (intros; k_whole)))
local macro_rules | `(tactic| walk_at "setAttr ref") => `(tactic| (k_here; (with_reducible show wpAny _ _ (setAttr (Value.ref _) (Str.ofString "next") _) _ _ _); (rename HS _ _ _ => hs9); (rename KS _ _ _ => ks9); k_dflt ((first | refine' nd_set (v := none) .next ?F ?X ?N ?c hs9 ?D ?v ?_ | refine' nd_set (v := some _) .next ?F ?X ?N ?c hs9 ?D ?v ?_ | refine' nd_set .next ?F ?X ?N ?c hs9 ?D ?v ?_); (case F => k_asm); (case X => k_asm); (case N => k_asm); (case c => ktr_unf); (case D => k_asm); (case v => ktr_rel); k_whole); intro h' nl' F' N' H' kk9; (have ks' := KS.trans ks9 kk9); clear hs9 ks9 kk9; (try dsimp only [List.cons_append, List.nil_append] at N'); (try k_sweep)))
local macro_rules | `(tactic| walk_at "getAttr ref") => `(tactic| (k_here; (with_reducible show wpAny _ _ (getAttr (Value.ref _) (Str.ofString "parent") _) _ _ _); (rename HS _ _ _ => hs9); k_dflt (refine' nd_get .parent ?F ?X ?N ?c hs9 ?D ?_ ?_; (case F => k_asm); (case X => k_asm); (case N => k_asm); (case c => ktr_unf); (case D => k_asm)); all_goals (intros; k_whole)))
local macro_rules | `(tactic| walk_at "setAttr ref") => `(tactic| (k_here; (with_reducible show wpAny _ _ (setAttr (Value.ref _) (Str.ofString "parent") _) _ _ _); (rename HS _ _ _ => hs9); (rename KS _ _ _ => ks9); k_dflt ((first | refine' nd_set (v := none) .parent ?F ?X ?N ?c hs9 ?D ?v ?_ | refine' nd_set (v := some _) .parent ?F ?X ?N ?c hs9 ?D ?v ?_ | refine' nd_set .parent ?F ?X ?N ?c hs9 ?D ?v ?_); (case F => k_asm); (case X => k_asm); (case N => k_asm); (case c => ktr_unf); (case D => k_asm); (case v => ktr_rel); k_whole); intro h' nl' F' N' H' kk9; (have ks' := KS.trans ks9 kk9); clear hs9 ks9 kk9; (try dsimp only [List.cons_append, List.nil_append] at N'); (try k_sweep)))
local macro_rules | `(tactic| walk_at "getAttr ref") => `(tactic| (k_here; (with_reducible show wpAny _ _ (getAttr (Value.ref _) (Str.ofString "prev") _) _ _ _); (rename HS _ _ _ => hs9); k_dflt (refine' nd_get .prev ?F ?X ?N ?c hs9 ?D ?_ ?_; (case F => k_asm); (case X => k_asm); (case N => k_asm); (case c => ktr_unf); (case D => k_asm)); all_goals (intros; k_whole)))
local macro_rules | `(tactic| walk_at "setAttr ref") => `(tactic| (k_here; (with_reducible show wpAny _ _ (setAttr (Value.ref _) (Str.ofString "prev") _) _ _ _); (rename HS _ _ _ => hs9); (rename KS _ _ _ => ks9); k_dflt ((first | refine' nd_set (v := none) .prev ?F ?X ?N ?c hs9 ?D ?v ?_ | refine' nd_set (v := some _) .prev ?F ?X ?N ?c hs9 ?D ?v ?_ | refine' nd_set .prev ?F ?X ?N ?c hs9 ?D ?v ?_); (case F => k_asm); (case X => k_asm); (case N => k_asm); (case c => ktr_unf); (case D => k_asm); (case v => ktr_rel); k_whole); intro h' nl' F' N' H' kk9; (have ks' := KS.trans ks9 kk9); clear hs9 ks9 kk9; (try dsimp only [List.cons_append, List.nil_append] at N'); (try k_sweep)))
local macro_rules | `(tactic| walk_at "getAttr ref") => `(tactic| (k_here; (rename RawMark => rm9); (with_reducible show wpAny _ _ (getAttr (Value.ref _) (Str.ofString "left") _) _ _ _); (rename HS _ _ _ => hs9); k_dflt (refine' nd_raw .left ?F ?X ?N ?c hs9 ?D ?_; (case F => k_asm); (case X => k_asm); (case N => k_asm); (case c => ktr_unf); (case D => k_asm); k_whole)))
local macro_rules | `(tactic| walk_at "getAttr ref") => `(tactic| (k_here; (rename RawMark => rm9); (with_reducible show wpAny _ _ (getAttr (Value.ref _) (Str.ofString "next") _) _ _ _); (rename HS _ _ _ => hs9); k_dflt (refine' nd_raw .next ?F ?X ?N ?c hs9 ?D ?_; (case F => k_asm); (case X => k_asm); (case N => k_asm); (case c => ktr_unf); (case D => k_asm); k_whole)))
local macro_rules | `(tactic| walk_at "getAttr ref") => `(tactic| (k_here; (rename RawMark => rm9); (with_reducible show wpAny _ _ (getAttr (Value.ref _) (Str.ofString "parent") _) _ _ _); (rename HS _ _ _ => hs9); k_dflt (refine' nd_raw .parent ?F ?X ?N ?c hs9 ?D ?_; (case F => k_asm); (case X => k_asm); (case N => k_asm); (case c => ktr_unf); (case D => k_asm); k_whole)))
local macro_rules | `(tactic| walk_at "getAttr ref") => `(tactic| (k_here; (rename RawMark => rm9); (with_reducible show wpAny _ _ (getAttr (Value.ref _) (Str.ofString "prev") _) _ _ _); (rename HS _ _ _ => hs9); k_dflt (refine' nd_raw .prev ?F ?X ?N ?c hs9 ?D ?_; (case F => k_asm); (case X => k_asm); (case N => k_asm); (case c => ktr_unf); (case D => k_asm); k_whole)))
local macro_rules | `(tactic| ktr_rel) => `(tactic| first | (with_reducible assumption) | (intro x9 e9; (first | (cases e9; done) | (cases e9; assumption))))
local macro_rules | `(tactic| tb_start) => `(tactic| first | assumption | exact News.sub (by assumption) (fun _ hp => List.mem_cons_of_mem _ hp) | exact News.sub (by assumption) (fun _ hp => List.mem_cons_of_mem _ (List.mem_cons_of_mem _ hp)) | exact News.sub (by assumption) (fun _ hp => List.mem_cons_of_mem _ (List.mem_cons_of_mem _ (List.mem_cons_of_mem _ hp))))
local macro_rules | `(tactic| walk_at "And") => `(tactic| ((with_reducible show MethP _ _ _ _ _ ∧ _); refine' And.intro ?mp ?_; (case mp => (refine' methP ?N ?q ?X; (case N => k_asm); (case q => first | exact List.Mem.head _ | k_mem); (case X => k_in))); (try dsimp only [List.nil_append, List.cons_append])))
local macro_rules | `(tactic| k_all) => `(tactic| first | exact ks_off (by assumption) (by assumption) | assumption)
local macro_rules | `(tactic| walk_at "setAttr ref") => `(tactic| (k_here; (with_reducible show wpAny _ _ (setAttr (Value.ref _) (Str.ofString "value") (Value.int _ _)) _ _ _); (rename HS _ _ _ => hs9); (rename KS _ _ _ => ks9); k_dflt (refine' nd_setval ?F ?X ?N ?c hs9 ?D ?_; (case F => k_asm); (case X => k_asm); (case N => k_asm); (case c => ktr_unf); (case D => k_asm); k_whole); intro h' nl' F' N' H' kk9; (have ks' := KS.trans ks9 kk9); clear hs9 ks9 kk9; (try dsimp only [List.cons_append, List.nil_append] at N'); (try k_sweep)))
local macro_rules | `(tactic| tb_rel) => `(tactic| first | assumption | exact Or.inl rfl | exact Or.inr (by assumption))
local macro_rules | `(tactic| kaf_pre) => `(tactic| (repeat (first | exact List.Mem.head _ | apply List.Mem.tail)))
local macro_rules | `(tactic| kaf_suf) => `(tactic| ((try simp only [List.size_toArray, List.length_cons, List.length_map, List.length_append, List.length_nil, sizeLine_eq]); omega))
local macro_rules | `(tactic| kat_tups) => `(tactic| (intro p9 hp9; repeat (first | exact hp9 | apply List.mem_cons_of_mem)))

local macro_rules | `(tactic| k_room) => `(tactic| ktr_room)
local macro_rules | `(tactic| k_units) => `(tactic| ktr_units)
local macro_rules | `(tactic| k_all) => `(tactic| first | exact ks_off (by assumption) (Off.l (by assumption)) | exact ks_off (by assumption) (Off.r (by assumption)))
local macro_rules | `(tactic| walk_at "call builtin:dict.get") => `(tactic| (k_here; (with_reducible show wpAny _ _ (call (Value.builtin "dict.get") [Value.ref _, Value.int _ _]) _ _ _); (rename PI _ _ _ _ => pi9); k_dflt (refine' dget ?N ?m ?d ?lo pi9 ?_ ?_; (case N => k_asm); (case m => k_mem); (case d => k_asm); (case lo => k_asm)); (all_goals (first | ((with_reducible show ∀ a : Addr, a ∈ BT.ad _ → _ → _ → _); intro a' ha' hDa' hk'; (first | (exfalso; simp [BT.ad] at ha'; done) | skip)) | intro hno'))))
local macro_rules | `(tactic| walk_at "call ref") => `(tactic| (k_here; (with_reducible show wpAny _ _ (call (Value.ref 184) _ _) _ _ _); (rename HS _ _ _ => hs9); (rename KS _ _ _ => ks9); k_dflt (refine' wpAny_call (link_codeH ?B ?F ?X ?N2 ?T ?k ?d ?c hs9 ?r ?o ?_); (case B => k_asm); (case F => k_asm); (case X => k_asm); (case N2 => k_asm); (case T => k_asm); (case k => exact rfl); (case d => ktr_room); (case c => ktr_unf); (case r => tb_rel); (case o => tb_rel); k_whole); intro h' tk' nl' w' l' wl' F' N' H' kk9; (have ks' := KS.trans ks9 kk9); clear hs9 ks9 kk9; (try dsimp only [List.cons_append, List.nil_append] at N'); (try dsimp only); (try k_sweep)))
local macro_rules | `(tactic| walk_at "call ref") => `(tactic| (k_here; (with_reducible show wpAny _ _ (call (Value.ref 198) _ _) _ _ _); (rename HS _ _ _ => hs9); (rename KS _ _ _ => ks9); (rename PI _ _ _ _ => pi9); k_dflt (refine' wpAny_call (cut_codeH ?B ?F ?X ?N2 ?T ?k ?d ?c hs9 ?x ?p ?_); (case B => k_asm); (case F => k_asm); (case X => k_asm); (case N2 => k_asm); (case T => k_asm); (case k => exact rfl); (case d => ktr_room); (case c => ktr_unf); (case x => k_asm); (case p => exact fun _ e9 => PI.par pi9 rfl (by assumption) (by assumption) e9); k_whole); intro h' tk' nl' F' N' H' kk9; (have ks' := KS.trans ks9 kk9); clear hs9 ks9 kk9; (try dsimp only [List.cons_append, List.nil_append] at N'); (try dsimp only); (try k_sweep)))
local macro_rules | `(tactic| walk_at "call ref") => `(tactic| (k_here; (with_reducible show wpAny _ _ (call (Value.ref 191) _ _) _ _ _); (rename HS _ _ _ => hs9); (rename KS _ _ _ => ks9); (rename PI _ _ _ _ => pi9); (rename (_ ∈ BT.ad _) => ha9); k_dflt (refine' wpAny_call (merge_codeH ?B ?F ?X ?N ?T ?k ?d ?c ?m1 ?m2 hs9 (pi9.dom _ ha9) (inc_args pi9 ha9).1 (inc_args pi9 ha9).2.1 (inc_args pi9 ha9).2.2.1 (inc_nd pi9 ha9) (inc_dom pi9 ha9) ?_); (case B => k_asm); (case F => k_asm); (case X => k_asm); (case N => k_asm); (case T => k_asm); (case k => exact rfl); (case d => ktr_room); (case c => ktr_unf); (case m1 => k_mem); (case m2 => k_mem); k_whole); intro h' tk' nl' s' t' F' N' H' kk9 mo'; (have ks' := KS.trans ks9 kk9); clear hs9 ks9 kk9; (try dsimp only [List.cons_append, List.nil_append] at N'); (try dsimp only); (try k_sweep); (generalize hq' : BT.hd t' = q'; cases q' <;> dsimp only [oref]); (all_goals (try (have hDc9 := mergeD pi9 ha9 mo' hq')))))
local macro_rules | `(tactic| walk_at "call ref") => `(tactic| (k_here; (with_reducible show wpAny _ _ (call (Value.ref 83) _ _) _ _ _); (rename HS _ _ _ => hs9); (rename KS _ _ _ => ks9); (rename Off _ _ _ _ => off9); k_dflt (refine' node_new ?B ?F ?X ?N ?T ?k ?d ?u ?_; (case B => k_asm); (case F => k_asm); (case X => k_asm); (case N => k_asm); (case T => k_asm); (case k => exact rfl); (case d => ktr_room); (case u => ktr_units); k_whole); intro h' tk' x' dx' F' N' lt' lx'; k_dflt (obtain ⟨N9, H', nD', ks', hDx', off'⟩ := new_hole2 N' (by ktr_unf) hs9 lt' lx' off9 (by k_mem) (by k_mem)); clear N' hs9 ks9 off9; (dsimp only [List.cons_append, List.nil_append] at N9); (try dsimp only)))
local macro_rules | `(tactic| walk_at "setItem ref int") => `(tactic| (k_here; (rename PI _ _ _ _ => pi9); k_dflt (refine' kda_set (knd := PySem.intKind _ _) ?F ?N ?U ?d (intKind_is _ _ _ _) ?z ?_; (case F => k_asm); (case N => k_asm); (case U => k_updF); (case d => k_asm); (case z => (rw [pi9.len, sizeLine_eq]; omega))); intro h' o' F' N' hd'; (try dsimp only at N')))
local macro_rules | `(tactic| walk_at "compareOp IsNot ref ref") => `(tactic| (k_here; (with_reducible show wpAny _ _ (compareOp CmpOp.IsNot (Value.ref _) (Value.ref _)) _ _ _); (rename HS _ _ _ => hs9); k_dflt (refine' nd_isNot ?N ?c hs9 ?a ?b ?_ ?_; (case N => k_asm); (case c => ktr_unf); (case a => k_asm); (case b => k_asm)); (all_goals intro eq9)))
local macro_rules | `(tactic| walk_at "getAttr none") => `(tactic| (exfalso; (rename PI _ _ _ _ => pi9); exact PI.par pi9 rfl (by assumption) (by assumption) (by assumption)))
section
variable {w : World} {dp un : Nat} {gd : Option (List Code)} {cn : Str} {cs : Scope} {fa : Addr} {ccd : Value} {cl : List (Str × Addr)} {outer : List Env} {A₀ : Around} {base h₀ : Heap} {L : Addr} {m : Str → Option Value} {s : Shared}
  {R : Result → Shared → Prop} {p : Program} {loose : List Str} {mean : ExcName → Option Value} {mg mb : Str → Option Value} {nl : List (Addr × Obj)} {pre : List (Addr × Obj)} {D : Addr → Prop} {σ : Addr → Nd}

set_option maxHeartbeats 8000000 in
theorem ins1T {hp hx dd r : Addr} {t1 t2 : Tok} {h1 h2 : Int} {oD : Obj} {kvs : List (Int × Value)} {lr : BT} {k v : Int} {kt vt : Tok} (B : Below A₀ base outer h₀) (F : Fr h₀ L s.heap m) (X : (hd.heap_39 w.params).In h₀)
    (N : News h₀ L s.heap ((hp, instObj 201 hx) :: (hx, dictOf [⟨h1, .str (Str.ofString "_dict") t1, .ref dd⟩, ⟨h2, .str (Str.ofString "_root") t2, .ref r⟩] 2) :: (dd, oD) :: (pre ++ nl))) (T : Top p loose mean mg mb h₀) (hk : cs.kind = .function)
    (hd : dp + 30 < recursionLimit) (hu : un + 200 < cLine) (hc : PreOk pre) (H : HS nl D σ) (hoD : oD.IsDictOf (intKind PySem.Challenge.rw_aw6015_01.row.prog w) kvs) (lo : (dd == sysModules) = false)
    (P : PI D σ (.node r lr .nil) kvs) (off : Off pre nl hx dd) (ne1 : @Ne Nat hp hx) (ne2 : @Ne Nat hp dd) (ne3 : @Ne Nat hx dd) (hz : (BT.node r lr .nil).ad.length ≤ 100)
    (hret : ∀ h' tk' nl' D' σ' t' kvs' oD' b, Fr h₀ L h' m → News h₀ L h' ((hp, instObj 201 hx) :: (hx, dictOf [⟨h1, .str (Str.ofString "_dict") t1, .ref dd⟩, ⟨h2, .str (Str.ofString "_root") t2, oref (BT.hd t')⟩] 2) :: (dd, oD') :: (pre ++ nl')) →
      oD'.IsDictOf (intKind PySem.Challenge.rw_aw6015_01.row.prog w) kvs' → HS nl' D' σ' → KN D pre nl nl' → Off pre nl' hx dd → PI D' σ' t' kvs' → InsOut k v true σ (.node r lr .nil) σ' t' b → (∀ b, D b → D' b) → R (.ok (.ret (.bool b))) { s with heap := h', toks := tk' }) :
    codeAny (model PySem.Challenge.rw_aw6015_01.row.prog w) (ktrTop dp un gd cn cs L fa ccd cl outer) (.call (.ref 177) ⟨[.ref hp, .int k kt, .int v vt], [(Str.ofString "allow_increase", .bool true)]⟩) R s := by
  revert X
  w_top off
  k_fill
  intro X
  obtain ⟨ck, cnm, cg, cco, cmo⟩ := cs
  have hk' : ck = .function := hk
  subst hk'
  have ks0 : KS D nl nl := KS.refl
  have hDr : D r := P.dom r (by simp [BT.ad])
  k_dflt k_enter
  k_steps
  · rename_i x9 dx9 lt9 lx9 nD9 hDx9 off9 a1 a2 a3 o9 hd9 a4 a5 nl9 w9 l9 wl9 H9 ks9 a6 F9 N9 kF9 kN9 T9 X9
    rename PI _ _ _ _ => P9
    rename (∀ a ∈ (BT.node r lr BT.nil).ad, (σ a).key ≠ k) => hn9
    obtain ⟨t', q1, q2, q3⟩ := ins_new1 (al := true) (D' := fun b => b = x9 ∨ D b) P9 rfl hn9 (fun h => nD9 (P9.dom _ h)) (fun _ h => Or.inr h) hDx9 wl9
    exact hret _ _ _ _ _ t' _ _ _ kF9 (by rw [q3]; exact kN9) hd9 H9 (KN.new ks9 (fun p h => by simp [h]) (fun p h => by simp [h]) lt9 lx9) (ks9.off off9) q1 q2 (fun _ h => Or.inr h)
  · rename PI _ _ _ _ => P9; rename News _ _ _ _ => kN9; rename Fr _ _ _ _ => kF9; rename HS _ _ _ => H9; rename KS _ _ _ => ks9; rename Off _ _ _ _ => off9
    rename (_ ∈ BT.ad _) => ha9; rename ((σ _).key = k) => hk9; rename (v < (σ _).value) => hv9; rename (_ = r) => e9
    obtain ⟨q1, q2⟩ := ins_dec (vt := vt) (al := true) P9 ha9 hk9 hv9 (.inl (by rw [e9]; rfl))
    exact hret _ _ _ _ _ (.node r lr .nil) _ _ _ kF9 kN9 hoD H9 ks9.kn (ks9.off off9) q1 q2 (fun _ h => h)
  · rename PI _ _ _ _ => P9; rename News _ _ _ _ => kN9; rename Fr _ _ _ _ => kF9; rename HS _ _ _ => H9; rename KS _ _ _ => ks9; rename Off _ _ _ _ => off9
    rename (_ ∈ BT.ad _) => ha9; rename ((σ _).key = k) => hk9; rename (v < (σ _).value) => hv9; rename (¬ _ = r) => e9; rename WL _ _ _ _ _ => wl9
    obtain ⟨t', q1, q2, q3⟩ := ins_cut (vt := vt) (al := true) P9 rfl ha9 e9 hk9 hv9 wl9
    exact hret _ _ _ _ _ t' _ _ _ kF9 (by rw [q3]; exact kN9) hoD H9 ks9.kn (ks9.off off9) q1 q2 (fun _ h => h)
  · rename PI _ _ _ _ => P9; rename News _ _ _ _ => kN9; rename Fr _ _ _ _ => kF9; rename HS _ _ _ => H9; rename KS _ _ _ => ks9; rename Off _ _ _ _ => off9
    rename (_ ∈ BT.ad _) => ha9; rename ((σ _).key = k) => hk9; rename (v < (σ _).value) => hv9; rename (¬ _ = r) => e9; rename (¬ v < (setVal σ _ v vt _).value) => hp9; rename ((setVal σ _ v vt _).get Fl.parent = some _) => hx9
    obtain ⟨q1, q2⟩ := ins_dec' (vt := vt) (al := true) P9 ha9 hk9 hv9 e9 hx9 hp9
    exact hret _ _ _ _ _ (.node r lr .nil) _ _ _ kF9 kN9 hoD H9 ks9.kn (ks9.off off9) q1 q2 (fun _ h => h)
  · rename PI _ _ _ _ => P9; rename News _ _ _ _ => kN9; rename Fr _ _ _ _ => kF9; rename HS _ _ _ => H9; rename KS _ _ _ => ks9; rename Off _ _ _ _ => off9
    rename (_ ∈ BT.ad _) => ha9; rename ((σ _).key = k) => hk9; rename (¬ v < (σ _).value) => hv9; rename ((σ _).value < v) => hw9; rename MergeOut _ _ _ _ _ _ => mo9; rename (BT.hd _ = none) => hq9
    obtain ⟨q1, q2, q3⟩ := ins_inc0 (vt := vt) (al := true) P9 ha9 hk9 hv9 hw9 rfl mo9 hq9
    exact hret _ _ _ _ _ _ _ _ _ kF9 (by rw [q3]; exact kN9) hoD H9 ks9.kn (ks9.off off9) q1 q2 (fun _ h => h)
  · rename PI _ _ _ _ => P9; rename News _ _ _ _ => kN9; rename Fr _ _ _ _ => kF9; rename HS _ _ _ => H9; rename KS _ _ _ => ks9; rename Off _ _ _ _ => off9
    rename (_ ∈ BT.ad _) => ha9; rename ((σ _).key = k) => hk9; rename (¬ v < (σ _).value) => hv9; rename ((σ _).value < v) => hw9; rename MergeOut _ _ _ _ _ _ => mo9; rename (BT.hd _ = some _) => hq9; rename WL _ _ _ _ _ => wl9
    obtain ⟨t', q1, q2, q3⟩ := ins_inc1 (vt := vt) (al := true) P9 rfl ha9 hk9 hv9 hw9 rfl mo9 hq9 wl9
    exact hret _ _ _ _ _ t' _ _ _ kF9 (by rw [q3]; exact kN9) hoD H9 ks9.kn (ks9.off off9) q1 q2 (fun _ h => h)
  · rename PI _ _ _ _ => P9; rename News _ _ _ _ => kN9; rename Fr _ _ _ _ => kF9; rename HS _ _ _ => H9; rename KS _ _ _ => ks9; rename Off _ _ _ _ => off9
    rename (_ ∈ BT.ad _) => ha9; rename ((σ _).key = k) => hk9; rename (¬ v < (σ _).value) => hv9; rename (¬ (σ _).value < v) => hw9
    obtain ⟨q1, q2⟩ := ins_keep (al := true) P9 ha9 hk9 hv9 (fun _ => hw9)
    exact hret _ _ _ _ _ (.node r lr .nil) _ _ _ kF9 kN9 hoD H9 ks9.kn (ks9.off off9) q1 q2 (fun _ h => h)

end

end Mine
end
section
open PySem PySem.W PySem.Calls PyProof.Rows
namespace Mine
local macro_rules | `(tactic| walk_at "none at all Ce 0") => `(tactic| (fail))
local macro_rules | `(tactic| walk_at "none at all Ce 1") => `(tactic| (fail))
local macro_rules | `(tactic| walk_at "none at all Ce 2") => `(tactic| (fail))
local macro_rules | `(tactic| walk_at "none at all Ce 3") => `(tactic| (fail))
local macro_rules | `(tactic| walk_at "none at all Ce 4") => `(tactic| (fail))
set_option maxRecDepth 100000
local macro_rules | `(tactic| ktr_unf) => `(tactic| (repeat (first | exact Hole.here | exact Hole.opq (by assumption) | (apply Hole.cons; (first | exact rfl | exact dict_notNode (by assumption) | exact cell_notNode (by assumption) | exact ns_notNode (by assumption))))))
local macro_rules | `(tactic| walk_at "getAttr ref") => `(tactic| (k_here; (with_reducible show wpAny _ _ (getAttr (Value.ref _) (Str.ofString "value") _) _ _ _); (rename HS _ _ _ => hs9); k_dflt (refine' nd_value ?F ?X ?N ?c hs9 ?D ?_; (case F => k_asm); (case X => k_asm); (case N => k_asm); (case c => ktr_unf); (case D => k_asm); k_whole)))
local macro_rules | `(tactic| walk_at "getAttr ref") => `(tactic| (k_here; (with_reducible show wpAny _ _ (getAttr (Value.ref _) (Str.ofString "key") _) _ _ _); (rename HS _ _ _ => hs9); k_dflt (refine' nd_key ?F ?X ?N ?c hs9 ?D ?_; (case F => k_asm); (case X => k_asm); (case N => k_asm); (case c => ktr_unf); (case D => k_asm); k_whole)))
local macro_rules | `(tactic| walk_at "getAttr ref") => `(tactic| (k_here; (with_reducible show wpAny _ _ (getAttr (Value.ref _) (Str.ofString "left") _) _ _ _); (rename HS _ _ _ => hs9); k_dflt (refine' nd_get .left ?F ?X ?N ?c hs9 ?D ?_ ?_; (case F => k_asm); (case X => k_asm); (case N => k_asm); (case c => ktr_unf); (case D => k_asm)); all_goals (intros; k_whole)))
local macro_rules | `(tactic| walk_at "setAttr ref") => `(tactic| (k_here; (with_reducible show wpAny _ _ (setAttr (Value.ref _) (Str.ofString "left") _) _ _ _); (rename HS _ _ _ => hs9); (rename KS _ _ _ => ks9); k_dflt ((first | refine' nd_set (v := none) .left ?F ?X ?N ?c hs9 ?D ?v ?_ | refine' nd_set (v := some _) .left ?F ?X ?N ?c hs9 ?D ?v ?_ | refine' nd_set .left ?F ?X ?N ?c hs9 ?D ?v ?_); (case F => k_asm); (case X => k_asm); (case N => k_asm); (case c => ktr_unf); (case D => k_asm); (case v => ktr_rel); k_whole); intro h' nl' F' N' H' kk9; (have ks' := KS.trans ks9 kk9); clear hs9 ks9 kk9; (try dsimp only [List.cons_append, List.nil_append] at N'); (try k_sweep)))
local macro_rules | `(tactic| walk_at "getAttr ref") => `(tactic| (k_here; (with_reducible show wpAny _ _ (getAttr (Value.ref _) (Str.ofString "next") _) _ _ _); (rename HS _ _ _ => hs9); k_dflt (refine' nd_get .next ?F ?X ?N ?c hs9 ?D ?_ ?_; (case F => k_asm); (case X => k_asm); (case N => k_asm); (case c => ktr_unf); (case D => k_asm)); all_goals (intros; k_whole)))
local macro_rules | `(tactic| walk_at "setAttr ref") => `(tactic| (k_here; (with_reducible show wpAny _ _ (setAttr (Value.ref _) (Str.ofString "next") _) _ _ _); (rename HS _ _ _ => hs9); (rename KS _ _ _ => ks9); k_dflt ((first | refine' nd_set (v := none) .next ?F ?X ?N ?c hs9 ?D ?v ?_ | refine' nd_set (v := some _) .next ?F ?X ?N ?c hs9 ?D ?v ?_ | refine' nd_set .next ?F ?X ?N ?c hs9 ?D ?v ?_); (case F => k_asm); (case X => k_asm); (case N => k_asm); (case c => ktr_unf); (case D => k_asm); (case v => ktr_rel); k_whole); intro h' nl' F' N' H' kk9; (have ks' := KS.trans ks9 kk9); clear hs9 ks9 kk9; (try dsimp only [List.cons_append, List.nil_append] at N'); (try k_sweep)))
local macro_rules | `(tactic| walk_at "getAttr ref") => `(tactic| (k_here; (with_reducible show wpAny _ _ (getAttr (Value.ref _) (Str.ofString "parent") _) _ _ _); (rename HS _ _ _ => hs9); k_dflt (refine' nd_get .parent ?F ?X ?N ?c hs9 ?D ?_ ?_; (case F => k_asm); (case X => k_asm); (case N => k_asm); (case c => ktr_unf); (case D => k_asm)); all_goals (intros; k_whole)))
local macro_rules | `(tactic| walk_at "setAttr ref") => `(tactic| (k_here; (with_reducible show wpAny _ _ (setAttr (Value.ref _) (Str.ofString "parent") _) _ _ _); (rename HS _ _ _ => hs9); (rename KS _ _ _ => ks9); k_dflt ((first | refine' nd_set (v := none) .parent ?F ?X ?N ?c hs9 ?D ?v ?_ | refine' nd_set (v := some _) .parent ?F ?X ?N ?c hs9 ?D ?v ?_ | refine' nd_set .parent ?F ?X ?N ?c hs9 ?D ?v ?_); (case F => k_asm); (case X => k_asm); (case N => k_asm); (case c => ktr_unf); (case D => k_asm); (case v => ktr_rel); k_whole); intro h' nl' F' N' H' kk9; (have ks' := KS.trans ks9 kk9); clear hs9 ks9 kk9; (try dsimp only [List.cons_append, List.nil_append] at N'); (try k_sweep)))
local macro_rules | `(tactic| walk_at "getAttr ref") => `(tactic| (k_here; (with_reducible show wpAny _ _ (getAttr (Value.ref _) (Str.ofString "prev") _) _ _ _); (rename HS _ _ _ => hs9); k_dflt (refine' nd_get .prev ?F ?X ?N ?c hs9 ?D ?_ ?_; (case F => k_asm); (case X => k_asm); (case N => k_asm); (case c => ktr_unf); (case D => k_asm)); all_goals (intros; k_whole)))
local macro_rules | `(tactic| walk_at "setAttr ref") => `(tactic| (k_here; (with_reducible show wpAny _ _ (setAttr (Value.ref _) (Str.ofString "prev") _) _ _ _); (rename HS _ _ _ => hs9); (rename KS _ _ _ => ks9); k_dflt ((first | refine' nd_set (v := none) .prev ?F ?X ?N ?c hs9 ?D ?v ?_ | refine' nd_set (v := some _) .prev ?F ?X ?N ?c hs9 ?D ?v ?_ | refine' nd_set .prev ?F ?X ?N ?c hs9 ?D ?v ?_); (case F => k_asm); (case X => k_asm); (case N => k_asm); (case c => ktr_unf); (case D => k_asm); (case v => ktr_rel); k_whole); intro h' nl' F' N' H' kk9; (have ks' := KS.trans ks9 kk9); clear hs9 ks9 kk9; (try dsimp only [List.cons_append, List.nil_append] at N'); (try k_sweep)))
local macro_rules | `(tactic| walk_at "getAttr ref") => `(tactic| (k_here; (rename RawMark => rm9); (with_reducible show wpAny _ _ (getAttr (Value.ref _) (Str.ofString "left") _) _ _ _); (rename HS _ _ _ => hs9); k_dflt (refine' nd_raw .left ?F ?X ?N ?c hs9 ?D ?_; (case F => k_asm); (case X => k_asm); (case N => k_asm); (case c => ktr_unf); (case D => k_asm); k_whole)))
local macro_rules | `(tactic| walk_at "getAttr ref") => `(tactic| (k_here; (rename RawMark => rm9); (with_reducible show wpAny _ _ (getAttr (Value.ref _) (Str.ofString "next") _) _ _ _); (rename HS _ _ _ => hs9); k_dflt (refine' nd_raw .next ?F ?X ?N ?c hs9 ?D ?_; (case F => k_asm); (case X => k_asm); (case N => k_asm); (case c => ktr_unf); (case D => k_asm); k_whole)))
local macro_rules | `(tactic| walk_at "getAttr ref") => `(tactic| (k_here; (rename RawMark => rm9); (with_reducible show wpAny _ _ (getAttr (Value.ref _) (Str.ofString "parent") _) _ _ _); (rename HS _ _ _ => hs9); k_dflt (refine' nd_raw .parent ?F ?X ?N ?c hs9 ?D ?_; (case F => k_asm); (case X => k_asm); (case N => k_asm); (case c => ktr_unf); (case D => k_asm); k_whole)))
local macro_rules | `(tactic| walk_at "getAttr ref") => `(tactic| (k_here; (rename RawMark => rm9); (with_reducible show wpAny _ _ (getAttr (Value.ref _) (Str.ofString "prev") _) _ _ _); (rename HS _ _ _ => hs9); k_dflt (refine' nd_raw .prev ?F ?X ?N ?c hs9 ?D ?_; (case F => k_asm); (case X => k_asm); (case N => k_asm); (case c => ktr_unf); (case D => k_asm); k_whole)))
local macro_rules | `(tactic| ktr_rel) => `(tactic| first | (with_reducible assumption) | (intro x9 e9; (first | (cases e9; done) | (cases e9; assumption))))
local macro_rules | `(tactic| tb_start) => `(tactic| first | assumption | exact News.sub (by assumption) (fun _ hp => List.mem_cons_of_mem _ hp) | exact News.sub (by assumption) (fun _ hp => List.mem_cons_of_mem _ (List.mem_cons_of_mem _ hp)) | exact News.sub (by assumption) (fun _ hp => List.mem_cons_of_mem _ (List.mem_cons_of_mem _ (List.mem_cons_of_mem _ hp))))
local macro_rules | `(tactic| walk_at "And") => `(tactic| ((with_reducible show MethP _ _ _ _ _ ∧ _); refine' And.intro ?mp ?_; (case mp => (refine' methP ?N ?q ?X; (case N => k_asm); (case q => first | exact List.Mem.head _ | k_mem); (case X => k_in))); (try dsimp only [List.nil_append, List.cons_append])))
local macro_rules | `(tactic| k_all) => `(tactic| first | exact ks_off (by assumption) (by assumption) | assumption)
local macro_rules | `(tactic| walk_at "setAttr ref") => `(tactic| (k_here; (with_reducible show wpAny _ _ (setAttr (Value.ref _) (Str.ofString "value") (Value.int _ _)) _ _ _); (rename HS _ _ _ => hs9); (rename KS _ _ _ => ks9); k_dflt (refine' nd_setval ?F ?X ?N ?c hs9 ?D ?_; (case F => k_asm); (case X => k_asm); (case N => k_asm); (case c => ktr_unf); (case D => k_asm); k_whole); intro h' nl' F' N' H' kk9; (have ks' := KS.trans ks9 kk9); clear hs9 ks9 kk9; (try dsimp only [List.cons_append, List.nil_append] at N'); (try k_sweep)))
local macro_rules | `(tactic| tb_rel) => `(tactic| first | assumption | exact Or.inl rfl | exact Or.inr (by assumption))
local macro_rules | `(tactic| kaf_pre) => `(tactic| (repeat (first | exact List.Mem.head _ | apply List.Mem.tail)))
local macro_rules | `(tactic| kaf_suf) => `(tactic| ((try simp only [List.size_toArray, List.length_cons, List.length_map, List.length_append, List.length_nil, sizeLine_eq]); omega))
local macro_rules | `(tactic| kat_tups) => `(tactic| (intro p9 hp9; repeat (first | exact hp9 | apply List.mem_cons_of_mem)))

section
variable {w : World} {dp un : Nat} {gd : Option (List Code)} {cn : Str} {cs : Scope} {fa : Addr} {ccd : Value} {cl : List (Str × Addr)} {outer : List Env} {A₀ : Around} {base h₀ : Heap} {L : Addr} {m : Str → Option Value} {s : Shared}
  {R : Result → Shared → Prop} {p : Program} {loose : List Str} {mean : ExcName → Option Value} {mg mb : Str → Option Value}

local macro_rules | `(tactic| k_room) => `(tactic| ktr_room)
local macro_rules | `(tactic| k_units) => `(tactic| ktr_units)
set_option maxHeartbeats 8000000 in
theorem cell_code {addr : Addr} {ns : List Int} {vs : List Value} {at_ : Int} {t : Tok} {news : List (Addr × Obj)} (hI : IntsAre vs ns) (hL : h₀.IsList addr vs.toArray) (hz : ¬ 63 < ns.length) (ha : 0 ≤ at_) (ha2 : at_ ≤ 1000)
    (B : Below A₀ base outer h₀) (F : Fr h₀ L s.heap m) (X : (hd.heap_39 w.params).In h₀) (N : News h₀ L s.heap news) (T : Top p loose mean mg mb h₀) (hk : cs.kind = .function)
    (hd : dp + 10 < recursionLimit) (hu : un + 100 < cLine)
    (hret : ∀ h' tk' c t', Fr h₀ L h' m → News h₀ L h' news → 0 ≤ c → c ≤ 1000003 → R (.ok (.ret (.int c t'))) { s with heap := h', toks := tk' }) :
    codeAny (model PySem.Challenge.rw_aw6015_01.row.prog w) (ktrTop dp un gd cn cs L fa ccd cl outer) (.call (.ref 210) ⟨[.ref addr, .int at_ t], []⟩) R s := by
  obtain ⟨ck,cnm,cg,cco,cmo⟩ := cs
  have hk' : ck = .function := hk
  subst hk'
  revert X
  w_top off
  k_fill
  intro X
  k_dflt ktr_enter
  have hL2 : Heap.IsList _ addr vs.toArray := Fr.lst (L := L) (m := m) (h₀ := h₀) (by assumption) hL
  k_steps
  · exact hret _ _ _ _ (by assumption) (by assumption) (Int.fmod_nonneg_of_pos _ (by decide)) (by have h9 := Int.fmod_lt_of_pos (if ns.getD at_.toNat 0 < 0 then -ns.getD at_.toNat 0 else ns.getD at_.toNat 0) (b := 1000003) (by decide); omega)
  · exact hret _ _ _ _ (by assumption) (by assumption) (by omega) (by omega)
end

end Mine
end
section
open PySem PySem.W PySem.Calls PyProof.Rows
namespace Mine
local macro_rules | `(tactic| walk_at "none at all Al 0") => `(tactic| (fail))
local macro_rules | `(tactic| walk_at "none at all Al 1") => `(tactic| (fail))
local macro_rules | `(tactic| walk_at "none at all Al 2") => `(tactic| (fail))
local macro_rules | `(tactic| walk_at "none at all Al 3") => `(tactic| (fail))
local macro_rules | `(tactic| walk_at "none at all Al 4") => `(tactic| (fail))
local macro_rules | `(tactic| walk_at "none at all Al 5") => `(tactic| (fail))
set_option maxRecDepth 100000
local macro_rules | `(tactic| ktr_unf) => `(tactic| (repeat (first | exact Hole.here | exact Hole.opq (by assumption) | (apply Hole.cons; (first | exact rfl | exact dict_notNode (by assumption) | exact cell_notNode (by assumption) | exact ns_notNode (by assumption))))))
local macro_rules | `(tactic| walk_at "getAttr ref") => `(tactic| (k_here; (with_reducible show wpAny _ _ (getAttr (Value.ref _) (Str.ofString "value") _) _ _ _); (rename HS _ _ _ => hs9); k_dflt (refine' nd_value ?F ?X ?N ?c hs9 ?D ?_; (case F => k_asm); (case X => k_asm); (case N => k_asm); (case c => ktr_unf); (case D => k_asm); k_whole)))
local macro_rules | `(tactic| walk_at "getAttr ref") => `(tactic| (k_here; (with_reducible show wpAny _ _ (getAttr (Value.ref _) (Str.ofString "key") _) _ _ _); (rename HS _ _ _ => hs9); k_dflt (refine' nd_key ?F ?X ?N ?c hs9 ?D ?_; (case F => k_asm); (case X => k_asm); (case N => k_asm); (case c => ktr_unf); (case D => k_asm); k_whole)))
local macro_rules | `(tactic| walk_at "getAttr ref") => `(tactic| (k_here; (with_reducible show wpAny _ _ (getAttr (Value.ref _) (Str.ofString "left") _) _ _ _); (rename HS _ _ _ => hs9); k_dflt (refine' nd_get .left ?F ?X ?N ?c hs9 ?D ?_ ?_; (case F => k_asm); (case X => k_asm); (case N => k_asm); (case c => ktr_unf); (case D => k_asm)); all_goals (intros; k_whole)))
local macro_rules | `(tactic| walk_at "setAttr ref") => `(tactic| (k_here; (with_reducible show wpAny _ _ (setAttr (Value.ref _) (Str.ofString "left") _) _ _ _); (rename HS _ _ _ => hs9); (rename KS _ _ _ => ks9); k_dflt ((first | refine' nd_set (v := none) .left ?F ?X ?N ?c hs9 ?D ?v ?_ | refine' nd_set (v := some _) .left ?F ?X ?N ?c hs9 ?D ?v ?_ | refine' nd_set .left ?F ?X ?N ?c hs9 ?D ?v ?_); (case F => k_asm); (case X => k_asm); (case N => k_asm); (case c => ktr_unf); (case D => k_asm); (case v => ktr_rel); k_whole); intro h' nl' F' N' H' kk9; (have ks' := KS.trans ks9 kk9); clear hs9 ks9 kk9; (try dsimp only [List.cons_append, List.nil_append] at N'); (try k_sweep)))
local macro_rules | `(tactic| walk_at "getAttr ref") => `(tactic| (k_here; (with_reducible show wpAny _ _ (getAttr (Value.ref _) (Str.ofString "next") _) _ _ _); (rename HS _ _ _ => hs9); k_dflt (refine' nd_get .next ?F ?X ?N ?c hs9 ?D ?_ ?_; (case F => k_asm); (case X => k_asm); (case N => k_asm); (case c => ktr_unf); (case D => k_asm)); all_goals (intros; k_whole)))
local macro_rules | `(tactic| walk_at "setAttr ref") => `(tactic| (k_here; (with_reducible show wpAny _ _ (setAttr (Value.ref _) (Str.ofString "next") _) _ _ _); (rename HS _ _ _ => hs9); (rename KS _ _ _ => ks9); k_dflt ((first | refine' nd_set (v := none) .next ?F ?X ?N ?c hs9 ?D ?v ?_ | refine' nd_set (v := some _) .next ?F ?X ?N ?c hs9 ?D ?v ?_ | refine' nd_set .next ?F ?X ?N ?c hs9 ?D ?v ?_); (case F => k_asm); (case X => k_asm); (case N => k_asm); (case c => ktr_unf); (case D => k_asm); (case v => ktr_rel); k_whole); intro h' nl' F' N' H' kk9; (have ks' := KS.trans ks9 kk9); clear hs9 ks9 kk9; (try dsimp only [List.cons_append, List.nil_append] at N'); (try k_sweep)))
local macro_rules | `(tactic| walk_at "getAttr ref") => `(tactic| (k_here; (with_reducible show wpAny _ _ (getAttr (Value.ref _) (Str.ofString "parent") _) _ _ _); (rename HS _ _ _ => hs9); k_dflt (refine' nd_get .parent ?F ?X ?N ?c hs9 ?D ?_ ?_; (case F => k_asm); (case X => k_asm); (case N => k_asm); (case c => ktr_unf); (case D => k_asm)); all_goals (intros; k_whole)))
local macro_rules | `(tactic| walk_at "setAttr ref") => `(tactic| (k_here; (with_reducible show wpAny _ _ (setAttr (Value.ref _) (Str.ofString "parent") _) _ _ _); (rename HS _ _ _ => hs9); (rename KS _ _ _ => ks9); k_dflt ((first | refine' nd_set (v := none) .parent ?F ?X ?N ?c hs9 ?D ?v ?_ | refine' nd_set (v := some _) .parent ?F ?X ?N ?c hs9 ?D ?v ?_ | refine' nd_set .parent ?F ?X ?N ?c hs9 ?D ?v ?_); (case F => k_asm); (case X => k_asm); (case N => k_asm); (case c => ktr_unf); (case D => k_asm); (case v => ktr_rel); k_whole); intro h' nl' F' N' H' kk9; (have ks' := KS.trans ks9 kk9); clear hs9 ks9 kk9; (try dsimp only [List.cons_append, List.nil_append] at N'); (try k_sweep)))
local macro_rules | `(tactic| walk_at "getAttr ref") => `(tactic| (k_here; (with_reducible show wpAny _ _ (getAttr (Value.ref _) (Str.ofString "prev") _) _ _ _); (rename HS _ _ _ => hs9); k_dflt (refine' nd_get .prev ?F ?X ?N ?c hs9 ?D ?_ ?_; (case F => k_asm); (case X => k_asm); (case N => k_asm); (case c => ktr_unf); (case D => k_asm)); all_goals (intros; k_whole)))
local macro_rules | `(tactic| walk_at "setAttr ref") => `(tactic| (k_here; (with_reducible show wpAny _ _ (setAttr (Value.ref _) (Str.ofString "prev") _) _ _ _); (rename HS _ _ _ => hs9); (rename KS _ _ _ => ks9); k_dflt ((first | refine' nd_set (v := none) .prev ?F ?X ?N ?c hs9 ?D ?v ?_ | refine' nd_set (v := some _) .prev ?F ?X ?N ?c hs9 ?D ?v ?_ | refine' nd_set .prev ?F ?X ?N ?c hs9 ?D ?v ?_); (case F => k_asm); (case X => k_asm); (case N => k_asm); (case c => ktr_unf); (case D => k_asm); (case v => ktr_rel); k_whole); intro h' nl' F' N' H' kk9; (have ks' := KS.trans ks9 kk9); clear hs9 ks9 kk9; (try dsimp only [List.cons_append, List.nil_append] at N'); (try k_sweep)))
local macro_rules | `(tactic| walk_at "getAttr ref") => `(tactic| (k_here; (rename RawMark => rm9); (with_reducible show wpAny _ _ (getAttr (Value.ref _) (Str.ofString "left") _) _ _ _); (rename HS _ _ _ => hs9); k_dflt (refine' nd_raw .left ?F ?X ?N ?c hs9 ?D ?_; (case F => k_asm); (case X => k_asm); (case N => k_asm); (case c => ktr_unf); (case D => k_asm); k_whole)))
local macro_rules | `(tactic| walk_at "getAttr ref") => `(tactic| (k_here; (rename RawMark => rm9); (with_reducible show wpAny _ _ (getAttr (Value.ref _) (Str.ofString "next") _) _ _ _); (rename HS _ _ _ => hs9); k_dflt (refine' nd_raw .next ?F ?X ?N ?c hs9 ?D ?_; (case F => k_asm); (case X => k_asm); (case N => k_asm); (case c => ktr_unf); (case D => k_asm); k_whole)))
local macro_rules | `(tactic| walk_at "getAttr ref") => `(tactic| (k_here; (rename RawMark => rm9); (with_reducible show wpAny _ _ (getAttr (Value.ref _) (Str.ofString "parent") _) _ _ _); (rename HS _ _ _ => hs9); k_dflt (refine' nd_raw .parent ?F ?X ?N ?c hs9 ?D ?_; (case F => k_asm); (case X => k_asm); (case N => k_asm); (case c => ktr_unf); (case D => k_asm); k_whole)))
local macro_rules | `(tactic| walk_at "getAttr ref") => `(tactic| (k_here; (rename RawMark => rm9); (with_reducible show wpAny _ _ (getAttr (Value.ref _) (Str.ofString "prev") _) _ _ _); (rename HS _ _ _ => hs9); k_dflt (refine' nd_raw .prev ?F ?X ?N ?c hs9 ?D ?_; (case F => k_asm); (case X => k_asm); (case N => k_asm); (case c => ktr_unf); (case D => k_asm); k_whole)))
local macro_rules | `(tactic| ktr_rel) => `(tactic| first | (with_reducible assumption) | (intro x9 e9; (first | (cases e9; done) | (cases e9; assumption))))
local macro_rules | `(tactic| tb_start) => `(tactic| first | assumption | exact News.sub (by assumption) (fun _ hp => List.mem_cons_of_mem _ hp) | exact News.sub (by assumption) (fun _ hp => List.mem_cons_of_mem _ (List.mem_cons_of_mem _ hp)) | exact News.sub (by assumption) (fun _ hp => List.mem_cons_of_mem _ (List.mem_cons_of_mem _ (List.mem_cons_of_mem _ hp))))
local macro_rules | `(tactic| walk_at "And") => `(tactic| ((with_reducible show MethP _ _ _ _ _ ∧ _); refine' And.intro ?mp ?_; (case mp => (refine' methP ?N ?q ?X; (case N => k_asm); (case q => first | exact List.Mem.head _ | k_mem); (case X => k_in))); (try dsimp only [List.nil_append, List.cons_append])))
local macro_rules | `(tactic| k_all) => `(tactic| first | exact ks_off (by assumption) (by assumption) | assumption)
local macro_rules | `(tactic| walk_at "setAttr ref") => `(tactic| (k_here; (with_reducible show wpAny _ _ (setAttr (Value.ref _) (Str.ofString "value") (Value.int _ _)) _ _ _); (rename HS _ _ _ => hs9); (rename KS _ _ _ => ks9); k_dflt (refine' nd_setval ?F ?X ?N ?c hs9 ?D ?_; (case F => k_asm); (case X => k_asm); (case N => k_asm); (case c => ktr_unf); (case D => k_asm); k_whole); intro h' nl' F' N' H' kk9; (have ks' := KS.trans ks9 kk9); clear hs9 ks9 kk9; (try dsimp only [List.cons_append, List.nil_append] at N'); (try k_sweep)))
local macro_rules | `(tactic| tb_rel) => `(tactic| first | assumption | exact Or.inl rfl | exact Or.inr (by assumption))
local macro_rules | `(tactic| kaf_pre) => `(tactic| (repeat (first | exact List.Mem.head _ | apply List.Mem.tail)))
local macro_rules | `(tactic| kaf_suf) => `(tactic| ((try simp only [List.size_toArray, List.length_cons, List.length_map, List.length_append, List.length_nil, sizeLine_eq]); omega))
local macro_rules | `(tactic| kat_tups) => `(tactic| (intro p9 hp9; repeat (first | exact hp9 | apply List.mem_cons_of_mem)))

section
variable {w : World} {dp un : Nat} {gd : Option (List Code)} {cn : Str} {cs : Scope} {fa : Addr} {ccd : Value} {cl : List (Str × Addr)} {outer : List Env} {A₀ : Around} {base h₀ : Heap} {L : Addr} {m : Str → Option Value} {s : Shared}
  {R : Result → Shared → Prop} {p : Program} {loose : List Str} {mean : ExcName → Option Value} {mg mb : Str → Option Value} {nl : List (Addr × Obj)} {pre : List (Addr × Obj)} {D : Addr → Prop} {σ : Addr → Nd}

set_option maxHeartbeats 8000000 in
theorem alone_code {x : Addr} (B : Below A₀ base outer h₀) (F : Fr h₀ L s.heap m) (X : (hd.heap_39 w.params).In h₀) (N : News h₀ L s.heap (pre ++ nl)) (T : Top p loose mean mg mb h₀) (hk : cs.kind = .function)
    (hd : dp + 10 < recursionLimit) (hc : PreOk pre) (H : HS nl D σ) (hx : D x) (h1 : (σ x).get .parent = none) (h2 : (σ x).get .prev = none) (h3 : (σ x).get .next = none)
    (hret : ∀ h' tk', Fr h₀ L h' m → News h₀ L h' (pre ++ nl) → R (.ok (.ret (.bool true))) { s with heap := h', toks := tk' }) :
    codeAny (model PySem.Challenge.rw_aw6015_01.row.prog w) (ktrTop dp un gd cn cs L fa ccd cl outer) (.call (.ref 224) ⟨[.ref x], []⟩) R s := by
  revert X
  w_top off
  k_fill
  intro X
  have ks0 : KS D nl nl := KS.refl
  k_dflt ktr_enter
  k_steps
  all_goals (first
    | exact hret _ _ (by assumption) (by assumption)
    | (exfalso; rename (_ = some _) => e9; first | (rw [h1] at e9; cases e9; done) | (rw [h2] at e9; cases e9; done) | (rw [h3] at e9; cases e9; done)))
theorem alone_codeH {news : List (Addr × Obj)} {x : Addr} (B : Below A₀ base outer h₀) (F : Fr h₀ L s.heap m) (X : (hd.heap_39 w.params).In h₀) (N : News h₀ L s.heap news) (T : Top p loose mean mg mb h₀) (hk : cs.kind = .function)
    (hd : dp + 10 < recursionLimit) (hc : Hole nl news pre) (H : HS nl D σ) (hx : D x) (h1 : (σ x).get .parent = none) (h2 : (σ x).get .prev = none) (h3 : (σ x).get .next = none)
    (hret : ∀ h' tk', Fr h₀ L h' m → News h₀ L h' (pre ++ nl) → R (.ok (.ret (.bool true))) { s with heap := h', toks := tk' }) :
    codeAny (model PySem.Challenge.rw_aw6015_01.row.prog w) (ktrTop dp un gd cn cs L fa ccd cl outer) (.call (.ref 224) ⟨[.ref x], []⟩) R s := by
  obtain ⟨e, hq⟩ := hc.is
  subst e
  exact alone_code B F X N T hk hd hq H hx h1 h2 h3 hret
end

end Mine
end
section
open PySem PySem.W PySem.Calls PyProof.Rows
namespace Mine
set_option maxRecDepth 100000
local macro_rules | `(tactic| ktr_unf) => `(tactic| (repeat (first | exact Hole.here | exact Hole.opq (by assumption) | (apply Hole.cons; (first | exact rfl | exact dict_notNode (by assumption) | exact cell_notNode (by assumption) | exact ns_notNode (by assumption))))))
local macro_rules | `(tactic| walk_at "getAttr ref") => `(tactic| (k_here; (with_reducible show wpAny _ _ (getAttr (Value.ref _) (Str.ofString "value") _) _ _ _); (rename HS _ _ _ => hs9); k_dflt (refine' nd_value ?F ?X ?N ?c hs9 ?D ?_; (case F => k_asm); (case X => k_asm); (case N => k_asm); (case c => ktr_unf); (case D => k_asm); k_whole)))
local macro_rules | `(tactic| walk_at "getAttr ref") => `(tactic| (k_here; (with_reducible show wpAny _ _ (getAttr (Value.ref _) (Str.ofString "key") _) _ _ _); (rename HS _ _ _ => hs9); k_dflt (refine' nd_key ?F ?X ?N ?c hs9 ?D ?_; (case F => k_asm); (case X => k_asm); (case N => k_asm); (case c => ktr_unf); (case D => k_asm); k_whole)))
local macro_rules | `(tactic| walk_at "getAttr ref") => `(tactic| (k_here; (with_reducible show wpAny _ _ (getAttr (Value.ref _) (Str.ofString "left") _) _ _ _); (rename HS _ _ _ => hs9); k_dflt (refine' nd_get .left ?F ?X ?N ?c hs9 ?D ?_ ?_; (case F => k_asm); (case X => k_asm); (case N => k_asm); (case c => ktr_unf); (case D => k_asm)); all_goals (intros; k_whole)))
local macro_rules | `(tactic| walk_at "setAttr ref") => `(tactic| (k_here; (with_reducible show wpAny _ _ (setAttr (Value.ref _) (Str.ofString "left") _) _ _ _); (rename HS _ _ _ => hs9); (rename KS _ _ _ => ks9); k_dflt ((first | refine' nd_set (v := none) .left ?F ?X ?N ?c hs9 ?D ?v ?_ | refine' nd_set (v := some _) .left ?F ?X ?N ?c hs9 ?D ?v ?_ | refine' nd_set .left ?F ?X ?N ?c hs9 ?D ?v ?_); (case F => k_asm); (case X => k_asm); (case N => k_asm); (case c => ktr_unf); (case D => k_asm); (case v => ktr_rel); k_whole); intro h' nl' F' N' H' kk9; (have ks' := KS.trans ks9 kk9); clear hs9 ks9 kk9; (try dsimp only [List.cons_append, List.nil_append] at N'); (try k_sweep)))
local macro_rules | `(tactic| walk_at "getAttr ref") => `(tactic| (k_here; (with_reducible show wpAny _ _ (getAttr (Value.ref _) (Str.ofString "next") _) _ _ _); (rename HS _ _ _ => hs9); k_dflt (refine' nd_get .next ?F ?X ?N ?c hs9 ?D ?_ ?_; (case F => k_asm); (case X => k_asm); (case N => k_asm); (case c => ktr_unf); (case D => k_asm)); all_goals (intros; k_whole)))
local macro_rules | `(tactic| walk_at "setAttr ref") => `(tactic| (k_here; (with_reducible show wpAny _ _ (setAttr (Value.ref _) (Str.ofString "next") _) _ _ _); (rename HS _ _ _ => hs9); (rename KS _ _ _ => ks9); k_dflt ((first | refine' nd_set (v := none) .next ?F ?X ?N ?c hs9 ?D ?v ?_ | refine' nd_set (v := some _) .next ?F ?X ?N ?c hs9 ?D ?v ?_ | refine' nd_set .next ?F ?X ?N ?c hs9 ?D ?v ?_); (case F => k_asm); (case X => k_asm); (case N => k_asm); (case c => ktr_unf); (case D => k_asm); (case v => ktr_rel); k_whole); intro h' nl' F' N' H' kk9; (have ks' := KS.trans ks9 kk9); clear hs9 ks9 kk9; (try dsimp only [List.cons_append, List.nil_append] at N'); (try k_sweep)))
local macro_rules | `(tactic| walk_at "getAttr ref") => `(tactic| (k_here; (with_reducible show wpAny _ _ (getAttr (Value.ref _) (Str.ofString "parent") _) _ _ _); (rename HS _ _ _ => hs9); k_dflt (refine' nd_get .parent ?F ?X ?N ?c hs9 ?D ?_ ?_; (case F => k_asm); (case X => k_asm); (case N => k_asm); (case c => ktr_unf); (case D => k_asm)); all_goals (intros; k_whole)))
local macro_rules | `(tactic| walk_at "setAttr ref") => `(tactic| (k_here; (with_reducible show wpAny _ _ (setAttr (Value.ref _) (Str.ofString "parent") _) _ _ _); (rename HS _ _ _ => hs9); (rename KS _ _ _ => ks9); k_dflt ((first | refine' nd_set (v := none) .parent ?F ?X ?N ?c hs9 ?D ?v ?_ | refine' nd_set (v := some _) .parent ?F ?X ?N ?c hs9 ?D ?v ?_ | refine' nd_set .parent ?F ?X ?N ?c hs9 ?D ?v ?_); (case F => k_asm); (case X => k_asm); (case N => k_asm); (case c => ktr_unf); (case D => k_asm); (case v => ktr_rel); k_whole); intro h' nl' F' N' H' kk9; (have ks' := KS.trans ks9 kk9); clear hs9 ks9 kk9; (try dsimp only [List.cons_append, List.nil_append] at N'); (try k_sweep)))
local macro_rules | `(tactic| walk_at "getAttr ref") => `(tactic| (k_here; (with_reducible show wpAny _ _ (getAttr (Value.ref _) (Str.ofString "prev") _) _ _ _); (rename HS _ _ _ => hs9); k_dflt (refine' nd_get .prev ?F ?X ?N ?c hs9 ?D ?_ ?_; (case F => k_asm); (case X => k_asm); (case N => k_asm); (case c => ktr_unf); (case D => k_asm)); all_goals (intros; k_whole)))
local macro_rules | `(tactic| walk_at "setAttr ref") => `(tactic| (k_here; (with_reducible show wpAny _ _ (setAttr (Value.ref _) (Str.ofString "prev") _) _ _ _); (rename HS _ _ _ => hs9); (rename KS _ _ _ => ks9); k_dflt ((first | refine' nd_set (v := none) .prev ?F ?X ?N ?c hs9 ?D ?v ?_ | refine' nd_set (v := some _) .prev ?F ?X ?N ?c hs9 ?D ?v ?_ | refine' nd_set .prev ?F ?X ?N ?c hs9 ?D ?v ?_); (case F => k_asm); (case X => k_asm); (case N => k_asm); (case c => ktr_unf); (case D => k_asm); (case v => ktr_rel); k_whole); intro h' nl' F' N' H' kk9; (have ks' := KS.trans ks9 kk9); clear hs9 ks9 kk9; (try dsimp only [List.cons_append, List.nil_append] at N'); (try k_sweep)))
local macro_rules | `(tactic| walk_at "getAttr ref") => `(tactic| (k_here; (rename RawMark => rm9); (with_reducible show wpAny _ _ (getAttr (Value.ref _) (Str.ofString "left") _) _ _ _); (rename HS _ _ _ => hs9); k_dflt (refine' nd_raw .left ?F ?X ?N ?c hs9 ?D ?_; (case F => k_asm); (case X => k_asm); (case N => k_asm); (case c => ktr_unf); (case D => k_asm); k_whole)))
local macro_rules | `(tactic| walk_at "getAttr ref") => `(tactic| (k_here; (rename RawMark => rm9); (with_reducible show wpAny _ _ (getAttr (Value.ref _) (Str.ofString "next") _) _ _ _); (rename HS _ _ _ => hs9); k_dflt (refine' nd_raw .next ?F ?X ?N ?c hs9 ?D ?_; (case F => k_asm); (case X => k_asm); (case N => k_asm); (case c => ktr_unf); (case D => k_asm); k_whole)))
local macro_rules | `(tactic| walk_at "getAttr ref") => `(tactic| (k_here; (rename RawMark => rm9); (with_reducible show wpAny _ _ (getAttr (Value.ref _) (Str.ofString "parent") _) _ _ _); (rename HS _ _ _ => hs9); k_dflt (refine' nd_raw .parent ?F ?X ?N ?c hs9 ?D ?_; (case F => k_asm); (case X => k_asm); (case N => k_asm); (case c => ktr_unf); (case D => k_asm); k_whole)))
local macro_rules | `(tactic| walk_at "getAttr ref") => `(tactic| (k_here; (rename RawMark => rm9); (with_reducible show wpAny _ _ (getAttr (Value.ref _) (Str.ofString "prev") _) _ _ _); (rename HS _ _ _ => hs9); k_dflt (refine' nd_raw .prev ?F ?X ?N ?c hs9 ?D ?_; (case F => k_asm); (case X => k_asm); (case N => k_asm); (case c => ktr_unf); (case D => k_asm); k_whole)))
local macro_rules | `(tactic| ktr_rel) => `(tactic| first | (with_reducible assumption) | (intro x9 e9; (first | (cases e9; done) | (cases e9; assumption))))
local macro_rules | `(tactic| tb_start) => `(tactic| first | assumption | exact News.sub (by assumption) (fun _ hp => List.mem_cons_of_mem _ hp) | exact News.sub (by assumption) (fun _ hp => List.mem_cons_of_mem _ (List.mem_cons_of_mem _ hp)) | exact News.sub (by assumption) (fun _ hp => List.mem_cons_of_mem _ (List.mem_cons_of_mem _ (List.mem_cons_of_mem _ hp))))
local macro_rules | `(tactic| walk_at "And") => `(tactic| ((with_reducible show MethP _ _ _ _ _ ∧ _); refine' And.intro ?mp ?_; (case mp => (refine' methP ?N ?q ?X; (case N => k_asm); (case q => first | exact List.Mem.head _ | k_mem); (case X => k_in))); (try dsimp only [List.nil_append, List.cons_append])))
local macro_rules | `(tactic| k_all) => `(tactic| first | exact ks_off (by assumption) (by assumption) | assumption)
local macro_rules | `(tactic| walk_at "setAttr ref") => `(tactic| (k_here; (with_reducible show wpAny _ _ (setAttr (Value.ref _) (Str.ofString "value") (Value.int _ _)) _ _ _); (rename HS _ _ _ => hs9); (rename KS _ _ _ => ks9); k_dflt (refine' nd_setval ?F ?X ?N ?c hs9 ?D ?_; (case F => k_asm); (case X => k_asm); (case N => k_asm); (case c => ktr_unf); (case D => k_asm); k_whole); intro h' nl' F' N' H' kk9; (have ks' := KS.trans ks9 kk9); clear hs9 ks9 kk9; (try dsimp only [List.cons_append, List.nil_append] at N'); (try k_sweep)))
local macro_rules | `(tactic| tb_rel) => `(tactic| first | assumption | exact Or.inl rfl | exact Or.inr (by assumption))
local macro_rules | `(tactic| kaf_pre) => `(tactic| (repeat (first | exact List.Mem.head _ | apply List.Mem.tail)))
local macro_rules | `(tactic| kaf_suf) => `(tactic| ((try simp only [List.size_toArray, List.length_cons, List.length_map, List.length_append, List.length_nil, sizeLine_eq]); omega))
local macro_rules | `(tactic| kat_tups) => `(tactic| (intro p9 hp9; repeat (first | exact hp9 | apply List.mem_cons_of_mem)))

section
variable {w : World} {dp un : Nat} {gd : Option (List Code)} {cn : Str} {cs : Scope} {fa : Addr} {ccd : Value} {cl : List (Str × Addr)} {outer : List Env} {A₀ : Around} {base h₀ : Heap} {L : Addr} {m : Str → Option Value} {s : Shared}
  {R : Result → Shared → Prop} {p : Program} {loose : List Str} {mean : ExcName → Option Value} {mg mb : Str → Option Value} {nl : List (Addr × Obj)} {pre : List (Addr × Obj)} {D : Addr → Prop} {σ : Addr → Nd}

local macro_rules | `(tactic| walk_at "exec While Compare cons nil") => `(tactic| (refine Stop.mk ?_))
local macro_rules | `(tactic| walk_at "compareOp IsNot ref ref") => `(tactic| (k_here; (rename HS _ _ _ => hs9); k_dflt (refine' nd_isNot_same ?N ?c hs9 ?A ?_; (case N => k_asm); (case c => ktr_unf); (case A => k_asm); k_whole)))
local macro_rules | `(tactic| walk_at "compareOp NotEq ref ref") => `(tactic| (k_here; k_dflt (first | (refine' ne_nil_cons ?N ?a ?b ?u ?_; (case N => k_asm); (case a => kaf_pre); (case b => kaf_pre); (case u => ktr_units); k_whole) | (refine' ne_nil_nil ?N ?a ?b ?u ?_; (case N => k_asm); (case a => kaf_pre); (case b => kaf_pre); (case u => ktr_units); k_whole))))
local macro_rules | `(tactic| walk_at "call builtin:len") => `(tactic| (k_here; (with_reducible show wpAny _ _ (call (Value.builtin "len") [Value.ref _]) _ _ _); k_dflt (refine' len_own ?N ?a ?z ?_; (case N => k_asm); (case a => kaf_pre); (case z => kaf_suf); k_whole)))
local macro_rules | `(tactic| walk_at "subscriptTail Name Constant ref int") => `(tactic| (k_here; k_dflt (refine' item_own ?N ?a ?h ?f ?x ?_; (case N => k_asm); (case a => kaf_pre); (case h => decide); (case f => decide); (case x => exact rfl); k_whole)))
local macro_rules | `(tactic| walk_at "subscriptTail Name Slice ref ref") => `(tactic| (k_here; k_dflt (refine' tail_own rfl ?F ?N ?a ?_ ?s ?t ?z; (case F => k_asm); (case N => k_asm); (case a => kaf_pre); (case s => with_unfolding_all rfl); (case t => kmk_pure); (case z => kaf_suf)); intro D' h' F' N' l1; (try k_lt l1); (try k_sweep)))
local macro_rules | `(tactic| walk_at "binaryOp Add ref ref") => `(tactic| (k_here; k_dflt (refine' add_own ?F ?N ?a ?b ?_ ?z; (case F => k_asm); (case N => k_asm); (case a => kaf_pre); (case b => kaf_pre); (case z => kaf_suf)); intro D' h' F' N' l1; (try k_lt l1); (try k_sweep)))
local macro_rules | `(tactic| walk_at "getAttr ref") => `(tactic| (k_here; (with_reducible show wpAny _ _ (getAttr (Value.ref _) (Str.ofString "left") _) _ _ _); (rename HS _ _ _ => hs9); k_dflt (refine' nd_known .left ?F ?X ?N ?c hs9 ?D ?e ?_; (case F => k_asm); (case X => k_asm); (case N => k_asm); (case c => ktr_unf); (case D => k_asm); (case e => with_reducible assumption); k_whole); (try dsimp only [oref])))
local macro_rules | `(tactic| walk_at "getAttr ref") => `(tactic| (k_here; (with_reducible show wpAny _ _ (getAttr (Value.ref _) (Str.ofString "next") _) _ _ _); (rename HS _ _ _ => hs9); k_dflt (refine' nd_known .next ?F ?X ?N ?c hs9 ?D ?e ?_; (case F => k_asm); (case X => k_asm); (case N => k_asm); (case c => ktr_unf); (case D => k_asm); (case e => with_reducible assumption); k_whole); (try dsimp only [oref])))
local macro_rules | `(tactic| walk_at "getAttr ref") => `(tactic| (k_here; (with_reducible show wpAny _ _ (getAttr (Value.ref _) (Str.ofString "parent") _) _ _ _); (rename HS _ _ _ => hs9); k_dflt (refine' nd_known .parent ?F ?X ?N ?c hs9 ?D ?e ?_; (case F => k_asm); (case X => k_asm); (case N => k_asm); (case c => ktr_unf); (case D => k_asm); (case e => with_reducible assumption); k_whole); (try dsimp only [oref])))
local macro_rules | `(tactic| walk_at "getAttr ref") => `(tactic| (k_here; (with_reducible show wpAny _ _ (getAttr (Value.ref _) (Str.ofString "prev") _) _ _ _); (rename HS _ _ _ => hs9); k_dflt (refine' nd_known .prev ?F ?X ?N ?c hs9 ?D ?e ?_; (case F => k_asm); (case X => k_asm); (case N => k_asm); (case c => ktr_unf); (case D => k_asm); (case e => with_reducible assumption); k_whole); (try dsimp only [oref])))
set_option maxHeartbeats 8000000 in
theorem tree_code {x : Addr} {l : BT} (B : Below A₀ base outer h₀) (F : Fr h₀ L s.heap m) (X : (hd.heap_39 w.params).In h₀) (N : News h₀ L s.heap (pre ++ nl)) (T : Top p loose mean mg mb h₀) (hk : cs.kind = .function)
    (hd : dp + 10 < recursionLimit) (hu : un + 100 < cLine) (hc : PreOk pre) (H : HS nl D σ) (hx : D x) (dF : ∀ b ∈ l.ad, D b) (hl : (σ x).left = l.hd) (hR : Rep σ (some x) none l) (hO : HO (fun b => (σ b).value) (σ x).value l) (sz : l.ad.length ≤ 7)
    (hret : ∀ h' tk' q as, Fr h₀ L h' m → News h₀ L h' ((q, listOf (List.toArray (as.map Value.ref)) 0) :: (pre ++ nl)) → Bfs [(x, l)] [x] as → R (.ok (.ret (.ref q))) { s with heap := h', toks := tk' }) :
    codeAny (model PySem.Challenge.rw_aw6015_01.row.prog w) (ktrTop dp un gd cn cs L fa ccd cl outer) (.call (.ref 217) ⟨[.ref x], []⟩) R s := by
  revert X
  w_top off
  k_fill
  intro X
  have ks0 : KS D nl nl := KS.refl
  k_dflt ktr_enter
  k_steps
  have h0 : BO D σ [(x, l)] [x] [(x, l)] [x] (1 + l.ad.length) := BO.start hx dF hl hR hO sz
  unfold Stop
  rename Fr _ _ _ _ => F4
  rename News _ _ _ _ => N4
  refine While_inv2 (n₀ := 1 + l.ad.length) (fun n m' nx => ∃ A1 A2 q T, nx = ((A1, listOf (List.toArray (T.map Value.ref)) 0) :: (A2, listOf (List.toArray (q.map fun p => Value.ref p.1)) 0) :: (pre ++ nl)) ∧ BO D σ [(x, l)] [x] q T n ∧
    m' (Str.ofString "told") = some (.ref A1) ∧ m' (Str.ofString "rows") = some (.ref A2)) F4 ?N5 ⟨_, _, [(x, l)], [x], rfl, h0, rfl, rfl⟩ ?_
  · exact news_two N4 (by kaf_pre) (by kaf_pre) (by kat_tups)
  clear F4 N4
  rintro n m₁ news₁ h₁ tk₁ F2 N2 ⟨A1, A2, q, T1, rfl, b1, e1, e2⟩
  have F3 := fr_lk (l := [(Str.ofString "told", .ref A1), (Str.ofString "rows", .ref A2)]) F2 (by
    intro p hp; simp only [List.mem_cons, List.not_mem_nil, or_false] at hp; rcases hp with rfl | rfl <;> assumption)
  clear F2
  cases q with
  | nil =>
    (try simp only [List.map_nil] at N2)
    k_steps
    rename News _ _ _ _ => N4
    exact hret _ _ _ _ (by assumption) (news_one N4 (by kaf_pre) (by kat_tups)) b1.fin
  | cons pr q =>
    obtain ⟨x1, l1⟩ := pr
    (try simp only [List.map_cons] at N2)
    obtain ⟨k1, rfl, c1, e3, hx1⟩ := b1.inn
    have hq8 : q.length ≤ T1.length := c1.sq
    have hT8 : T1.length + l1.ad.length + (adq q).length ≤ 8 := c1.sz
    k_steps
    unfold Stop
    rename Fr _ _ _ _ => F4
    rename News _ _ _ _ => N4
    refine While_inv2 (n₀ := l1.len) (fun n m' nx => ∃ A1 A2 q T F pv, nx = ((A1, listOf (List.toArray (T.map Value.ref)) 0) :: (A2, listOf (List.toArray (q.map fun p => Value.ref p.1)) 0) :: (pre ++ nl)) ∧ BI D σ [(x, l)] [x] x1 pv F q T k1 ∧ n = F.len ∧
      m' (Str.ofString "told") = some (.ref A1) ∧ m' (Str.ofString "rows") = some (.ref A2) ∧ m' (Str.ofString "node") = some (.ref x1) ∧ m' (Str.ofString "child") = some (oref F.hd) ∧ m' (Str.ofString "before") = some (oref pv)) F4 ?N6 ⟨_, _, q, T1, l1, none, rfl, c1, rfl, rfl, rfl, rfl, rfl, rfl⟩ ?_
    · exact news_two N4 (by kaf_pre) (by kaf_pre) (by kat_tups)
    clear F4 N4 hq8 hT8 c1 b1 e1 e2
    rintro n m₂ news₂ h₂ tk₂ F2 N2 ⟨A3, A4, q2, T2, F5, pv, rfl, c1, rfl, e1, e2, e4, e5, e6⟩
    cases F5 with
    | nil =>
      have F3 := fr_lk (l := [(Str.ofString "told", .ref A3), (Str.ofString "rows", .ref A4), (Str.ofString "child", .none)]) F2 (by
        intro p hp; simp only [List.mem_cons, List.not_mem_nil, or_false] at hp; rcases hp with rfl | rfl | rfl <;> assumption)
      clear F2
      k_steps
      all_goals (try dsimp only)
      exact ⟨_, _, _, _, _, rfl, by assumption, by assumption, Nat.lt_succ_self _, _, _, _, _, rfl, c1.out, rfl, rfl⟩
    | node c lc nc =>
      obtain ⟨hDc, f1, f2, f3, f4, f5⟩ := c1.facts
      have hq8 : q2.length ≤ T2.length := c1.sq
      cases pv with
      | none =>
        have F3 := fr_lk (l := [(Str.ofString "told", .ref A3), (Str.ofString "rows", .ref A4), (Str.ofString "node", .ref x1), (Str.ofString "child", .ref c), (Str.ofString "before", .none)]) F2 (by
          intro p hp; simp only [List.mem_cons, List.not_mem_nil, or_false] at hp; rcases hp with rfl | rfl | rfl | rfl | rfl <;> assumption)
        clear F2
        k_steps
        all_goals (try dsimp only)
        · exfalso
          rename (@LT.lt Int _ 8 _) => a9
          simp only [List.length_map] at a9
          omega
        · rename News _ _ _ _ => N4
          refine ⟨_, _, _, _, _, rfl, by assumption, news_two N4 ?m1 ?m2 ?m3, ?lt, _, _, q2 ++ [(c, lc)], T2 ++ [c], nc, some c, rfl, c1.step, rfl, rfl, rfl, rfl, rfl, rfl⟩
          case m1 => (simp only [List.map_append, List.map_cons, List.map_nil]; kaf_pre)
          case m2 => (simp only [List.map_append, List.map_cons, List.map_nil]; kaf_pre)
          case m3 => kat_tups
          case lt => (simp only [BT.len]; omega)
      | some pq =>
        rename HS _ _ _ => hs9
        have hDp : D pq := hs9.cl _ _ _ hDc f2
        have F3 := fr_lk (l := [(Str.ofString "told", .ref A3), (Str.ofString "rows", .ref A4), (Str.ofString "node", .ref x1), (Str.ofString "child", .ref c), (Str.ofString "before", .ref pq)]) F2 (by
          intro p hp; simp only [List.mem_cons, List.not_mem_nil, or_false] at hp; rcases hp with rfl | rfl | rfl | rfl | rfl <;> assumption)
        clear F2
        k_steps
        all_goals (try dsimp only)
        · exfalso
          rename (@LT.lt Int _ 8 _) => a9
          simp only [List.length_map] at a9
          omega
        · rename News _ _ _ _ => N4
          refine ⟨_, _, _, _, _, rfl, by assumption, news_two N4 ?m1 ?m2 ?m3, ?lt, _, _, q2 ++ [(c, lc)], T2 ++ [c], nc, some c, rfl, c1.step, rfl, rfl, rfl, rfl, rfl, rfl⟩
          case m1 => (simp only [List.map_append, List.map_cons, List.map_nil]; kaf_pre)
          case m2 => (simp only [List.map_append, List.map_cons, List.map_nil]; kaf_pre)
          case m3 => kat_tups
          case lt => (simp only [BT.len]; omega)
theorem tree_codeH {news : List (Addr × Obj)} {x : Addr} {l : BT} (B : Below A₀ base outer h₀) (F : Fr h₀ L s.heap m) (X : (hd.heap_39 w.params).In h₀) (N : News h₀ L s.heap news) (T : Top p loose mean mg mb h₀) (hk : cs.kind = .function)
    (hd : dp + 10 < recursionLimit) (hu : un + 100 < cLine) (hc : Hole nl news pre) (H : HS nl D σ) (hx : D x) (dF : ∀ b ∈ l.ad, D b) (hl : (σ x).left = l.hd) (hR : Rep σ (some x) none l) (hO : HO (fun b => (σ b).value) (σ x).value l) (sz : l.ad.length ≤ 7)
    (hret : ∀ h' tk' q as, Fr h₀ L h' m → News h₀ L h' ((q, listOf (List.toArray (as.map Value.ref)) 0) :: (pre ++ nl)) → Bfs [(x, l)] [x] as → R (.ok (.ret (.ref q))) { s with heap := h', toks := tk' }) :
    codeAny (model PySem.Challenge.rw_aw6015_01.row.prog w) (ktrTop dp un gd cn cs L fa ccd cl outer) (.call (.ref 217) ⟨[.ref x], []⟩) R s := by
  obtain ⟨e, hq⟩ := hc.is
  subst e
  exact tree_code B F X N T hk hd hu hq H hx dF hl hR hO sz hret
set_option maxHeartbeats 8000000 in
theorem tree_none {news : List (Addr × Obj)} (B : Below A₀ base outer h₀) (F : Fr h₀ L s.heap m) (X : (hd.heap_39 w.params).In h₀) (N : News h₀ L s.heap news) (T : Top p loose mean mg mb h₀) (hk : cs.kind = .function)
    (hd : dp + 10 < recursionLimit) (hu : un + 100 < cLine)
    (hret : ∀ h' tk' q, Fr h₀ L h' m → News h₀ L h' ((q, listOf (List.toArray []) 0) :: news) → R (.ok (.ret (.ref q))) { s with heap := h', toks := tk' }) :
    codeAny (model PySem.Challenge.rw_aw6015_01.row.prog w) (ktrTop dp un gd cn cs L fa ccd cl outer) (.call (.ref 217) ⟨[.none], []⟩) R s := by
  revert X
  w_top off
  k_fill
  intro X
  k_dflt ktr_enter
  k_steps
  exact hret _ _ _ (by assumption) (by assumption)
end

end Mine
end
section
open PySem PySem.W PySem.Calls PyProof.Rows
namespace Mine
local macro_rules | `(tactic| walk_at "none at all Ky 0") => `(tactic| (fail))
local macro_rules | `(tactic| walk_at "none at all Ky 1") => `(tactic| (fail))
local macro_rules | `(tactic| walk_at "none at all Ky 2") => `(tactic| (fail))
set_option maxRecDepth 100000
local macro_rules | `(tactic| ktr_unf) => `(tactic| (repeat (first | exact Hole.here | exact Hole.opq (by assumption) | (apply Hole.cons; (first | exact rfl | exact dict_notNode (by assumption) | exact cell_notNode (by assumption) | exact ns_notNode (by assumption))))))
local macro_rules | `(tactic| walk_at "getAttr ref") => `(tactic| (k_here; (with_reducible show wpAny _ _ (getAttr (Value.ref _) (Str.ofString "value") _) _ _ _); (rename HS _ _ _ => hs9); k_dflt (refine' nd_value ?F ?X ?N ?c hs9 ?D ?_; (case F => k_asm); (case X => k_asm); (case N => k_asm); (case c => ktr_unf); (case D => k_asm); k_whole)))
local macro_rules | `(tactic| walk_at "getAttr ref") => `(tactic| (k_here; (with_reducible show wpAny _ _ (getAttr (Value.ref _) (Str.ofString "key") _) _ _ _); (rename HS _ _ _ => hs9); k_dflt (refine' nd_key ?F ?X ?N ?c hs9 ?D ?_; (case F => k_asm); (case X => k_asm); (case N => k_asm); (case c => ktr_unf); (case D => k_asm); k_whole)))
local macro_rules | `(tactic| walk_at "getAttr ref") => `(tactic| (k_here; (with_reducible show wpAny _ _ (getAttr (Value.ref _) (Str.ofString "left") _) _ _ _); (rename HS _ _ _ => hs9); k_dflt (refine' nd_get .left ?F ?X ?N ?c hs9 ?D ?_ ?_; (case F => k_asm); (case X => k_asm); (case N => k_asm); (case c => ktr_unf); (case D => k_asm)); all_goals (intros; k_whole)))
local macro_rules | `(tactic| walk_at "setAttr ref") => `(tactic| (k_here; (with_reducible show wpAny _ _ (setAttr (Value.ref _) (Str.ofString "left") _) _ _ _); (rename HS _ _ _ => hs9); (rename KS _ _ _ => ks9); k_dflt ((first | refine' nd_set (v := none) .left ?F ?X ?N ?c hs9 ?D ?v ?_ | refine' nd_set (v := some _) .left ?F ?X ?N ?c hs9 ?D ?v ?_ | refine' nd_set .left ?F ?X ?N ?c hs9 ?D ?v ?_); (case F => k_asm); (case X => k_asm); (case N => k_asm); (case c => ktr_unf); (case D => k_asm); (case v => ktr_rel); k_whole); intro h' nl' F' N' H' kk9; (have ks' := KS.trans ks9 kk9); clear hs9 ks9 kk9; (try dsimp only [List.cons_append, List.nil_append] at N'); (try k_sweep)))
local macro_rules | `(tactic| walk_at "getAttr ref") => `(tactic| (k_here; (with_reducible show wpAny _ _ (getAttr (Value.ref _) (Str.ofString "next") _) _ _ _); (rename HS _ _ _ => hs9); k_dflt (refine' nd_get .next ?F ?X ?N ?c hs9 ?D ?_ ?_; (case F => k_asm); (case X => k_asm); (case N => k_asm); (case c => ktr_unf); (case D => k_asm)); all_goals (intros; k_whole)))
local macro_rules | `(tactic| walk_at "setAttr ref") => `(tactic| (k_here; (with_reducible show wpAny _ _ (setAttr (Value.ref _) (Str.ofString "next") _) _ _ _); (rename HS _ _ _ => hs9); (rename KS _ _ _ => ks9); k_dflt ((first | refine' nd_set (v := none) .next ?F ?X ?N ?c hs9 ?D ?v ?_ | refine' nd_set (v := some _) .next ?F ?X ?N ?c hs9 ?D ?v ?_ | refine' nd_set .next ?F ?X ?N ?c hs9 ?D ?v ?_); (case F => k_asm); (case X => k_asm); (case N => k_asm); (case c => ktr_unf); (case D => k_asm); (case v => ktr_rel); k_whole); intro h' nl' F' N' H' kk9; (have ks' := KS.trans ks9 kk9); clear hs9 ks9 kk9; (try dsimp only [List.cons_append, List.nil_append] at N'); (try k_sweep)))
local macro_rules | `(tactic| walk_at "getAttr ref") => `(tactic| (k_here; (with_reducible show wpAny _ _ (getAttr (Value.ref _) (Str.ofString "parent") _) _ _ _); (rename HS _ _ _ => hs9); k_dflt (refine' nd_get .parent ?F ?X ?N ?c hs9 ?D ?_ ?_; (case F => k_asm); (case X => k_asm); (case N => k_asm); (case c => ktr_unf); (case D => k_asm)); all_goals (intros; k_whole)))
local macro_rules | `(tactic| walk_at "setAttr ref") => `(tactic| (k_here; (with_reducible show wpAny _ _ (setAttr (Value.ref _) (Str.ofString "parent") _) _ _ _); (rename HS _ _ _ => hs9); (rename KS _ _ _ => ks9); k_dflt ((first | refine' nd_set (v := none) .parent ?F ?X ?N ?c hs9 ?D ?v ?_ | refine' nd_set (v := some _) .parent ?F ?X ?N ?c hs9 ?D ?v ?_ | refine' nd_set .parent ?F ?X ?N ?c hs9 ?D ?v ?_); (case F => k_asm); (case X => k_asm); (case N => k_asm); (case c => ktr_unf); (case D => k_asm); (case v => ktr_rel); k_whole); intro h' nl' F' N' H' kk9; (have ks' := KS.trans ks9 kk9); clear hs9 ks9 kk9; (try dsimp only [List.cons_append, List.nil_append] at N'); (try k_sweep)))
local macro_rules | `(tactic| walk_at "getAttr ref") => `(tactic| (k_here; (with_reducible show wpAny _ _ (getAttr (Value.ref _) (Str.ofString "prev") _) _ _ _); (rename HS _ _ _ => hs9); k_dflt (refine' nd_get .prev ?F ?X ?N ?c hs9 ?D ?_ ?_; (case F => k_asm); (case X => k_asm); (case N => k_asm); (case c => ktr_unf); (case D => k_asm)); all_goals (intros; k_whole)))
local macro_rules | `(tactic| walk_at "setAttr ref") => `(tactic| (k_here; (with_reducible show wpAny _ _ (setAttr (Value.ref _) (Str.ofString "prev") _) _ _ _); (rename HS _ _ _ => hs9); (rename KS _ _ _ => ks9); k_dflt ((first | refine' nd_set (v := none) .prev ?F ?X ?N ?c hs9 ?D ?v ?_ | refine' nd_set (v := some _) .prev ?F ?X ?N ?c hs9 ?D ?v ?_ | refine' nd_set .prev ?F ?X ?N ?c hs9 ?D ?v ?_); (case F => k_asm); (case X => k_asm); (case N => k_asm); (case c => ktr_unf); (case D => k_asm); (case v => ktr_rel); k_whole); intro h' nl' F' N' H' kk9; (have ks' := KS.trans ks9 kk9); clear hs9 ks9 kk9; (try dsimp only [List.cons_append, List.nil_append] at N'); (try k_sweep)))
local macro_rules | `(tactic| walk_at "getAttr ref") => `(tactic| (k_here; (rename RawMark => rm9); (with_reducible show wpAny _ _ (getAttr (Value.ref _) (Str.ofString "left") _) _ _ _); (rename HS _ _ _ => hs9); k_dflt (refine' nd_raw .left ?F ?X ?N ?c hs9 ?D ?_; (case F => k_asm); (case X => k_asm); (case N => k_asm); (case c => ktr_unf); (case D => k_asm); k_whole)))
local macro_rules | `(tactic| walk_at "getAttr ref") => `(tactic| (k_here; (rename RawMark => rm9); (with_reducible show wpAny _ _ (getAttr (Value.ref _) (Str.ofString "next") _) _ _ _); (rename HS _ _ _ => hs9); k_dflt (refine' nd_raw .next ?F ?X ?N ?c hs9 ?D ?_; (case F => k_asm); (case X => k_asm); (case N => k_asm); (case c => ktr_unf); (case D => k_asm); k_whole)))
local macro_rules | `(tactic| walk_at "getAttr ref") => `(tactic| (k_here; (rename RawMark => rm9); (with_reducible show wpAny _ _ (getAttr (Value.ref _) (Str.ofString "parent") _) _ _ _); (rename HS _ _ _ => hs9); k_dflt (refine' nd_raw .parent ?F ?X ?N ?c hs9 ?D ?_; (case F => k_asm); (case X => k_asm); (case N => k_asm); (case c => ktr_unf); (case D => k_asm); k_whole)))
local macro_rules | `(tactic| walk_at "getAttr ref") => `(tactic| (k_here; (rename RawMark => rm9); (with_reducible show wpAny _ _ (getAttr (Value.ref _) (Str.ofString "prev") _) _ _ _); (rename HS _ _ _ => hs9); k_dflt (refine' nd_raw .prev ?F ?X ?N ?c hs9 ?D ?_; (case F => k_asm); (case X => k_asm); (case N => k_asm); (case c => ktr_unf); (case D => k_asm); k_whole)))
local macro_rules | `(tactic| ktr_rel) => `(tactic| first | (with_reducible assumption) | (intro x9 e9; (first | (cases e9; done) | (cases e9; assumption))))
local macro_rules | `(tactic| tb_start) => `(tactic| first | assumption | exact News.sub (by assumption) (fun _ hp => List.mem_cons_of_mem _ hp) | exact News.sub (by assumption) (fun _ hp => List.mem_cons_of_mem _ (List.mem_cons_of_mem _ hp)) | exact News.sub (by assumption) (fun _ hp => List.mem_cons_of_mem _ (List.mem_cons_of_mem _ (List.mem_cons_of_mem _ hp))))
local macro_rules | `(tactic| walk_at "And") => `(tactic| ((with_reducible show MethP _ _ _ _ _ ∧ _); refine' And.intro ?mp ?_; (case mp => (refine' methP ?N ?q ?X; (case N => k_asm); (case q => first | exact List.Mem.head _ | k_mem); (case X => k_in))); (try dsimp only [List.nil_append, List.cons_append])))
local macro_rules | `(tactic| k_all) => `(tactic| first | exact ks_off (by assumption) (by assumption) | assumption)
local macro_rules | `(tactic| walk_at "setAttr ref") => `(tactic| (k_here; (with_reducible show wpAny _ _ (setAttr (Value.ref _) (Str.ofString "value") (Value.int _ _)) _ _ _); (rename HS _ _ _ => hs9); (rename KS _ _ _ => ks9); k_dflt (refine' nd_setval ?F ?X ?N ?c hs9 ?D ?_; (case F => k_asm); (case X => k_asm); (case N => k_asm); (case c => ktr_unf); (case D => k_asm); k_whole); intro h' nl' F' N' H' kk9; (have ks' := KS.trans ks9 kk9); clear hs9 ks9 kk9; (try dsimp only [List.cons_append, List.nil_append] at N'); (try k_sweep)))
local macro_rules | `(tactic| tb_rel) => `(tactic| first | assumption | exact Or.inl rfl | exact Or.inr (by assumption))
local macro_rules | `(tactic| kaf_pre) => `(tactic| (repeat (first | exact List.Mem.head _ | apply List.Mem.tail)))
local macro_rules | `(tactic| kaf_suf) => `(tactic| ((try simp only [List.size_toArray, List.length_cons, List.length_map, List.length_append, List.length_nil, sizeLine_eq]); omega))
local macro_rules | `(tactic| kat_tups) => `(tactic| (intro p9 hp9; repeat (first | exact hp9 | apply List.mem_cons_of_mem)))

section
variable {w : World} {dp un : Nat} {gd : Option (List Code)} {cn : Str} {cs : Scope} {fa : Addr} {ccd : Value} {cl : List (Str × Addr)} {outer : List Env} {A₀ : Around} {base h₀ : Heap} {L : Addr} {m : Str → Option Value} {s : Shared}
  {R : Result → Shared → Prop} {p : Program} {loose : List Str} {mean : ExcName → Option Value} {mg mb : Str → Option Value} {nl : List (Addr × Obj)} {pre news : List (Addr × Obj)} {D : Addr → Prop} {σ : Addr → Nd}

local macro_rules | `(tactic| walk_at "CompSrc") => `(tactic| (refine Stop.mk ?_))
local macro_rules | `(tactic| walk_at "CompEnd") => `(tactic| (refine Stop.mk ?_))
local macro_rules | `(tactic| walk_at "getAttr ref") => `(tactic| (k_here; (with_reducible show wpAny _ _ (getAttr (Value.ref _) (Str.ofString "key") _) _ _ _); (rename HS _ _ _ => hs9); k_dflt (refine' nd_key ?F ?X (News.drop3 ?N) ?c hs9 ?D ?_; (case F => k_asm); (case X => k_asm); (case N => k_asm); (case c => assumption); (case D => k_asm); k_whole)))
local macro_rules | `(tactic| walk_at "call builtin:sorted") => `(tactic| (k_here; (with_reducible show wpAny _ _ (call (Value.builtin _) [Value.ref _]) _ _ _); k_dflt (refine' kso_sorted ?F ?N ?l ?i ?z ?_; (case F => k_asm); (case N => k_asm); (case l => exact news_list (by k_asm) (by kaf_pre)); (case i => exact keys_are _); (case z => kaf_suf)); intro D' v' n' c' h' F' N' l1 i' e' p' o' b'; clear b'))
set_option maxHeartbeats 8000000 in
theorem keys_code {q : Addr} {as : List Addr} {k : Nat} (B : Below A₀ base outer h₀) (F : Fr h₀ L s.heap m) (X : (hd.heap_39 w.params).In h₀) (N : News h₀ L s.heap news) (T : Top p loose mean mg mb h₀) (hk : cs.kind = .function)
    (hd : dp + 10 < recursionLimit) (hu : un + 100 < cLine) (hc : Hole nl news pre) (H : HS nl D σ) (hm : (q, listOf (List.toArray (as.map Value.ref)) k) ∈ news) (hD : ∀ b ∈ as, D b) (hz : as.length ≤ 20)
    (hret : ∀ h' tk' q' vs ns c, Fr h₀ L h' m → News h₀ L h' ((q', listOf (List.toArray vs) c) :: news) → IntsAre vs ns → ns.Perm (as.map fun a => (σ a).key) → ns.Pairwise (· ≤ ·) → R (.ok (.ret (.ref q'))) { s with heap := h', toks := tk' }) :
    codeAny (model PySem.Challenge.rw_aw6015_01.row.prog w) (ktrTop dp un gd cn cs L fa ccd cl outer) (.call (.ref 229) ⟨[.ref q], []⟩) R s := by
  revert X
  w_top off
  k_fill
  intro X
  k_dflt ktr_enter
  k_steps
  unfold Stop
  rename Fr _ _ _ _ => F4
  rename News _ _ _ _ => N4
  refine LCg.CompSrc.ledger (k := k) (by rfl) F4 N4 hm (by kaf_suf) ?_
  intro g9
  refine comp_ind (J := fun i ys => ys = (as.take i).map (keyV σ)) rfl ?_ ?_
  · intro j i ys e hJ ih
    refine LCg.CompRest.succ ?_
    intro v I oI C oC D' m₂ h₂ tk₂ E' hv hC hx F5 N5 off ne
    obtain ⟨a, ha, rfl⟩ := at_ref hv
    have hDa : D a := hD a (List.mem_of_getElem? ha)
    clear F4 N4 hv
    k_steps
    unfold Stop
    rename Fr _ _ _ _ => F6
    rename News _ _ _ _ => N6
    exact LCg.CompEnd.intro F6 N6 news (fun p hp => hp) off (Or.inr ⟨_, hm, rfl, _, rfl⟩) (ih _ (by rw [take_snoc ha, hJ]; rfl))
  · intro ys hJ
    have hJ' : ys = as.map (keyV σ) := by rw [hJ]; simp
    subst hJ'
    clear F4 N4 hJ
    k_steps
    exact hret _ _ _ _ _ _ (by assumption) (News.sub (by assumption) (fun p hp => by rcases List.mem_cons.mp hp with rfl | hp; exact List.mem_cons_self .. ; exact List.mem_cons_of_mem _ (List.mem_cons_of_mem _ hp))) (by assumption) (by assumption) (by assumption)
end

end Mine
end
section
open PySem PySem.W PySem.Calls PyProof.Rows
namespace Mine
set_option maxRecDepth 100000
local macro_rules | `(tactic| ktr_unf) => `(tactic| (repeat (first | exact Hole.here | exact Hole.opq (by assumption) | (apply Hole.cons; (first | exact rfl | exact dict_notNode (by assumption) | exact cell_notNode (by assumption) | exact ns_notNode (by assumption))))))
local macro_rules | `(tactic| walk_at "getAttr ref") => `(tactic| (k_here; (with_reducible show wpAny _ _ (getAttr (Value.ref _) (Str.ofString "value") _) _ _ _); (rename HS _ _ _ => hs9); k_dflt (refine' nd_value ?F ?X ?N ?c hs9 ?D ?_; (case F => k_asm); (case X => k_asm); (case N => k_asm); (case c => ktr_unf); (case D => k_asm); k_whole)))
local macro_rules | `(tactic| walk_at "getAttr ref") => `(tactic| (k_here; (with_reducible show wpAny _ _ (getAttr (Value.ref _) (Str.ofString "key") _) _ _ _); (rename HS _ _ _ => hs9); k_dflt (refine' nd_key ?F ?X ?N ?c hs9 ?D ?_; (case F => k_asm); (case X => k_asm); (case N => k_asm); (case c => ktr_unf); (case D => k_asm); k_whole)))
local macro_rules | `(tactic| walk_at "getAttr ref") => `(tactic| (k_here; (with_reducible show wpAny _ _ (getAttr (Value.ref _) (Str.ofString "left") _) _ _ _); (rename HS _ _ _ => hs9); k_dflt (refine' nd_get .left ?F ?X ?N ?c hs9 ?D ?_ ?_; (case F => k_asm); (case X => k_asm); (case N => k_asm); (case c => ktr_unf); (case D => k_asm)); all_goals (intros; k_whole)))
local macro_rules | `(tactic| walk_at "setAttr ref") => `(tactic| (k_here; (with_reducible show wpAny _ _ (setAttr (Value.ref _) (Str.ofString "left") _) _ _ _); (rename HS _ _ _ => hs9); (rename KS _ _ _ => ks9); k_dflt ((first | refine' nd_set (v := none) .left ?F ?X ?N ?c hs9 ?D ?v ?_ | refine' nd_set (v := some _) .left ?F ?X ?N ?c hs9 ?D ?v ?_ | refine' nd_set .left ?F ?X ?N ?c hs9 ?D ?v ?_); (case F => k_asm); (case X => k_asm); (case N => k_asm); (case c => ktr_unf); (case D => k_asm); (case v => ktr_rel); k_whole); intro h' nl' F' N' H' kk9; (have ks' := KS.trans ks9 kk9); clear hs9 ks9 kk9; (try dsimp only [List.cons_append, List.nil_append] at N'); (try k_sweep)))
local macro_rules | `(tactic| walk_at "getAttr ref") => `(tactic| (k_here; (with_reducible show wpAny _ _ (getAttr (Value.ref _) (Str.ofString "next") _) _ _ _); (rename HS _ _ _ => hs9); k_dflt (refine' nd_get .next ?F ?X ?N ?c hs9 ?D ?_ ?_; (case F => k_asm); (case X => k_asm); (case N => k_asm); (case c => ktr_unf); (case D => k_asm)); all_goals (intros; k_whole)))
local macro_rules | `(tactic| walk_at "setAttr ref") => `(tactic| (k_here; (with_reducible show wpAny _ _ (setAttr (Value.ref _) (Str.ofString "next") _) _ _ _); (rename HS _ _ _ => hs9); (rename KS _ _ _ => ks9); k_dflt ((first | refine' nd_set (v := none) .next ?F ?X ?N ?c hs9 ?D ?v ?_ | refine' nd_set (v := some _) .next ?F ?X ?N ?c hs9 ?D ?v ?_ | refine' nd_set .next ?F ?X ?N ?c hs9 ?D ?v ?_); (case F => k_asm); (case X => k_asm); (case N => k_asm); (case c => ktr_unf); (case D => k_asm); (case v => ktr_rel); k_whole); intro h' nl' F' N' H' kk9; (have ks' := KS.trans ks9 kk9); clear hs9 ks9 kk9; (try dsimp only [List.cons_append, List.nil_append] at N'); (try k_sweep)))
local macro_rules | `(tactic| walk_at "getAttr ref") => `(tactic| (k_here; (with_reducible show wpAny _ _ (getAttr (Value.ref _) (Str.ofString "parent") _) _ _ _); (rename HS _ _ _ => hs9); k_dflt (refine' nd_get .parent ?F ?X ?N ?c hs9 ?D ?_ ?_; (case F => k_asm); (case X => k_asm); (case N => k_asm); (case c => ktr_unf); (case D => k_asm)); all_goals (intros; k_whole)))
local macro_rules | `(tactic| walk_at "setAttr ref") => `(tactic| (k_here; (with_reducible show wpAny _ _ (setAttr (Value.ref _) (Str.ofString "parent") _) _ _ _); (rename HS _ _ _ => hs9); (rename KS _ _ _ => ks9); k_dflt ((first | refine' nd_set (v := none) .parent ?F ?X ?N ?c hs9 ?D ?v ?_ | refine' nd_set (v := some _) .parent ?F ?X ?N ?c hs9 ?D ?v ?_ | refine' nd_set .parent ?F ?X ?N ?c hs9 ?D ?v ?_); (case F => k_asm); (case X => k_asm); (case N => k_asm); (case c => ktr_unf); (case D => k_asm); (case v => ktr_rel); k_whole); intro h' nl' F' N' H' kk9; (have ks' := KS.trans ks9 kk9); clear hs9 ks9 kk9; (try dsimp only [List.cons_append, List.nil_append] at N'); (try k_sweep)))
local macro_rules | `(tactic| walk_at "getAttr ref") => `(tactic| (k_here; (with_reducible show wpAny _ _ (getAttr (Value.ref _) (Str.ofString "prev") _) _ _ _); (rename HS _ _ _ => hs9); k_dflt (refine' nd_get .prev ?F ?X ?N ?c hs9 ?D ?_ ?_; (case F => k_asm); (case X => k_asm); (case N => k_asm); (case c => ktr_unf); (case D => k_asm)); all_goals (intros; k_whole)))
local macro_rules | `(tactic| walk_at "setAttr ref") => `(tactic| (k_here; (with_reducible show wpAny _ _ (setAttr (Value.ref _) (Str.ofString "prev") _) _ _ _); (rename HS _ _ _ => hs9); (rename KS _ _ _ => ks9); k_dflt ((first | refine' nd_set (v := none) .prev ?F ?X ?N ?c hs9 ?D ?v ?_ | refine' nd_set (v := some _) .prev ?F ?X ?N ?c hs9 ?D ?v ?_ | refine' nd_set .prev ?F ?X ?N ?c hs9 ?D ?v ?_); (case F => k_asm); (case X => k_asm); (case N => k_asm); (case c => ktr_unf); (case D => k_asm); (case v => ktr_rel); k_whole); intro h' nl' F' N' H' kk9; (have ks' := KS.trans ks9 kk9); clear hs9 ks9 kk9; (try dsimp only [List.cons_append, List.nil_append] at N'); (try k_sweep)))
local macro_rules | `(tactic| walk_at "getAttr ref") => `(tactic| (k_here; (rename RawMark => rm9); (with_reducible show wpAny _ _ (getAttr (Value.ref _) (Str.ofString "left") _) _ _ _); (rename HS _ _ _ => hs9); k_dflt (refine' nd_raw .left ?F ?X ?N ?c hs9 ?D ?_; (case F => k_asm); (case X => k_asm); (case N => k_asm); (case c => ktr_unf); (case D => k_asm); k_whole)))
local macro_rules | `(tactic| walk_at "getAttr ref") => `(tactic| (k_here; (rename RawMark => rm9); (with_reducible show wpAny _ _ (getAttr (Value.ref _) (Str.ofString "next") _) _ _ _); (rename HS _ _ _ => hs9); k_dflt (refine' nd_raw .next ?F ?X ?N ?c hs9 ?D ?_; (case F => k_asm); (case X => k_asm); (case N => k_asm); (case c => ktr_unf); (case D => k_asm); k_whole)))
local macro_rules | `(tactic| walk_at "getAttr ref") => `(tactic| (k_here; (rename RawMark => rm9); (with_reducible show wpAny _ _ (getAttr (Value.ref _) (Str.ofString "parent") _) _ _ _); (rename HS _ _ _ => hs9); k_dflt (refine' nd_raw .parent ?F ?X ?N ?c hs9 ?D ?_; (case F => k_asm); (case X => k_asm); (case N => k_asm); (case c => ktr_unf); (case D => k_asm); k_whole)))
local macro_rules | `(tactic| walk_at "getAttr ref") => `(tactic| (k_here; (rename RawMark => rm9); (with_reducible show wpAny _ _ (getAttr (Value.ref _) (Str.ofString "prev") _) _ _ _); (rename HS _ _ _ => hs9); k_dflt (refine' nd_raw .prev ?F ?X ?N ?c hs9 ?D ?_; (case F => k_asm); (case X => k_asm); (case N => k_asm); (case c => ktr_unf); (case D => k_asm); k_whole)))
local macro_rules | `(tactic| ktr_rel) => `(tactic| first | (with_reducible assumption) | (intro x9 e9; (first | (cases e9; done) | (cases e9; assumption))))
local macro_rules | `(tactic| tb_start) => `(tactic| first | assumption | exact News.sub (by assumption) (fun _ hp => List.mem_cons_of_mem _ hp) | exact News.sub (by assumption) (fun _ hp => List.mem_cons_of_mem _ (List.mem_cons_of_mem _ hp)) | exact News.sub (by assumption) (fun _ hp => List.mem_cons_of_mem _ (List.mem_cons_of_mem _ (List.mem_cons_of_mem _ hp))))
local macro_rules | `(tactic| walk_at "And") => `(tactic| ((with_reducible show MethP _ _ _ _ _ ∧ _); refine' And.intro ?mp ?_; (case mp => (refine' methP ?N ?q ?X; (case N => k_asm); (case q => first | exact List.Mem.head _ | k_mem); (case X => k_in))); (try dsimp only [List.nil_append, List.cons_append])))
local macro_rules | `(tactic| k_all) => `(tactic| first | exact ks_off (by assumption) (by assumption) | assumption)
local macro_rules | `(tactic| walk_at "setAttr ref") => `(tactic| (k_here; (with_reducible show wpAny _ _ (setAttr (Value.ref _) (Str.ofString "value") (Value.int _ _)) _ _ _); (rename HS _ _ _ => hs9); (rename KS _ _ _ => ks9); k_dflt (refine' nd_setval ?F ?X ?N ?c hs9 ?D ?_; (case F => k_asm); (case X => k_asm); (case N => k_asm); (case c => ktr_unf); (case D => k_asm); k_whole); intro h' nl' F' N' H' kk9; (have ks' := KS.trans ks9 kk9); clear hs9 ks9 kk9; (try dsimp only [List.cons_append, List.nil_append] at N'); (try k_sweep)))
local macro_rules | `(tactic| tb_rel) => `(tactic| first | assumption | exact Or.inl rfl | exact Or.inr (by assumption))
local macro_rules | `(tactic| kaf_pre) => `(tactic| (repeat (first | exact List.Mem.head _ | apply List.Mem.tail)))
local macro_rules | `(tactic| kaf_suf) => `(tactic| first | omega | ((try simp only [List.size_toArray, List.length_cons, List.length_map, List.length_append, List.length_nil, sizeLine_eq]); omega))
local macro_rules | `(tactic| kat_tups) => `(tactic| (intro p9 hp9; repeat (first | exact hp9 | apply List.mem_cons_of_mem)))
local macro_rules | `(tactic| kbo_bools) => `(tactic| first | assumption | (intro b9 hb9; exact absurd hb9 (by simp)))
local macro_rules | `(tactic| kct_strs) => `(tactic| first | exact right_perm (by assumption) (by assumption) | assumption | exact List.Perm.symm (by assumption))

section
variable {w : World} {dp un : Nat} {gd : Option (List Code)} {cn : Str} {cs : Scope} {fa : Addr} {ccd : Value} {cl : List (Str × Addr)} {outer : List Env} {A₀ : Around} {base h₀ : Heap} {L : Addr} {m : Str → Option Value} {s : Shared}
  {R : Result → Shared → Prop} {p : Program} {loose : List Str} {mean : ExcName → Option Value} {mg mb : Str → Option Value} {nl : List (Addr × Obj)} {pre : List (Addr × Obj)} {D : Addr → Prop} {σ : Addr → Nd}

theorem tree_codeR {news : List (Addr × Obj)} {x : Addr} {l : BT} (B : Below A₀ base outer h₀) (F : Fr h₀ L s.heap m) (X : (hd.heap_39 w.params).In h₀) (N : News h₀ L s.heap news) (T : Top p loose mean mg mb h₀) (hk : cs.kind = .function)
    (hd : dp + 10 < recursionLimit) (hu : un + 100 < cLine) (hc : Hole nl news pre) (H : HS nl D σ) (t : TR D σ x l)
    (hret : ∀ h' tk' q r, Fr h₀ L h' m → News h₀ L h' ((q, listOf (List.toArray ((x :: r).map Value.ref)) 0) :: (pre ++ nl)) → Bfs [(x, l)] [x] (x :: r) → (∀ b ∈ x :: r, D b) → (x :: r).length ≤ 8 → (x :: r).Perm (x :: l.ad) → R (.ok (.ret (.ref q))) { s with heap := h', toks := tk' }) :
    codeAny (model PySem.Challenge.rw_aw6015_01.row.prog w) (ktrTop dp un gd cn cs L fa ccd cl outer) (.call (.ref 217) ⟨[.ref x], []⟩) R s :=
  tree_codeH B F X N T hk hd hu hc H t.da t.dl t.lf t.rp t.ho t.sz fun h' tk' q as F' N' bf => by
    obtain ⟨o1, o2, ⟨r, rfl⟩, o4⟩ := bfs_out t bf
    exact hret h' tk' q r F' N' bf o1 o2 o4
local macro_rules | `(tactic| k_room) => `(tactic| ktr_room)
local macro_rules | `(tactic| k_units) => `(tactic| ktr_units)
local macro_rules | `(tactic| walk_at "CompSrcT") => `(tactic| (refine Stop.mk ?_))
local macro_rules | `(tactic| walk_at "CompEnd") => `(tactic| (refine Stop.mk ?_))
local macro_rules | `(tactic| walk_at "call ref") => `(tactic| (k_here; (with_reducible show wpAny _ _ (call (Value.ref 217) [Value.ref _] _) _ _ _); (rename HS _ _ _ => hs9); k_dflt (refine' wpAny_call (tree_codeR ?B ?F ?X ?N ?T ?k ?d ?u ?c hs9 ?t ?_); (case B => k_asm); (case F => k_asm); (case X => k_asm); (case N => k_asm); (case T => k_asm); (case k => exact rfl); (case d => ktr_room); (case u => ktr_units); (case c => ktr_unf); (case t => assumption); k_whole); intro h' tk' q' r' F' N' bf' dm' ln' pm'; (try dsimp only [List.cons_append, List.nil_append] at N'); (try dsimp only)))
local macro_rules | `(tactic| walk_at "call ref") => `(tactic| (k_here; (with_reducible show wpAny _ _ (call (Value.ref 217) [Value.none] _) _ _ _); k_dflt (refine' wpAny_call (tree_none ?B ?F ?X ?N ?T ?k ?d ?u ?_); (case B => k_asm); (case F => k_asm); (case X => k_asm); (case N => k_asm); (case T => k_asm); (case k => exact rfl); (case d => ktr_room); (case u => ktr_units); k_whole); intro h' tk' q' F' N'; (try dsimp only)))
local macro_rules | `(tactic| walk_at "call ref") => `(tactic| (k_here; (with_reducible show wpAny _ _ (call (Value.ref 229) [Value.ref _] _) _ _ _); (rename HS _ _ _ => hs9); k_dflt (refine' wpAny_call (keys_code (as := []) ?B ?F ?X ?N ?T ?k ?d ?u ?c hs9 ?m ?D ?z ?_); (case B => k_asm); (case F => k_asm); (case X => k_asm); (case N => k_asm); (case T => k_asm); (case k => exact rfl); (case d => ktr_room); (case u => ktr_units); (case c => ktr_unf); (case m => kaf_pre); (case D => kbo_bools); (case z => kaf_suf); k_whole); intro h' tk' q' v' n' c' F' N' i' p' o'; (try dsimp only)))
local macro_rules | `(tactic| walk_at "call ref") => `(tactic| (k_here; (with_reducible show wpAny _ _ (call (Value.ref 229) [Value.ref _] _) _ _ _); (rename HS _ _ _ => hs9); k_dflt (refine' wpAny_call (keys_code ?B ?F ?X ?N ?T ?k ?d ?u ?c hs9 ?m ?D ?z ?_); (case B => k_asm); (case F => k_asm); (case X => k_asm); (case N => k_asm); (case T => k_asm); (case k => exact rfl); (case d => ktr_room); (case u => ktr_units); (case c => ktr_unf); (case m => kaf_pre); (case D => kbo_bools); (case z => kaf_suf); k_whole); intro h' tk' q' v' n' c' F' N' i' p' o'; (try dsimp only)))
local macro_rules | `(tactic| walk_at "call ref") => `(tactic| (k_here; (with_reducible show wpAny _ _ (call (Value.ref 224) [Value.ref _] _) _ _ _); (rename HS _ _ _ => hs9); k_dflt (refine' wpAny_call (alone_codeH ?B ?F ?X ?N ?T ?k ?d ?c hs9 ?D ?p1 ?p2 ?p3 ?_); (case B => k_asm); (case F => k_asm); (case X => k_asm); (case N => k_asm); (case T => k_asm); (case k => exact rfl); (case d => ktr_room); (case c => ktr_unf); (case D => k_asm); (case p1 => assumption); (case p2 => assumption); (case p3 => assumption); k_whole); intro h' tk' F' N'; (try dsimp only [List.cons_append, List.nil_append] at N'); (try dsimp only)))
local macro_rules | `(tactic| walk_at "call builtin:sorted") => `(tactic| (k_here; (with_reducible show wpAny _ _ (call (Value.builtin _) [Value.ref _]) _ _ _); k_dflt (refine' sorted_dict (by rfl) ?F ?N ?p ?d ?l ?z ?_; (case F => k_asm); (case N => k_asm); (case p => kaf_pre); (case d => assumption); (case l => assumption); (case z => kaf_suf)); intro D' h' tk' v' n' c' F' N' l1 i' p' o'; (try k_lt l1); (try dsimp only)))
local macro_rules | `(tactic| walk_at "compareOp NotEq ref ref") => `(tactic| (k_here; k_dflt (refine' ne_ints ?N ?a ?b ?i ?j ?p ?q ?o1 ?o2 ?x ?u ?_; (case N => k_asm); (case a => kaf_pre); (case b => kaf_pre); (case i => assumption); (case j => assumption); (case p => assumption); (case q => assumption); (case o1 => assumption); (case o2 => assumption); (case x => kct_strs); (case u => ktr_units); k_whole)))
local macro_rules | `(tactic| walk_at "compareOp NotEq ref ref") => `(tactic| (k_here; k_dflt (first | (refine' ne_nil_cons ?N ?a ?b ?u ?_; (case N => k_asm); (case a => kaf_pre); (case b => kaf_pre); (case u => ktr_units); k_whole) | (refine' ne_nil_nil ?N ?a ?b ?u ?_; (case N => k_asm); (case a => kaf_pre); (case b => kaf_pre); (case u => ktr_units); k_whole))))
local macro_rules | `(tactic| walk_at "call builtin:len") => `(tactic| (k_here; (with_reducible show wpAny _ _ (call (Value.builtin "len") [Value.ref _]) _ _ _); k_dflt (refine' len_own ?N ?a ?z ?_; (case N => k_asm); (case a => kaf_pre); (case z => kaf_suf); k_whole)))
local macro_rules | `(tactic| walk_at "call builtin:len") => `(tactic| (k_here; (with_reducible show wpAny _ _ (call (Value.builtin "len") [Value.ref _]) _ _ _); k_dflt (refine' kda_len (knd := intKind _ _) ?N ?p ?d ?l ?z ?_; (case N => k_asm); (case p => kaf_pre); (case d => assumption); (case l => assumption); (case z => omega); k_whole)))
local macro_rules | `(tactic| walk_at "subscriptTail Name Constant ref int") => `(tactic| (k_here; k_dflt (refine' item_own ?N ?a ?h ?f ?x ?_; (case N => k_asm); (case a => kaf_pre); (case h => decide); (case f => decide); (case x => exact rfl); k_whole)))
local macro_rules | `(tactic| walk_at "getAttr ref") => `(tactic| (k_here; (with_reducible show wpAny _ _ (getAttr (Value.ref _) (Str.ofString "key") _) _ _ _); (rename HS _ _ _ => hs9); k_dflt (refine' nd_key ?F ?X (News.drop3 ?N) ?c hs9 ?D ?_; (case F => k_asm); (case X => k_asm); (case N => k_asm); (case c => ktr_unf); (case D => k_asm); k_whole)))
local macro_rules | `(tactic| walk_at "getAttr ref") => `(tactic| (k_here; (with_reducible show wpAny _ _ (getAttr (Value.ref _) (Str.ofString "value") _) _ _ _); (rename HS _ _ _ => hs9); k_dflt (refine' nd_value ?F ?X (News.drop3 ?N) ?c hs9 ?D ?_; (case F => k_asm); (case X => k_asm); (case N => k_asm); (case c => ktr_unf); (case D => k_asm); k_whole)))
local macro_rules | `(tactic| walk_at "compareOp IsNot ref ref") => `(tactic| (k_here; (rename HS _ _ _ => hs9); k_dflt (refine' nd_isNot_same (News.drop3 ?N) ?c hs9 ?A ?_; (case N => k_asm); (case c => ktr_unf); (case A => k_asm); k_whole)))
local macro_rules | `(tactic| walk_at "subscriptTail") => `(tactic| (k_here; (with_reducible show wpAny _ _ (subscriptTail _ _ (Value.ref _) (Value.int _ _)) _ _ _); k_dflt (refine' kda_item (knd := PySem.intKind _ _) ?N ?p ?d (intKind_is _ _ _ _) ?l ?_; (case N => k_asm); (case p => kaf_pre); (case d => assumption); (case l => assumption); k_whole)))
local macro_rules | `(tactic| walk_at "compareOp Eq ref ref") => `(tactic| (k_here; k_dflt (refine' eq_nil_nil ?N ?a ?b ?u ?_; (case N => k_asm); (case a => kaf_pre); (case b => kaf_pre); (case u => ktr_units); k_whole)))
local macro_rules | `(tactic| walk_at "getItem ref int") => `(tactic| (k_here; k_dflt (refine' getItem_own ?N ?p ?d (intKind_is _ _ _ _) ?l ?_; (case N => k_asm); (case p => kaf_pre); (case d => assumption); (case l => assumption); k_whole)))
set_option maxHeartbeats 8000000 in
theorem right1_code {hp hx dd td a : Addr} {t1 t2 : Tok} {h1 h2 : Int} {oD oT : Obj} {kvs kvt : List (Int × Value)} {l : BT} (B : Below A₀ base outer h₀) (F : Fr h₀ L s.heap m) (X : (hd.heap_39 w.params).In h₀)
    (N : News h₀ L s.heap ((hp, instObj 201 hx) :: (hx, dictOf [⟨h1, .str (Str.ofString "_dict") t1, .ref dd⟩, ⟨h2, .str (Str.ofString "_root") t2, .ref a⟩] 2) :: (dd, oD) :: (td, oT) :: (pre ++ nl))) (T : Top p loose mean mg mb h₀) (hk : cs.kind = .function)
    (hd : dp + 30 < recursionLimit) (hu : un + 200 < cLine) (hc : PreOk pre) (H : HS nl D σ) (hoD : oD.IsDictOf (intKind PySem.Challenge.rw_aw6015_01.row.prog w) kvs) (lo : (dd == sysModules) = false)
    (hoT : oT.IsDictOf (intKind PySem.Challenge.rw_aw6015_01.row.prog w) kvt) (loT : (td == sysModules) = false)
    (P : PI D σ (.node a l .nil) kvs) (tb : TB σ (.node a l .nil) kvt) (hz : (BT.node a l .nil).ad.length ≤ 8)
    (hret : ∀ h' tk', Fr h₀ L h' m → News h₀ L h' ((hp, instObj 201 hx) :: (hx, dictOf [⟨h1, .str (Str.ofString "_dict") t1, .ref dd⟩, ⟨h2, .str (Str.ofString "_root") t2, .ref a⟩] 2) :: (dd, oD) :: (td, oT) :: (pre ++ nl)) → R (.ok (.ret (.bool true))) { s with heap := h', toks := tk' }) :
    codeAny (model PySem.Challenge.rw_aw6015_01.row.prog w) (ktrTop dp un gd cn cs L fa ccd cl outer) (.call (.ref 234) ⟨[.ref hp, .ref td], []⟩) R s := by
  have tr : TR D σ a l := P.tr hz
  obtain ⟨f1, f2, f3⟩ := P.ti.free
  have hDa : D a := tr.da
  have hlen : kvs.length = kvt.length := P.len.trans tb.len.symm
  have hz2 : kvt.length ≤ 8 := tb.len ▸ hz
  obtain ⟨ck,cnm,cg,cco,cmo⟩ := cs
  have hk' : ck = .function := hk
  subst hk'
  revert X
  w_top off
  k_fill
  intro X
  have ks0 : KS D nl nl := KS.refl
  k_dflt k_enter
  k_steps
  · exfalso; omega
  · unfold Stop
    rename Fr _ _ _ _ => F4
    rename News _ _ _ _ => N4
    rename (List.Perm (a :: _) _) => pm4
    rename (∀ b ∈ a :: _, D b) => dm4
    rename (List.length (a :: _) ≤ 8) => ln4
    simp only [List.length_cons] at ln4
    refine LCt.CompSrcT.ledger (k := 0) (by rfl) F4 N4 (by kaf_pre) (by kaf_suf) ?_
    intro g9
    refine comp_indT (J := fun _ ys => ys = []) rfl ?_ ?_
    · intro j i ys e hJ ih
      refine LCt.CompRestT.succ ?_
      intro v I oI C oC D' m₂ h₂ tk₂ E' hv hC hx F5 N5 off ne
      obtain ⟨b, hb, rfl⟩ := at_ref hv
      have hb2 := List.mem_of_getElem? hb
      have hDb : D b := dm4 b hb2
      have hbt : b ∈ (BT.node a l .nil).ad := by have := pm4.subset hb2; simpa [BT.ad] using this
      obtain ⟨u, hu⟩ := tb.at P.ks hbt
      have hkv := P.at hbt
      subst hJ
      clear F4 N4 hv
      k_steps
      · exfalso; omega
      · unfold Stop
        rename Fr _ _ _ _ => F6
        rename News _ _ _ _ => N6
        exact LCg.CompEnd.intro F6 N6 _ (fun p hp => hp) off (Or.inr ⟨_, by kaf_pre, rfl, _, rfl⟩) (ih [] rfl)
    · intro ys hJ
      subst hJ
      clear F4 N4
      k_steps
      rename News _ _ _ _ => N6
      exact hret _ _ (by assumption) (News.sub N6 (by kat_tups))
set_option maxHeartbeats 8000000 in
theorem right0_code {hp hx dd td : Addr} {t1 t2 : Tok} {h1 h2 : Int} {oD oT : Obj} {kvs kvt : List (Int × Value)} (B : Below A₀ base outer h₀) (F : Fr h₀ L s.heap m) (X : (hd.heap_39 w.params).In h₀)
    (N : News h₀ L s.heap ((hp, instObj 201 hx) :: (hx, dictOf [⟨h1, .str (Str.ofString "_dict") t1, .ref dd⟩, ⟨h2, .str (Str.ofString "_root") t2, .none⟩] 2) :: (dd, oD) :: (td, oT) :: (pre ++ nl))) (T : Top p loose mean mg mb h₀) (hk : cs.kind = .function)
    (hd : dp + 30 < recursionLimit) (hu : un + 200 < cLine) (hc : PreOk pre) (H : HS nl D σ) (hoD : oD.IsDictOf (intKind PySem.Challenge.rw_aw6015_01.row.prog w) kvs) (lo : (dd == sysModules) = false)
    (hoT : oT.IsDictOf (intKind PySem.Challenge.rw_aw6015_01.row.prog w) kvt) (loT : (td == sysModules) = false)
    (P : PI D σ .nil kvs) (tb : TB σ .nil kvt)
    (hret : ∀ h' tk', Fr h₀ L h' m → News h₀ L h' ((hp, instObj 201 hx) :: (hx, dictOf [⟨h1, .str (Str.ofString "_dict") t1, .ref dd⟩, ⟨h2, .str (Str.ofString "_root") t2, .none⟩] 2) :: (dd, oD) :: (td, oT) :: (pre ++ nl)) → R (.ok (.ret (.bool true))) { s with heap := h', toks := tk' }) :
    codeAny (model PySem.Challenge.rw_aw6015_01.row.prog w) (ktrTop dp un gd cn cs L fa ccd cl outer) (.call (.ref 234) ⟨[.ref hp, .ref td], []⟩) R s := by
  have hlen : kvs.length = kvt.length := P.len.trans tb.len.symm
  have hz2 : kvt.length ≤ 8 := by rw [tb.len]; exact Nat.zero_le _
  have kp0 : (([] : List Addr).map fun a => (σ a).key).Perm (kvt.map (·.1)) := tb.keys.symm
  obtain ⟨ck,cnm,cg,cco,cmo⟩ := cs
  have hk' : ck = .function := hk
  subst hk'
  revert X
  w_top off
  k_fill
  intro X
  have ks0 : KS D nl nl := KS.refl
  k_dflt k_enter
  k_steps
  · exfalso; omega
  · unfold Stop
    rename Fr _ _ _ _ => F4
    rename News _ _ _ _ => N4
    refine LCt.CompSrcT.ledger (k := 0) (its := (List.toArray [])) (by rfl) F4 N4 (by kaf_pre) (by kaf_suf) ?_
    intro g9
    refine LCt.CompRestT.zero ?_
    clear F4 N4
    k_steps
    rename News _ _ _ _ => N6
    exact hret _ _ (by assumption) (News.sub N6 (by kat_tups))
end

end Mine
end
section
open PySem PySem.W PySem.Calls PyProof.Rows
namespace Mine
local macro_rules | `(tactic| walk_at "none at all Iv 0") => `(tactic| (fail))
local macro_rules | `(tactic| walk_at "none at all Iv 1") => `(tactic| (fail))
local macro_rules | `(tactic| walk_at "none at all Iv 2") => `(tactic| (fail))
local macro_rules | `(tactic| walk_at "none at all Iv 3") => `(tactic| (fail))
local macro_rules | `(tactic| walk_at "none at all Iv 4") => `(tactic| (fail))
local macro_rules | `(tactic| walk_at "none at all Iv 5") => `(tactic| (fail))
local macro_rules | `(tactic| walk_at "none at all Iv 6") => `(tactic| (fail))
local macro_rules | `(tactic| walk_at "none at all Iv 7") => `(tactic| (fail))
local macro_rules | `(tactic| walk_at "none at all Iv 8") => `(tactic| (fail))
local macro_rules | `(tactic| walk_at "none at all Iv 9") => `(tactic| (fail))
local macro_rules | `(tactic| walk_at "none at all Iv 10") => `(tactic| (fail))
local macro_rules | `(tactic| walk_at "none at all Iv 11") => `(tactic| (fail))
set_option maxRecDepth 100000
local macro_rules | `(tactic| ktr_unf) => `(tactic| (repeat (first | exact Hole.here | exact Hole.opq (by assumption) | (apply Hole.cons; (first | exact rfl | exact dict_notNode (by assumption) | exact cell_notNode (by assumption) | exact ns_notNode (by assumption))))))
local macro_rules | `(tactic| walk_at "getAttr ref") => `(tactic| (k_here; (with_reducible show wpAny _ _ (getAttr (Value.ref _) (Str.ofString "value") _) _ _ _); (rename HS _ _ _ => hs9); k_dflt (refine' nd_value ?F ?X ?N ?c hs9 ?D ?_; (case F => k_asm); (case X => k_asm); (case N => k_asm); (case c => ktr_unf); (case D => k_asm); k_whole)))
local macro_rules | `(tactic| walk_at "getAttr ref") => `(tactic| (k_here; (with_reducible show wpAny _ _ (getAttr (Value.ref _) (Str.ofString "key") _) _ _ _); (rename HS _ _ _ => hs9); k_dflt (refine' nd_key ?F ?X ?N ?c hs9 ?D ?_; (case F => k_asm); (case X => k_asm); (case N => k_asm); (case c => ktr_unf); (case D => k_asm); k_whole)))
local macro_rules | `(tactic| walk_at "getAttr ref") => `(tactic| (k_here; (with_reducible show wpAny _ _ (getAttr (Value.ref _) (Str.ofString "left") _) _ _ _); (rename HS _ _ _ => hs9); k_dflt (refine' nd_get .left ?F ?X ?N ?c hs9 ?D ?_ ?_; (case F => k_asm); (case X => k_asm); (case N => k_asm); (case c => ktr_unf); (case D => k_asm)); all_goals (intros; k_whole)))
local macro_rules | `(tactic| walk_at "setAttr ref") => `(tactic| (k_here; (with_reducible show wpAny _ _ (setAttr (Value.ref _) (Str.ofString "left") _) _ _ _); (rename HS _ _ _ => hs9); (rename KS _ _ _ => ks9); k_dflt ((first | refine' nd_set (v := none) .left ?F ?X ?N ?c hs9 ?D ?v ?_ | refine' nd_set (v := some _) .left ?F ?X ?N ?c hs9 ?D ?v ?_ | refine' nd_set .left ?F ?X ?N ?c hs9 ?D ?v ?_); (case F => k_asm); (case X => k_asm); (case N => k_asm); (case c => ktr_unf); (case D => k_asm); (case v => ktr_rel); k_whole); intro h' nl' F' N' H' kk9; (have ks' := KS.trans ks9 kk9); clear hs9 ks9 kk9; (try dsimp only [List.cons_append, List.nil_append] at N'); (try k_sweep)))
local macro_rules | `(tactic| walk_at "getAttr ref") => `(tactic| (k_here; (with_reducible show wpAny _ _ (getAttr (Value.ref _) (Str.ofString "next") _) _ _ _); (rename HS _ _ _ => hs9); k_dflt (refine' nd_get .next ?F ?X ?N ?c hs9 ?D ?_ ?_; (case F => k_asm); (case X => k_asm); (case N => k_asm); (case c => ktr_unf); (case D => k_asm)); all_goals (intros; k_whole)))
local macro_rules | `(tactic| walk_at "setAttr ref") => `(tactic| (k_here; (with_reducible show wpAny _ _ (setAttr (Value.ref _) (Str.ofString "next") _) _ _ _); (rename HS _ _ _ => hs9); (rename KS _ _ _ => ks9); k_dflt ((first | refine' nd_set (v := none) .next ?F ?X ?N ?c hs9 ?D ?v ?_ | refine' nd_set (v := some _) .next ?F ?X ?N ?c hs9 ?D ?v ?_ | refine' nd_set .next ?F ?X ?N ?c hs9 ?D ?v ?_); (case F => k_asm); (case X => k_asm); (case N => k_asm); (case c => ktr_unf); (case D => k_asm); (case v => ktr_rel); k_whole); intro h' nl' F' N' H' kk9; (have ks' := KS.trans ks9 kk9); clear hs9 ks9 kk9; (try dsimp only [List.cons_append, List.nil_append] at N'); (try k_sweep)))
local macro_rules | `(tactic| walk_at "getAttr ref") => `(tactic| (k_here; (with_reducible show wpAny _ _ (getAttr (Value.ref _) (Str.ofString "parent") _) _ _ _); (rename HS _ _ _ => hs9); k_dflt (refine' nd_get .parent ?F ?X ?N ?c hs9 ?D ?_ ?_; (case F => k_asm); (case X => k_asm); (case N => k_asm); (case c => ktr_unf); (case D => k_asm)); all_goals (intros; k_whole)))
local macro_rules | `(tactic| walk_at "setAttr ref") => `(tactic| (k_here; (with_reducible show wpAny _ _ (setAttr (Value.ref _) (Str.ofString "parent") _) _ _ _); (rename HS _ _ _ => hs9); (rename KS _ _ _ => ks9); k_dflt ((first | refine' nd_set (v := none) .parent ?F ?X ?N ?c hs9 ?D ?v ?_ | refine' nd_set (v := some _) .parent ?F ?X ?N ?c hs9 ?D ?v ?_ | refine' nd_set .parent ?F ?X ?N ?c hs9 ?D ?v ?_); (case F => k_asm); (case X => k_asm); (case N => k_asm); (case c => ktr_unf); (case D => k_asm); (case v => ktr_rel); k_whole); intro h' nl' F' N' H' kk9; (have ks' := KS.trans ks9 kk9); clear hs9 ks9 kk9; (try dsimp only [List.cons_append, List.nil_append] at N'); (try k_sweep)))
local macro_rules | `(tactic| walk_at "getAttr ref") => `(tactic| (k_here; (with_reducible show wpAny _ _ (getAttr (Value.ref _) (Str.ofString "prev") _) _ _ _); (rename HS _ _ _ => hs9); k_dflt (refine' nd_get .prev ?F ?X ?N ?c hs9 ?D ?_ ?_; (case F => k_asm); (case X => k_asm); (case N => k_asm); (case c => ktr_unf); (case D => k_asm)); all_goals (intros; k_whole)))
local macro_rules | `(tactic| walk_at "setAttr ref") => `(tactic| (k_here; (with_reducible show wpAny _ _ (setAttr (Value.ref _) (Str.ofString "prev") _) _ _ _); (rename HS _ _ _ => hs9); (rename KS _ _ _ => ks9); k_dflt ((first | refine' nd_set (v := none) .prev ?F ?X ?N ?c hs9 ?D ?v ?_ | refine' nd_set (v := some _) .prev ?F ?X ?N ?c hs9 ?D ?v ?_ | refine' nd_set .prev ?F ?X ?N ?c hs9 ?D ?v ?_); (case F => k_asm); (case X => k_asm); (case N => k_asm); (case c => ktr_unf); (case D => k_asm); (case v => ktr_rel); k_whole); intro h' nl' F' N' H' kk9; (have ks' := KS.trans ks9 kk9); clear hs9 ks9 kk9; (try dsimp only [List.cons_append, List.nil_append] at N'); (try k_sweep)))
local macro_rules | `(tactic| walk_at "getAttr ref") => `(tactic| (k_here; (rename RawMark => rm9); (with_reducible show wpAny _ _ (getAttr (Value.ref _) (Str.ofString "left") _) _ _ _); (rename HS _ _ _ => hs9); k_dflt (refine' nd_raw .left ?F ?X ?N ?c hs9 ?D ?_; (case F => k_asm); (case X => k_asm); (case N => k_asm); (case c => ktr_unf); (case D => k_asm); k_whole)))
local macro_rules | `(tactic| walk_at "getAttr ref") => `(tactic| (k_here; (rename RawMark => rm9); (with_reducible show wpAny _ _ (getAttr (Value.ref _) (Str.ofString "next") _) _ _ _); (rename HS _ _ _ => hs9); k_dflt (refine' nd_raw .next ?F ?X ?N ?c hs9 ?D ?_; (case F => k_asm); (case X => k_asm); (case N => k_asm); (case c => ktr_unf); (case D => k_asm); k_whole)))
local macro_rules | `(tactic| walk_at "getAttr ref") => `(tactic| (k_here; (rename RawMark => rm9); (with_reducible show wpAny _ _ (getAttr (Value.ref _) (Str.ofString "parent") _) _ _ _); (rename HS _ _ _ => hs9); k_dflt (refine' nd_raw .parent ?F ?X ?N ?c hs9 ?D ?_; (case F => k_asm); (case X => k_asm); (case N => k_asm); (case c => ktr_unf); (case D => k_asm); k_whole)))
local macro_rules | `(tactic| walk_at "getAttr ref") => `(tactic| (k_here; (rename RawMark => rm9); (with_reducible show wpAny _ _ (getAttr (Value.ref _) (Str.ofString "prev") _) _ _ _); (rename HS _ _ _ => hs9); k_dflt (refine' nd_raw .prev ?F ?X ?N ?c hs9 ?D ?_; (case F => k_asm); (case X => k_asm); (case N => k_asm); (case c => ktr_unf); (case D => k_asm); k_whole)))
local macro_rules | `(tactic| ktr_rel) => `(tactic| first | (with_reducible assumption) | (intro x9 e9; (first | (cases e9; done) | (cases e9; assumption))))
local macro_rules | `(tactic| tb_start) => `(tactic| first | assumption | exact News.sub (by assumption) (fun _ hp => List.mem_cons_of_mem _ hp) | exact News.sub (by assumption) (fun _ hp => List.mem_cons_of_mem _ (List.mem_cons_of_mem _ hp)) | exact News.sub (by assumption) (fun _ hp => List.mem_cons_of_mem _ (List.mem_cons_of_mem _ (List.mem_cons_of_mem _ hp))))
local macro_rules | `(tactic| walk_at "And") => `(tactic| ((with_reducible show MethP _ _ _ _ _ ∧ _); refine' And.intro ?mp ?_; (case mp => (refine' methP ?N ?q ?X; (case N => k_asm); (case q => first | exact List.Mem.head _ | k_mem); (case X => k_in))); (try dsimp only [List.nil_append, List.cons_append])))
local macro_rules | `(tactic| k_all) => `(tactic| first | exact ks_off (by assumption) (by assumption) | assumption)
local macro_rules | `(tactic| walk_at "setAttr ref") => `(tactic| (k_here; (with_reducible show wpAny _ _ (setAttr (Value.ref _) (Str.ofString "value") (Value.int _ _)) _ _ _); (rename HS _ _ _ => hs9); (rename KS _ _ _ => ks9); k_dflt (refine' nd_setval ?F ?X ?N ?c hs9 ?D ?_; (case F => k_asm); (case X => k_asm); (case N => k_asm); (case c => ktr_unf); (case D => k_asm); k_whole); intro h' nl' F' N' H' kk9; (have ks' := KS.trans ks9 kk9); clear hs9 ks9 kk9; (try dsimp only [List.cons_append, List.nil_append] at N'); (try k_sweep)))
local macro_rules | `(tactic| tb_rel) => `(tactic| first | assumption | exact Or.inl rfl | exact Or.inr (by assumption))
local macro_rules | `(tactic| kaf_pre) => `(tactic| (repeat (first | exact List.Mem.head _ | apply List.Mem.tail)))
local macro_rules | `(tactic| kaf_suf) => `(tactic| first | omega | ((try simp only [List.size_toArray, List.length_cons, List.length_map, List.length_append, List.length_nil, sizeLine_eq]); omega))
local macro_rules | `(tactic| kat_tups) => `(tactic| (intro p9 hp9; repeat (first | exact hp9 | apply List.mem_cons_of_mem)))
local macro_rules | `(tactic| kbo_bools) => `(tactic| first | assumption | (intro b9 hb9; exact absurd hb9 (by simp)))
local macro_rules | `(tactic| kct_strs) => `(tactic| first | exact right_perm (by assumption) (by assumption) | assumption | exact List.Perm.symm (by assumption))

/-- the ledger's addresses stand apart -/
structure LD (hp hx dd td c1 c2 : Addr) (own nl : List (Addr × Obj)) : Prop where
  a1 : @Ne Nat hp hx
  a2 : @Ne Nat hp dd
  a3 : @Ne Nat hx dd
  a4 : @Ne Nat hp td
  a5 : @Ne Nat hx td
  a6 : @Ne Nat dd td
  b1 : @Ne Nat hp c1
  b2 : @Ne Nat hx c1
  b3 : @Ne Nat dd c1
  b4 : @Ne Nat td c1
  b5 : @Ne Nat hp c2
  b6 : @Ne Nat hx c2
  b7 : @Ne Nat dd c2
  b8 : @Ne Nat td c2
  b9 : @Ne Nat c1 c2
  off : ∀ p ∈ own ++ nl, p.1 ≠ hx ∧ p.1 ≠ dd ∧ p.1 ≠ td ∧ p.1 ≠ c1 ∧ p.1 ≠ c2
  od : ∀ q ∈ own, q.1 ≠ hp ∧ ∀ p ∈ nl, p.1 ≠ q.1
structure IX (w : World) (hp hx dd td c1 c2 : Addr) (oD o1 o2 : Obj) (own nl : List (Addr × Obj)) (D : Addr → Prop) (σ : Addr → Nd) (t : BT) (kvs : List (Int × Value)) : Prop where
  hs : HS nl D σ
  pi : PI D σ t kvs
  k8 : K8 σ t
  dD : oD.IsDictOf (intKind PySem.Challenge.rw_aw6015_01.row.prog w) kvs
  lD : (dd == sysModules) = false
  lT : (td == sysModules) = false
  ld : LD hp hx dd td c1 c2 own nl
  ow : PreOk own
  k1 : o1.data = .cell (some (.ref td))
  k2 : ∃ v, o2.data = .cell v
structure IV (w : World) (hp hx dd td c1 c2 : Addr) (oD oT o1 o2 : Obj) (own nl : List (Addr × Obj)) (D : Addr → Prop) (σ : Addr → Nd) (t : BT) (kvs kvt : List (Int × Value)) : Prop extends IX w hp hx dd td c1 c2 oD o1 o2 own nl D σ t kvs where
  tb : TB σ t kvt
  dT : oT.IsDictOf (intKind PySem.Challenge.rw_aw6015_01.row.prog w) kvt
section
variable {w : World} {dp un : Nat} {gd : Option (List Code)} {cn : Str} {cs : Scope} {fa : Addr} {ccd : Value} {cl : List (Str × Addr)} {outer : List Env} {A₀ : Around} {base h₀ : Heap} {L : Addr} {m : Str → Option Value} {s : Shared}
  {R : Result → Shared → Prop} {p : Program} {loose : List Str} {mean : ExcName → Option Value} {mg mb : Str → Option Value} {nl own : List (Addr × Obj)} {D : Addr → Prop} {σ : Addr → Nd} {hp hx dd td c1 c2 : Addr} {t1 t2 : Tok} {h1 h2 : Int} {oD oT o1 o2 : Obj} {t : BT} {kvs kvt : List (Int × Value)}
theorem LD.all (ld : LD hp hx dd td c1 c2 own nl) : @Ne Nat hp hx ∧ @Ne Nat hp dd ∧ @Ne Nat hx dd ∧ @Ne Nat hp td ∧ @Ne Nat hx td ∧ @Ne Nat dd td ∧ @Ne Nat hp c1 ∧ @Ne Nat hx c1 ∧ @Ne Nat dd c1 ∧ @Ne Nat td c1 ∧ @Ne Nat hp c2 ∧ @Ne Nat hx c2 ∧ @Ne Nat dd c2 ∧ @Ne Nat td c2 ∧ @Ne Nat c1 c2 ∧
    (∀ p ∈ own ++ nl, p.1 ≠ td) ∧ (∀ p ∈ own ++ nl, p.1 ≠ c1) ∧ (∀ p ∈ own ++ nl, p.1 ≠ c2) ∧ (∀ p ∈ own ++ nl, p.1 ≠ hx) :=
  ⟨ld.a1, ld.a2, ld.a3, ld.a4, ld.a5, ld.a6, ld.b1, ld.b2, ld.b3, ld.b4, ld.b5, ld.b6, ld.b7, ld.b8, ld.b9, fun p h => (ld.off p h).2.2.1, fun p h => (ld.off p h).2.2.2.1, fun p h => (ld.off p h).2.2.2.2, fun p h => (ld.off p h).1⟩
theorem IV.pre (iv : IV w hp hx dd td c1 c2 oD oT o1 o2 own nl D σ t kvs kvt) : PreOk ((td, oT) :: (c1, o1) :: (c2, o2) :: own) := fun p hp => by
  obtain ⟨v, e⟩ := iv.k2
  rcases List.mem_cons.mp hp with rfl | hp
  · exact dict_notNode iv.dT
  · rcases List.mem_cons.mp hp with rfl | hp
    · exact cell_notNode iv.k1
    · rcases List.mem_cons.mp hp with rfl | hp
      · exact cell_notNode e
      · exact iv.ow p hp
theorem IV.offs (iv : IV w hp hx dd td c1 c2 oD oT o1 o2 own nl D σ t kvs kvt) : Off ((td, oT) :: (c1, o1) :: (c2, o2) :: own) nl hx dd := by
  refine ⟨fun p hp => ?_, fun p hp => ?_⟩
  · rcases List.mem_cons.mp hp with rfl | hp
    · exact Ne.symm iv.ld.a5
    · rcases List.mem_cons.mp hp with rfl | hp
      · exact Ne.symm iv.ld.b2
      · rcases List.mem_cons.mp hp with rfl | hp
        · exact Ne.symm iv.ld.b6
        · exact (iv.ld.off p hp).1
  · rcases List.mem_cons.mp hp with rfl | hp
    · exact Ne.symm iv.ld.a6
    · rcases List.mem_cons.mp hp with rfl | hp
      · exact Ne.symm iv.ld.b3
      · rcases List.mem_cons.mp hp with rfl | hp
        · exact Ne.symm iv.ld.b7
        · exact (iv.ld.off p hp).2.1
theorem LD.grow {nl' : List (Addr × Obj)} (ld : LD hp hx dd td c1 c2 own nl) (k : KN D ((td, oT) :: (c1, o1) :: (c2, o2) :: own) nl nl') (o : Off ((td, oT) :: (c1, o1) :: (c2, o2) :: own) nl' hx dd) : LD hp hx dd td c1 c2 own nl' := by
  refine { ld with off := fun p hp => ?_, od := fun q hq => ⟨(ld.od q hq).1, fun p hp => ?_⟩ }
  · refine ⟨o.l p (List.mem_cons_of_mem _ (List.mem_cons_of_mem _ (List.mem_cons_of_mem _ hp))), o.r p (List.mem_cons_of_mem _ (List.mem_cons_of_mem _ (List.mem_cons_of_mem _ hp))), ?_⟩
    rcases List.mem_append.mp hp with hp | hp
    · exact (ld.off p (List.mem_append_left _ hp)).2.2
    · exact ⟨k.off (fun q hq => (ld.off q (List.mem_append_right _ hq)).2.2.1) (List.mem_cons_self ..) p hp, k.off (fun q hq => (ld.off q (List.mem_append_right _ hq)).2.2.2.1) (List.mem_cons_of_mem _ (List.mem_cons_self ..)) p hp,
        k.off (fun q hq => (ld.off q (List.mem_append_right _ hq)).2.2.2.2) (List.mem_cons_of_mem _ (List.mem_cons_of_mem _ (List.mem_cons_self ..))) p hp⟩
  · exact k.off (b := q.1) (o := q.2) (fun r hr => (ld.od q hq).2 r hr) (List.mem_cons_of_mem _ (List.mem_cons_of_mem _ (List.mem_cons_of_mem _ hq))) p hp

theorem insF_iv {k v : Int} {kt vt : Tok} (k0 : 0 ≤ k) (k8 : k < 8) (iv : IV w hp hx dd td c1 c2 oD oT o1 o2 own nl D σ t kvs kvt) (B : Below A₀ base outer h₀) (F : Fr h₀ L s.heap m) (X : (hd.heap_39 w.params).In h₀)
    (N : News h₀ L s.heap ((hp, instObj 201 hx) :: (hx, dictOf [⟨h1, .str (Str.ofString "_dict") t1, .ref dd⟩, ⟨h2, .str (Str.ofString "_root") t2, oref (BT.hd t)⟩] 2) :: (dd, oD) :: (td, oT) :: (c1, o1) :: (c2, o2) :: (own ++ nl))) (T : Top p loose mean mg mb h₀) (hk : cs.kind = .function)
    (hd : dp + 40 < recursionLimit) (hu : un + 300 < cLine)
    (hret : ∀ h' tk' nl' D' σ' t' kvs' oD' b, Fr h₀ L h' m → News h₀ L h' ((hp, instObj 201 hx) :: (hx, dictOf [⟨h1, .str (Str.ofString "_dict") t1, .ref dd⟩, ⟨h2, .str (Str.ofString "_root") t2, oref (BT.hd t')⟩] 2) :: (dd, oD') :: (td, oT) :: (c1, o1) :: (c2, o2) :: (own ++ nl')) → IX w hp hx dd td c1 c2 oD' o1 o2 own nl' D' σ' t' kvs' →
      ((valueAt kvt k = none ∧ b = true ∧ ∀ u, TB σ' t' (stored kvt k (.int v u))) ∨ (∃ i u, valueAt kvt k = some (.int i u) ∧ ((v < i ∧ b = true ∧ ∀ u, TB σ' t' (stored kvt k (.int v u))) ∨ (¬ v < i ∧ b = false ∧ TB σ' t' kvt)))) → R (.ok (.ret (.bool b))) { s with heap := h', toks := tk' }) :
    codeAny (model PySem.Challenge.rw_aw6015_01.row.prog w) (ktrTop dp un gd cn cs L fa ccd cl outer) (.call (.ref 177) ⟨[.ref hp, .int k kt, .int v vt], []⟩) R s := by
  rcases iv.pi.ti.sh with rfl | ⟨a, l, rfl⟩
  · exact ins0F (pre := (td, oT) :: (c1, o1) :: (c2, o2) :: own) B F X N T hk (by omega) (by omega) iv.pre iv.hs iv.dD iv.lD iv.pi iv.offs iv.ld.a1 iv.ld.a2 iv.ld.a3 (by have := K8.len iv.pi iv.k8; omega) fun h' tk' nl' D' σ' t' kvs' oD' b F' N' dD' hs' kn of' pi' io dm =>
      hret h' tk' nl' D' σ' t' kvs' oD' b F' N' ⟨hs', pi', iv.k8.ins io k0 k8, dD', iv.lD, iv.lT, iv.ld.grow kn of', iv.ow, iv.k1, iv.k2⟩ (ins_tabF iv.pi iv.tb io)
  · exact ins1F (pre := (td, oT) :: (c1, o1) :: (c2, o2) :: own) B F X N T hk (by omega) (by omega) iv.pre iv.hs iv.dD iv.lD iv.pi iv.offs iv.ld.a1 iv.ld.a2 iv.ld.a3 (by have := K8.len iv.pi iv.k8; omega) fun h' tk' nl' D' σ' t' kvs' oD' b F' N' dD' hs' kn of' pi' io dm =>
      hret h' tk' nl' D' σ' t' kvs' oD' b F' N' ⟨hs', pi', iv.k8.ins io k0 k8, dD', iv.lD, iv.lT, iv.ld.grow kn of', iv.ow, iv.k1, iv.k2⟩ (ins_tabF iv.pi iv.tb io)

theorem insT_iv {k v : Int} {kt vt : Tok} (k0 : 0 ≤ k) (k8 : k < 8) (iv : IV w hp hx dd td c1 c2 oD oT o1 o2 own nl D σ t kvs kvt) (B : Below A₀ base outer h₀) (F : Fr h₀ L s.heap m) (X : (hd.heap_39 w.params).In h₀)
    (N : News h₀ L s.heap ((hp, instObj 201 hx) :: (hx, dictOf [⟨h1, .str (Str.ofString "_dict") t1, .ref dd⟩, ⟨h2, .str (Str.ofString "_root") t2, oref (BT.hd t)⟩] 2) :: (dd, oD) :: (td, oT) :: (c1, o1) :: (c2, o2) :: (own ++ nl))) (T : Top p loose mean mg mb h₀) (hk : cs.kind = .function)
    (hd : dp + 40 < recursionLimit) (hu : un + 300 < cLine)
    (hret : ∀ h' tk' nl' D' σ' t' kvs' oD' b, Fr h₀ L h' m → News h₀ L h' ((hp, instObj 201 hx) :: (hx, dictOf [⟨h1, .str (Str.ofString "_dict") t1, .ref dd⟩, ⟨h2, .str (Str.ofString "_root") t2, oref (BT.hd t')⟩] 2) :: (dd, oD') :: (td, oT) :: (c1, o1) :: (c2, o2) :: (own ++ nl')) → IX w hp hx dd td c1 c2 oD' o1 o2 own nl' D' σ' t' kvs' →
      (∀ u, TB σ' t' (stored kvt k (.int v u))) → R (.ok (.ret (.bool b))) { s with heap := h', toks := tk' }) :
    codeAny (model PySem.Challenge.rw_aw6015_01.row.prog w) (ktrTop dp un gd cn cs L fa ccd cl outer) (.call (.ref 177) ⟨[.ref hp, .int k kt, .int v vt], [(Str.ofString "allow_increase", .bool true)]⟩) R s := by
  rcases iv.pi.ti.sh with rfl | ⟨a, l, rfl⟩
  · exact ins0T (pre := (td, oT) :: (c1, o1) :: (c2, o2) :: own) B F X N T hk (by omega) (by omega) iv.pre iv.hs iv.dD iv.lD iv.pi iv.offs iv.ld.a1 iv.ld.a2 iv.ld.a3 (by have := K8.len iv.pi iv.k8; omega) fun h' tk' nl' D' σ' t' kvs' oD' b F' N' dD' hs' kn of' pi' io dm =>
      hret h' tk' nl' D' σ' t' kvs' oD' b F' N' ⟨hs', pi', iv.k8.ins io k0 k8, dD', iv.lD, iv.lT, iv.ld.grow kn of', iv.ow, iv.k1, iv.k2⟩ (fun u => ins_tabT iv.pi iv.tb io u)
  · exact ins1T (pre := (td, oT) :: (c1, o1) :: (c2, o2) :: own) B F X N T hk (by omega) (by omega) iv.pre iv.hs iv.dD iv.lD iv.pi iv.offs iv.ld.a1 iv.ld.a2 iv.ld.a3 (by have := K8.len iv.pi iv.k8; omega) fun h' tk' nl' D' σ' t' kvs' oD' b F' N' dD' hs' kn of' pi' io dm =>
      hret h' tk' nl' D' σ' t' kvs' oD' b F' N' ⟨hs', pi', iv.k8.ins io k0 k8, dD', iv.lD, iv.lT, iv.ld.grow kn of', iv.ow, iv.k1, iv.k2⟩ (fun u => ins_tabT iv.pi iv.tb io u)

theorem right_iv (iv : IV w hp hx dd td c1 c2 oD oT o1 o2 own nl D σ t kvs kvt) (B : Below A₀ base outer h₀) (F : Fr h₀ L s.heap m) (X : (hd.heap_39 w.params).In h₀)
    (N : News h₀ L s.heap ((hp, instObj 201 hx) :: (hx, dictOf [⟨h1, .str (Str.ofString "_dict") t1, .ref dd⟩, ⟨h2, .str (Str.ofString "_root") t2, oref (BT.hd t)⟩] 2) :: (dd, oD) :: (td, oT) :: (c1, o1) :: (c2, o2) :: (own ++ nl))) (T : Top p loose mean mg mb h₀) (hk : cs.kind = .function)
    (hd : dp + 40 < recursionLimit) (hu : un + 300 < cLine)
    (hret : ∀ h' tk', Fr h₀ L h' m → News h₀ L h' ((hp, instObj 201 hx) :: (hx, dictOf [⟨h1, .str (Str.ofString "_dict") t1, .ref dd⟩, ⟨h2, .str (Str.ofString "_root") t2, oref (BT.hd t)⟩] 2) :: (dd, oD) :: (td, oT) :: (c1, o1) :: (c2, o2) :: (own ++ nl)) → R (.ok (.ret (.bool true))) { s with heap := h', toks := tk' }) :
    codeAny (model PySem.Challenge.rw_aw6015_01.row.prog w) (ktrTop dp un gd cn cs L fa ccd cl outer) (.call (.ref 234) ⟨[.ref hp, .ref td], []⟩) R s := by
  have hpre : PreOk ((c1, o1) :: (c2, o2) :: own) := fun q hq => iv.pre q (List.mem_cons_of_mem _ hq)
  rcases iv.pi.ti.sh with rfl | ⟨a, l, rfl⟩
  · exact right0_code (pre := (c1, o1) :: (c2, o2) :: own) B F X N T hk (by omega) (by omega) hpre iv.hs iv.dD iv.lD iv.dT iv.lT iv.pi iv.tb hret
  · exact right1_code (pre := (c1, o1) :: (c2, o2) :: own) B F X N T hk (by omega) (by omega) hpre iv.hs iv.dD iv.lD iv.dT iv.lT iv.pi iv.tb (K8.len iv.pi iv.k8) hret
theorem pop_iv {a : Addr} {l : BT} (e : t = .node a l .nil) (iv : IV w hp hx dd td c1 c2 oD oT o1 o2 own nl D σ t kvs kvt) (B : Below A₀ base outer h₀) (F : Fr h₀ L s.heap m) (X : (hd.heap_39 w.params).In h₀)
    (N : News h₀ L s.heap ((hp, instObj 201 hx) :: (hx, dictOf [⟨h1, .str (Str.ofString "_dict") t1, .ref dd⟩, ⟨h2, .str (Str.ofString "_root") t2, oref (BT.hd t)⟩] 2) :: (dd, oD) :: (td, oT) :: (c1, o1) :: (c2, o2) :: (own ++ nl))) (T : Top p loose mean mg mb h₀) (hk : cs.kind = .function)
    (hd : dp + 40 < recursionLimit) (hu : un + 300 < cLine)
    (hret : ∀ h' tk' nl' σ' t' oD' q kt vt, Fr h₀ L h' m → News h₀ L h' ((q, { cls := .type "tuple", data := .seq #[.int (σ a).key kt, .int (σ a).value vt] }) :: ((hp, instObj 201 hx) :: (hx, dictOf [⟨h1, .str (Str.ofString "_dict") t1, .ref dd⟩, ⟨h2, .str (Str.ofString "_root") t2, oref (BT.hd t')⟩] 2) :: (dd, oD') :: (td, oT) :: (c1, o1) :: (c2, o2) :: (own ++ nl'))) →
      IX w hp hx dd td c1 c2 oD' o1 o2 own nl' D σ' t' (without kvs (σ a).key) → TB σ' t' (without kvt (σ a).key) →
      (∃ u, valueAt kvt (σ a).key = some (.int (σ a).value u)) → (∃ q ∈ kvt, ival q.2 = (σ a).value) → (∀ q ∈ kvt, (σ a).value ≤ ival q.2) → R (.ok (.ret (.ref q))) { s with heap := h', toks := tk' }) :
    codeAny (model PySem.Challenge.rw_aw6015_01.row.prog w) (ktrTop dp un gd cn cs L fa ccd cl outer) (.call (.ref 161) ⟨[.ref hp], []⟩) R s := by
  subst e
  exact pop_code (pre := (td, oT) :: (c1, o1) :: (c2, o2) :: own) B F X N T hk (by omega) (by omega) iv.pre iv.hs iv.dD iv.lD iv.pi iv.offs.l iv.offs.r iv.ld.a1 iv.ld.a2 iv.ld.a3 (by have := K8.len iv.pi iv.k8; omega)
    fun h' tk' nl' σ' t' oD' q kt vt F' N' dD' hs' ks' pi' pm kv => by
      obtain ⟨m1, m2, m3⟩ := pop_min iv.pi iv.tb
      exact hret h' tk' nl' σ' t' oD' q kt vt F' N' ⟨hs', pi', iv.k8.turn (fun b hb => by have := pm.subset hb; simp [BT.ad, this]) kv, dD', iv.lD, iv.lT, iv.ld.grow (ks'.kn) (ks'.off iv.offs), iv.ow, iv.k1, iv.k2⟩ (iv.tb.pop iv.pi.ks pm kv) m1 m2 m3
theorem news_apart {h : Heap} {a b : Addr} {o o' : Obj} {news : List (Addr × Obj)} (N : News h₀ L h news) (ha : (a, o) ∈ news) (hb : (b, o') ∈ news) (ne : o ≠ o') : @Ne Nat a b := fun e => by
  have e1 := (N _ ha).1
  have e2 := (N _ hb).1
  dsimp only at e1 e2
  rw [e] at e1
  exact ne (Option.some.inj (e1.symm.trans e2))
theorem pop_iv2 (hne : 0 < kvt.length) (iv : IV w hp hx dd td c1 c2 oD oT o1 o2 own nl D σ t kvs kvt) (B : Below A₀ base outer h₀) (F : Fr h₀ L s.heap m) (X : (hd.heap_39 w.params).In h₀)
    (N : News h₀ L s.heap ((hp, instObj 201 hx) :: (hx, dictOf [⟨h1, .str (Str.ofString "_dict") t1, .ref dd⟩, ⟨h2, .str (Str.ofString "_root") t2, oref (BT.hd t)⟩] 2) :: (dd, oD) :: (td, oT) :: (c1, o1) :: (c2, o2) :: (own ++ nl))) (T : Top p loose mean mg mb h₀) (hk : cs.kind = .function)
    (hd : dp + 40 < recursionLimit) (hu : un + 300 < cLine)
    (hret : ∀ h' tk' nl' σ' t' oD' q key mn kt vt, Fr h₀ L h' m → News h₀ L h' ((q, { cls := .type "tuple", data := .seq #[.int key kt, .int mn vt] }) :: ((hp, instObj 201 hx) :: (hx, dictOf [⟨h1, .str (Str.ofString "_dict") t1, .ref dd⟩, ⟨h2, .str (Str.ofString "_root") t2, oref (BT.hd t')⟩] 2) :: (dd, oD') :: (td, oT) :: (c1, o1) :: (c2, o2) :: (own ++ nl'))) → @Ne Nat q td → @Ne Nat q c1 → @Ne Nat q c2 →
      IX w hp hx dd td c1 c2 oD' o1 o2 own nl' D σ' t' (without kvs key) → TB σ' t' (without kvt key) →
      (∃ u, valueAt kvt key = some (.int mn u)) → (∃ q ∈ kvt, ival q.2 = mn) → (∀ q ∈ kvt, mn ≤ ival q.2) → R (.ok (.ret (.ref q))) { s with heap := h', toks := tk' }) :
    codeAny (model PySem.Challenge.rw_aw6015_01.row.prog w) (ktrTop dp un gd cn cs L fa ccd cl outer) (.call (.ref 161) ⟨[.ref hp], []⟩) R s := by
  rcases iv.pi.ti.sh with rfl | ⟨a, l, e⟩
  · exfalso
    have := iv.tb.len
    simp only [BT.ad, List.length_nil] at this
    omega
  · refine pop_iv e iv B F X N T hk hd hu fun h' tk' nl' σ' t' oD' q kt vt F' N' ix tb m1 m2 m3 => ?_
    obtain ⟨v2, k2⟩ := iv.k2
    refine hret h' tk' nl' σ' t' oD' q _ _ kt vt F' N' ?_ ?_ ?_ ix tb m1 m2 m3
    · refine news_apart N' (o' := oT) (List.mem_cons_self ..) (by simp) fun e => ?_
      obtain ⟨_, _, x, _⟩ := iv.dT
      rw [← e] at x
      have z := x.1
      injection z with z
      exact absurd z (by decide)
    · refine news_apart N' (o' := o1) (List.mem_cons_self ..) (by simp) fun e => ?_
      have := iv.k1; rw [← e] at this; cases this
    · refine news_apart N' (o' := o2) (List.mem_cons_self ..) (by simp) fun e => ?_
      rw [← e] at k2; cases k2
theorem IX.offI {I : Addr} {oI ob oc : Obj} (ix : IX w hp hx dd td c1 c2 oD o1 o2 own nl D σ t kvs) (hI : (I, oI) ∈ own) : ∀ p ∈ ((hp, ob) :: (hx, oc) :: (dd, oD) :: (td, oT) :: (c1, o1) :: (c2, o2) :: ([] ++ nl) : List (Addr × Obj)), p.1 ∉ [I] := by
  intro p hp hq
  have eI := List.mem_singleton.mp hq
  have o := ix.ld.off (I, oI) (List.mem_append_left _ hI)
  have od := ix.ld.od (I, oI) hI
  simp only [List.mem_cons, List.nil_append] at hp
  rcases hp with rfl | rfl | rfl | rfl | rfl | rfl | h
  · exact od.1 eI.symm
  · exact o.1 eI.symm
  · exact o.2.1 eI.symm
  · exact o.2.2.1 eI.symm
  · exact o.2.2.2.1 eI.symm
  · exact o.2.2.2.2 eI.symm
  · exact od.2 p h eI
/-- another table takes the place -/
theorem IX.swap {td' : Addr} {o1' : Obj} (ix : IX w hp hx dd td c1 c2 oD o1 o2 own nl D σ t kvs) (lT : (td' == sysModules) = false) (k1 : o1'.data = .cell (some (.ref td'))) (n1 : @Ne Nat hp td') (n2 : @Ne Nat hx td') (n3 : @Ne Nat dd td') (n4 : @Ne Nat td' c1) (n5 : @Ne Nat td' c2) (n6 : ∀ p ∈ own ++ nl, p.1 ≠ td') :
    IX w hp hx dd td' c1 c2 oD o1' o2 own nl D σ t kvs :=
  { ix with lT := lT, k1 := k1, ld := { ix.ld with a4 := n1, a5 := n2, a6 := n3, b4 := n4, b8 := n5, off := fun p hp => have o := ix.ld.off p hp; ⟨o.1, o.2.1, n6 p hp, o.2.2.2.1, o.2.2.2.2⟩ } }
theorem IX.cell2 {o2' : Obj} {v : Option Value} (ix : IX w hp hx dd td c1 c2 oD o1 o2 own nl D σ t kvs) (k2 : o2'.data = .cell v) : IX w hp hx dd td c1 c2 oD o1 o2' own nl D σ t kvs := { ix with k2 := ⟨v, k2⟩ }
theorem LD.own' {I : Addr} (ld : LD hp hx dd td c1 c2 [] nl) (oi : ∀ p ∈ own, p.1 = I) (n1 : hp ≠ I) (n2 : hx ≠ I) (n3 : dd ≠ I) (n4 : td ≠ I) (n5 : c1 ≠ I) (n6 : c2 ≠ I) (n7 : ∀ p ∈ nl, p.1 ≠ I) : LD hp hx dd td c1 c2 own nl := by
  refine { ld with off := fun p hp => ?_, od := fun q hq => ⟨by rw [oi q hq]; exact Ne.symm n1, fun p hp => by rw [oi q hq]; exact n7 p hp⟩ }
  rcases List.mem_append.mp hp with h | h
  · rw [oi p h]; exact ⟨Ne.symm n2, Ne.symm n3, Ne.symm n4, Ne.symm n5, Ne.symm n6⟩
  · exact ld.off p (by simpa using h)
theorem IV.own' {I : Addr} {ob oc : Obj} (iv : IV w hp hx dd td c1 c2 oD oT o1 o2 [] nl D σ t kvs kvt) (ow : PreOk own) (oi : ∀ p ∈ own, p.1 = I) (ni : ∀ p ∈ ((hp, ob) :: (hx, oc) :: (dd, oD) :: (td, oT) :: (c1, o1) :: (c2, o2) :: ([] ++ nl) : List (Addr × Obj)), p.1 ≠ I) : IV w hp hx dd td c1 c2 oD oT o1 o2 own nl D σ t kvs kvt :=
  { iv with
    ow := ow
    ld := iv.ld.own' oi (ni (hp, ob) (by simp)) (ni (hx, oc) (by simp)) (ni (dd, oD) (by simp)) (ni (td, oT) (by simp)) (ni (c1, o1) (by simp)) (ni (c2, o2) (by simp)) fun p hp => ni p (by simp [hp]) }
theorem LD.drop (ld : LD hp hx dd td c1 c2 own nl) : LD hp hx dd td c1 c2 [] nl := { ld with off := fun p hp => ld.off p (List.mem_append_right _ (by simpa using hp)), od := fun q hq => absurd hq (by simp) }
theorem IV.drop (iv : IV w hp hx dd td c1 c2 oD oT o1 o2 own nl D σ t kvs kvt) : IV w hp hx dd td c1 c2 oD oT o1 o2 [] nl D σ t kvs kvt := { iv with ow := fun q hq => absurd hq (by simp), ld := iv.ld.drop }
theorem IX.iv (ix : IX w hp hx dd td c1 c2 oD o1 o2 own nl D σ t kvs) (tb : TB σ t kvt) (dT : oT.IsDictOf (intKind PySem.Challenge.rw_aw6015_01.row.prog w) kvt) : IV w hp hx dd td c1 c2 oD oT o1 o2 own nl D σ t kvs kvt := { ix with tb := tb, dT := dT }
end

end Mine
end
section
open PySem PySem.W PySem.Calls PyProof.Rows
namespace Mine
section
variable {w : World} {A : Around} {E : Value → Shared → Prop} {s : Shared} {h₀ : Heap} {env : Env} {m : Str → Option Value} {news : List (Addr × Obj)} {x : Str} {body : List Stmt} {Q : Flow → Shared → Prop}
theorem loop_range {r : Addr} {b : Int} {t u v : Tok} (J : Nat → (Str → Option Value) → List (Addr × Obj) → Prop) (hh : A.handled = none) (hr : IsRange s.heap r 0 b 1 t u v) (hsm : Builtin.Range.small 0 b 1 = true)
    (F : Fr h₀ env.locals s.heap m) (N : News h₀ env.locals s.heap news) (h0 : J 0 m news)
    (step : ∀ i z m₁ news₁ s₁ own, i < b.toNat → J i m₁ news₁ → PreOk own → (∀ p ∈ own, p.1 = s.heap.objs.size) → (∃ o, (s.heap.objs.size, o) ∈ own) → (∀ p ∈ news₁, p.1 ≠ s.heap.objs.size) → Fr h₀ env.locals s₁.heap (fun y => if y = x then some (.int (i : Nat) z) else m₁ y) → News h₀ env.locals s₁.heap (own ++ news₁) →
      wpAny (model PR w) A (execs body env) (LoopStepU h₀ env.locals [s.heap.objs.size] own (J (i + 1)) s₁) E s₁)
    (done : ∀ h' tk m' news', Fr h₀ env.locals h' m' → News h₀ env.locals h' news' → J b.toNat m' news' → Q .next { s with heap := h', toks := tk }) :
    wpAny (model PR w) A (pyIter (.ref r)) (fun it s₂ => LoopAtU PR w A h₀ env x body Q E it s₂) E s := by
  refine wpAny_pyIter_range hr hsm ?_
  have hn : Builtin.Range.rangeSize 0 b 1 = ((b.toNat : Nat) : Int) := by rw [rangeSize_nat, Int.sub_zero]
  have hI₀ : h₀.get? s.heap.objs.size = none := by
    cases e : h₀.get? s.heap.objs.size with
    | none => rfl
    | some o => exact absurd (Heap.lt_size (F.keep _ _ e)) (Nat.lt_irrefl _)
  have hLI : env.locals ≠ s.heap.objs.size := Nat.ne_of_lt F.ns.lt
  have W := LCg.range_walks (w := w) (prog := PR) (A := A) (I := s.heap.objs.size) hh 0 b.toNat
  refine ⟨s.heap.objs.size, _, _, b.toNat, _, _, m, news, J, rfl, W, by simpa using hLI, fun c hc => by rw [List.mem_singleton.mp hc]; exact hI₀, fun p hp hc => Nat.ne_of_lt (Heap.lt_size (N p hp).1) (List.mem_singleton.mp hc), ?_,
    F.push _, N.grown fun _ _ e => Heap.get?_push_of_some _ e, h0, ?_, ?_⟩
  · show IsRangeIter _ _ _ _ _
    rw [hn]
    simpa using Heap.get?_push_size _ rfl
  · rintro i v m₁ news₁ s₁ own hi ⟨z, rfl⟩ hJ hnw hof hol hIo st F₁ N₁
    refine step i z m₁ news₁ s₁ own hi hJ (fun p hp => ?_) (fun p hp => by simpa using hof p hp) ⟨_, hIo s.heap.objs.size (by simp) hI₀ _ st⟩ (fun p hp => by simpa using hnw p hp) (by simpa using F₁) N₁
    have e1 : p.1 = s.heap.objs.size := by simpa using hof p hp
    have e2 := hol p hp
    rw [e1] at e2
    have st' : s₁.heap.get? s.heap.objs.size = some _ := st
    rw [st'] at e2
    rw [← Option.some.inj e2]
    rfl
  · intro h' tk m' news' F' N' _ hJ
    exact done h' tk m' news' F' N' hJ
theorem For_invF {px pos : Pos} {iter : PySem.Expr} {L : Addr} (F : Fr h₀ L s.heap m) (hL : env.locals = L) (hx : env.kindOf x = some .local) (hp : (env.scope.kind == .class || (env.scope.kind == .module && env.locals != env.globals)) = false)
    (h : wpAny (model PR w) A (eval iter env) (fun xv s₁ => wpAny (model PR w) A (pyIter xv) (fun it s₂ => LoopAtU PR w A h₀ env x body Q E it s₂) E s₁) E s)
    (hs : ∀ x, foldedSetIterable iter env x = pure x := by intro _; rfl)
    (hE : PassesOwn (model PR w) A env E := by passes_own) : wpAny (model PR w) A (exec (.For (.Name x px) iter body [] pos) env) Q E s := For_invU h₀ hx hp h hs hE
end
end Mine
end
section
open PySem PySem.W PySem.Calls PyProof.Rows
namespace Mine
theorem law_start {w : World} {h₀ h : Heap} {ad : Addr} {arr : Array Value} {L x d3 d2 d1 p1 p2 : Addr} {u1 u2 u3 : Addr × Obj} {oT oD o1 o2 : Obj} {h1 h2 : Int} {t1 t2 : Tok} {m : Str → Option Value}
    (F : Fr h₀ L h m) (N : News h₀ L h (u1 :: (d1, oT) :: (d2, oD) :: u2 :: u3 :: (x, instObj 201 d3) :: (d3, dictOf [⟨h1, .str (Str.ofString "_dict") t1, .ref d2⟩, ⟨h2, .str (Str.ofString "_root") t2, .none⟩] 2) :: (p2, o2) :: [(p1, o1)]))
    (a1 : @Ne Nat x d3) (a2 : @Ne Nat x d2) (a3 : @Ne Nat d3 d2) (a4 : @Ne Nat x d1) (a5 : @Ne Nat d3 d1) (a6 : @Ne Nat d2 d1) (b1 : @Ne Nat x p1) (b2 : @Ne Nat d3 p1) (b3 : @Ne Nat d2 p1) (b4 : @Ne Nat d1 p1) (b5 : @Ne Nat x p2) (b6 : @Ne Nat d3 p2) (b7 : @Ne Nat d2 p2) (b8 : @Ne Nat d1 p2) (b9 : @Ne Nat p1 p2)
    (dD : oD.IsDictOf (intKind PySem.Challenge.rw_aw6015_01.row.prog w) []) (dT : oT.IsDictOf (intKind PySem.Challenge.rw_aw6015_01.row.prog w) []) (lD : (d2 == sysModules) = false) (lT : (d1 == sysModules) = false)
    (k1 : o1.data = .cell (some (.ref d1))) (k2 : o2.data = .cell none) (hm : m (Str.ofString "heap") = some (.ref x)) (hsc : m (Str.ofString "script") = some (.ref ad)) (hL : h₀.IsList ad arr) :
    ∃ ad hp hx dd td t1 t2 h1 h2 oD oT o1 o2, News h₀ L h ((hp, instObj 201 hx) :: (hx, dictOf [⟨h1, .str (Str.ofString "_dict") t1, .ref dd⟩, ⟨h2, .str (Str.ofString "_root") t2, oref (BT.hd .nil)⟩] 2) :: (dd, oD) :: (td, oT) :: (p1, o1) :: (p2, o2) :: ([] ++ [])) ∧
      IV w hp hx dd td p1 p2 oD oT o1 o2 [] [] (fun _ => False) (fun _ => newNd 0 0 0 0) .nil [] [] ∧ m (Str.ofString "heap") = some (.ref hp) ∧ m (Str.ofString "script") = some (.ref ad) ∧ h₀.IsList ad arr := by
  refine ⟨ad, x, d3, d2, d1, t1, t2, h1, h2, oD, oT, o1, o2, News.sub N (fun p hp => ?_), ⟨⟨⟨fun _ h => h.elim, fun _ _ _ h _ => h.elim⟩, ⟨⟨trivial, .inl rfl, List.nodup_nil, 0, trivial⟩, by simp [BT.ad], by simp [BT.ad], by simp [BT.ad]⟩, fun _ h => absurd h (by simp [BT.ad]), dD, lD, lT,
    ⟨a1, a2, a3, a4, a5, a6, b1, b2, b3, b4, b5, b6, b7, b8, b9, fun _ h => absurd h (by simp), fun _ h => absurd h (by simp)⟩, fun _ h => absurd h (by simp), k1, none, k2⟩, ⟨by simp [kpairs, tpairs, BT.ad], by simp⟩, dT⟩, hm, hsc, hL⟩
  simp only [List.mem_cons, List.append_nil, List.not_mem_nil, or_false, BT.hd, oref] at hp ⊢
  rcases hp with rfl | rfl | rfl | rfl | rfl | rfl <;> simp
theorem news_own {h₀ h : Heap} {L : Addr} {e1 e2 e3 e4 e5 e6 : Addr × Obj} {own nl : List (Addr × Obj)} (N : News h₀ L h (own ++ (e1 :: e2 :: e3 :: e4 :: e5 :: e6 :: ([] ++ nl)))) : News h₀ L h (e1 :: e2 :: e3 :: e4 :: e5 :: e6 :: (own ++ nl)) := News.sub N fun p hp => by
  simp only [List.mem_cons, List.mem_append, List.nil_append] at hp ⊢
  rcases hp with h | h | h | h | h | h | h | h <;> simp [h]
theorem news_back {h₀ h : Heap} {L : Addr} {e1 e2 e3 e4 e5 e6 : Addr × Obj} {own nl : List (Addr × Obj)} (N : News h₀ L h (e1 :: e2 :: e3 :: e4 :: e5 :: e6 :: (own ++ nl))) : News h₀ L h (own ++ (e1 :: e2 :: e3 :: e4 :: e5 :: e6 :: ([] ++ nl))) := News.sub N fun p hp => by
  simp only [List.mem_cons, List.mem_append, List.nil_append] at hp ⊢
  rcases hp with h | h | h | h | h | h | h | h <;> simp [h]
theorem news_six {h₀ h : Heap} {L : Addr} {l base : List (Addr × Obj)} {e1 e2 e3 e4 e5 e6 : Addr × Obj} (N : News h₀ L h l) (h1 : e1 ∈ l) (h2 : e2 ∈ l) (h3 : e3 ∈ l) (h4 : e4 ∈ l) (h5 : e5 ∈ l) (h6 : e6 ∈ l) (hb : ∀ p ∈ base, p ∈ l) : News h₀ L h (e1 :: e2 :: e3 :: e4 :: e5 :: e6 :: base) := News.sub N fun p hp => by
  simp only [List.mem_cons] at hp
  rcases hp with h | h | h | h | h | h | h
  · exact h ▸ h1
  · exact h ▸ h2
  · exact h ▸ h3
  · exact h ▸ h4
  · exact h ▸ h5
  · exact h ▸ h6
  · exact hb p h
section
variable {w : World} {A : Around} {E : Value → Shared → Prop} {s : Shared} {h₀ : Heap} {L d : Addr} {m : Str → Option Value} {news : List (Addr × Obj)} {Q : Value → Shared → Prop} {o : Obj} {kvs : List (Int × Value)} {k : Int} {t : Tok}
theorem notin_none (N : News h₀ L s.heap news) (hp : (d, o) ∈ news) (hd : o.IsDictOf (intKind PR w) kvs) (lo : (d == sysModules) = false) (e : valueAt kvs k = none) (h : Q (.bool true) { s with toks := s.toks + 1 }) :
    wpAny (model PR w) A (compareOp .NotIn (.int k t) (.ref d)) Q E s := kdg_notin N hp hd lo (intKind_is _ _ _ _) false (by rw [e]; rfl) h
theorem notin_some {v : Value} (N : News h₀ L s.heap news) (hp : (d, o) ∈ news) (hd : o.IsDictOf (intKind PR w) kvs) (lo : (d == sysModules) = false) (e : valueAt kvs k = some v) (h : Q (.bool false) { s with toks := s.toks + 1 }) :
    wpAny (model PR w) A (compareOp .NotIn (.int k t) (.ref d)) Q E s := kdg_notin N hp hd lo (intKind_is _ _ _ _) true (by rw [e]; rfl) h
end
section
variable {w : World} {A : Around} {E : Value → Shared → Prop} {s : Shared} {h₀ : Heap} {L d : Addr} {m : Str → Option Value} {news : List (Addr × Obj)} {Q : Value → Shared → Prop} {a b : Int} {t u : Tok}
theorem lt_yes (e : a < b) (h : Q (.bool true) s) : wpAny (model PR w) A (compareOp .Lt (.int a t) (.int b u)) Q E s := lt_int (by simpa [e] using h)
theorem lt_no (e : ¬ a < b) (h : Q (.bool false) s) : wpAny (model PR w) A (compareOp .Lt (.int a t) (.int b u)) Q E s := lt_int (by simpa [e] using h)
theorem ne_self (h : Q (.bool false) s) : wpAny (model PR w) A (compareOp .NotEq (.int a t) (.int a u)) Q E s := ne_int (by simpa using h)
theorem min_is {v : Addr} {o : Obj} {kvs : List (Int × Value)} {mn : Int} (hh : A.handled = none) (F : Fr h₀ L s.heap m) (N : News h₀ L s.heap news) (hv : (v, { cls := .type "dict_values", data := .fields #[.ref d] }) ∈ news) (hp : (d, o) ∈ news) (hd : o.IsDictOf (intKind PR w) kvs)
    (hall : ∀ q ∈ kvs, ∃ i t, q.2 = Value.int i t) (m1 : ∃ q ∈ kvs, ival q.2 = mn) (m2 : ∀ q ∈ kvs, mn ≤ ival q.2)
    (h : ∀ h' tk t, Fr h₀ L h' m → News h₀ L h' news → Q (.int mn t) { s with heap := h', toks := tk }) : wpAny (model PR w) A (call (.builtin "min") [.ref v]) Q E s := by
  obtain ⟨q1, hq1, e1⟩ := m1
  refine min_values hh F N hv hp hd hall (List.length_pos_of_mem hq1) fun h' tk M t F' N' x1 x2 => ?_
  obtain ⟨q2, hq2, e2⟩ := x1
  have y1 := m2 q2 hq2
  have y2 := x2 q1 hq1
  have e : M = mn := by omega
  subst e
  exact h h' tk t F' N'
end
theorem turn_end {w : World} {h₀ h' : Heap} {L I hp hx dd td c1 c2 ad : Addr} {m₂ : Str → Option Value} {s₁ : Shared} {tk : Nat} {t1 t2 : Tok} {h1 h2 : Int} {oD oT o1 o2 oI : Obj} {own nl : List (Addr × Obj)} {D : Addr → Prop} {σ : Addr → Nd} {t : BT} {kvs kvt : List (Int × Value)}
    (F : Fr h₀ L h' m₂) (N : News h₀ L h' ((hp, instObj 201 hx) :: (hx, dictOf [⟨h1, .str (Str.ofString "_dict") t1, .ref dd⟩, ⟨h2, .str (Str.ofString "_root") t2, oref (BT.hd t)⟩] 2) :: (dd, oD) :: (td, oT) :: (c1, o1) :: (c2, o2) :: (own ++ nl))) (iv : IV w hp hx dd td c1 c2 oD oT o1 o2 own nl D σ t kvs kvt) (hI : (I, oI) ∈ own) (hm : m₂ (Str.ofString "heap") = some (.ref hp)) (hs : m₂ (Str.ofString "script") = some (.ref ad)) :
    LoopStepU h₀ L [I] own (fun m' nx => ∃ td oD oT o1 o2 nl D σ t kvs kvt, nx = ((hp, instObj 201 hx) :: (hx, dictOf [⟨h1, .str (Str.ofString "_dict") t1, .ref dd⟩, ⟨h2, .str (Str.ofString "_root") t2, oref (BT.hd t)⟩] 2) :: (dd, oD) :: (td, oT) :: (c1, o1) :: (c2, o2) :: ([] ++ nl)) ∧ IV w hp hx dd td c1 c2 oD oT o1 o2 [] nl D σ t kvs kvt ∧ m' (Str.ofString "heap") = some (.ref hp) ∧ m' (Str.ofString "script") = some (.ref ad)) s₁ .next { s₁ with heap := h', toks := tk } :=
  LoopStepU.intro F (news_back N) (iv.toIX.offI hI) ⟨td, oD, oT, o1, o2, nl, D, σ, t, kvs, kvt, rfl, iv.drop, hm, hs⟩
theorem comp_name {M : Model} {A : Around} {E : Value → Shared → Prop} {s : Shared} {C : Addr} {m₂ : Str → Option Value} {scope : Scope} {cl : List (Str × Addr)} {env : Env} {x : Str} {pos : Pos} {v : Value} {Q : Value → Shared → Prop} (hns : s.heap.Ns C m₂) (hx : m₂ x = some v) (h : Q v s)
    (hk : (compEnvC scope cl C env).scope.kind = .function := by rfl) (hl : (compEnvC scope cl C env).kindOf x = some .local := by rfl) (hd : (x == ("__debug__" : Str)) = false := by decide) :
    wpAny M A (eval (.Name x pos) (compEnvC scope cl C env)) Q E s := ldVarK hns hx h hk hl hd
theorem val_of_key {kvt : List (Int × Value)} {k : Int} (h : k ∈ kvt.map (·.1)) : ∃ y, valueAt kvt k = some y := by
  cases e : valueAt kvt k with
  | some y => exact ⟨y, rfl⟩
  | none =>
    obtain ⟨p, hp, e2⟩ := List.mem_map.mp h
    exact absurd (show (k, p.2) ∈ kvt by rw [← e2]; exact hp) (valueAt_none e p.2)
theorem IV.nd {w : World} {hp hx dd td c1 c2 : Addr} {oD oT o1 o2 : Obj} {own nl : List (Addr × Obj)} {D : Addr → Prop} {σ : Addr → Nd} {t : BT} {kvs kvt : List (Int × Value)} (iv : IV w hp hx dd td c1 c2 oD oT o1 o2 own nl D σ t kvs kvt) : (kvt.map (·.1)).Nodup := iv.tb.keys.nodup_iff.mpr iv.pi.ks
end Mine
end
section
open PySem PySem.W PySem.Calls PyProof.Rows
namespace Mine
/-- what the law's comprehension over the table builds -/
def FKt (v : Value) (k : Int) : Prop := ∃ u, v = .int k u
def FVt (kvt : List (Int × Value)) (v y : Value) : Prop := valueAt kvt (ival v) = some y
def keep (key : Int) (v : Value) : Bool := decide (ival v ≠ key)
theorem stored_all {kvt : List (Int × Value)} {l : List Value} {kvs : List (Int × Value)} (h : StoredAll FKt (FVt kvt) l kvs) (nd : (l.map ival).Nodup) : kvs = l.map fun v => (ival v, (valueAt kvt (ival v)).getD .none) := by
  induction h with
  | nil => rfl
  | @snoc l kvs v k y h hk hy ih =>
    rw [List.map_append] at nd
    have nd1 := (List.nodup_append.mp nd).1
    have ih' := ih nd1
    obtain ⟨u, rfl⟩ := hk
    have hn : valueAt kvs k = none := by
      cases e : valueAt kvs k with
      | none => rfl
      | some x =>
        have hm := valueAt_mem e
        rw [ih'] at hm
        obtain ⟨z, hz, ez⟩ := List.mem_map.mp hm
        have e1 : ival z = k := congrArg Prod.fst ez
        exact absurd rfl ((List.nodup_append.mp nd).2.2 (ival z) (List.mem_map.mpr ⟨z, hz, rfl⟩) k (by simp [ival]) |> fun q => by rw [e1] at q; exact q)
    rw [stored_new hn, ih', List.map_append]
    simp only [List.map_cons, List.map_nil]
    have hy' : valueAt kvt (ival (Value.int k u)) = some y := hy
    rw [hy']
    rfl
theorem keys_at {kvt : List (Int × Value)} : ∀ {vs : List Value}, vs.length = kvt.length → (∀ (j : Nat) (v : Value), vs[j]? = some v → ∃ k x, kvt[j]? = some (k, x) ∧ ∃ u, v = .int k u) → vs.map ival = kvt.map (·.1) := by
  induction kvt with
  | nil => intro vs hl _; rw [List.eq_nil_of_length_eq_zero hl]; rfl
  | cons p r ih =>
    intro vs hl h
    cases vs with
    | nil => cases hl
    | cons v vs =>
      obtain ⟨k, x, e, u, rfl⟩ := h 0 v rfl
      cases e
      simp only [List.map_cons, ival]
      rw [ih (by simpa using hl) fun j w hw => h (j + 1) w hw]
theorem comp_is {kvt kvs : List (Int × Value)} {vs : List Value} {key : Int} (nd : (kvt.map (·.1)).Nodup) (hl : vs.length = kvt.length) (hP : ∀ (j : Nat) (v : Value), vs[j]? = some v → ∃ k x, kvt[j]? = some (k, x) ∧ ∃ u, v = .int k u)
    (h : StoredAll FKt (FVt kvt) (vs.filter (keep key)) kvs) : kvs = without kvt key := by
  have hk := keys_at hl hP
  have hf : ((vs.filter (keep key)).map ival) = (kvt.map (·.1)).filter fun k => decide (k ≠ key) := by
    rw [← hk, List.filter_map]
    rfl
  have nd2 : ((vs.filter (keep key)).map ival).Nodup := by rw [hf]; exact nd.filter _
  rw [stored_all h nd2]
  have e1 : (vs.filter (keep key)).map (fun v => (ival v, (valueAt kvt (ival v)).getD .none)) = ((vs.filter (keep key)).map ival).map fun k => (k, (valueAt kvt k).getD .none) := by rw [List.map_map]; rfl
  rw [e1, hf]
  unfold without
  rw [List.filter_map, List.map_map]
  have e2 : ∀ p ∈ kvt.filter ((fun k => decide (k ≠ key)) ∘ fun x => x.1), ((fun k => (k, (valueAt kvt k).getD Value.none)) ∘ fun x => x.1) p = p := by
    intro p hp
    have hm := (List.mem_filter.mp hp).1
    have := mem_valueAt (k := p.1) (v := p.2) nd hm
    simp only [Function.comp_apply, this, Option.getD_some]
  rw [List.map_congr_left e2, List.map_id']
  rfl
section
variable {w : World} {A : Around} {E : Value → Shared → Prop} {env : Env}
/-- a dict is built out of an iterator; its place is new -/
theorem dict_built {kx vx iter : PySem.Expr} {x : Str} {px : Pos} {ifs : List PySem.Expr} {scope : Scope} {cl : List (Str × Addr)} {pos : Pos} {s : Shared} {I : Addr} {fp : List Addr} {n : Nat} {P : Nat → Value → Prop} {St : Nat → Heap → Prop}
    {RR : Value → Addr → Result → Shared → Prop} {FK : Value → Int → Prop} {FV : Value → Value → Prop} (p : Value → Bool)
    (W : Walks PR w A I fp [I] n P St) (hn : n ≤ sizeLine) (hcell : ∀ y ∈ scope.names, y.2 ≠ .cell) (hkind : scope.kind = .function) (hx : scope.names.lookup x = some .local) (st : St 0 s.heap) (hfp : ∀ b ∈ fp, b < s.heap.objs.size)
    (quiet : QuietOnCD (intKind PR w) A env scope cl x ifs kx vx [I] P p FK FV s)
    (done : ∀ D C h' tk m' kvs (vs : List Value), s.heap.objs.size ≤ D → s.heap.objs.size ≤ C → D ≠ C → h'.Ns C m' → h'.DictOf (intKind PR w) D kvs → vs.length = n → (∀ j v, vs[j]? = some v → P j v) → StoredAll FK FV (vs.filter p) kvs →
      (∀ b o, b ∉ [I] → s.heap.get? b = some o → h'.get? b = some o) → RR (.ref D) C (.ok .next) { s with heap := h', toks := tk }) :
    wpAny (model PR w) A newDict (fun acc s₃ => wpAny (model PR w) A (newFunctionEnv scope env.globals cl [] env.qual none .none (some env)) (fun cenv s₄ =>
      codeAny (model PR w) A (.compStart (.DictComp kx vx [⟨.Name x px, iter, ifs, 0⟩] scope pos) 0 (.ref I) acc { cenv with scope := relabel scope env }) (RR acc cenv.locals) s₄) E s₃) E s := by
  refine wpAny_newObj_type (wpAny_newFunctionEnv hcell (by intro y hy; simp at hy) (fun g hns hsb => ?_) hkind)
  dsimp only at hns hsb ⊢
  have new0 : (s.heap.push { cls := .type "dict", dict := none, data := .dict #[] }).DictOf (intKind PR w) s.heap.objs.size [] := Heap.DictOf.new s.heap
  have sz : (s.heap.push { cls := .type "dict", dict := none, data := .dict #[] }).objs.size = s.heap.objs.size + 1 := Heap.size_push ..
  rw [sz] at hns hsb ⊢
  have le1 : @LT.lt Nat _ s.heap.objs.size (s.heap.objs.size + 1) := Nat.lt_succ_self _
  have old : ∀ b o, s.heap.get? b = some o → g.get? b = some o := fun b o e => hsb.extBut b o (Nat.ne_of_lt (Nat.lt_trans (Heap.lt_size e) le1)) (Heap.get?_push_of_some _ (Heap.get?_push_of_some _ e))
  have stg : St 0 g := W.frame _ _ _ st fun b _ o e => old b o e
  have apart : ∀ b o, s.heap.get? b = some o → b ≠ s.heap.objs.size + 1 ∧ b ≠ s.heap.objs.size := fun b o e => ⟨Nat.ne_of_lt (Nat.lt_trans (Heap.lt_size e) le1), Nat.ne_of_lt (Heap.lt_size e)⟩
  have thin : ∀ s₃ : Shared, (∀ b o, b ≠ s.heap.objs.size + 1 → b ∉ [I] → b ≠ s.heap.objs.size → g.get? b = some o → s₃.heap.get? b = some o) → ∀ b o, b ∉ [I] → s.heap.get? b = some o → s₃.heap.get? b = some o :=
    fun s₃ hk b o hI e => hk b o (apart b o e).1 hI (apart b o e).2 (old b o e)
  have loop : codeAny (model PR w) A (.compLoop (.DictComp kx vx [⟨.Name x px, iter, ifs, 0⟩] scope pos) 0 (.ref I) (.ref s.heap.objs.size) (compEnvC scope cl (s.heap.objs.size + 1) env)) (RR (.ref s.heap.objs.size) (s.heap.objs.size + 1))
      { s with heap := g, toks := s.toks + ([] : List (Str × Value)).length } := by
    refine codeAny_compLoop_walkD (hsz := hn) (knd := intKind PR w) (cenv := compEnvC scope cl (s.heap.objs.size + 1) env) W p FK FV (lookup_relabel_local hx) (by simp [compEnvC, relabel, hkind]) (Nat.ne_of_lt le1)
      (fun h => Nat.lt_irrefl _ (hfp _ h)) (fun h => Nat.lt_irrefl _ (Nat.lt_trans (hfp _ h) le1)) stg (new0.at fun o e => hsb.extBut _ _ (Nat.ne_of_lt le1) (Heap.get?_push_of_some _ e)) hns
      (fun i v s₃ m₃ a b c d => quiet.tests _ i v s₃ m₃ _ a b c (thin s₃ d)) (fun i v s₃ m₃ a b c d e => quiet.key _ i v s₃ m₃ _ a b c d (thin s₃ e)) (fun i v s₃ m₃ a b c d e => quiet.val _ i v s₃ m₃ _ a b c d (thin s₃ e)) fun h' tk m' kvs vs a b c d e f => ?_
    exact done _ _ h' tk m' kvs vs (Nat.le_refl _) (Nat.le_succ _) (Nat.ne_of_lt le1) a b c d e (thin { s with heap := h' } f)
  exact codeAny_compStart_dict loop (W.self 0 _ _ _ stg loop)
end
theorem comp_out {w : World} {h₀ h h' : Heap} {L D : Addr} {m : Str → Option Value} {news : List (Addr × Obj)} {oI : Obj} {kvs : List (Int × Value)} (hlim : h₀.NoLimit) (F : Fr h₀ L h m) (N : News h₀ L h news) (hD : (h.push oI).objs.size ≤ D) (hd : h'.DictOf (intKind PR w) D kvs)
    (hk : ∀ b o, b ∉ [h.objs.size] → (h.push oI).get? b = some o → h'.get? b = some o) :
    ∃ oT, Fr h₀ L h' m ∧ News h₀ L h' ((D, oT) :: news) ∧ oT.IsDictOf (intKind PR w) kvs ∧ (D == sysModules) = false ∧ ∀ p ∈ news, p.1 < D := by
  obtain ⟨oT, ho, hdo⟩ := Heap.dictOf_iff.mp hd
  have up : ∀ b x, h.get? b = some x → h'.get? b = some x := fun b x e => hk b x (fun q => absurd (Heap.lt_size e) (by rw [List.mem_singleton.mp q]; exact Nat.lt_irrefl _)) (Heap.get?_push_of_some _ e)
  have h4 : h.objs.size < (h.push oI).objs.size := by rw [Heap.size_push]; exact Nat.lt_succ_self _
  have h5 : h.objs.size < D := Nat.lt_of_lt_of_le h4 hD
  have hne : ∀ b x, h.get? b = some x → b < D := fun b x e => Nat.lt_trans (Heap.lt_size e) h5
  obtain ⟨oL, x1, x2, hoL, x3⟩ := F.ns
  refine ⟨oT, F.keeps up, ?_, hdo, ?_, fun p hp => hne _ _ (N p hp).1⟩
  · intro p hp
    rcases List.mem_cons.mp hp with rfl | hp
    · refine ⟨ho, Nat.ne_of_gt (hne _ _ hoL), ?_⟩
      cases e : h₀.get? D with
      | none => rfl
      | some x => exact absurd (hne _ _ (F.keep _ _ e)) (Nat.lt_irrefl _)
    · exact ⟨up _ _ (N p hp).1, (N p hp).2⟩
  · have h1 := modules_low hlim
    exact beq_eq_false_iff_ne.mpr (Nat.ne_of_gt (Nat.lt_trans h1 (Nat.lt_of_le_of_lt F.above (Nat.lt_trans F.ns.lt h5))))
section
variable {w : World} {A : Around} {E : Value → Shared → Prop} {env : Env} {s : Shared} {h₀ : Heap} {L : Addr}
theorem table_comp {kx vx ct iter : PySem.Expr} {x : Str} {px : Pos} {scope : Scope} {cl : List (Str × Addr)} {pos : Pos} {Q : Value → Shared → Prop} {m0 : Str → Option Value} (_F0 : Fr h₀ L s.heap m0) (hh : A.handled = none) (hlim : h₀.NoLimit) (hclos : closureFor scope env = pure cl) (hcell : ∀ y ∈ scope.names, y.2 ≠ .cell) (hkind : scope.kind = .function)
    (hnames : ∀ y ∈ scope.names, y.2 = .local → scope.names.lookup y.1 = some .local) (hx : scope.names.lookup x = some .local)
    (h : wpAny (model PR w) A (eval iter env) (fun xv s₁ => ∃ td oT kvt news key m, (∃ y, valueAt kvt key = some y) ∧ xv = .ref td ∧ Fr h₀ L s₁.heap m ∧ News h₀ L s₁.heap news ∧ (td, oT) ∈ news ∧ oT.IsDictOf (intKind PR w) kvt ∧ (td == sysModules) = false ∧ kvt.length ≤ 20 ∧ (kvt.map (·.1)).Nodup ∧
      (∀ C k u s₃ m₃ E', k ∈ kvt.map (·.1) → s₃.heap.Ns C m₃ → m₃ x = some (.int k u) → Fr h₀ L s₃.heap m → News h₀ L s₃.heap news → wpAny (model PR w) A (isTrue ct (compEnvC scope cl C env) (eval ct (compEnvC scope cl C env))) (fun ok s₄ => ok = decide (k ≠ key) ∧ Keeps s₃ s₄) E' s₃) ∧
      (∀ C k u s₃ m₃ E', k ∈ kvt.map (·.1) → s₃.heap.Ns C m₃ → m₃ x = some (.int k u) → Fr h₀ L s₃.heap m → News h₀ L s₃.heap news → wpAny (model PR w) A (eval kx (compEnvC scope cl C env)) (fun y s₄ => (∃ u', y = .int k u') ∧ Keeps s₃ s₄) E' s₃) ∧
      (∀ C k u s₃ m₃ E', k ∈ kvt.map (·.1) → s₃.heap.Ns C m₃ → m₃ x = some (.int k u) → Fr h₀ L s₃.heap m → News h₀ L s₃.heap news → wpAny (model PR w) A (eval vx (compEnvC scope cl C env)) (fun y s₄ => valueAt kvt k = some y ∧ Keeps s₃ s₄) E' s₃) ∧
      (∀ D oT' h' tk, Fr h₀ L h' m → News h₀ L h' ((D, oT') :: news) → oT'.IsDictOf (intKind PR w) (without kvt key) → (D == sysModules) = false → (∀ p ∈ news, p.1 < D) → Q (.ref D) { s₁ with heap := h', toks := tk })) E s)
    (hs : ∀ x, foldedSetIterable iter env x = pure x := by intro _; rfl) :
    wpAny (model PR w) A (eval (.DictComp kx vx [⟨.Name x px, iter, [ct], 0⟩] scope pos) env) Q E s := by
  rw [arm_eval_DictComp]
  refine wpAny_comprehension_free (use := none) rfl hs hclos hkind hnames (wpAny_mono h (fun xv s₁ h₁ => ?_) fun _ _ e => e)
  obtain ⟨td, oT, kvt, news, key, m, _, rfl, F, N, hm, hd, lo, hz, nd, tt, tk, tv, hQ⟩ := h₁
  obtain ⟨ep, hat⟩ := (kda_dict N hm hd).dictAt
  have K := kdl_dict (prog := PR) (w := w) (knd := intKind PR w) (kvs := kvt) (ep := ep) lo
  obtain ⟨oI, St, hit, W, st⟩ := K.iter A s₁ hh hat
  refine hit _ _ ?_
  have up : ∀ s₃ : Shared, (∀ b o, b ∉ [s₁.heap.objs.size] → (s₁.heap.push oI).get? b = some o → s₃.heap.get? b = some o) → ∀ b o, s₁.heap.get? b = some o → s₃.heap.get? b = some o :=
    fun s₃ hk b o e => hk b o (fun q => absurd (Heap.lt_size e) (by rw [List.mem_singleton.mp q]; exact Nat.lt_irrefl _)) (Heap.get?_push_of_some _ e)
  have isk : ∀ {i v}, (∃ k y, kvt[i]? = some (k, y) ∧ (intKind PR w).is k v = true) → ∃ k u, v = .int k u ∧ k ∈ kvt.map (·.1) := fun {i v} q => by
    obtain ⟨k, y, e, hk⟩ := q
    obtain ⟨u, rfl⟩ := Value.isInt_shape hk
    exact ⟨k, u, rfl, List.mem_map.mpr ⟨_, List.mem_of_getElem? e, rfl⟩⟩
  refine dict_built (s := { s₁ with heap := s₁.heap.push oI }) (RR := fun acc C => compPost (model PR w) A E none Q acc C) (FK := FKt) (FV := FVt kvt) (keep key) W (kdl_size (by omega)) hcell hkind hx st (fun b hb => ?_)
    ⟨fun C i v s₃ m₃ E' hv hn hm₃ hk => ?_, fun C i v s₃ m₃ E' hv _ hn hm₃ hk => ?_, fun C i v s₃ m₃ E' hv _ hn hm₃ hk => ?_⟩ fun D C h' tk' m' kvs vs zD zC hDC hn hl hlen hP hF hk => ?_
  · show b < (s₁.heap.push oI).objs.size
    rw [Heap.size_push]
    rcases List.mem_cons.mp hb with rfl | hb
    · exact Nat.lt_succ_self _
    · rw [List.mem_singleton.mp hb]; exact Nat.lt_succ_of_lt (K.there _ hat).2
  · obtain ⟨k, u, rfl, hkm⟩ := isk hv
    exact wpAny_tests_one (tt C k u s₃ m₃ E' hkm hn hm₃ (F.keeps (up s₃ hk)) (N.grown (up s₃ hk)))
  · obtain ⟨k, u, rfl, hkm⟩ := isk hv
    refine wpAny_mono (tk C k u s₃ m₃ E' hkm hn hm₃ (F.keeps (up s₃ hk)) (N.grown (up s₃ hk))) (fun y s₄ q => ?_) fun _ _ e => e
    obtain ⟨⟨u', rfl⟩, q2⟩ := q
    exact ⟨⟨k, intKind_is _ _ _ _, u, rfl⟩, q2⟩
  · obtain ⟨k, u, rfl, hkm⟩ := isk hv
    exact tv C k u s₃ m₃ E' hkm hn hm₃ (F.keeps (up s₃ hk)) (N.grown (up s₃ hk))
  · refine ⟨m', hn, fun h'' hs'' => ?_⟩
    have hl'' := hl.extBut hs''.extBut hDC
    have hk'' : ∀ b o, b ∉ [s₁.heap.objs.size] → (s₁.heap.push oI).get? b = some o → h''.get? b = some o := fun b o hb e => hs''.extBut b o (fun q => absurd (Heap.lt_size e) (Nat.not_lt.mpr (q ▸ zC))) (hk b o hb e)
    have e := comp_is nd hlen (fun j v hj => by
      obtain ⟨k, y, e, hk⟩ := hP j v hj
      obtain ⟨u, rfl⟩ := Value.isInt_shape hk
      exact ⟨k, y, e, u, rfl⟩) hF
    subst e
    obtain ⟨oT', F', N', d', l', lt'⟩ := comp_out hlim F N zD hl'' hk''
    exact hQ D oT' h'' tk' F' N' d' l' lt'
end
end Mine
end
section
open PySem PySem.W PySem.Calls PyProof.Rows
namespace Mine
section
variable {D : Addr → Prop} {σ σ' : Addr → Nd} {t t' l : BT} {kvs kvt : List (Int × Value)} {a b c : Addr}
theorem TI.tr (h : TI σ (.node a l .nil)) (hD : ∀ b ∈ (BT.node a l .nil).ad, D b) (sz : (BT.node a l .nil).ad.length ≤ 8) : TR D σ a l := by
  obtain ⟨⟨a1, a2, a3, a4, a5, _⟩, _, nd, pv, ⟨h1, h2, _⟩⟩ := h
  exact ⟨hD a (by simp [BT.ad]), fun b hb => hD b (by simp [BT.ad, hb]), a1, a5, h2, by simp only [BT.ad, List.length_cons, List.length_append, List.length_nil] at sz; omega⟩
/-- a node below the root, cut off -/
structure CutF (D : Addr → Prop) (σ : Addr → Nd) (a : Addr) (l : BT) (b : Addr) (S l' : BT) : Prop where
  da : D a
  db : D b
  ne : ¬ a = b
  par : (σ b).get .prev = none → (σ b).get .parent = none → False
  tb0 : TR D σ b S
  tb1 : TR D (cutT σ b) b S
  ta1 : TR D (cutT σ b) a l'
  ia : TI (cutT σ b) (.node a l' .nil)
  ib : TI (cutT σ b) (.node b S .nil)
  f1 : (cutT σ b b).get .parent = none
  f2 : (cutT σ b b).get .prev = none
  f3 : (cutT σ b b).get .next = none
  pm : ((BT.node b S .nil).ad ++ (BT.node a l' .nil).ad).Perm (BT.node a l .nil).ad
theorem cut_facts (P : PI D σ (.node a l .nil) kvs) (sz : (BT.node a l .nil).ad.length ≤ 8) (hb : b ∈ l.ad) : ∃ S l', CutF D σ a l b S l' := by
  have nd := P.ti.nd
  have nd1 : a ∉ l.ad := (nd_node nd).1
  have hab : a ≠ b := fun e => nd1 (e ▸ hb)
  have hb2 : b ∈ (BT.node a l .nil).ad := by simp [BT.ad, hb]
  obtain ⟨i1, i2, i3, i4, i5⟩ := P.ti.cut hb2 (by simpa [BT.hd] using hab)
  have er : rm b (.node a l .nil) = .node a (rm b l) .nil := by simp [rm, hab]
  rw [er] at i1 i3
  have sub1 : ∀ x ∈ (BT.node b (sb b (.node a l .nil)) .nil).ad, D x := fun x hx => P.dom x (i3.subset (List.mem_append_right _ hx))
  have sub2 : ∀ x ∈ (BT.node a (rm b l) .nil).ad, D x := fun x hx => P.dom x (i3.subset (List.mem_append_left _ hx))
  have z := i3.length_eq
  rw [List.length_append] at z
  have nb := nbr P.ti.rep nd hb2 (by simpa [BT.hd] using hab)
  obtain ⟨pv, ho⟩ := P.ti.ho
  obtain ⟨s1, s2⟩ := P.ti.rep.sb hb2
  refine ⟨sb b (.node a l .nil), rm b l, P.dom a (by simp [BT.ad]), P.dom b hb2, hab, fun _ e => ?_, ⟨P.dom b hb2, fun x hx => sub1 x (by simp [BT.ad, hx]), s1, s2, ho.sb hb2, ?_⟩, i2.tr sub1 (by omega), i1.tr sub2 (by omega), i1, i2, ?_, ?_, ?_, List.perm_append_comm.trans i3⟩
  · obtain ⟨q, e2⟩ := par_some P.ti.rep.2.2.2.2.1 hb
    rw [show (σ b).get .parent = (σ b).parent from rfl, e2] at e
    cases e
  · simp only [BT.ad, List.length_cons, List.length_append, List.length_nil] at z sz ⊢; omega
  · rw [nb.self]; rfl
  · rw [nb.self]; rfl
  · rw [nb.self]; rfl
/-- what linking leaves at the two -/
theorem link_facts {r c w l : Addr} {lr lc : BT} (h1 : TI σ (.node r lr .nil)) (h2 : TI σ (.node c lc .nil)) (nd : ((BT.node r lr .nil).ad ++ (BT.node c lc .nil).ad).Nodup) (hw : WL σ r c w l) :
    (linkT σ w l w).get .left = some l ∧ (linkT σ w l l).get .parent = some w ∧ (linkT σ w l l).get .prev = none := by
  have main : ∀ (w l : Addr) (lw : BT), (σ w).left = lw.hd → w ≠ l → w ∉ lw.ad → l ∉ lw.ad → (linkT σ w l w).get .left = some l ∧ (linkT σ w l l).get .parent = some w ∧ (linkT σ w l l).get .prev = none := by
    intro w l lw e n1 n2 n3
    rw [linkT_win n1 (fun z => n2 (hd_mem (e ▸ z))), linkT_lose n1 (fun z => n3 (hd_mem (e ▸ z)))]
    exact ⟨rfl, rfl, rfl⟩
  have e1 := h1.rep.1
  have e2 := h2.rep.1
  simp only [BT.ad, List.append_nil, List.cons_append, List.nodup_cons, List.mem_append, List.mem_cons, not_or, List.nodup_append] at nd
  obtain ⟨⟨n1, n2, n3⟩, n4, ⟨n5, n6⟩, n7⟩ := nd
  rcases hw with ⟨_, rfl, rfl⟩ | ⟨_, rfl, rfl⟩
  · exact main _ _ lc e2 (fun e => n2 e.symm) n5 n3
  · exact main _ _ lr e1 n2 n1 (fun h => n7 _ h _ (.inl rfl) rfl)
theorem TI.node_of {w : Addr} (h : TI σ t) (e : t.hd = some w) : ∃ lw, t = .node w lw .nil := by
  rcases h.sh with rfl | ⟨x, y, rfl⟩
  · cases e
  · cases e; exact ⟨y, rfl⟩
/-- linked again -/
theorem link_back {S l' : BT} {f s w o : Addr} (P : PI D σ (.node a l .nil) kvs) (C : CutF D σ a l b S l') (hfs : (f = a ∧ s = b) ∨ (f = b ∧ s = a)) (hw : WL (cutT σ b) f s w o) :
    (linkT (cutT σ b) w o w).get .left = some o ∧ (linkT (cutT σ b) w o o).get .parent = some w ∧ (linkT (cutT σ b) w o o).get .prev = none ∧ KV σ (linkT (cutT σ b) w o) ∧
      ∃ lw, PI D (linkT (cutT σ b) w o) (.node w lw .nil) kvs ∧ (BT.node w lw .nil).ad.Perm (BT.node a l .nil).ad := by
  have nd2 : ((BT.node b S .nil).ad ++ (BT.node a l' .nil).ad).Nodup := C.pm.symm.nodup P.ti.nd
  have nd1 : ((BT.node a l' .nil).ad ++ (BT.node b S .nil).ad).Nodup := List.perm_append_comm.nodup nd2
  have kv : KV σ (linkT (cutT σ b) w o) := KV.cutT.trans KV.linkT
  rcases hfs with ⟨rfl, rfl⟩ | ⟨rfl, rfl⟩
  · obtain ⟨q1, q2, q3⟩ := link_facts C.ia C.ib nd1 hw
    obtain ⟨t', p1, p2, p3⟩ := C.ia.link C.ib nd1 hw
    have p4 := p2.trans (List.perm_append_comm.trans C.pm)
    obtain ⟨lw, rfl⟩ := p1.node_of p3
    exact ⟨q1, q2, q3, kv, lw, P.turn p1 p4 (fun x _ => (kv x).1) P.dom, p4⟩
  · obtain ⟨q1, q2, q3⟩ := link_facts C.ib C.ia nd2 hw
    obtain ⟨t', p1, p2, p3⟩ := C.ib.link C.ia nd2 hw
    have p4 := p2.trans C.pm
    obtain ⟨lw, rfl⟩ := p1.node_of p3
    exact ⟨q1, q2, q3, kv, lw, P.turn p1 p4 (fun x _ => (kv x).1) P.dom, p4⟩
/-- the root's children merged -/
theorem merge_none {pv : Int} (P : PI D σ (.node a l .nil) kvs) (g : MergeOut σ a l pv σ' t') (e : t'.hd = none) : (σ' a).get .left = none ∧ l = .nil ∧ PI D σ' (.node a l .nil) kvs := by
  have e1 := hd_none e
  subst e1
  have e2 : l = .nil := by
    cases l with
    | nil => rfl
    | node x y z => have := g.perm.length_eq; simp [BT.ad] at this
  subst e2
  have hl : (σ' a).get .left = none := by rw [g.rt]; rfl
  obtain ⟨⟨a1, a2, a3, a4, a5, _⟩, _, nd, pv, ⟨h1, h2, _⟩⟩ := P.ti
  refine ⟨hl, rfl, P.turn ⟨⟨hl, ?_, ?_, ?_, trivial, trivial⟩, .inr ⟨_, _, rfl⟩, nd, (σ' a).value, Int.le_refl _, trivial, trivial⟩ (List.Perm.refl _) (fun x _ => (g.kv x).1) P.dom⟩
  · rw [g.rt]; exact a2
  · rw [g.rt]; exact a3
  · rw [g.rt]; exact a4
theorem merge_some {pv : Int} (P : PI D σ (.node a l .nil) kvs) (sz : (BT.node a l .nil).ad.length ≤ 8) (g : MergeOut σ a l pv σ' t') (e : t'.hd = some c) :
    (σ' a).get .left = none ∧ D c ∧ 0 < l.ad.length ∧ ∃ lc, t' = .node c lc .nil ∧ TR D σ' c lc ∧ (σ' c).get .parent = none ∧ (σ' c).get .prev = none ∧ (σ' c).get .next = none ∧ (c :: lc.ad).Perm l.ad ∧ TI σ' (.node a .nil .nil) ∧ TI σ' (.node c lc .nil) := by
  obtain ⟨lc, e1⟩ : ∃ lc, t' = .node c lc .nil := by
    rcases g.sh with z | ⟨c', lc, z⟩
    · rw [z] at e; cases e
    · rw [z] at e; cases e; exact ⟨lc, z⟩
  subst e1
  have hl : (σ' a).get .left = none := by rw [g.rt]; rfl
  have pm := g.perm
  have hcl : c ∈ l.ad := pm.subset (by simp [BT.ad])
  have nd := P.ti.nd
  have ndl := (nd_node nd).2.2.1
  have ev : (fun b => (σ' b).value) = fun b => (σ b).value := funext fun b => (g.kv b).2
  have ic : TI σ' (.node c lc .nil) := ⟨g.rep, .inr ⟨_, _, rfl⟩, pm.symm.nodup ndl, pv, by rw [ev]; exact g.ho⟩
  obtain ⟨⟨a1, a2, a3, a4, a5, _⟩, _, _, _, _⟩ := P.ti
  refine ⟨hl, P.dom c (by simp [BT.ad, hcl]), List.length_pos_of_mem hcl, lc, rfl, ic.tr (fun x hx => P.dom x (by simp [BT.ad, pm.subset hx])) ?_, g.rep.2.2.1, g.rep.2.2.2.1, g.rep.2.1, by simpa [BT.ad] using pm, ⟨⟨hl, ?_, ?_, ?_, trivial, trivial⟩, .inr ⟨_, _, rfl⟩, by simp [BT.ad], (σ' a).value, Int.le_refl _, trivial, trivial⟩, ic⟩
  · have := pm.length_eq; simp only [BT.ad, List.length_cons, List.length_append, List.length_nil] at this sz ⊢; omega
  · rw [g.rt]; exact a2
  · rw [g.rt]; exact a3
  · rw [g.rt]; exact a4
theorem merge_back {pv : Int} {lc : BT} {w o : Addr} (P : PI D σ (.node a l .nil) kvs) (g : MergeOut σ a l pv σ' (.node c lc .nil)) (ia : TI σ' (.node a .nil .nil)) (ic : TI σ' (.node c lc .nil)) (hw : WL σ' a c w o) :
    KV σ (linkT σ' w o) ∧ ∃ lw, PI D (linkT σ' w o) (.node w lw .nil) kvs ∧ (BT.node w lw .nil).ad.Perm (BT.node a l .nil).ad := by
  have kv : KV σ (linkT σ' w o) := g.kv.trans KV.linkT
  have pm : ((BT.node a .nil .nil).ad ++ (BT.node c lc .nil).ad).Perm (BT.node a l .nil).ad := by
    have := g.perm
    simp only [BT.ad, List.append_nil, List.cons_append, List.nil_append] at this ⊢
    exact List.Perm.cons _ this
  obtain ⟨t', p1, p2, p3⟩ := ia.link ic (pm.symm.nodup P.ti.nd) hw
  obtain ⟨lw, rfl⟩ := p1.node_of p3
  exact ⟨kv, lw, P.turn p1 (p2.trans pm) (fun x _ => (kv x).1) P.dom, p2.trans pm⟩
/-- keys over a permutation -/
theorem keys_perm {as : List Addr} (tb : TB σ t kvt) (kv : KV σ σ') (pm : as.Perm t.ad) : (as.map fun a => (σ' a).key).Perm (kvt.map (·.1)) := by
  have e : (as.map fun a => (σ' a).key) = as.map fun a => (σ a).key := List.map_congr_left fun b _ => (kv b).1
  rw [e]
  exact (pm.map _).trans tb.keys.symm
theorem TB.kv (tb : TB σ t kvt) (kv : KV σ σ') (pm : t'.ad.Perm t.ad) : TB σ' t' kvt := tb.congr pm fun b _ => kv b
theorem pick_row {r : List Addr} {k : Int} (hr : 0 < r.length) (hk : 0 ≤ k) : ∃ b ∈ r, ((a :: r).map Value.ref)[(1 + k.fmod (r.length : Nat)).toNat]? = some (.ref b) := by
  have h1 : 0 ≤ k.fmod (r.length : Nat) := Int.fmod_nonneg_of_pos _ (by omega)
  have h2 : k.fmod (r.length : Nat) < (r.length : Nat) := Int.fmod_lt_of_pos _ (by omega)
  have e : (1 + k.fmod (r.length : Nat)).toNat = (k.fmod (r.length : Nat)).toNat + 1 := by omega
  have hlt : (k.fmod (r.length : Nat)).toNat < r.length := by omega
  refine ⟨r[(k.fmod (r.length : Nat)).toNat], List.getElem_mem hlt, ?_⟩
  rw [e, List.map_cons, List.getElem?_cons_succ, List.getElem?_map, List.getElem?_eq_getElem hlt]
  rfl
end
section
variable {w : World} {nl nl' own : List (Addr × Obj)} {D : Addr → Prop} {σ σ' : Addr → Nd} {hp hx dd td c1 c2 : Addr} {oD oT o1 o2 : Obj} {t t' : BT} {kvs kvt : List (Int × Value)}
theorem IV.re (iv : IV w hp hx dd td c1 c2 oD oT o1 o2 own nl D σ t kvs kvt) (hs' : HS nl' D σ') (ks : KS D nl nl') (pi' : PI D σ' t' kvs) (pm : t'.ad.Perm t.ad) (kv : KV σ σ') : IV w hp hx dd td c1 c2 oD oT o1 o2 own nl' D σ' t' kvs kvt :=
  ⟨⟨hs', pi', iv.k8.turn (fun b hb => pm.subset hb) kv, iv.dD, iv.lD, iv.lT, iv.ld.grow ks.kn (ks.off iv.offs), iv.ow, iv.k1, iv.k2⟩, iv.tb.kv kv pm, iv.dT⟩
end
end Mine
end
section
open PySem PySem.W PySem.Calls PyProof.Rows
namespace Mine
/-- what holds where the ways behind an if meet -/
def MidT (w : World) (h₀ : Heap) (L hp hx dd td c1 c2 : Addr) (t1 t2 : Tok) (h1 h2 : Int) (oD oT o1 o2 : Obj) (D : Addr → Prop) (kvs kvt : List (Int × Value)) (s : Shared) : Flow → Shared → Prop := fun f s' =>
  f = .next ∧ ∃ h' tk' m' nl σ t, s' = { s with heap := h', toks := tk' } ∧ Fr h₀ L h' m' ∧
    News h₀ L h' ((hp, instObj 201 hx) :: (hx, dictOf [⟨h1, .str (Str.ofString "_dict") t1, .ref dd⟩, ⟨h2, .str (Str.ofString "_root") t2, oref (BT.hd t)⟩] 2) :: (dd, oD) :: (td, oT) :: (c1, o1) :: (c2, o2) :: nl) ∧
    IV w hp hx dd td c1 c2 oD oT o1 o2 [] nl D σ t kvs kvt ∧ m' (Str.ofString "heap") = some (.ref hp)
theorem mid_end {w : World} {h₀ : Heap} {L hp hx dd td c1 c2 : Addr} {t1 t2 : Tok} {h1 h2 : Int} {oD oT o1 o2 : Obj} {D : Addr → Prop} {kvs kvt : List (Int × Value)} {s : Shared} {h' : Heap} {tk' : Nat} {m' : Str → Option Value} {nl : List (Addr × Obj)} {σ : Addr → Nd} {t : BT} {r : Value}
    (F : Fr h₀ L h' m') (N : News h₀ L h' ((hp, instObj 201 hx) :: (hx, dictOf [⟨h1, .str (Str.ofString "_dict") t1, .ref dd⟩, ⟨h2, .str (Str.ofString "_root") t2, r⟩] 2) :: (dd, oD) :: (td, oT) :: (c1, o1) :: (c2, o2) :: nl))
    (iv : IV w hp hx dd td c1 c2 oD oT o1 o2 [] nl D σ t kvs kvt) (e : r = oref (BT.hd t)) (hm : m' (Str.ofString "heap") = some (.ref hp)) : MidT w h₀ L hp hx dd td c1 c2 t1 t2 h1 h2 oD oT o1 o2 D kvs kvt s .next { s with heap := h', toks := tk' } := by
  subst e
  exact ⟨rfl, h', tk', m', nl, σ, t, rfl, F, N, iv, hm⟩
theorem join_if {w : World} {M : Model} {A : Around} {E : Value → Shared → Prop} {tr : Sem Flow} {Q : Flow → Shared → Prop} {s : Shared} {h₀ : Heap} {L hp hx dd td c1 c2 : Addr} {t1 t2 : Tok} {h1 h2 : Int} {oD oT o1 o2 : Obj} {own nl news : List (Addr × Obj)} {D : Addr → Prop} {σ : Addr → Nd} {t : BT} {kvs kvt : List (Int × Value)} {m : Str → Option Value} {r : Value}
    (F : Fr h₀ L s.heap m) (N : News h₀ L s.heap news) (hmem : (hx, dictOf [⟨h1, .str (Str.ofString "_dict") t1, .ref dd⟩, ⟨h2, .str (Str.ofString "_root") t2, r⟩] 2) ∈ news) (iv : IV w hp hx dd td c1 c2 oD oT o1 o2 own nl D σ t kvs kvt)
    (h : wpAny M A tr (MidT w h₀ L hp hx dd td c1 c2 t1 t2 h1 h2 oD oT o1 o2 D kvs kvt s) E s)
    (k : ∀ h' tk' m' nl σ t, Fr h₀ L h' m' → News h₀ L h' ((hp, instObj 201 hx) :: (hx, dictOf [⟨h1, .str (Str.ofString "_dict") t1, .ref dd⟩, ⟨h2, .str (Str.ofString "_root") t2, oref (BT.hd t)⟩] 2) :: (dd, oD) :: (td, oT) :: (c1, o1) :: (c2, o2) :: nl) →
      IV w hp hx dd td c1 c2 oD oT o1 o2 [] nl D σ t kvs kvt → m' (Str.ofString "heap") = some (.ref hp) → Q .next { s with heap := h', toks := tk' }) : wpAny M A tr Q E s := by
  refine wpAny_mono h (fun f s' q => ?_) fun _ _ e => e
  obtain ⟨rfl, h', tk', m', nl, σ, t, rfl, F', N', iv', hm'⟩ := q
  exact k h' tk' m' nl σ t F' N' iv' hm'
section
variable {w : World} {A : Around} {E : Value → Shared → Prop} {s : Shared} {h₀ : Heap} {L a b : Addr} {m : Str → Option Value} {nl news pre : List (Addr × Obj)} {D : Addr → Prop} {σ : Addr → Nd} {k k2 : Nat} {Q : Value → Shared → Prop}
theorem nd_is_same (N : News h₀ L s.heap news) (hc : Hole nl news pre) (H : HS nl D σ) (ha : D a) (h : Q (.bool true) s) : wpAny (model PR w) A (compareOp .Is (.ref a) (.ref a)) Q E s :=
  nd_is N hc H ha ha (fun _ => h) (fun n => absurd rfl n)
theorem nd_is_other (N : News h₀ L s.heap news) (hc : Hole nl news pre) (H : HS nl D σ) (ha : D a) (hb : D b) (ne : ¬ a = b) (h : Q (.bool false) s) : wpAny (model PR w) A (compareOp .Is (.ref a) (.ref b)) Q E s :=
  nd_is N hc H ha hb (fun e => absurd e ne) (fun _ => h)
theorem add_refs {as bs : List Addr} (F : Fr h₀ L s.heap m) (N : News h₀ L s.heap news) (ha : (a, listOf (List.toArray (as.map Value.ref)) k) ∈ news) (hb : (b, listOf (List.toArray (bs.map Value.ref)) k2) ∈ news)
    (h : ∀ D h', Fr h₀ L h' m → News h₀ L h' ((D, listOf (List.toArray ((as ++ bs).map Value.ref)) 0) :: news) → (∀ p ∈ news, p.1 < D) → Q (.ref D) { s with heap := h' })
    (hz : as.length + bs.length ≤ sizeLine) : wpAny (model PR w) A (binaryOp .Add (.ref a) (.ref b)) Q E s :=
  add_own F N ha hb (by rw [← List.map_append]; exact h) (by simpa using hz)
theorem ne_refs {as bs : List Addr} (N : News h₀ L s.heap news) (ha : (a, listOf (List.toArray (as.map Value.ref)) k) ∈ news) (hb : (b, listOf (List.toArray (bs.map Value.ref)) k2) ∈ news) (e : as = bs) (hu : A.units < cLine) (h : Q (.bool false) s) : wpAny (model PR w) A (compareOp .NotEq (.ref a) (.ref b)) Q E s := by
  subst e
  exact ne_same N ha hb hu h
theorem item_pick {value slice : PySem.Expr} {u : Tok} {c : Int} {n : Int} {q x : Addr} {r : List Addr} (N : News h₀ L s.heap news) (ha : (q, listOf (List.toArray ((x :: r).map Value.ref)) k) ∈ news) (hn : n = (r.length : Nat)) (hr : 0 < r.length) (hr2 : r.length ≤ 1000) (h : ∀ b ∈ r, Q (.ref b) s)
    (hs : subscripted slice false (.ref q) (.int (1 + Int.fmod c n) u) = operate [.ref q, .int (1 + Int.fmod c n) u] (getItem (.ref q) (.int (1 + Int.fmod c n) u)) := by with_unfolding_all rfl) (hg : ∀ r, letTemporaryGo value (.ref q) r = pure () := by intro _; with_unfolding_all rfl) :
    wpAny (model PR w) A (subscriptTail value slice (.ref q) (.int (1 + Int.fmod c n) u)) Q E s := by
  subst hn
  have h1 : 0 ≤ c.fmod (r.length : Nat) := Int.fmod_nonneg_of_pos _ (by omega)
  have h2 : c.fmod (r.length : Nat) < (r.length : Nat) := Int.fmod_lt_of_pos _ (by omega)
  have e : (1 + c.fmod (r.length : Nat)).toNat = (c.fmod (r.length : Nat)).toNat + 1 := by omega
  have hlt : (c.fmod (r.length : Nat)).toNat < r.length := by omega
  refine item_own N ha (by omega) (by omega) ?_ (h r[(c.fmod (r.length : Nat)).toNat] (List.getElem_mem hlt)) hs hg
  rw [e, List.map_cons, List.getElem?_cons_succ, List.getElem?_map, List.getElem?_eq_getElem hlt]
  rfl
end
theorem pick_mem {a b : Addr} {r m : List Addr} (p : (a :: r).Perm (a :: m)) (h : b ∈ r) : b ∈ m := ((List.perm_cons a).mp p).subset h
theorem pick_len {a : Addr} {r m : List Addr} (p : (a :: r).Perm (a :: m)) : ((a :: r).map Value.ref).length = m.length + 1 := by
  rw [List.length_map, p.length_eq]; rfl
theorem kv_lt {σ : Addr → Nd} {p q x y : Addr} (h : (σ x).value < (σ y).value) : (linkT σ p q x).value < (linkT σ p q y).value := by rw [(KV.linkT x).2, (KV.linkT y).2]; exact h
theorem kv_nlt {σ : Addr → Nd} {p q x y : Addr} (h : ¬ (σ x).value < (σ y).value) : ¬ (linkT σ p q x).value < (linkT σ p q y).value := by rw [(KV.linkT x).2, (KV.linkT y).2]; exact h
theorem cut_keys {D : Addr → Prop} {σ : Addr → Nd} {a b : Addr} {l S l' : BT} {kvt : List (Int × Value)} {r1 r2 : List Addr} (C : CutF D σ a l b S l') (tb : TB σ (.node a l .nil) kvt) (p1 : (b :: r1).Perm (b :: S.ad)) (p2 : (a :: r2).Perm (a :: l'.ad)) :
    (((b :: r1) ++ (a :: r2)).map fun x => (cutT σ b x).key).Perm (kvt.map (·.1)) := by
  refine keys_perm tb KV.cutT ((p1.append p2).trans ?_)
  have := C.pm
  simpa [BT.ad] using this
theorem merge_keys {σ σ' : Addr → Nd} {a c : Addr} {l lc t' : BT} {pv : Int} {kvt : List (Int × Value)} {r : List Addr} (g : MergeOut σ a l pv σ' t') (tb : TB σ (.node a l .nil) kvt) (p1 : (c :: r).Perm (c :: lc.ad)) (p2 : (c :: lc.ad).Perm l.ad) :
    (((c :: r) ++ [a]).map fun x => (σ' x).key).Perm (kvt.map (·.1)) := by
  refine keys_perm tb g.kv ?_
  refine List.perm_append_comm.trans ?_
  simp only [BT.ad, List.append_nil, List.cons_append, List.nil_append]
  exact List.Perm.cons _ (p1.trans p2)
theorem merge_keys0 {σ σ' : Addr → Nd} {a : Addr} {t' : BT} {pv : Int} {kvt : List (Int × Value)} (g : MergeOut σ a .nil pv σ' t') (tb : TB σ (.node a .nil .nil) kvt) : ((([] : List Addr) ++ [a]).map fun x => (σ' x).key).Perm (kvt.map (·.1)) :=
  keys_perm tb g.kv (by simp [BT.ad])
section
variable {w : World} {dp un : Nat} {gd : Option (List Code)} {cn : Str} {cs : Scope} {fa : Addr} {ccd : Value} {cl : List (Str × Addr)} {outer : List Env} {A₀ : Around} {base h₀ : Heap} {L : Addr} {m : Str → Option Value} {s : Shared}
  {R : Result → Shared → Prop} {p : Program} {loose : List Str} {mean : ExcName → Option Value} {mg mb : Str → Option Value} {nl : List (Addr × Obj)} {pre : List (Addr × Obj)} {D : Addr → Prop} {σ : Addr → Nd}
theorem link_two {news : List (Addr × Obj)} {r o self : Addr} (B : Below A₀ base outer h₀) (F : Fr h₀ L s.heap m) (X : (hd.heap_39 w.params).In h₀) (N : News h₀ L s.heap news) (T : Top p loose mean mg mb h₀) (hk : cs.kind = .function)
    (hd : dp + 10 < recursionLimit) (hc : Hole nl news pre) (H : HS nl D σ) (hr : D r) (ho : D o)
    (k1 : (σ o).value < (σ r).value → ∀ h' tk' nl', Fr h₀ L h' m → News h₀ L h' (pre ++ nl') → HS nl' D (linkT σ o r) → KS D nl nl' → R (.ok (.ret (.ref o))) { s with heap := h', toks := tk' })
    (k2 : ¬ (σ o).value < (σ r).value → ∀ h' tk' nl', Fr h₀ L h' m → News h₀ L h' (pre ++ nl') → HS nl' D (linkT σ r o) → KS D nl nl' → R (.ok (.ret (.ref r))) { s with heap := h', toks := tk' }) :
    codeAny (model PySem.Challenge.rw_aw6015_01.row.prog w) (ktrTop dp un gd cn cs L fa ccd cl outer) (.call (.ref 184) ⟨[.ref self, .ref r, .ref o], []⟩) R s :=
  link_codeH B F X N T hk hd hc H hr ho fun h' tk' nl' w l wl F' N' H' K' => by
    rcases wl with ⟨v, rfl, rfl⟩ | ⟨v, rfl, rfl⟩
    · exact k1 v h' tk' nl' F' N' H' K'
    · exact k2 v h' tk' nl' F' N' H' K'
end
theorem news_heap {w : World} {h₀ h : Heap} {L hp hx dd td c1 c2 : Addr} {t1 t2 : Tok} {h1 h2 : Int} {oD oT o1 o2 : Obj} {own nl l : List (Addr × Obj)} {D : Addr → Prop} {σ : Addr → Nd} {t : BT} {kvs kvt : List (Int × Value)} {r : Value}
    (_iv : IV w hp hx dd td c1 c2 oD oT o1 o2 own nl D σ t kvs kvt) (N : News h₀ L h l) (m1 : (hp, instObj 201 hx) ∈ l) (m2 : (hx, dictOf [⟨h1, .str (Str.ofString "_dict") t1, .ref dd⟩, ⟨h2, .str (Str.ofString "_root") t2, r⟩] 2) ∈ l) (m3 : (dd, oD) ∈ l) (m4 : (td, oT) ∈ l) (m5 : (c1, o1) ∈ l) (m6 : (c2, o2) ∈ l) (mb : ∀ p ∈ nl, p ∈ l) :
    News h₀ L h ((hp, instObj 201 hx) :: (hx, dictOf [⟨h1, .str (Str.ofString "_dict") t1, .ref dd⟩, ⟨h2, .str (Str.ofString "_root") t2, r⟩] 2) :: (dd, oD) :: (td, oT) :: (c1, o1) :: (c2, o2) :: nl) := news_six N m1 m2 m3 m4 m5 m6 mb
theorem without_lt {kvt : List (Int × Value)} {k : Int} {v : Value} (h : valueAt kvt k = some v) : (without kvt k).length < kvt.length := by
  have hm := valueAt_mem h
  unfold without
  refine List.length_filter_lt_length_iff_exists.mpr ⟨_, hm, ?_⟩
  simp
theorem dom_app {D : Addr → Prop} {as bs : List Addr} (h1 : ∀ b ∈ as, D b) (h2 : ∀ b ∈ bs, D b) : ∀ b ∈ as ++ bs, D b := fun b hb => by
  rcases List.mem_append.mp hb with h | h
  · exact h1 b h
  · exact h2 b h
theorem dom_nil {D : Addr → Prop} : ∀ b ∈ ([] : List Addr), D b := fun b hb => absurd hb (by simp)
theorem dom_one {D : Addr → Prop} {a : Addr} (h : D a) : ∀ b ∈ [a], D b := fun b hb => by rw [List.mem_singleton.mp hb]; exact h
def Mark2 : Prop := True
end Mine
end
section
open PySem PySem.W PySem.Calls PyProof.Rows
namespace Mine
set_option maxRecDepth 100000
local macro_rules | `(tactic| ktr_unf) => `(tactic| (repeat (first | exact Hole.here | exact Hole.opq (by assumption) | (apply Hole.cons; (first | exact rfl | exact dict_notNode (by assumption) | exact cell_notNode (by assumption) | exact ns_notNode (by assumption))))))
local macro_rules | `(tactic| walk_at "getAttr ref") => `(tactic| (k_here; (with_reducible show wpAny _ _ (getAttr (Value.ref _) (Str.ofString "value") _) _ _ _); (rename HS _ _ _ => hs9); k_dflt (refine' nd_value ?F ?X ?N ?c hs9 ?D ?_; (case F => k_asm); (case X => k_asm); (case N => k_asm); (case c => ktr_unf); (case D => k_asm); k_whole)))
local macro_rules | `(tactic| walk_at "getAttr ref") => `(tactic| (k_here; (with_reducible show wpAny _ _ (getAttr (Value.ref _) (Str.ofString "key") _) _ _ _); (rename HS _ _ _ => hs9); k_dflt (refine' nd_key ?F ?X ?N ?c hs9 ?D ?_; (case F => k_asm); (case X => k_asm); (case N => k_asm); (case c => ktr_unf); (case D => k_asm); k_whole)))
local macro_rules | `(tactic| walk_at "getAttr ref") => `(tactic| (k_here; (with_reducible show wpAny _ _ (getAttr (Value.ref _) (Str.ofString "left") _) _ _ _); (rename HS _ _ _ => hs9); k_dflt (refine' nd_get .left ?F ?X ?N ?c hs9 ?D ?_ ?_; (case F => k_asm); (case X => k_asm); (case N => k_asm); (case c => ktr_unf); (case D => k_asm)); all_goals (intros; k_whole)))
local macro_rules | `(tactic| walk_at "setAttr ref") => `(tactic| (k_here; (with_reducible show wpAny _ _ (setAttr (Value.ref _) (Str.ofString "left") _) _ _ _); (rename HS _ _ _ => hs9); (rename KS _ _ _ => ks9); k_dflt ((first | refine' nd_set (v := none) .left ?F ?X ?N ?c hs9 ?D ?v ?_ | refine' nd_set (v := some _) .left ?F ?X ?N ?c hs9 ?D ?v ?_ | refine' nd_set .left ?F ?X ?N ?c hs9 ?D ?v ?_); (case F => k_asm); (case X => k_asm); (case N => k_asm); (case c => ktr_unf); (case D => k_asm); (case v => ktr_rel); k_whole); intro h' nl' F' N' H' kk9; (have ks' := KS.trans ks9 kk9); clear hs9 ks9 kk9; (try dsimp only [List.cons_append, List.nil_append] at N'); (try k_sweep)))
local macro_rules | `(tactic| walk_at "getAttr ref") => `(tactic| (k_here; (with_reducible show wpAny _ _ (getAttr (Value.ref _) (Str.ofString "next") _) _ _ _); (rename HS _ _ _ => hs9); k_dflt (refine' nd_get .next ?F ?X ?N ?c hs9 ?D ?_ ?_; (case F => k_asm); (case X => k_asm); (case N => k_asm); (case c => ktr_unf); (case D => k_asm)); all_goals (intros; k_whole)))
local macro_rules | `(tactic| walk_at "setAttr ref") => `(tactic| (k_here; (with_reducible show wpAny _ _ (setAttr (Value.ref _) (Str.ofString "next") _) _ _ _); (rename HS _ _ _ => hs9); (rename KS _ _ _ => ks9); k_dflt ((first | refine' nd_set (v := none) .next ?F ?X ?N ?c hs9 ?D ?v ?_ | refine' nd_set (v := some _) .next ?F ?X ?N ?c hs9 ?D ?v ?_ | refine' nd_set .next ?F ?X ?N ?c hs9 ?D ?v ?_); (case F => k_asm); (case X => k_asm); (case N => k_asm); (case c => ktr_unf); (case D => k_asm); (case v => ktr_rel); k_whole); intro h' nl' F' N' H' kk9; (have ks' := KS.trans ks9 kk9); clear hs9 ks9 kk9; (try dsimp only [List.cons_append, List.nil_append] at N'); (try k_sweep)))
local macro_rules | `(tactic| walk_at "getAttr ref") => `(tactic| (k_here; (with_reducible show wpAny _ _ (getAttr (Value.ref _) (Str.ofString "parent") _) _ _ _); (rename HS _ _ _ => hs9); k_dflt (refine' nd_get .parent ?F ?X ?N ?c hs9 ?D ?_ ?_; (case F => k_asm); (case X => k_asm); (case N => k_asm); (case c => ktr_unf); (case D => k_asm)); all_goals (intros; k_whole)))
local macro_rules | `(tactic| walk_at "setAttr ref") => `(tactic| (k_here; (with_reducible show wpAny _ _ (setAttr (Value.ref _) (Str.ofString "parent") _) _ _ _); (rename HS _ _ _ => hs9); (rename KS _ _ _ => ks9); k_dflt ((first | refine' nd_set (v := none) .parent ?F ?X ?N ?c hs9 ?D ?v ?_ | refine' nd_set (v := some _) .parent ?F ?X ?N ?c hs9 ?D ?v ?_ | refine' nd_set .parent ?F ?X ?N ?c hs9 ?D ?v ?_); (case F => k_asm); (case X => k_asm); (case N => k_asm); (case c => ktr_unf); (case D => k_asm); (case v => ktr_rel); k_whole); intro h' nl' F' N' H' kk9; (have ks' := KS.trans ks9 kk9); clear hs9 ks9 kk9; (try dsimp only [List.cons_append, List.nil_append] at N'); (try k_sweep)))
local macro_rules | `(tactic| walk_at "getAttr ref") => `(tactic| (k_here; (with_reducible show wpAny _ _ (getAttr (Value.ref _) (Str.ofString "prev") _) _ _ _); (rename HS _ _ _ => hs9); k_dflt (refine' nd_get .prev ?F ?X ?N ?c hs9 ?D ?_ ?_; (case F => k_asm); (case X => k_asm); (case N => k_asm); (case c => ktr_unf); (case D => k_asm)); all_goals (intros; k_whole)))
local macro_rules | `(tactic| walk_at "setAttr ref") => `(tactic| (k_here; (with_reducible show wpAny _ _ (setAttr (Value.ref _) (Str.ofString "prev") _) _ _ _); (rename HS _ _ _ => hs9); (rename KS _ _ _ => ks9); k_dflt ((first | refine' nd_set (v := none) .prev ?F ?X ?N ?c hs9 ?D ?v ?_ | refine' nd_set (v := some _) .prev ?F ?X ?N ?c hs9 ?D ?v ?_ | refine' nd_set .prev ?F ?X ?N ?c hs9 ?D ?v ?_); (case F => k_asm); (case X => k_asm); (case N => k_asm); (case c => ktr_unf); (case D => k_asm); (case v => ktr_rel); k_whole); intro h' nl' F' N' H' kk9; (have ks' := KS.trans ks9 kk9); clear hs9 ks9 kk9; (try dsimp only [List.cons_append, List.nil_append] at N'); (try k_sweep)))
local macro_rules | `(tactic| walk_at "getAttr ref") => `(tactic| (k_here; (rename RawMark => rm9); (with_reducible show wpAny _ _ (getAttr (Value.ref _) (Str.ofString "left") _) _ _ _); (rename HS _ _ _ => hs9); k_dflt (refine' nd_raw .left ?F ?X ?N ?c hs9 ?D ?_; (case F => k_asm); (case X => k_asm); (case N => k_asm); (case c => ktr_unf); (case D => k_asm); k_whole)))
local macro_rules | `(tactic| walk_at "getAttr ref") => `(tactic| (k_here; (rename RawMark => rm9); (with_reducible show wpAny _ _ (getAttr (Value.ref _) (Str.ofString "next") _) _ _ _); (rename HS _ _ _ => hs9); k_dflt (refine' nd_raw .next ?F ?X ?N ?c hs9 ?D ?_; (case F => k_asm); (case X => k_asm); (case N => k_asm); (case c => ktr_unf); (case D => k_asm); k_whole)))
local macro_rules | `(tactic| walk_at "getAttr ref") => `(tactic| (k_here; (rename RawMark => rm9); (with_reducible show wpAny _ _ (getAttr (Value.ref _) (Str.ofString "parent") _) _ _ _); (rename HS _ _ _ => hs9); k_dflt (refine' nd_raw .parent ?F ?X ?N ?c hs9 ?D ?_; (case F => k_asm); (case X => k_asm); (case N => k_asm); (case c => ktr_unf); (case D => k_asm); k_whole)))
local macro_rules | `(tactic| walk_at "getAttr ref") => `(tactic| (k_here; (rename RawMark => rm9); (with_reducible show wpAny _ _ (getAttr (Value.ref _) (Str.ofString "prev") _) _ _ _); (rename HS _ _ _ => hs9); k_dflt (refine' nd_raw .prev ?F ?X ?N ?c hs9 ?D ?_; (case F => k_asm); (case X => k_asm); (case N => k_asm); (case c => ktr_unf); (case D => k_asm); k_whole)))
local macro_rules | `(tactic| ktr_rel) => `(tactic| first | (with_reducible assumption) | (intro x9 e9; (first | (cases e9; done) | (cases e9; assumption))))
local macro_rules | `(tactic| tb_start) => `(tactic| first | assumption | exact News.sub (by assumption) (fun _ hp => List.mem_cons_of_mem _ hp) | exact News.sub (by assumption) (fun _ hp => List.mem_cons_of_mem _ (List.mem_cons_of_mem _ hp)) | exact News.sub (by assumption) (fun _ hp => List.mem_cons_of_mem _ (List.mem_cons_of_mem _ (List.mem_cons_of_mem _ hp))))
local macro_rules | `(tactic| walk_at "And") => `(tactic| ((with_reducible show MethP _ _ _ _ _ ∧ _); refine' And.intro ?mp ?_; (case mp => (refine' methP ?N ?q ?X; (case N => k_asm); (case q => first | exact List.Mem.head _ | k_mem); (case X => k_in))); (try dsimp only [List.nil_append, List.cons_append])))
local macro_rules | `(tactic| k_all) => `(tactic| first | exact ks_off (by assumption) (by assumption) | assumption)
local macro_rules | `(tactic| walk_at "setAttr ref") => `(tactic| (k_here; (with_reducible show wpAny _ _ (setAttr (Value.ref _) (Str.ofString "value") (Value.int _ _)) _ _ _); (rename HS _ _ _ => hs9); (rename KS _ _ _ => ks9); k_dflt (refine' nd_setval ?F ?X ?N ?c hs9 ?D ?_; (case F => k_asm); (case X => k_asm); (case N => k_asm); (case c => ktr_unf); (case D => k_asm); k_whole); intro h' nl' F' N' H' kk9; (have ks' := KS.trans ks9 kk9); clear hs9 ks9 kk9; (try dsimp only [List.cons_append, List.nil_append] at N'); (try k_sweep)))
local macro_rules | `(tactic| tb_rel) => `(tactic| first | assumption | exact Or.inl rfl | exact Or.inr (by assumption))
local macro_rules | `(tactic| kaf_pre) => `(tactic| (repeat (first | exact List.Mem.head _ | apply List.Mem.tail)))
local macro_rules | `(tactic| kaf_suf) => `(tactic| first | omega | ((try simp only [List.size_toArray, List.length_cons, List.length_map, List.length_append, List.length_nil, sizeLine_eq]); omega))
local macro_rules | `(tactic| kat_tups) => `(tactic| (intro p9 hp9; repeat (first | exact hp9 | apply List.mem_cons_of_mem)))
local macro_rules | `(tactic| kbo_bools) => `(tactic| first | assumption | (intro b9 hb9; exact absurd hb9 (by simp)))
local macro_rules | `(tactic| kct_strs) => `(tactic| first | exact right_perm (by assumption) (by assumption) | assumption | exact List.Perm.symm (by assumption))
local macro_rules | `(tactic| walk_at "CompSrcT") => `(tactic| (refine Stop.mk ?_))
local macro_rules | `(tactic| walk_at "CompEnd") => `(tactic| (refine Stop.mk ?_))
local macro_rules | `(tactic| walk_at "call ref") => `(tactic| (k_here; (with_reducible show wpAny _ _ (call (Value.ref 217) [Value.ref _] _) _ _ _); (rename HS _ _ _ => hs9); k_dflt (refine' wpAny_call (tree_codeR ?B ?F ?X ?N ?T ?k ?d ?u ?c hs9 ?t ?_); (case B => k_asm); (case F => k_asm); (case X => k_asm); (case N => k_asm); (case T => k_asm); (case k => exact rfl); (case d => ktr_room); (case u => ktr_units); (case c => ktr_unf); (case t => assumption); k_whole); intro h' tk' q' r' F' N' bf' dm' ln' pm'; (try dsimp only [List.cons_append, List.nil_append] at N'); (try dsimp only)))
local macro_rules | `(tactic| walk_at "call ref") => `(tactic| (k_here; (with_reducible show wpAny _ _ (call (Value.ref 217) [Value.none] _) _ _ _); k_dflt (refine' wpAny_call (tree_none ?B ?F ?X ?N ?T ?k ?d ?u ?_); (case B => k_asm); (case F => k_asm); (case X => k_asm); (case N => k_asm); (case T => k_asm); (case k => exact rfl); (case d => ktr_room); (case u => ktr_units); k_whole); intro h' tk' q' F' N'; (try dsimp only)))
local macro_rules | `(tactic| walk_at "call ref") => `(tactic| (k_here; (with_reducible show wpAny _ _ (call (Value.ref 229) [Value.ref _] _) _ _ _); (rename HS _ _ _ => hs9); k_dflt (refine' wpAny_call (keys_code (as := []) ?B ?F ?X ?N ?T ?k ?d ?u ?c hs9 ?m ?D ?z ?_); (case B => k_asm); (case F => k_asm); (case X => k_asm); (case N => k_asm); (case T => k_asm); (case k => exact rfl); (case d => ktr_room); (case u => ktr_units); (case c => ktr_unf); (case m => kaf_pre); (case D => kbo_bools); (case z => kaf_suf); k_whole); intro h' tk' q' v' n' c' F' N' i' p' o'; (try dsimp only)))
local macro_rules | `(tactic| walk_at "call ref") => `(tactic| (k_here; (with_reducible show wpAny _ _ (call (Value.ref 229) [Value.ref _] _) _ _ _); (rename HS _ _ _ => hs9); k_dflt (refine' wpAny_call (keys_code ?B ?F ?X ?N ?T ?k ?d ?u ?c hs9 ?m ?D ?z ?_); (case B => k_asm); (case F => k_asm); (case X => k_asm); (case N => k_asm); (case T => k_asm); (case k => exact rfl); (case d => ktr_room); (case u => ktr_units); (case c => ktr_unf); (case m => kaf_pre); (case D => kbo_bools); (case z => kaf_suf); k_whole); intro h' tk' q' v' n' c' F' N' i' p' o'; (try dsimp only)))
local macro_rules | `(tactic| walk_at "call ref") => `(tactic| (k_here; (with_reducible show wpAny _ _ (call (Value.ref 224) [Value.ref _] _) _ _ _); (rename HS _ _ _ => hs9); k_dflt (refine' wpAny_call (alone_codeH ?B ?F ?X ?N ?T ?k ?d ?c hs9 ?D ?p1 ?p2 ?p3 ?_); (case B => k_asm); (case F => k_asm); (case X => k_asm); (case N => k_asm); (case T => k_asm); (case k => exact rfl); (case d => ktr_room); (case c => ktr_unf); (case D => k_asm); (case p1 => assumption); (case p2 => assumption); (case p3 => assumption); k_whole); intro h' tk' F' N'; (try dsimp only [List.cons_append, List.nil_append] at N'); (try dsimp only)))
local macro_rules | `(tactic| walk_at "call builtin:sorted") => `(tactic| (k_here; (with_reducible show wpAny _ _ (call (Value.builtin _) [Value.ref _]) _ _ _); k_dflt (refine' sorted_dict (by rfl) ?F ?N ?p ?d ?l ?z ?_; (case F => k_asm); (case N => k_asm); (case p => kaf_pre); (case d => assumption); (case l => assumption); (case z => kaf_suf)); intro D' h' tk' v' n' c' F' N' l1 i' p' o'; (try k_lt l1); (try dsimp only)))
local macro_rules | `(tactic| walk_at "compareOp NotEq ref ref") => `(tactic| (k_here; k_dflt (refine' ne_ints ?N ?a ?b ?i ?j ?p ?q ?o1 ?o2 ?x ?u ?_; (case N => k_asm); (case a => kaf_pre); (case b => kaf_pre); (case i => assumption); (case j => assumption); (case p => assumption); (case q => assumption); (case o1 => assumption); (case o2 => assumption); (case x => kct_strs); (case u => ktr_units); k_whole)))
local macro_rules | `(tactic| walk_at "compareOp NotEq ref ref") => `(tactic| (k_here; k_dflt (first | (refine' ne_nil_cons ?N ?a ?b ?u ?_; (case N => k_asm); (case a => kaf_pre); (case b => kaf_pre); (case u => ktr_units); k_whole) | (refine' ne_nil_nil ?N ?a ?b ?u ?_; (case N => k_asm); (case a => kaf_pre); (case b => kaf_pre); (case u => ktr_units); k_whole))))
local macro_rules | `(tactic| walk_at "call builtin:len") => `(tactic| (k_here; (with_reducible show wpAny _ _ (call (Value.builtin "len") [Value.ref _]) _ _ _); k_dflt (refine' len_own ?N ?a ?z ?_; (case N => k_asm); (case a => kaf_pre); (case z => kaf_suf); k_whole)))
local macro_rules | `(tactic| walk_at "call builtin:len") => `(tactic| (k_here; (with_reducible show wpAny _ _ (call (Value.builtin "len") [Value.ref _]) _ _ _); k_dflt (refine' kda_len (knd := intKind _ _) ?N ?p ?d ?l ?z ?_; (case N => k_asm); (case p => kaf_pre); (case d => assumption); (case l => assumption); (case z => omega); k_whole)))
local macro_rules | `(tactic| walk_at "subscriptTail Name Constant ref int") => `(tactic| (k_here; k_dflt (refine' item_own ?N ?a ?h ?f ?x ?_; (case N => k_asm); (case a => kaf_pre); (case h => decide); (case f => decide); (case x => exact rfl); k_whole)))
local macro_rules | `(tactic| walk_at "getAttr ref") => `(tactic| (k_here; (with_reducible show wpAny _ _ (getAttr (Value.ref _) (Str.ofString "key") _) _ _ _); (rename HS _ _ _ => hs9); k_dflt (refine' nd_key ?F ?X (News.drop3 ?N) ?c hs9 ?D ?_; (case F => k_asm); (case X => k_asm); (case N => k_asm); (case c => ktr_unf); (case D => k_asm); k_whole)))
local macro_rules | `(tactic| walk_at "getAttr ref") => `(tactic| (k_here; (with_reducible show wpAny _ _ (getAttr (Value.ref _) (Str.ofString "value") _) _ _ _); (rename HS _ _ _ => hs9); k_dflt (refine' nd_value ?F ?X (News.drop3 ?N) ?c hs9 ?D ?_; (case F => k_asm); (case X => k_asm); (case N => k_asm); (case c => ktr_unf); (case D => k_asm); k_whole)))
local macro_rules | `(tactic| walk_at "compareOp IsNot ref ref") => `(tactic| (k_here; (rename HS _ _ _ => hs9); k_dflt (refine' nd_isNot_same (News.drop3 ?N) ?c hs9 ?A ?_; (case N => k_asm); (case c => ktr_unf); (case A => k_asm); k_whole)))
local macro_rules | `(tactic| walk_at "subscriptTail") => `(tactic| (k_here; (with_reducible show wpAny _ _ (subscriptTail _ _ (Value.ref _) (Value.int _ _)) _ _ _); k_dflt (refine' kda_item (knd := PySem.intKind _ _) ?N ?p ?d (intKind_is _ _ _ _) ?l ?_; (case N => k_asm); (case p => kaf_pre); (case d => assumption); (case l => assumption); k_whole)))
local macro_rules | `(tactic| walk_at "compareOp Eq ref ref") => `(tactic| (k_here; k_dflt (refine' eq_nil_nil ?N ?a ?b ?u ?_; (case N => k_asm); (case a => kaf_pre); (case b => kaf_pre); (case u => ktr_units); k_whole)))
local macro_rules | `(tactic| walk_at "getItem ref int") => `(tactic| (k_here; k_dflt (refine' getItem_own ?N ?p ?d (intKind_is _ _ _ _) ?l ?_; (case N => k_asm); (case p => kaf_pre); (case d => assumption); (case l => assumption); k_whole)))
local macro_rules | `(tactic| walk_at "exec For Name Call cons nil") => `(tactic| (refine Stop.mk ?_))
local macro_rules | `(tactic| walk_at "exec For") => `(tactic| (refine Stop.mk ?_))
local macro_rules | `(tactic| walk_at "eval Dict nil nil") => `(tactic| (k_here; k_dflt (refine' newDict_K ?k1 ?k2 ?k3 ?_; (case k1 => k_asm); (case k2 => k_asm); (case k3 => exact TopRead.nolimit (by k_asm)); k_whole); intro d' h' o' F' N' l1 lo' hs' fs' hi' fi'; (try k_lt l1); (try k_sweep)))
local macro_rules | `(tactic| walk_at "pyIter ref") => `(tactic| ((with_reducible show wpAny _ _ (pyIter (Value.ref _)) (fun it s₂ => LoopAtU _ _ _ _ _ _ _ _ _ it s₂) _ _); refine Stop.mk ?_))
local macro_rules | `(tactic| kwd_rel) => `(tactic| first | assumption | exact News.sub (by assumption) (fun _ hp => List.mem_cons_of_mem _ hp) | exact News.sub (by assumption) (fun _ hp => List.mem_cons_of_mem _ (List.mem_cons_of_mem _ hp)) | exact News.sub (by assumption) (fun _ hp => List.mem_cons_of_mem _ (List.mem_cons_of_mem _ (List.mem_cons_of_mem _ hp))) | exact News.sub (by assumption) (fun _ hp => List.mem_cons_of_mem _ (List.mem_cons_of_mem _ (List.mem_cons_of_mem _ (List.mem_cons_of_mem _ hp)))))
local macro_rules | `(tactic| kwd_less) => `(tactic| first | assumption | exact IX.cell2 (by assumption) (by assumption) | (refine' IX.swap (IX.cell2 (td := _) ?x ?k2) ?l ?k1 ?n1 ?n2 ?n3 ?n4 ?n5 ?n6; (case k2 => assumption); (case x => assumption); (case l => assumption); (case k1 => assumption); (case n1 => k_ne); (case n2 => k_ne); (case n3 => k_ne); (case n4 => k_ne); (case n5 => k_ne); (case n6 => k_all)))
local macro_rules | `(tactic| kwd_inv) => `(tactic| first | assumption | (refine' IX.iv ?x ?t ?d; (case d => assumption); (case x => kwd_less); (case t => first | assumption | exact ‹∀ u, TB _ _ (stored _ _ (Value.int _ u))› _)))
local macro_rules | `(tactic| walk_at "call ref") => `(tactic| (k_here; (with_reducible show wpAny _ _ (call (Value.ref 177) [Value.ref _, Value.int _ _, Value.int _ _]) _ _ _); k_dflt (refine' wpAny_call (insF_iv ?k0 ?k8 ?iv ?B ?F ?X ?N ?T ?k ?d ?u ?_); (case F => k_asm); (case N => kwd_rel); (case iv => kwd_inv); (case B => k_asm); (case X => k_asm); (case T => k_asm); (case k => exact rfl); (case d => ktr_room); (case u => ktr_units); (case k0 => exact Int.fmod_nonneg_of_pos _ (by decide)); (case k8 => exact Int.fmod_lt_of_pos _ (by decide)); k_whole); intro h' tk' nl' D' σ' t' kvs' oD' b' F' N' ix' r'; (obtain ⟨x1', x2', x3', x4', x5', x6', x7', x8', x9', x10', x11', x12', x13', x14', x15', x16', x17', x18', x19'⟩ := LD.all ix'.ld); (have hs' := ix'.hs); (have dD' := ix'.dD); (rcases r' with ⟨e', hb', T'⟩ | ⟨i', u', e', ⟨lt', hb', T'⟩ | ⟨lt', hb', T'⟩⟩) <;> (subst hb'; (try dsimp only))))
local macro_rules | `(tactic| walk_at "call ref") => `(tactic| (k_here; (with_reducible show wpAny _ _ (call (Value.ref 177) [Value.ref _, Value.int _ _, Value.int _ _] _) _ _ _); k_dflt (refine' wpAny_call (insT_iv ?k0 ?k8 ?iv ?B ?F ?X ?N ?T ?k ?d ?u ?_); (case F => k_asm); (case N => kwd_rel); (case iv => kwd_inv); (case B => k_asm); (case X => k_asm); (case T => k_asm); (case k => exact rfl); (case d => ktr_room); (case u => ktr_units); (case k0 => exact Int.fmod_nonneg_of_pos _ (by decide)); (case k8 => exact Int.fmod_lt_of_pos _ (by decide)); k_whole); intro h' tk' nl' D' σ' t' kvs' oD' b' F' N' ix' T'; (obtain ⟨x1', x2', x3', x4', x5', x6', x7', x8', x9', x10', x11', x12', x13', x14', x15', x16', x17', x18', x19'⟩ := LD.all ix'.ld); (have hs' := ix'.hs); (have dD' := ix'.dD); (try dsimp only)))
local macro_rules | `(tactic| walk_at "call ref") => `(tactic| (k_here; (with_reducible show wpAny _ _ (call (Value.ref 161) _ _) _ _ _); k_dflt (refine' wpAny_call (pop_iv2 ?n ?iv ?B ?F ?X ?N ?T ?k ?d ?u ?_); (case F => k_asm); (case N => kwd_rel); (case iv => kwd_inv); (case n => assumption); (case B => k_asm); (case X => k_asm); (case T => k_asm); (case k => exact rfl); (case d => ktr_room); (case u => ktr_units); k_whole); intro h' tk' nl' σ' t' oD' q' ke' mn' kt' vt' F' N' n1' n2' n3' ix' tb' m1' m2' m3'; (obtain ⟨x1', x2', x3', x4', x5', x6', x7', x8', x9', x10', x11', x12', x13', x14', x15', x16', x17', x18', x19'⟩ := LD.all ix'.ld); (obtain ⟨u', m1'⟩ := m1'); (have hs' := ix'.hs); (have dD' := ix'.dD); (try dsimp only)))
local macro_rules | `(tactic| walk_at "call ref") => `(tactic| (k_here; (with_reducible show wpAny _ _ (call (Value.ref 234) _ _) _ _ _); refine Stop.mk ?_))
local macro_rules | `(tactic| walk_at "call ref") => `(tactic| (k_here; (with_reducible show wpAny _ _ (call (Value.ref 234) _ _) _ _ _); k_dflt (refine' wpAny_call (right_iv ?iv ?B ?F ?X ?N ?T ?k ?d ?u ?_); (case F => k_asm); (case N => kwd_rel); (case iv => kwd_inv); (case B => k_asm); (case X => k_asm); (case T => k_asm); (case k => exact rfl); (case d => ktr_room); (case u => ktr_units); k_whole); intro h' tk' F' N'; (try dsimp only)))
local macro_rules | `(tactic| walk_at "compareOp NotIn int ref") => `(tactic| (k_here; k_dflt (first | (refine' notin_none ?N ?p ?d ?l ?e ?_; (case N => k_asm); (case p => kaf_pre); (case d => assumption); (case l => assumption); (case e => assumption); k_whole) | (refine' notin_some ?N ?p ?d ?l ?e ?_; (case N => k_asm); (case p => kaf_pre); (case d => assumption); (case l => assumption); (case e => assumption); k_whole))))
local macro_rules | `(tactic| walk_at "compareOp Lt int int") => `(tactic| (k_here; k_dflt (first | (refine' lt_yes ?e ?_; (case e => with_reducible assumption); k_whole) | (refine' lt_no ?e ?_; (case e => with_reducible assumption); k_whole))))
local macro_rules | `(tactic| walk_at "compareOp NotEq int int") => `(tactic| (k_here; (with_reducible refine ne_self ?_)))
local macro_rules | `(tactic| walk_at "setItem ref int") => `(tactic| (k_here; k_dflt (refine' kda_set (knd := PySem.intKind _ _) ?F ?N ?U ?d (intKind_is _ _ _ _) ?z ?_; (case F => k_asm); (case N => k_asm); (case U => k_updF); (case d => assumption); (case z => kaf_suf)); intro h' o' F' N' dT'; (try dsimp only at N')))
local macro_rules | `(tactic| walk_at "storeName") => `(tactic| (k_here; k_dflt (refine' storeX_C ?F ?N ?c ?U ?d ?_ ?a ?b; (case a => rfl); (case b => rfl); (case F => k_asm); (case N => k_asm); (case c => rfl); (case U => k_updF); (case d => assumption); k_whole; intro h' o' F' N' d'; (try dsimp only at N'); (try k_sweep))))
local macro_rules | `(tactic| walk_at "compareOp NotEq ref ref") => `(tactic| (k_here; k_dflt (refine' ne_empty ?N ?p ?d ?l ?p2 ?d2 ?l2 ?u ?_ ?_; (case N => k_asm); (case p => kaf_pre); (case p2 => kaf_pre); (case d => assumption); (case d2 => assumption); (case l => assumption); (case l2 => assumption); (case u => ktr_units)); all_goals (intros; k_whole)))
local macro_rules | `(tactic| walk_at "getMethod ref") => `(tactic| (k_here; (with_reducible show wpAny _ _ (getMethod _ (Str.ofString "get") _) _ _ _); k_dflt (refine' kdg_method (knd := PySem.intKind _ _) ?N ?p ?d ?_; (case N => k_asm); (case p => kaf_pre); (case d => assumption); k_whole)))
local macro_rules | `(tactic| walk_at "getMethod ref") => `(tactic| (k_here; (with_reducible show wpAny _ _ (getMethod _ (Str.ofString "values") _) _ _ _); k_dflt (refine' kob_method (knd := PySem.intKind _ _) PySem.F.slot_dict_values PySem.F.type_dict_values ?N ?p ?d ?_; (case N => k_asm); (case p => kaf_pre); (case d => assumption); k_whole)))
local macro_rules | `(tactic| walk_at "call builtin:dict.get") => `(tactic| (k_here; k_dflt (refine' kdg_get1 (knd := PySem.intKind _ _) ?N ?p ?d ?l (intKind_is _ _ _ _) _ ?e ?_; (case N => k_asm); (case p => kaf_pre); (case d => assumption); (case l => assumption); (case e => assumption); k_whole); (try simp only [Option.getD_some])))
local macro_rules | `(tactic| walk_at "call builtin:dict.values") => `(tactic| (k_here; k_dflt (refine' kdl_view_values (knd := PySem.intKind _ _) ?F ?N ?p ?d ?l ?_; (case F => k_asm); (case N => k_asm); (case p => kaf_pre); (case d => assumption); (case l => assumption)); intro D' h' F' N' l1; (try k_lt l1)))
local macro_rules | `(tactic| walk_at "call builtin:min") => `(tactic| (k_here; (with_reducible show wpAny _ _ (call (Value.builtin "min") [Value.ref _]) _ _ _); k_dflt (refine' min_is (by rfl) ?F ?N ?v ?p ?d ?al ?m1 ?m2 ?_; (case F => k_asm); (case N => k_asm); (case v => kaf_pre); (case p => kaf_pre); (case d => assumption); (case m1 => assumption); (case m2 => assumption); (case al => assumption)); intro h' tk' t' F' N'; (try dsimp only)))
local macro_rules | `(tactic| walk_at "eval DictComp") => `(tactic| (refine Stop.mk ?_))
local macro_rules | `(tactic| walk_at "eval Name") => `(tactic| (k_here; (with_reducible show wpAny _ _ (eval (Expr.Name _ _) (compEnvC _ _ _ _)) _ _ _); k_dflt (refine' comp_name ?n ?x ?_; (case n => assumption); (case x => assumption); k_whole)))
local macro_rules | `(tactic| kfm_turns) => `(tactic| (refine' turn_end ?F ?N ?iv ?h ?m ?s; (case F => k_asm); (case N => kwd_rel); (case iv => kwd_inv); (case m => rfl); (case s => rfl); (case h => assumption)))
local macro_rules | `(tactic| walk_at "call ref") => `(tactic| (k_here; (with_reducible show wpAny _ _ (call (Value.ref 210) _ _) _ _ _); k_dflt (refine' wpAny_call (cell_code ?i ?l ?z ?a ?b ?B ?F ?X ?N ?T ?k ?d ?u ?_); (case i => assumption); (case l => assumption); (case z => omega); (case a => omega); (case b => omega); (case B => k_asm); (case F => k_asm); (case X => k_asm); (case N => k_asm); (case T => k_asm); (case k => exact rfl); (case d => ktr_room); (case u => ktr_units); k_whole); intro h' tk' c' t' F' N' ge' le'; (try dsimp only)))
local macro_rules | `(tactic| kpt_turns) => `(tactic| (refine' wpAny_call (right_iv ?iv ?B ?F ?X (news_six ?N ?m1 ?m2 ?m3 ?m4 ?m5 ?m6 ?m7) ?T ?k ?d ?u ?_); (case iv => assumption); (case B => k_asm); (case F => k_asm); (case X => k_asm); (case N => k_asm); (case T => k_asm); (case k => exact rfl); (case d => ktr_room); (case u => ktr_units); (case m1 => kaf_pre); (case m2 => kaf_pre); (case m3 => kaf_pre); (case m4 => kaf_pre); (case m5 => kaf_pre); (case m6 => kaf_pre); (case m7 => (intro p9 hp9; simp only [List.mem_cons]; simp [hp9]))))
local macro_rules | `(tactic| walk_at "exec If") => `(tactic| (k_here; (have mk9 : Mark2 := by assumption); clear mk9; (first | (with_reducible show wpAny _ _ (exec (Stmt.If (Expr.Compare _ [CmpOp.Gt] _ _) _ _ _) _) _ _ _) | (with_reducible show wpAny _ _ (exec (Stmt.If (Expr.Compare (Expr.Name (Str.ofString "top") _) _ _ _) _ _ _) _) _ _ _)); refine Stop.mk ?_))
local macro_rules | `(tactic| walk_at "exec While Compare cons nil") => `(tactic| (refine Stop.mk ?_))
local macro_rules | `(tactic| walk_at "getAttr ref") => `(tactic| (k_here; (with_reducible show wpAny _ _ (getAttr (Value.ref _) (Str.ofString "left") _) _ _ _); (rename HS _ _ _ => hs9); k_dflt (refine' nd_known .left ?F ?X ?N ?c hs9 ?D ?e ?_; (case F => k_asm); (case X => k_asm); (case N => k_asm); (case c => ktr_unf); (case D => k_asm); (case e => with_reducible assumption); k_whole); (try dsimp only [oref])))
local macro_rules | `(tactic| walk_at "getAttr ref") => `(tactic| (k_here; (with_reducible show wpAny _ _ (getAttr (Value.ref _) (Str.ofString "next") _) _ _ _); (rename HS _ _ _ => hs9); k_dflt (refine' nd_known .next ?F ?X ?N ?c hs9 ?D ?e ?_; (case F => k_asm); (case X => k_asm); (case N => k_asm); (case c => ktr_unf); (case D => k_asm); (case e => with_reducible assumption); k_whole); (try dsimp only [oref])))
local macro_rules | `(tactic| walk_at "getAttr ref") => `(tactic| (k_here; (with_reducible show wpAny _ _ (getAttr (Value.ref _) (Str.ofString "parent") _) _ _ _); (rename HS _ _ _ => hs9); k_dflt (refine' nd_known .parent ?F ?X ?N ?c hs9 ?D ?e ?_; (case F => k_asm); (case X => k_asm); (case N => k_asm); (case c => ktr_unf); (case D => k_asm); (case e => with_reducible assumption); k_whole); (try dsimp only [oref])))
local macro_rules | `(tactic| walk_at "getAttr ref") => `(tactic| (k_here; (with_reducible show wpAny _ _ (getAttr (Value.ref _) (Str.ofString "prev") _) _ _ _); (rename HS _ _ _ => hs9); k_dflt (refine' nd_known .prev ?F ?X ?N ?c hs9 ?D ?e ?_; (case F => k_asm); (case X => k_asm); (case N => k_asm); (case c => ktr_unf); (case D => k_asm); (case e => with_reducible assumption); k_whole); (try dsimp only [oref])))
local macro_rules | `(tactic| walk_at "subscriptTail Name BinOp ref int") => `(tactic| (k_here; k_dflt (refine' item_pick ?N ?a ?hn ?z ?l ?_; (case N => k_asm); (case a => kaf_pre); (case hn => kaf_suf); (case z => kaf_suf); (case l => kaf_suf)); intro b' hb'; refine Stop.mk ?_))
local macro_rules | `(tactic| walk_at "binaryOp Add ref ref") => `(tactic| (k_here; k_dflt (first | (refine' add_refs ?F ?N ?a ?b ?_ ?z; (case F => k_asm); (case N => k_asm); (case a => kaf_pre); (case b => kaf_pre); (case z => first | (rw [sizeLine_eq]; omega) | (rw [sizeLine_eq]; simp only [List.length_singleton]; omega) | (rw [sizeLine_eq]; simp only [List.length_cons, List.length_nil]; omega) | kaf_suf)) | (refine' add_refs (bs := [_]) ?F ?N ?a ?b ?_ ?z; (case F => k_asm); (case N => k_asm); (case a => kaf_pre); (case b => kaf_pre); (case z => first | (rw [sizeLine_eq]; omega) | (rw [sizeLine_eq]; simp only [List.length_singleton]; omega) | (rw [sizeLine_eq]; simp only [List.length_cons, List.length_nil]; omega) | kaf_suf)) | (refine' add_refs (as := []) (bs := [_]) ?F ?N ?a ?b ?_ ?z; (case F => k_asm); (case N => k_asm); (case a => kaf_pre); (case b => kaf_pre); (case z => first | (rw [sizeLine_eq]; omega) | (rw [sizeLine_eq]; simp only [List.length_singleton]; omega) | (rw [sizeLine_eq]; simp only [List.length_cons, List.length_nil]; omega) | kaf_suf))); intro D' h' F' N' l1; (try k_lt l1); (try k_sweep)))
local macro_rules | `(tactic| walk_at "compareOp NotEq ref ref") => `(tactic| (k_here; k_dflt (refine' ne_refs ?N ?a ?b ?e ?u ?_; (case N => k_asm); (case a => kaf_pre); (case b => kaf_pre); (case e => exact Bfs.det (by assumption) (by assumption)); (case u => ktr_units); k_whole)))
local macro_rules | `(tactic| walk_at "compareOp Is ref ref") => `(tactic| (k_here; (rename HS _ _ _ => hs9); k_dflt (first | (refine' nd_is_same ?N ?c hs9 ?A ?_; (case N => k_asm); (case c => ktr_unf); (case A => k_asm); k_whole) | (refine' nd_is_other ?N ?c hs9 ?A ?B ?ne ?_; (case N => k_asm); (case c => ktr_unf); (case A => k_asm); (case B => k_asm); (case ne => with_reducible assumption); k_whole))))
local macro_rules | `(tactic| walk_at "compareOp Lt int int") => `(tactic| (k_here; k_dflt (first | (refine' lt_yes ?e ?_; (case e => exact kv_lt (by with_reducible assumption)); k_whole) | (refine' lt_no ?e ?_; (case e => exact kv_nlt (by with_reducible assumption)); k_whole))))
local macro_rules | `(tactic| walk_at "call ref") => `(tactic| (k_here; (first | (with_reducible show wpAny _ _ (call (Value.ref 184) _ _) _ _ _) | (with_reducible show wpAny _ _ (call (Value.ref 191) _ _) _ _ _) | (with_reducible show wpAny _ _ (call (Value.ref 198) _ _) _ _ _)); refine Stop.mk ?_))
local macro_rules | `(tactic| walk_at "call ref") => `(tactic| (k_here; (with_reducible show wpAny _ _ (call (Value.ref 198) _ _) _ _ _); (rename HS _ _ _ => hs9); (rename KS _ _ _ => ks9); (rename CutF _ _ _ _ _ _ _ => c9); k_dflt (refine' wpAny_call (cut_codeH ?B ?F ?X ?N2 ?T ?k ?d ?c hs9 ?x ?p ?_); (case B => k_asm); (case F => k_asm); (case X => k_asm); (case N2 => k_asm); (case T => k_asm); (case k => exact rfl); (case d => ktr_room); (case c => ktr_unf); (case x => exact c9.db); (case p => exact c9.par); k_whole); intro h' tk' nl' F' N' H' kk9; (have ks' := KS.trans ks9 kk9); clear hs9 ks9 kk9; (try dsimp only [List.cons_append, List.nil_append] at N'); (try dsimp only); (try k_sweep)))
local macro_rules | `(tactic| walk_at "call ref") => `(tactic| (k_here; (with_reducible show wpAny _ _ (call (Value.ref 184) _ _) _ _ _); (rename HS _ _ _ => hs9); (rename KS _ _ _ => ks9); k_dflt (refine' wpAny_call (link_two ?B ?F ?X ?N2 ?T ?k ?d ?c hs9 ?r ?o ?_ ?_); (case B => k_asm); (case F => k_asm); (case X => k_asm); (case N2 => k_asm); (case T => k_asm); (case k => exact rfl); (case d => ktr_room); (case c => ktr_unf); (case r => k_asm); (case o => k_asm)); all_goals (intro v' h' tk' nl' F' N' H' kk9; (have ks' := KS.trans ks9 kk9); clear hs9 ks9 kk9; (try dsimp only [List.cons_append, List.nil_append] at N'); (try dsimp only); (try k_sweep); refine Stop.mk ?_)))
local macro_rules | `(tactic| walk_at "call ref") => `(tactic| (k_here; (with_reducible show wpAny _ _ (call (Value.ref 191) _ _) _ _ _); (rename HS _ _ _ => hs9); (rename KS _ _ _ => ks9); (rename PI _ _ _ _ => pi9); k_dflt (refine' wpAny_call (merge_codeH ?B ?F ?X ?N ?T ?k ?d ?c ?m1 ?m2 hs9 (pop_args pi9).2.2.2.2.2 (pop_args pi9).1 (pop_args pi9).2.1 (pop_args pi9).2.2.1 (pop_args pi9).2.2.2.1 (pop_args pi9).2.2.2.2.1 ?_); (case B => k_asm); (case F => k_asm); (case X => k_asm); (case N => k_asm); (case T => k_asm); (case k => exact rfl); (case d => ktr_room); (case c => ktr_unf); (case m1 => kaf_pre); (case m2 => kaf_pre); k_whole); intro h' tk' nl' s' t' F' N' H' kk9 mo'; (have ks' := KS.trans ks9 kk9); clear hs9 ks9 kk9; (try dsimp only [List.cons_append, List.nil_append] at N'); (try dsimp only); (try k_sweep); refine Stop.mk ?_))
local macro_rules | `(tactic| walk_at "call ref") => `(tactic| (k_here; (with_reducible show wpAny _ _ (call (Value.ref 234) _ _) _ _ _); (rename IV _ _ _ _ _ _ _ _ _ _ _ _ _ _ _ _ _ _ => iv9); k_dflt (refine' wpAny_call (right_iv iv9 ?B ?F ?X ?N ?T ?k ?d ?u ?_); (case F => k_asm); (case N => first | k_asm | exact news_heap iv9 (by k_asm) (by kaf_pre) (by kaf_pre) (by kaf_pre) (by kaf_pre) (by kaf_pre) (by kaf_pre) (by kat_tups)); (case B => k_asm); (case X => k_asm); (case T => k_asm); (case k => exact rfl); (case d => ktr_room); (case u => ktr_units); k_whole); intro h' tk' F' N'; (try dsimp only)))
local macro_rules | `(tactic| kct_strs) => `(tactic| first | exact cut_keys (by assumption) (by assumption) (by assumption) (by assumption) | exact merge_keys (by assumption) (by assumption) (by assumption) (by assumption) | exact merge_keys0 (by assumption) (by assumption))
local macro_rules | `(tactic| kpc_turns) => `(tactic| (refine' mid_end ?F (news_six ?N ?m1 ?m2 ?m3 ?m4 ?m5 ?m6 ?m7) ?iv ?e ?m; (case F => k_asm); (case N => k_asm); (case iv => assumption); (case e => exact rfl); (case m => rfl); (case m1 => kaf_pre); (case m2 => kaf_pre); (case m3 => kaf_pre); (case m4 => kaf_pre); (case m5 => kaf_pre); (case m6 => kaf_pre); (case m7 => (intro p9 hp9; simp only [List.mem_cons]; simp [hp9]))))
local macro_rules | `(tactic| kbo_bools) => `(tactic| first | assumption | exact dom_app (by first | assumption | exact dom_nil) (by first | assumption | exact dom_one (by assumption)))
local macro_rules | `(tactic| kaf_suf) => `(tactic| (simp only [List.length_append, List.length_singleton]; first | omega | (simp only [List.length_cons, List.length_nil]; omega)))
local macro_rules | `(tactic| walk_at "compareOp NotEq ref ref") => `(tactic| (k_here; k_dflt (refine' ne_empty ?N ?p ?d ?l ?p2 ?d2 ?l2 ?u ?_ ?h1; (case N => k_asm); (case p => kaf_pre); (case p2 => kaf_pre); (case d => assumption); (case d2 => assumption); (case l => assumption); (case l2 => assumption); (case u => ktr_units); (case h1 => (intro hx9; rename (List.length _ = 0) => e9; exact absurd (e9 ▸ hx9) (Nat.lt_irrefl _)))); intro hk9))
local macro_rules | `(tactic| walk_at "compareOp NotEq ref ref") => `(tactic| (k_here; k_dflt (refine' ne_empty ?N ?p ?d ?l ?p2 ?d2 ?l2 ?u ?h0 ?_; (case N => k_asm); (case p => kaf_pre); (case p2 => kaf_pre); (case d => assumption); (case d2 => assumption); (case l => assumption); (case l2 => assumption); (case u => ktr_units); (case h0 => (intro hx9; rename (0 < List.length _) => e9; rw [hx9] at e9; exact absurd e9 (Nat.lt_irrefl _)))); intro hk9))
local macro_rules | `(tactic| walk_at "eval DictComp") => `(tactic| (refine Stop.mk ?_))
set_option maxRecDepth 100000 in
set_option maxHeartbeats 40000000 in
theorem T : PySem.Challenge.rw_aw6015_01.Holds := hd (by
  w_top off
  k_go0
  k_steps
  unfold Stop
  rename Shared => s1
  rename Fr _ _ _ _ => F4
  rename News _ _ _ _ => N4
  obtain ⟨ad, hp, hx, dd, td, t1, t2, h1, h2, oD, oT, o1, o2, N5, iv, hm, hsc, hL5⟩ := law_start F4 N4 (by k_ne) (by k_ne) (by k_ne) (by k_ne) (by k_ne) (by k_ne) (by k_ne) (by k_ne) (by k_ne) (by k_ne) (by k_ne) (by k_ne) (by k_ne) (by k_ne) (by k_ne)
    (by assumption) (by assumption) (by assumption) (by assumption) (by assumption) (by assumption) rfl rfl (by assumption)
  clear N4
  refine For_invF F4 rfl rfl rfl ?_
  k_steps
  unfold Stop
  rename IsRange _ _ _ _ _ _ _ _ => rg
  rename Fr _ _ _ _ => F6
  rename News _ _ _ _ => N6
  refine loop_range (J := fun i m' nx => ∃ td oD oT o1 o2 nl D σ t kvs kvt, nx = ((hp, instObj 201 hx) :: (hx, dictOf [⟨h1, .str (Str.ofString "_dict") t1, .ref dd⟩, ⟨h2, .str (Str.ofString "_root") t2, oref (BT.hd t)⟩] 2) :: (dd, oD) :: (td, oT) :: (s1.heap.objs.size + 1, o1) :: (s1.heap.objs.size + 1 + 1, o2) :: ([] ++ nl)) ∧
    IV _ hp hx dd td (s1.heap.objs.size + 1) (s1.heap.objs.size + 1 + 1) oD oT o1 o2 [] nl D σ t kvs kvt ∧ m' (Str.ofString "heap") = some (.ref hp) ∧ m' (Str.ofString "script") = some (.ref ad)) (by rfl) rg ?sm F6 N6 ⟨td, oD, oT, o1, o2, [], _, _, .nil, [], [], rfl, iv, hm, hsc⟩ ?step ?done
  case sm => exact small_one (by omega) (by omega) (by omega) (by omega)
  case step =>
    clear iv hm hsc F6 N6
    rintro i z m₁ news₁ sN own hi ⟨td, oD, oT, o1, o2, nl, D, σ, t, kvs, kvt, rfl, iv, hm, hsc⟩ ow oi ⟨oI, hoI⟩ ni F7 N7
    have F8 := fr_lk (l := [(Str.ofString "script", .ref ad), (Str.ofString "at", .int (i : Nat) z), (Str.ofString "heap", .ref hp)]) F7 (by
      intro p hp; simp only [List.mem_cons, List.not_mem_nil, or_false] at hp; rcases hp with rfl | rfl | rfl
      · exact hsc
      · rfl
      · exact hm)
    have N8 := news_own N7
    have iv1 := iv.own' ow oi ni
    clear F7 N7 iv
    obtain ⟨a1, a2, a3, a4, a5, a6, b1, b2, b3, b4, b5, b6, b7, b8, b9, f1, f2, f3, f4⟩ := iv1.ld.all
    have hi24 : (i : Int) ≤ 1000 := by omega
    have hs8 := iv1.hs
    have dT := iv1.dT
    have dD := iv1.dD
    have lT := iv1.lT
    have lD := iv1.lD
    have k1 := iv1.k1
    obtain ⟨vp, k2⟩ := iv1.k2
    have hal := iv1.tb.al
    have hkz : kvt.length ≤ 8 := by rw [iv1.tb.len]; exact K8.len iv1.pi iv1.k8
    have hnd := iv1.nd
    k_steps
    all_goals (try (kfm_turns; done))
    · unfold Stop
      rename Fr _ _ _ _ => F90
      refine table_comp F90 (by with_unfolding_all rfl) (TopRead.nolimit (by k_asm)) (by with_unfolding_all rfl) (by decide) (by rfl) (by decide) (by rfl) ?_
      rename (valueAt kvt _ = some (Value.int _ _)) => m1
      walk1
      (try dsimp only)
      rename Fr _ _ _ _ => F9
      rename News _ _ _ _ => N9
      refine ⟨_, _, _, _, _, _, ⟨_, m1⟩, rfl, F9, N9, by kaf_pre, dT, lT, by omega, hnd, ?tt, ?tk, ?tv, ?q⟩
      case tt =>
        intro C k u s₃ m₃ E' hkm hns hx3 F5 N5
        clear F9 N9
        k_steps
        · first | (simp; done) | (apply Bool.eq_iff_iff.mpr; simp)
        · exact ⟨_, _, rfl, fun _ _ e => e⟩
      case tk =>
        intro C k u s₃ m₃ E' hkm hns hx3 F5 N5
        clear F9 N9
        k_steps
        exact ⟨_, _, rfl, fun _ _ e => e⟩
      case tv =>
        intro C k u s₃ m₃ E' hkm hns hx3 F5 N5
        obtain ⟨y, hy⟩ := val_of_key hkm
        clear F9 N9
        k_steps
        exact ⟨_, _, rfl, fun _ _ e => e⟩
      case q =>
        intro Dt oTn hh tkn F10 N10 dTn lTn ltn
        k_lt ltn
        clear F9 N9
        k_steps
        unfold Stop
        rename Fr _ _ _ _ => F11
        rename News _ _ _ _ => N11
        rename IX _ _ _ _ _ _ _ _ _ _ _ _ _ _ _ _ => ix9
        rename TB _ _ (without _ _) => tb9
        rename (_ = Data.cell (some (Value.ref Dt))) => k11
        clear k1
        revert k11
        rename (_ = Data.cell (some (Value.ref _))) => k22
        intro k11
        have iv9 := IX.iv (IX.swap (IX.cell2 ix9 k22) lTn k11 (by k_ne) (by k_ne) (by k_ne) (by k_ne) (by k_ne) (by k_all)) tb9 dTn
        kpt_turns
        intro hq tkq F12 N12
        dsimp only
        clear F11 N11
        k_steps
        kfm_turns
  case done =>
    clear iv hm hsc F6 N6
    rintro hE tkE mE newsE FE NE ⟨te, oDe, oTe, o1e, o2e, nl, D, σ, t, kvs, kvt, rfl, iv, hm, hsc⟩
    rename Fr _ _ hE _ => F7
    rename News _ _ hE _ => N7
    have F8 := fr_lk (l := [(Str.ofString "script", .ref ad), (Str.ofString "heap", .ref hp)]) F7 (by
        intro p hp; simp only [List.mem_cons, List.not_mem_nil, or_false] at hp; rcases hp with rfl | rfl
        · exact hsc
        · exact hm)
    clear F7
    obtain ⟨a1, a2, a3, a4, a5, a6, b1, b2, b3, b4, b5, b6, b7, b8, b9, f1, f2, f3, f4⟩ := iv.ld.all
    have hs8 := iv.hs
    have dT := iv.dT
    have dD := iv.dD
    have lT := iv.lT
    have lD := iv.lD
    have k1 := iv.k1
    obtain ⟨vp, k2⟩ := iv.k2
    have hal := iv.tb.al
    have hkz : kvt.length ≤ 8 := by rw [iv.tb.len]; exact K8.len iv.pi iv.k8
    have hnd := iv.nd
    rcases iv.pi.ti.sh with rfl | ⟨a, l, rfl⟩
    · simp only [BT.hd, oref, List.nil_append] at N7
      have hk0 : kvt.length = 0 := iv.tb.len
      have hk1 : kvs.length = 0 := iv.pi.len
      revert hk0
      intro hk0
      k_steps
      unfold Stop
      rename Fr _ _ _ _ => F9
      rename News _ _ _ _ => N9
      refine While_inv2 (n₀ := 0) (fun _ m' nx => nx = ((hp, instObj 201 hx) :: (hx, dictOf [⟨h1, .str (Str.ofString "_dict") t1, .ref dd⟩, ⟨h2, .str (Str.ofString "_root") t2, .none⟩] 2) :: (dd, oDe) :: (te, oTe) :: (s1.heap.objs.size + 1, o1e) :: (s1.heap.objs.size + 1 + 1, o2e) :: nl) ∧ m' (Str.ofString "heap") = some (.ref hp)) F9 (news_heap iv N9 (by kaf_pre) (by kaf_pre) (by kaf_pre) (by kaf_pre) (by kaf_pre) (by kaf_pre) (by kat_tups)) ⟨rfl, rfl⟩ ?_
      rintro n9 m9 news9 h9 tk9 Fw Nw ⟨rfl, hm9⟩
      clear F9 N9 F8
      have F8 := fr_lk (l := [(Str.ofString "heap", .ref hp)]) Fw (by
        intro p hp; simp only [List.mem_cons, List.not_mem_nil, or_false] at hp; rcases hp with rfl
        exact hm9)
      clear Fw
      k_steps
    · simp only [BT.hd, oref, List.nil_append] at N7
      have hsz := K8.len iv.pi iv.k8
      have tr := iv.pi.tr hsz
      have mk2 : Mark2 := trivial
      k_steps
      unfold Stop
      clear mk2
      rename Fr _ _ _ _ => F9
      rename News _ _ _ _ => N9
      rename Bfs _ _ _ => bf9
      rename (List.Perm _ (a :: l.ad)) => pm9
      refine join_if F9 N9 (by kaf_pre) iv ?ifa ?ifb
      case ifa =>
        rename List Addr => r9
        rename (List.length (a :: _) ≤ 8) => ln9
        cases r9 with
        | nil =>
          have hl9 : (List.map Value.ref [a]).length = 1 := rfl
          k_steps
          kpc_turns
        | cons x9 r9 =>
          have hl9 : (List.map Value.ref (a :: x9 :: r9)).length = r9.length + 2 := by simp
          simp only [List.length_cons] at ln9
          k_steps
          unfold Stop
          rename (_ ∈ x9 :: r9) => hb9
          obtain ⟨S, l', C⟩ := cut_facts iv.pi hsz (pick_mem pm9 hb9)
          have tb0 := C.tb0
          have tb1 := C.tb1
          have ta1 := C.ta1
          have p1 := C.f1
          have p2 := C.f2
          have p3 := C.f3
          have dA := C.da
          have dB := C.db
          have ab := C.ne
          have ba : ¬ _ = _ := fun e => ab (Eq.symm e)
          have tb8 := iv.tb
          have ks0 : KS D nl nl := KS.refl
          k_steps
          all_goals (
            unfold Stop
            rename CutF _ _ _ _ _ _ _ => C9
            (first
              | (rename ((cutT _ _ _).value < _) => v9; obtain ⟨g1, g2, g3, kv, lw, pi9, pm12⟩ := link_back iv.pi C9 (by first | exact .inl ⟨rfl, rfl⟩ | exact .inr ⟨rfl, rfl⟩) (Or.inl ⟨v9, rfl, rfl⟩))
              | (rename (¬ (cutT _ _ _).value < _) => v9; obtain ⟨g1, g2, g3, kv, lw, pi9, pm12⟩ := link_back iv.pi C9 (by first | exact .inl ⟨rfl, rfl⟩ | exact .inr ⟨rfl, rfl⟩) (Or.inr ⟨v9, rfl, rfl⟩)))
            rename News _ _ _ _ => N12
            rename HS _ _ _ => H12
            rename KS _ _ _ => K12
            have iv2 := iv.re H12 K12 pi9 pm12 kv
            obtain ⟨_, _, _, _, _, _, _, _, _, _, _, _, _, _, _, y1, y2, y3, y4⟩ := iv2.ld.all
            have N13 := news_heap iv2 N12 (by kaf_pre) (by kaf_pre) (by kaf_pre) (by kaf_pre) (by kaf_pre) (by kaf_pre) (by kat_tups)
            clear N12
            dsimp only [List.nil_append] at y1 y2 y3 y4
            k_steps
            kpc_turns)
      case ifb =>
        clear F9 N9
        intro h2' tk2' m2' nl2 σ2 t2' F72 N72 iv2 hm2
        have F8 := fr_lk (l := [(Str.ofString "heap", .ref hp)]) F72 (by
          intro p hp; simp only [List.mem_cons, List.not_mem_nil, or_false] at hp; rcases hp with rfl
          exact hm2)
        clear F72
        obtain ⟨a1, a2, a3, a4, a5, a6, b1, b2, b3, b4, b5, b6, b7, b8, b9, f1, f2, f3, f4⟩ := iv2.ld.all
        dsimp only [List.nil_append] at f1 f2 f3 f4
        have hs8 := iv2.hs
        obtain ⟨vp, k2⟩ := iv2.k2
        have hal := iv2.tb.al
        have hkz : kvt.length ≤ 8 := by rw [iv2.tb.len]; exact K8.len iv2.pi iv2.k8
        rcases iv2.pi.ti.sh with rfl | ⟨a, l, rfl⟩
        · simp only [BT.hd, oref] at N72
          have hk0 : kvt.length = 0 := iv2.tb.len
          have hk1 : kvs.length = 0 := iv2.pi.len
          revert hk0
          intro hk0
          k_steps
          unfold Stop
          rename Fr _ _ _ _ => F9
          rename News _ _ _ _ => N9
          refine While_inv2 (n₀ := 0) (fun _ m' nx => nx = ((hp, instObj 201 hx) :: (hx, dictOf [⟨h1, .str (Str.ofString "_dict") t1, .ref dd⟩, ⟨h2, .str (Str.ofString "_root") t2, .none⟩] 2) :: (dd, oDe) :: (te, oTe) :: (s1.heap.objs.size + 1, o1e) :: (s1.heap.objs.size + 1 + 1, o2e) :: nl2) ∧ m' (Str.ofString "heap") = some (.ref hp)) F9 N9 ⟨rfl, rfl⟩ ?_
          rintro n9 m9 news9 h9 tk9 Fw Nw ⟨rfl, hm9⟩
          clear F9 N9 F8
          have F8 := fr_lk (l := [(Str.ofString "heap", .ref hp)]) Fw (by
            intro p hp; simp only [List.mem_cons, List.not_mem_nil, or_false] at hp; rcases hp with rfl
            exact hm9)
          clear Fw
          k_steps
        · simp only [BT.hd, oref] at N72
          have mk2 : Mark2 := trivial
          k_steps
          unfold Stop
          clear mk2
          rename Fr _ _ _ _ => F9
          rename News _ _ _ _ => N9
          refine join_if F9 N9 (by kaf_pre) iv2 ?ifc ?ifd
          case ifc =>
            have pi8 := iv2.pi
            have tb8 := iv2.tb
            have hsz := K8.len iv2.pi iv2.k8
            have tr := iv2.pi.tr hsz
            have dA := tr.da
            have ks0 : KS D nl2 nl2 := KS.refl
            k_steps
            unfold Stop
            rename MergeOut _ _ _ _ _ _ => g9
            rename BT => t9
            rename Addr → Nd => σ9
            rename HS _ _ _ => H9
            rename KS _ _ _ => K9
            rename (List.Perm _ (a :: l.ad)) => pm9
            have hl9 := pick_len pm9
            have ln9 := tr.sz
            cases hq9 : t9.hd with
            | none =>
              obtain ⟨y1, y2, pi9⟩ := merge_none iv2.pi g9 hq9
              have iv9 := iv2.re H9 K9 pi9 (List.Perm.refl _) g9.kv
              subst y2
              simp only [BT.ad, List.length_nil] at hl9
              dsimp only [oref]
              k_steps
              all_goals (first | (kpc_turns; done) | (exfalso; omega))
            | some c9 =>
              obtain ⟨y1, dC, y0, lc, e9, trC, p1, p2, p3, pmC, iA, iC⟩ := merge_some iv2.pi hsz g9 hq9
              subst e9
              dsimp only [oref]
              k_steps
              all_goals (first
                | (exfalso; omega)
                | (unfold Stop
                   (first
                    | (rename ((σ9 c9).value < _) => v9; obtain ⟨kv, lw, pi9, pm12⟩ := merge_back iv2.pi g9 iA iC (Or.inl ⟨v9, rfl, rfl⟩))
                    | (rename (¬ (σ9 c9).value < _) => v9; obtain ⟨kv, lw, pi9, pm12⟩ := merge_back iv2.pi g9 iA iC (Or.inr ⟨v9, rfl, rfl⟩)))
                   rename News _ _ _ _ => N12
                   rename HS _ _ _ => H12
                   rename KS _ _ _ => K12
                   have iv9 := iv2.re H12 K12 pi9 pm12 kv
                   obtain ⟨_, _, _, _, _, _, _, _, _, _, _, _, _, _, _, z1, z2, z3, z4⟩ := iv9.ld.all
                   have N13 := news_heap iv9 N12 (by kaf_pre) (by kaf_pre) (by kaf_pre) (by kaf_pre) (by kaf_pre) (by kaf_pre) (by kat_tups)
                   clear N12
                   dsimp only [List.nil_append] at z1 z2 z3 z4
                   k_steps
                   kpc_turns))
          case ifd =>
            clear F9 N9
            intro h3' tk3' m3' nl3 σ3 t3' F73 N73 iv3 hm3
            have F8 := fr_lk (l := [(Str.ofString "heap", .ref hp)]) F73 (by
              intro p hp; simp only [List.mem_cons, List.not_mem_nil, or_false] at hp; rcases hp with rfl
              exact hm3)
            clear F73
            k_steps
            unfold Stop
            rename Fr _ _ _ _ => F91
            rename News _ _ _ _ => N91
            refine While_inv2 (n₀ := kvt.length) (fun n m' nx => ∃ tw oDw oTw o1w o2w nlw σw tree kvsw kvtw, nx = ((hp, instObj 201 hx) :: (hx, dictOf [⟨h1, .str (Str.ofString "_dict") t1, .ref dd⟩, ⟨h2, .str (Str.ofString "_root") t2, oref (BT.hd tree)⟩] 2) :: (dd, oDw) :: (tw, oTw) :: (s1.heap.objs.size + 1, o1w) :: (s1.heap.objs.size + 1 + 1, o2w) :: ([] ++ nlw)) ∧
              IV _ hp hx dd tw (s1.heap.objs.size + 1) (s1.heap.objs.size + 1 + 1) oDw oTw o1w o2w [] nlw D σw tree kvsw kvtw ∧ n = kvtw.length ∧ m' (Str.ofString "heap") = some (.ref hp)) F91 N91 ⟨_, _, _, _, _, _, _, _, _, _, rfl, iv3, rfl, rfl⟩ ?_
            clear F91 N91 iv3 hm3 F8
            rintro n9 m9 news9 h9 tk9 Fw Nw ⟨tw, oDw, oTw, o1w, o2w, nlw, σw, tree, kvsw, kvtw, rfl, ivw, rfl, hm9⟩
            have F8 := fr_lk (l := [(Str.ofString "heap", .ref hp)]) Fw (by
              intro p hp; simp only [List.mem_cons, List.not_mem_nil, or_false] at hp; rcases hp with rfl
              exact hm9)
            clear Fw
            obtain ⟨a1, a2, a3, a4, a5, a6, b1, b2, b3, b4, b5, b6, b7, b8, b9, f1, f2, f3, f4⟩ := ivw.ld.all
            have hsw := ivw.hs
            have dT := ivw.dT
            have dD := ivw.dD
            have lT := ivw.lT
            have lD := ivw.lD
            have k1 := ivw.k1
            obtain ⟨vp, k2⟩ := ivw.k2
            have hal := ivw.tb.al
            have hkz : kvtw.length ≤ 8 := by rw [ivw.tb.len]; exact K8.len ivw.pi ivw.k8
            have hnd := ivw.nd
            rcases ivw.pi.ti.sh with rfl | ⟨aw, lw, etw⟩
            · simp only [BT.hd, oref] at Nw
              have hk0 : kvtw.length = 0 := ivw.tb.len
              have hk1 : kvsw.length = 0 := ivw.pi.len
              revert hk0
              intro hk0
              k_steps
            · have hkp : 0 < kvtw.length := by rw [ivw.tb.len, etw]; simp [BT.ad]
              k_steps
              unfold Stop
              rename Fr _ _ _ _ => F90
              refine table_comp F90 (by with_unfolding_all rfl) (TopRead.nolimit (by k_asm)) (by with_unfolding_all rfl) (by decide) (by rfl) (by decide) (by rfl) ?_
              rename (valueAt kvtw _ = some (Value.int _ _)) => m1
              walk1
              (try dsimp only)
              rename Fr _ _ _ _ => F9
              rename News _ _ _ _ => N9
              refine ⟨_, _, _, _, _, _, ⟨_, m1⟩, rfl, F9, N9, by kaf_pre, dT, lT, by omega, hnd, ?ttw, ?tkw, ?tvw, ?qw⟩
              case ttw =>
                intro C k u s₃ m₃ E' hkm hns hx3 F5 N5
                clear F9 N9
                k_steps
                · first | (simp; done) | (apply Bool.eq_iff_iff.mpr; simp)
                · exact ⟨_, _, rfl, fun _ _ e => e⟩
              case tkw =>
                intro C k u s₃ m₃ E' hkm hns hx3 F5 N5
                clear F9 N9
                k_steps
                exact ⟨_, _, rfl, fun _ _ e => e⟩
              case tvw =>
                intro C k u s₃ m₃ E' hkm hns hx3 F5 N5
                obtain ⟨y, hy⟩ := val_of_key hkm
                clear F9 N9
                k_steps
                exact ⟨_, _, rfl, fun _ _ e => e⟩
              case qw =>
                intro Dt oTn hh tkn F10 N10 dTn lTn ltn
                k_lt ltn
                clear F9 N9
                k_steps
                rename Fr _ _ _ _ => F11
                rename News _ _ _ _ => N11
                rename IX _ _ _ _ _ _ _ _ _ _ _ _ _ _ _ _ => ix9
                rename TB _ _ (without _ _) => tb9
                rename (_ = Data.cell (some (Value.ref Dt))) => k11
                clear k1
                revert k11
                rename (_ = Data.cell (some (Value.ref _))) => k22
                intro k11
                have iv9 := IX.iv (IX.swap (IX.cell2 ix9 k22) lTn k11 (by k_ne) (by k_ne) (by k_ne) (by k_ne) (by k_ne) (by k_all)) tb9 dTn
                rename (valueAt kvtw _ = some (Value.int _ _)) => m9w
                exact ⟨_, _, _, _, _, rfl, F11, news_heap iv9 N11 (by kaf_pre) (by kaf_pre) (by kaf_pre) (by kaf_pre) (by kaf_pre) (by kaf_pre) (by kat_tups), without_lt m9w, _, _, _, _, _, _, _, _, _, _, rfl, iv9, rfl, rfl⟩)

end Mine
end
theorem PySem.Challenge.cw_aw6015_01_holds : PySem.Challenge.rw_aw6015_01.Holds := by
  exact Mine.T
